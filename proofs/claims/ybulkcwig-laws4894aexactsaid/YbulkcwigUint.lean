/-
  'AppendUint' (function 6).
-/
import Derived.Test.YbulkcwigLarger
import Derived.Deep.AppendSrc
namespace Go.Proofs.Ybulkcwig.Dig
open Go.RowKit

/-- What AppendUint leaves. -/
def Left (w : World) (g n : Nat) (x : Nat → Int) (m : Nat) (e : Ending) (w' : World) : Prop :=
  ∃ g' cap' nd, e = .returned (.slice (some ⟨g', 0, none⟩) (n + nd) cap') ∧ Nd m nd ∧
      (∀ j, j < n → w'.cell? ⟨g', j, none⟩ = some (.int .u8 (x j))) ∧ (∀ j, j < nd → w'.cell? ⟨g', n + j, none⟩ = some (.int .u8 (digs m nd j))) ∧ g' < w'.heap.size ∧ (∀ j, j < n → w'.cell? ⟨g, j, none⟩ = some (.int .u8 (x j))) ∧ Below g w w'

theorem nd_one {m : Nat} (h : m < 10) : Nd m 1 := ⟨by omega, by omega, Nat.div_eq_of_lt (by omega), .inl rfl⟩
theorem digs_one {m : Nat} (h : m < 10) : digs m 1 0 = 48 + (m : Int) := by unfold digs dg; simp; omega

set_option maxHeartbeats 1000000 in
theorem uint_small (g n cap : Nat) (x : Nat → Int) (m : Nat) (w : World) (hB : Buf w g n cap x) (hn : n ≤ 1024) (_hcap : cap ≤ 2000) (h10 : m < 10) :
    Calls Yba.prog 6 #[.slice (some ⟨g, 0, none⟩) n cap, .int .u64 m] w (Left w g n x m) := by
  obtain ⟨i, hi, hz, hs, hby⟩ := info_parts info5
  have hsrc : Src Yba.prog i.size 22 (.slice (some ⟨w.heap.size, 0, none⟩) 1 1) 1 [.int .u8 (48 + (m : Int))] (w.alloc (.cells #[.int .u8 (48 + (m : Int))] 5)) := by
    refine Src.ofSlice _ Yba.underlying22 _ _ _ _ (by rw [hs]; rfl) (cell_one_new _ _ _) (by simp [Value.oneCell'])
  have hW : Below w.heap.size w (w.alloc (.cells #[.int .u8 (48 + (m : Int))] 5)) := (Below.refl _ _).alloc (Nat.le_refl _) _
  have hBW := hB.later hW
  by_cases hroom : n + 1 ≤ cap
  · have hrun := run_append_room_src (w.alloc (.cells #[.int .u8 (48 + (m : Int))] 5)) 22 22 22 5 i Yba.underlying22 hi g 0 n cap _ 1 _ hsrc hroom
      (fun j hj => by simp at hj; subst hj; rw [hs]; simpa using hBW.room n (by omega)) (fun j hj => by simp at hj; subst hj; rw [hs]; simpa using hBW.free n (by omega))
    rw [hs] at hrun
    have HR : Hid _ := hrun
    have HB : Hid (Buf w g n cap x) := hB
    have HBW : Hid (Buf (w.alloc (.cells #[.int .u8 (48 + (m : Int))] 5)) g n cap x) := hBW
    clear hrun hB hBW hsrc hi hz hs hby
    go_enter Yba.func6, Yba.ntmps6
    go_wp2_with (at_builtin; refine Lib.wpList_append_run _ rfl _ _ _ _ rfl _ _ rfl rfl _ _ HR.out ?_)
    go_ret
    have hO : Out w (w.alloc (.cells #[.int .u8 (48 + (m : Int))] 5)) g g n 1 x m (fun j => 1 ≤ j) :=
      ⟨hW.mono (Nat.le_of_lt HB.out.lt), HBW.out.lt, Nat.le_refl _, fun j hj => HBW.out.room j (by omega), fun j hj => HBW.out.free j (by omega), HBW.out.at_, HBW.out.at_, fun j h1 h2 => by omega⟩
    exact fin_of (cap1 := cap) (hO.put 0 (by omega) (by rw [digs_one h10])) (fun j hj => .inr (by omega)) (nd_one h10)
  · obtain ⟨olds, hl, ho⟩ := row_cells (w.alloc (.cells #[.int .u8 (48 + (m : Int))] 5)) g n (fun j hj => hBW.room j (by have := hBW.le; omega))
    have hfo := run_firstCells_some (P := Yba.prog) (w.alloc (.cells #[.int .u8 (48 + (m : Int))] 5)).drew 1 n ⟨g, 0, none⟩ n cap olds (by omega) (fun j v hv => by rw [Addr.add_lit]; simpa using ho j v hv)
    have hrun := run_append_grow_src (w.alloc (.cells #[.int .u8 (48 + (m : Int))] 5)) 22 22 22 5 i _ Yba.underlying22 hi hz (some ⟨g, 0, none⟩) n cap olds (by rw [hs]; exact hfo) _ 1 _ hsrc (by omega) (by omega)
      (growslice_fits (by omega) (by rw [hby]; omega))
    have hC := cut_ge (w.alloc (.cells #[.int .u8 (48 + (m : Int))] 5)) (n + 1) cap 5 (by omega)
    generalize grownCap (w.alloc (.cells #[.int .u8 (48 + (m : Int))] 5)) (n + 1) cap 5 = C at hrun hC
    obtain ⟨news, hnews⟩ : ∃ news, news = (olds ++ [Value.int .u8 (48 + (m : Int))]).toArray ++ Builtin.zeroCells (Value.int .u8 0).cells (C - (n + 1)) := ⟨_, rfl⟩
    rw [← hnews] at hrun
    have hold1 : ∀ j, j < n → news[j]? = some (.int .u8 (x j)) := fun j hj => by
      have hj' : j < olds.length := by omega
      have h1 := hBW.at_ j hj
      rw [ho j olds[j] (by simp [hj'])] at h1
      rw [hnews, Array.getElem?_append_left (by simp [hl]; omega)]
      simp only [List.getElem?_toArray, List.getElem?_append_left hj', List.getElem?_eq_getElem hj', h1]
    have hnew1 : news[n]? = some (.int .u8 (48 + (m : Int))) := by
      rw [hnews, Array.getElem?_append_left (by simp [hl])]
      simp [← hl]
    have HR : Hid _ := hrun
    have HB : Hid (Buf w g n cap x) := hB
    have HBW : Hid (Buf (w.alloc (.cells #[.int .u8 (48 + (m : Int))] 5)) g n cap x) := hBW
    have H1 : Hid (∀ j, j < n → news[j]? = some (.int .u8 (x j))) := hold1
    have H2 : Hid (news[n]? = some (.int .u8 (48 + (m : Int)))) := hnew1
    clear hrun hB hBW hsrc hi hz hs hby hfo hnews hold1 hnew1 ho hl
    go_enter Yba.func6, Yba.ntmps6
    go_wp2_with (at_builtin; refine Lib.wpList_append_run _ rfl _ _ _ _ rfl _ _ rfl rfl _ _ HR.out ?_)
    go_ret
    have hcell : ∀ j, ((w.alloc (.cells #[.int .u8 (48 + (m : Int))] 5)).drew.alloc (.cells news 5)).cell? ⟨w.heap.size + 1, j, none⟩ = news[j]? := fun j => by
      have := World.cell?_alloc_new (w.alloc (.cells #[.int .u8 (48 + (m : Int))] 5)).drew news 5 j
      simpa using this
    have hb2 : Below (w.heap.size + 1) (w.alloc (.cells #[.int .u8 (48 + (m : Int))] 5)) ((w.alloc (.cells #[.int .u8 (48 + (m : Int))] 5)).drew.alloc (.cells news 5)) := (Below.refl _ _).drew.alloc (by simp) _
    have hglt := HB.out.lt
    refine ⟨w.heap.size + 1, C, 1, rfl, nd_one h10, fun j hj => ?_, fun j hj => ?_, ?_, fun j hj => ?_, ?_⟩
    · exact (hcell j).trans (H1.out j hj)
    · obtain rfl : j = 0 := by omega
      rw [digs_one h10]; exact (hcell n).trans H2.out
    · simp
    · exact (hb2.cell (p := ⟨g, j, none⟩) (by show g < _; omega)).trans (HBW.out.at_ j hj)
    · exact (hW.mono (Nat.le_of_lt hglt)).trans (hb2.mono (by omega))

set_option maxHeartbeats 400000 in
theorem uint_any (g n cap : Nat) (x : Nat → Int) (m : Nat) (w : World) (hB : Buf w g n cap x) (hn : n ≤ 1024) (hcap : cap ≤ 2000) (hm : m < 18446744073709551616) :
    Calls Yba.prog 6 #[.slice (some ⟨g, 0, none⟩) n cap, .int .u64 m] w (Left w g n x m) := by
  by_cases h10 : m < 10
  · exact uint_small g n cap x m w hB hn hcap h10
  · have HB : Hid (Buf w g n cap x) := hB
    clear hB
    have h10' : ¬ (m : Int) < 10 := by omega
    go_enter Yba.func6, Yba.ntmps6
    go_wp2_with fail
    refine (larger_any g n cap x m _ HB.out hn hcap (by omega) hm).mono ?_
    rintro e w1 ⟨g1, cap1, nd, rfl, hrest⟩
    have HX : Hid _ := hrest
    clear hrest
    go_wp2
    go_ret
    exact ⟨g1, cap1, nd, rfl, HX.out⟩

end Go.Proofs.Ybulkcwig.Dig
