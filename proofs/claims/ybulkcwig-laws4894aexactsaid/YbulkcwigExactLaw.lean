/-
  THE WALK OF 'LawS4894AExact' (function 3).
-/
import Derived.Test.YbulkcwigExact
namespace Go.Proofs.Ybulkcwig.Dig
open Go.RowKit

set_option maxHeartbeats 1000000 in
theorem exact_any (a0 : Option Addr) (n cap0 : Nat) (x : Nat → Int) (m : Nat) (ex : Int) (w : World) (hb : Bytes w a0 n x) (h0 : a0 = none → n = 0 ∧ cap0 = 0) (hle : n ≤ cap0) (hcm : cap0 ≤ maxLen) (hn : n ≤ 1024)
    (he0 : 0 ≤ ex) (he1 : ex ≤ 255) (hm : m < 18446744073709551616) :
    Calls Yba.prog 3 #[.slice a0 n cap0, .int .u64 m, .int .u8 ex] w fun e w' => e = .returned (.bool true) ∧ Below w.heap.size w w' := by
  unfold maxLen at hcm
  obtain ⟨ee, hee⟩ : ∃ ee : Nat, ex % 32 = (ee : Int) := ⟨(ex % 32).toNat, by omega⟩
  have hee32 : ee < 32 := by omega
  have hmk := made n (n + ee) (by omega) (by omega) (n : Int) ((n : Int) + (ee : Int)) rfl (by omega)
  have hW1 : Below w.heap.size w (w.alloc (.cells (madeCells #[.int .u8 0] (n + ee)) 5)) := (Below.refl _ _).alloc (Nat.le_refl _) _
  have hB1 := buf_made w (n + ee)
  have hcp := copy_run (g := w.heap.size) (c := n + ee) (cap := cap0) (hb.later hW1) (fun h => (h0 h).1) (fun j hj => hB1.room j (by omega)) (fun j hj => hB1.free j (by omega))
  have hB2 : Buf ((w.alloc (.cells (madeCells #[.int .u8 0] (n + ee)) 5)).setCells w.heap.size 0 (bs n x)) w.heap.size n (n + ee) x := by
    have := hB1.put (k := n) (y := x) (by omega)
    rw [Nat.zero_add] at this
    exact this.congr (fun j hj => by simp)
  have hb2 : Below w.heap.size w ((w.alloc (.cells (madeCells #[.int .u8 0] (n + ee)) 5)).setCells w.heap.size 0 (bs n x)) := below_setCells hW1 (Nat.le_refl _) _ _
  have HB2 : Hid (Buf ((w.alloc (.cells (madeCells #[.int .u8 0] (n + ee)) 5)).setCells w.heap.size 0 (bs n x)) w.heap.size n (n + ee) x) := hB2
  have HB : Hid (Bytes w a0 n x) := hb
  have H0 : Hid (a0 = none → n = 0 ∧ cap0 = 0) := h0
  clear hB1 hB2 hb h0
  go_enter Yba.func3, Yba.ntmps3
  go_wp2_with fail
  clear hmk hcp hee
  refine (uint_any w.heap.size n (n + ee) x m _ HB2.out hn (by omega) hm).mono ?_
  rintro e w3 ⟨g3, cap3, nd, rfl, hnd, hpre, hdig, hlt3, hold, hbel3⟩
  have hbw3 := hb2.trans hbel3
  have hsz3 : w.heap.size < w3.heap.size := by
    have := hbel3.size
    rw [setCells_size] at this
    simp at this
    omega
  have HG : Hid (Bytes w3 (some ⟨g3, 0, none⟩) (n + nd) (fun j => if j < n then x j else digs m nd (j - n))) := .inr ⟨g3, 0, rfl, hlt3, fun i hi => by
    rw [Nat.zero_add]
    show w3.cell? _ = some (.int .u8 (if i < n then x i else digs m nd (i - n)))
    by_cases h : i < n
    · rw [if_pos h]; exact hpre i h
    · rw [if_neg h]
      have := hdig (i - n) (by omega)
      rwa [show n + (i - n) = i by omega] at this⟩
  have HO : Hid (Bytes w3 (some ⟨w.heap.size, 0, none⟩) n x) := .inr ⟨w.heap.size, 0, rfl, hsz3, fun i hi => by rw [Nat.zero_add]; exact hold i hi⟩
  have HND : Hid (Nd m nd) := hnd
  have hnd20 : nd ≤ 20 := hnd.2.1
  clear hpre hdig hold hnd hbel3 hb2 hW1 HB2
  go_wp2_with fail
  refine (dec_any m _ hm).mono ?_
  rintro e w4 ⟨g4, nd4, rfl, hnd4, hb4, hge4, hbel4⟩
  obtain rfl := nd_unique HND.out hnd4
  have hbw4 := hbw3.trans (hbel4.mono hbw3.size)
  have hmk := made 0 (n + nd) (by omega) (by omega) 0 ((n : Int) + (nd : Int)) rfl (by omega)
  have hW5 : Below w4.heap.size w4 (w4.alloc (.cells (madeCells #[.int .u8 0] (n + nd)) 5)) := (Below.refl _ _).alloc (Nat.le_refl _) _
  have hB5 := buf_made w4 (n + nd)
  have hap1 := append_run (cap := cap0) hB5 ((HB.out.later hbw4).later hW5) (fun h => (H0.out h).1) (by omega)
  have hB6 : Buf ((w4.alloc (.cells (madeCells #[.int .u8 0] (n + nd)) 5)).setCells w4.heap.size 0 (bs n x)) w4.heap.size n (n + nd) x := by
    have := hB5.put (k := n) (y := x) (by omega)
    rw [Nat.zero_add] at this
    exact this.congr (fun j hj => by simp)
  have hW6 : Below w4.heap.size w4 ((w4.alloc (.cells (madeCells #[.int .u8 0] (n + nd)) 5)).setCells w4.heap.size 0 (bs n x)) := below_setCells hW5 (Nat.le_refl _) _ _
  have hap2 := append_run (cap := nd) hB6 (hb4.later hW6) (fun h => by cases h) (Nat.le_refl _)
  have hB7 := hB6.put (k := nd) (y := digs m nd) (Nat.le_refl _)
  have hW7 : Below w4.heap.size w4 (((w4.alloc (.cells (madeCells #[.int .u8 0] (n + nd)) 5)).setCells w4.heap.size 0 (bs n x)).setCells w4.heap.size n (bs nd (digs m nd))) := below_setCells hW6 (Nat.le_refl _) _ _
  rw [Nat.zero_add] at hap1
  have HB7 : Hid _ := hB7
  clear hB5 hB6 hB7 hb4 hW5 hW6 hnd4
  go_wp2_with (first | (at_builtin; refine Lib.wpList_append_run _ rfl _ _ _ _ rfl _ _ rfl rfl _ _ hap1 ?_; clear hap1) | (at_builtin; refine Lib.wpList_append_run _ rfl _ _ _ _ rfl _ _ rfl rfl _ _ hap2 ?_; clear hap2))
  refine (equal_true _ _ (n + nd) _ _ _ _ (by omega) ((HG.out.later hbel4).later hW7) HB7.out.bytes).mono ?_
  rintro e w8 ⟨rfl, hbel8⟩
  have hbw7 := hbw4.trans (hW7.mono hbw4.size)
  have hbw8 := hbw7.trans (hbel8.mono hbw7.size)
  have HO8 : Hid (Bytes w8 (some ⟨w.heap.size, 0, none⟩) n x) := ((HO.out.later hbel4).later hW7).later hbel8
  have HB8 : Hid (Bytes w8 a0 n x) := HB.out.later hbw8
  clear hmk hW7 hbel8 hbw7 hbel4 HB7 HG
  rcases a0 with _ | ad
  · obtain ⟨rfl, rfl⟩ := H0.out rfl
    go_wp2_with fail
    refine (equal_true _ _ 0 _ _ x _ (by omega) (.inl rfl) (.inl rfl)).mono ?_
    rintro e w9 ⟨rfl, hbel9⟩
    go_wp2
    go_ret
    exact ⟨rfl, hbw8.trans (hbel9.mono hbw8.size)⟩
  · have i1 : (n : Int) ≤ (cap0 : Int) := by omega
    go_wp2_with fail
    refine (equal_true _ _ n _ _ x _ (by omega) HO8.out HB8.out).mono ?_
    rintro e w9 ⟨rfl, hbel9⟩
    go_wp2
    go_ret
    exact ⟨rfl, hbw8.trans (hbel9.mono hbw8.size)⟩

set_option maxHeartbeats 400000 in
theorem exact_big (a0 : Option Addr) (n cap0 : Nat) (m ex : Int) (w : World) (hn : 1024 < n) (hm : n ≤ maxLen) :
    Calls Yba.prog 3 #[.slice a0 n cap0, .int .u64 m, .int .u8 ex] w fun e w' => e = .returned (.bool true) ∧ Below w.heap.size w w' := by
  unfold maxLen at hm
  go_enter Yba.func3, Yba.ntmps3
  go_wp2
  go_ret
  exact ⟨rfl, Below.refl _ _⟩

end Go.Proofs.Ybulkcwig.Dig
