/-
  'zzs4894adec' (function 7): the decimal digits of v, by a plain loop.
-/
import Derived.Test.YbulkcwigEqual
import Derived.Laws.IdiomCopy
namespace Go.Proofs.Ybulkcwig.Dig
open Go.RowKit

/-- The digit j places from the right, as a byte. -/
def dg (m j : Nat) : Nat := 48 + m / 10 ^ j % 10
theorem dg_lt (m j : Nat) : dg m j < 58 ∧ 48 ≤ dg m j := by unfold dg; omega

/-- m HAS nd DECIMAL DIGITS (0 has one). -/
def Nd (m nd : Nat) : Prop := 0 < nd ∧ nd ≤ 20 ∧ m / 10 ^ nd = 0 ∧ (nd = 1 ∨ m / 10 ^ (nd - 1) ≠ 0)

/-- THE DIGITS' BYTES, left to right. -/
def digs (m nd : Nat) (j : Nat) : Int := (dg m (nd - 1 - j) : Int)

theorem dg_div (m k : Nat) : 48 + m / 10 ^ k % 10 = dg m k := rfl

/-- One digit more is written, from the right. -/
theorem dec_step {wr : World} {g m k p q : Nat} (hq : q = m / 10 ^ k) (hp : p + 1 + k = 20) (hroom : (wr.cell? ⟨g, p, none⟩).isSome = true)
    (hd : ∀ j, j < k → wr.cell? ⟨g, 19 - j, none⟩ = some (.int .u8 (dg m j))) :
    ∀ j, j < k + 1 → (wr.setCell ⟨g, p, none⟩ (.int .u8 (48 + (q : Int) % 10))).cell? ⟨g, 19 - j, none⟩ = some (.int .u8 (dg m j)) := by
  intro j hj
  by_cases h : j = k
  · subst h
    have e : 19 - j = p := by omega
    rw [e, World.cell?_setCell_same' _ _ _ hroom]
    have : (48 + (q : Int) % 10) = (dg m j : Int) := by rw [hq]; unfold dg; omega
    rw [this]
  · rw [World.cell?_setCell_other _ _ _ _ (by simp <;> omega)]
    exact hd j (by omega)

theorem info5 : (Yba.prog.info? 5).map (fun i => (i.zero, i.size, i.bytes)) = some (some (.int .u8 0), 1, 1) := by kernel_rfl

theorem made (n c : Nat) (hn : n ≤ c) (hc : c ≤ 100000) (l cc : Int) (hl : l = n) (hcc : cc = c) (W : World) :
    (Instr.makeSlice 22 (.int .i64 l) (.int .i64 cc)).run Yba.prog W = .ok (.slice (some ⟨W.heap.size, 0, none⟩) n c) (W.alloc (.cells (madeCells #[.int .u8 0] c) 5)) := by
  obtain ⟨i, hi, hz, hs, hb⟩ := info_parts info5
  subst hl hcc
  have h := run_make (P := Yba.prog) W 22 5 i _ Yba.underlying22 hi hz .i64 .i64 n c (by omega) (by omega) (by rw [hb]; omega) (by omega)
  rw [hs] at h
  simpa [Value.cells] using h

theorem sliced46 (g p k : Nat) (hp : p + 1 + k = 20) (W : World) :
    (Instr.sliceAt 46 (.pointer (some ⟨g, 0, none⟩)) (some (.int .i64 (p : Int))) none none).run Yba.prog W = .ok (.slice (some ⟨g, p, none⟩) (k + 1) (k + 1)) W := by
  have ht : Yba.prog.underlying 46 = some (.array (Yba.prog.arrayLen 46) (Yba.prog.elem 46)) := by kernel_rfl
  have hl : Yba.prog.arrayLen 46 = 20 := by kernel_rfl
  have he : (sizeOf (Yba.prog.elem 46)).run Yba.prog W = .ok 1 W := by kernel_rfl
  rw [run_sliceAt_array_l W 46 ⟨g, 0, none⟩ ht .i64 (p : Int) (by omega) (by rw [hl]; omega), he, hl]
  have e1 : ¬ 20 = p := by omega
  have e2 : 20 - p = k + 1 := by omega
  simp [slicedAt, e1, e2, Addr.add_lit]

/-- The digits' cells, left to right. -/
def cs (m k : Nat) : List Value := (List.range (k + 1)).map fun j => .int .u8 (digs m (k + 1) j)
theorem cs_length (m k : Nat) : (cs m k).length = k + 1 := by simp [cs]
theorem cs_get {m k j : Nat} {v : Value} (h : (cs m k)[j]? = some v) : j < k + 1 ∧ v = .int .u8 (digs m (k + 1) j) := by
  have hj : j < k + 1 := by
    have := (List.getElem?_eq_some_iff.1 h).1
    simpa [cs] using this
  refine ⟨hj, ?_⟩
  simp [cs, List.getElem?_range hj] at h
  exact h.symm

theorem dec_copy {wr : World} {g h m k p q : Nat} (hq : q = m / 10 ^ k) (hp : p + 1 + k = 20) (hroom : (wr.cell? ⟨g, p, none⟩).isSome = true) (hg : g < wr.heap.size) (hh : h = wr.heap.size)
    (hd : ∀ j, j < k → wr.cell? ⟨g, 19 - j, none⟩ = some (.int .u8 (dg m j))) :
    (Builtin.copy_ #[22, 22] 3 #[.slice (some ⟨h, 0, none⟩) (k + 1) (k + 1), .slice (some ⟨g, p, none⟩) (k + 1) (k + 1)]).run Yba.prog
        ((wr.setCell ⟨g, p, none⟩ (.int .u8 (48 + (q : Int) % 10))).alloc (.cells (madeCells #[.int .u8 0] (k + 1)) 5)) =
      .ok (goInt (k + 1)) (((wr.setCell ⟨g, p, none⟩ (.int .u8 (48 + (q : Int) % 10))).alloc (.cells (madeCells #[.int .u8 0] (k + 1)) 5)).setCells h 0 (cs m k)) := by
  have hs := dec_step hq hp hroom hd
  subst hh
  have hsz : (wr.setCell ⟨g, p, none⟩ (.int .u8 (48 + (q : Int) % 10))).heap.size = wr.heap.size := by simp
  have := run_copy_cells (P := Yba.prog) ((wr.setCell ⟨g, p, none⟩ (.int .u8 (48 + (q : Int) % 10))).alloc (.cells (madeCells #[.int .u8 0] (k + 1)) 5)) 22 22 3 5 wr.heap.size 0 (k + 1) (k + 1) ⟨g, p, none⟩ (k + 1) (k + 1) (cs m k)
    Yba.underlying22 (by kernel_rfl) (by rw [cs_length]; simp) (fun j v hv => ?_) (fun j hj => ?_) (fun j _ => ?_) (fun v hv => ?_)
  · rw [cs_length] at this; exact this
  · obtain ⟨hj, rfl⟩ := cs_get hv
    rw [Addr.add_lit, World.cell?_alloc_lt _ _ _ (by simpa using hg)]
    have e := hs (k - j) (by omega)
    rw [show 19 - (k - j) = p + j by omega] at e
    simpa [digs] using e
  · rw [cs_length] at hj
    rw [show (⟨wr.heap.size, 0 + j, none⟩ : Addr) = ⟨(wr.setCell ⟨g, p, none⟩ (.int .u8 (48 + (q : Int) % 10))).heap.size, j, none⟩ by simp, World.cell?_alloc_new]
    simp [size_madeCells, hj]
  · rw [show (⟨wr.heap.size, 0 + j, none⟩ : Addr) = ⟨(wr.setCell ⟨g, p, none⟩ (.int .u8 (48 + (q : Int) % 10))).heap.size, j, none⟩ by simp, World.frozen?_alloc_new]
  · obtain ⟨_, _, rfl⟩ := List.mem_map.1 hv
    rfl

theorem setCells_size (b : Nat) : ∀ (vs : List Value) (o : Nat) (w : World), (w.setCells b o vs).heap.size = w.heap.size
  | [], _, _ => rfl
  | v :: vs, o, w => by
    show ((w.setCell ⟨b, o, none⟩ v).setCells b (o + 1) vs).heap.size = _
    rw [setCells_size b vs]; simp

theorem below_setCells {B : Nat} {a : World} {b : Nat} {w : World} (h : Below B a w) (hB : B ≤ b) : ∀ (o : Nat) (vs : List Value), Below B a (w.setCells b o vs) := by
  intro o vs
  induction vs generalizing o w with
  | nil => exact h
  | cons v vs ih => exact ih (h.setCell (p := ⟨b, o, none⟩) hB v) (o + 1)

set_option maxHeartbeats 1000000 in
theorem dec_any (m : Nat) (w : World) (hm : m < 18446744073709551616) :
    Calls Yba.prog 7 #[.int .u64 m] w fun e w' => ∃ g nd, e = .returned (.slice (some ⟨g, 0, none⟩) nd nd) ∧ Nd m nd ∧ Bytes w' (some ⟨g, 0, none⟩) nd (digs m nd) ∧ w.heap.size ≤ g ∧ Below w.heap.size w w' := by
  go_enter Yba.func7, Yba.ntmps7
  go_wp2
  go_loopw [4, 0] (fun i v wr => ∃ k p q : Nat, p + k = 20 ∧ (k = 0 ∨ m / 10 ^ k ≠ 0) ∧ i = .int .i64 p ∧ v = .int .u64 q ∧ q = m / 10 ^ k ∧ 0 < p ∧
      (∀ j, j < 20 → (wr.cell? ⟨w.heap.size, j, none⟩).isSome = true ∧ wr.frozen? ⟨w.heap.size, j, none⟩ = false) ∧ (∀ j, j < k → wr.cell? ⟨w.heap.size, 19 - j, none⟩ = some (.int .u8 (dg m j))) ∧ w.heap.size < wr.heap.size ∧ Below w.heap.size w wr) (fun i _ _ => (intOf i).toNat)
  case atStart =>
    refine ⟨0, 20, m, rfl, .inl rfl, rfl, rfl, by simp, by omega, fun j hj => ?_, fun j hj => by omega, by simp, (Below.refl _ _).alloc (Nat.le_refl _) _⟩
    rw [World.cell?_alloc_new, World.frozen?_alloc_new]
    exact ⟨by simp [hj], rfl⟩
  case round =>
    obtain ⟨k, p, q, hpk, hnz, rfl, rfl, hq, hp, hroom, hdone, hsz, hbw⟩ := hrel
    obtain ⟨p', rfl⟩ : ∃ p', p = p' + 1 := ⟨p - 1, by omega⟩
    have HQ : Hid (q = m / 10 ^ k) := hq
    have HR : Hid (∀ j, j < 20 → (wr.cell? ⟨w.heap.size, j, none⟩).isSome = true ∧ wr.frozen? ⟨w.heap.size, j, none⟩ = false) := hroom
    have HD : Hid (∀ j, j < k → wr.cell? ⟨w.heap.size, 19 - j, none⟩ = some (.int .u8 (dg m j))) := hdone
    have HN : Hid (k = 0 ∨ m / 10 ^ k ≠ 0) := hnz
    have HE : Hid (p' + 1 + k = 20) := hpk
    have hp20 : p' < 20 := by omega
    obtain ⟨v0, r0⟩ := Option.isSome_iff_exists.1 (hroom p' hp20).1
    have f0 := (hroom p' hp20).2
    clear hq hroom hdone hnz hpk hp
    have i0 : (0 : Int) ≤ (p' : Int) := by omega
    have i1 : (p' : Int) < 20 := by omega
    have hqm : q ≤ m := by rw [HQ.out]; exact Nat.div_le_self _ _
    have hqb : (q : Int) ≤ 18446744073709551615 := by omega
    clear hqm
    by_cases hq0 : q / 10 = 0
    · have hb0 : ((q : Int) / 10 == 0) = true := by simp; omega
      have HQ0 : Hid (q / 10 = 0) := hq0
      clear hq0
      have hmk := made (k + 1) (k + 1) (Nat.le_refl _) (by have := HE.out; omega) (20 - (p' : Int)) (20 - (p' : Int)) (by have := HE.out; omega) (by have := HE.out; omega)
      have hsl := sliced46 w.heap.size p' k HE.out
      have hcp := dec_copy (h := wr.heap.size) HQ.out HE.out (by rw [r0]; rfl) hsz rfl HD.out
      have hnd : Nd m (k + 1) := by
        refine ⟨by omega, by have := HE.out; omega, ?_, ?_⟩
        · have := HQ0.out
          rw [HQ.out, Nat.div_div_eq_div_mul] at this
          rw [Nat.pow_succ]; exact this
        · rcases HN.out with h | h
          · left; omega
          · right; simpa using h
      go_wp2
      go_ret
      refine ⟨wr.heap.size, k + 1, rfl, hnd, .inr ⟨wr.heap.size, 0, rfl, ?_, fun i hi => ?_⟩, hbw.size, ?_⟩
      · simp [setCells_size]
      · have hin := World.cell?_setCells_in wr.heap.size (cs m k) 0 ((wr.setCell ⟨w.heap.size, p', none⟩ (.int .u8 (48 + (q : Int) % 10))).alloc (.cells (madeCells #[.int .u8 0] (k + 1)) 5)) (fun j hj => ?_) i (by rw [cs_length]; exact hi)
        · rw [hin]; simp [cs]
        · rw [cs_length] at hj
          rw [show (⟨wr.heap.size, 0 + j, none⟩ : Addr) = ⟨(wr.setCell ⟨w.heap.size, p', none⟩ (.int .u8 (48 + (q : Int) % 10))).heap.size, j, none⟩ by simp, World.cell?_alloc_new]
          simp [size_madeCells, hj]
      · exact below_setCells ((hbw.setCell (p := ⟨w.heap.size, p', none⟩) (Nat.le_refl _) _).alloc (by simpa using hbw.size) _) hbw.size _ _
    · have hb0 : ((q : Int) / 10 == 0) = false := by simp; omega
      have HQ0 : Hid (¬ q / 10 = 0) := hq0
      clear hq0
      go_wp2
      go_roundw
      case rel =>
        have hq1 : m / 10 ^ (k + 1) = q / 10 := by rw [HQ.out, Nat.pow_succ, Nat.div_div_eq_div_mul]
        refine ⟨k + 1, p', q / 10, by have := HE.out; omega, .inr (by rw [hq1]; exact HQ0.out), rfl, by go_num, hq1.symm, ?_, fun j hj => ?_, dec_step HQ.out HE.out (by rw [r0]; rfl) HD.out, by simpa using hsz, hbw.setCell (p := ⟨w.heap.size, p', none⟩) (Nat.le_refl _) _⟩
        · have hk := HQ0.out
          rw [HQ.out, Nat.div_div_eq_div_mul, ← Nat.pow_succ] at hk
          rcases Nat.lt_or_ge k 19 with h | h
          · have := HE.out; omega
          · have h19 : k = 19 := by have := HE.out; omega
            subst h19
            exact absurd (Nat.div_eq_of_lt (by omega)) hk
        · rw [World.frozen?_setCell]
          refine ⟨?_, (HR.out j hj).2⟩
          by_cases h : j = p'
          · subst h; rw [World.cell?_setCell_same' _ _ _ (by rw [r0]; rfl)]; rfl
          · rw [World.cell?_setCell_other _ _ _ _ (by simp <;> omega)]; exact (HR.out j hj).1
      case measure => simp [intOf]

end Go.Proofs.Ybulkcwig.Dig
