/-
  THE WALK OF 'LawS4895BHold' (function 3).
-/
import Derived.Test.YbulkcwiuModel
import Derived.Lib.SlBytesConst
namespace Go.Proofs.Ybulkcwiu.Hold
open Go.RowKit Go.Maps

theorem info27 : (Yba.prog.info? 27).map (fun i => (i.zero, i.size, i.bytes)) = some (some (.pointer none), 1, 8) := by kernel_rfl
theorem info3 : (Yba.prog.info? 3).map (fun i => (i.zero, i.size, i.bytes)) = some (some (.int .i64 0), 1, 8) := by kernel_rfl

def ptrs (n : Nat) : Array Value := madeCells #[.pointer none] n
def ints (n : Nat) : Array Value := madeCells #[.int .i64 0] n

theorem madeP (n : Nat) (hn : n ≤ 1024) (W : World) : (Instr.makeSlice 26 (.int .i64 n) (.int .i64 n)).run Yba.prog W = .ok (.slice (some ⟨W.heap.size, 0, none⟩) n n) (W.alloc (.cells (ptrs n) 27)) := by
  obtain ⟨i, hi, hz, hs, hb⟩ := info_parts info27
  have h := run_make (P := Yba.prog) W 26 27 i _ Yba.underlying26 hi hz .i64 .i64 n n (by omega) (by omega) (by rw [hb]; omega) (by omega)
  rw [hs] at h
  simpa [Value.cells, ptrs] using h
theorem madeI (n : Nat) (hn : n ≤ 1024) (W : World) : (Instr.makeSlice 69 (.int .i64 n) (.int .i64 n)).run Yba.prog W = .ok (.slice (some ⟨W.heap.size, 0, none⟩) n n) (W.alloc (.cells (ints n) 3)) := by
  obtain ⟨i, hi, hz, hs, hb⟩ := info_parts info3
  have h := run_make (P := Yba.prog) W 69 3 i _ Yba.underlying69 hi hz .i64 .i64 n n (by omega) (by omega) (by rw [hb]; omega) (by omega)
  rw [hs] at h
  simpa [Value.cells, ints] using h
theorem get_ptrs (n j : Nat) (h : j < n) : (ptrs n)[j]? = some (.pointer none) := by
  unfold ptrs madeCells
  simp [h, Nat.mod_one]

/-- THE FIRST LOOP's RELATION: the log's row lies in block g; its first k places are as they are to be, the others nil. -/
structure Log (w wr : World) (g n k : Nat) (L : Nat → Bool) : Prop where
  below : Below w.heap.size w wr
  new : w.heap.size ≤ g
  lt : g < wr.heap.size
  rest : ∀ j, k ≤ j → j < n → wr.cell? ⟨g, j, none⟩ = some (.pointer none)
  free : ∀ j, j < n → wr.frozen? ⟨g, j, none⟩ = false
  row : AtRow wr g k L

theorem log_start (w : World) (n : Nat) (L : Nat → Bool) : Log w (w.alloc (.cells (ptrs n) 27)) w.heap.size n 0 L :=
  ⟨(Below.refl _ _).alloc (Nat.le_refl _) _, Nat.le_refl _, by simp, fun j _ hj => by rw [World.cell?_alloc_new]; exact get_ptrs n j hj, fun j _ => World.frozen?_alloc_new w _ _ j, fun k hk => by omega⟩

theorem Log.skip {w wr : World} {g n k : Nat} {L : Nat → Bool} (h : Log w wr g n k L) (hk : k < n) (hL : L k = false) : Log w wr g n (k + 1) L :=
  ⟨h.below, h.new, h.lt, fun j h1 h2 => h.rest j (by omega) h2, h.free, fun i hi => by
    rcases Nat.lt_or_ge i k with hl | hl
    · exact h.row i hl
    · obtain rfl : i = k := by omega
      exact ⟨fun _ => h.rest i (Nat.le_refl _) hk, fun hh => by rw [hL] at hh; cases hh⟩⟩

abbrev msgO (d : Nat) : Obj := .cells #[.int .i64 0, .int .u64 0, .int .i64 0, .slice none 0 0, .slice (some ⟨d, 0, none⟩) 1 1] 35
abbrev payO : Obj := .cells #[.int .u8 118] 5 (1, 2)

/-- A message is laid at place k. -/
theorem Log.put {w wr : World} {g n k : Nat} {L : Nat → Bool} (h : Log w wr g n k L) (hk : k < n) (hL : L k = true) :
    Log w (((wr.alloc payO).alloc (msgO wr.heap.size)).setCell ⟨g, k, none⟩ (.pointer (some ⟨wr.heap.size + 1, 0, none⟩))) g n (k + 1) L := by
  have hlt := h.lt
  have hold : ∀ (b o : Nat), b < wr.heap.size → ((wr.alloc payO).alloc (msgO wr.heap.size)).cell? ⟨b, o, none⟩ = wr.cell? ⟨b, o, none⟩ := fun b o hb => by
    rw [World.cell?_alloc_lt _ _ _ (by simp; omega), World.cell?_alloc_lt _ _ _ (by simpa using hb)]
  have hother : ∀ (b o : Nat), (b ≠ g ∨ o ≠ k) → (((wr.alloc payO).alloc (msgO wr.heap.size)).setCell ⟨g, k, none⟩ (.pointer (some ⟨wr.heap.size + 1, 0, none⟩))).cell? ⟨b, o, none⟩ = ((wr.alloc payO).alloc (msgO wr.heap.size)).cell? ⟨b, o, none⟩ := fun b o hb =>
    World.cell?_setCell_other _ _ _ _ (by simp only [ne_eq, Addr.mk.injEq, not_and]; intro h1 h2; rcases hb with hb | hb; exact absurd h1.symm hb; exact absurd h2.symm hb)
  have hsome : (((wr.alloc payO).alloc (msgO wr.heap.size)).cell? ⟨g, k, none⟩).isSome = true := by rw [hold g k hlt, h.rest k (Nat.le_refl _) hk]; rfl
  have hmono : ∀ a v, a ≠ (⟨g, k, none⟩ : Addr) → wr.cell? a = some v → (((wr.alloc payO).alloc (msgO wr.heap.size)).setCell ⟨g, k, none⟩ (.pointer (some ⟨wr.heap.size + 1, 0, none⟩))).cell? a = some v := fun a v ha hv => by
    rw [World.cell?_setCell_other _ _ _ _ (Ne.symm ha)]
    have hb := World.block_lt_of_cell? wr a hv
    rw [World.cell?_alloc_lt _ _ _ (by simp; omega), World.cell?_alloc_lt _ _ _ hb]; exact hv
  refine ⟨((h.below.alloc h.below.size _).alloc (by have := h.below.size; simp; omega) _).setCell (p := ⟨g, k, none⟩) h.new _, h.new, by simp; omega, fun j h1 h2 => ?_, fun j hj => ?_, fun i hi => ?_⟩
  · rw [hother g j (.inr (by omega)), hold g j hlt]; exact h.rest j (by omega) h2
  · rw [World.frozen?_setCell, World.frozen?_alloc_past _ _ _ (by simp; omega), World.frozen?_alloc_past _ _ _ hlt]; exact h.free j hj
  · rcases Nat.lt_or_ge i k with hl | hl
    · obtain ⟨r1, r2⟩ := h.row i hl
      refine ⟨fun hh => hmono _ _ (by simp <;> omega) (r1 hh), fun hh => ?_⟩
      obtain ⟨c, d, cp, a1, a2, a3⟩ := r2 hh
      have hne : ∀ (b o : Nat) (v : Value), wr.cell? ⟨b, o, none⟩ = some v → v ≠ .pointer none → (⟨b, o, none⟩ : Addr) ≠ ⟨g, k, none⟩ := fun b o v hv hn e => by
        rw [e, h.rest k (Nat.le_refl _) hk] at hv
        exact hn (Option.some.inj hv).symm
      exact ⟨c, d, cp, hmono _ _ (by simp <;> omega) a1, hmono _ _ (hne _ _ _ a2 (by simp)) a2, hmono _ _ (hne _ _ _ a3 (by simp)) a3⟩
    · obtain rfl : i = k := by omega
      refine ⟨fun hh => (by rw [hL] at hh; cases hh), fun _ => ⟨wr.heap.size + 1, wr.heap.size, 1, World.cell?_setCell_same' _ _ _ hsome, ?_, ?_⟩⟩
      · rw [hother _ _ (.inl (by omega))]
        simp
      · rw [hother _ _ (.inl (by omega)), World.cell?_alloc_lt _ _ _ (by simp)]
        have := World.cell?_alloc_mark wr #[.int .u8 118] 5 (1, 2) 0
        simpa using this

end Go.Proofs.Ybulkcwiu.Hold
