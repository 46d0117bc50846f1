/-
  WHAT THE LAW LAYS: the snapshots' row, record by record.
-/
import Derived.Test.YbulkcwhsFmtGet
namespace Go.Proofs.YbulkcwhsFmt.Find
open Go.RowKit

/-- The row that 'make([]Snapshot, n)' lays: n zero records. -/
def blk (n : Nat) : Array Value := madeCells #[.string ⟨#[]⟩, .int .u64 0, .int .i64 0, .pointer none, .int .i64 0, .string ⟨#[]⟩] (n * 6)
theorem blk_size (n : Nat) : (blk n).size = n * 6 := size_madeCells _ _

theorem info51 : (Ybaf.prog.info? 51).map (fun i => (i.zero, i.size, i.bytes)) = some (some (.agg #[.string ⟨#[]⟩, .int .u64 0, .int .i64 0, .pointer none, .int .i64 0, .string ⟨#[]⟩]), 6, 64) := by kernel_rfl

theorem made (n : Nat) (hn : n ≤ 1024) (W : World) :
    (Instr.makeSlice 43 (.int .i64 n) (.int .i64 n)).run Ybaf.prog W = .ok (.slice (some ⟨W.heap.size, 0, none⟩) n n) (W.alloc (.cells (blk n) 51)) := by
  obtain ⟨i, hi, hzz⟩ := Option.map_eq_some_iff.1 info51
  simp only [Prod.mk.injEq] at hzz
  obtain ⟨hz, hs, hb⟩ := hzz
  have h := run_make (P := Ybaf.prog) W 43 51 i _ Ybaf.underlying43 hi hz .i64 .i64 n n (by omega) (by omega) (by rw [hb]; omega) (by omega)
  rw [hs] at h
  simpa [blk, Value.cells] using h

/-- THE LOOP's RELATION: what was there is as it was; the row lies in block g, whole, and may be written; its first k records are made. -/
structure Part (w wr : World) (g n k : Nat) (nm mf : Nat → ByteArray) : Prop where
  below : Below w.heap.size w wr
  new : w.heap.size ≤ g
  room : ∀ j, j < n * 6 → (wr.cell? ⟨g, j, none⟩).isSome = true
  free : ∀ j, wr.frozen? ⟨g, j, none⟩ = false
  snaps : SnapsAt wr g k nm mf

theorem part_start (w : World) (n : Nat) (nm mf : Nat → ByteArray) : Part w (w.alloc (.cells (blk n) 51)) w.heap.size n 0 nm mf := by
  refine ⟨(Below.refl _ _).alloc (Nat.le_refl _) _, Nat.le_refl _, fun j hj => ?_, fun j => World.frozen?_alloc_new w _ _ j, ⟨by simp, ?_, ?_, ?_, ?_, ?_, ?_⟩⟩
  · rw [World.cell?_alloc_new]
    have := blk_size n
    simp [this, hj]
  all_goals (intro k hk; omega)

/-- One record more. -/
theorem part_step {w wr : World} {g n k : Nat} {nm mf : Nat → ByteArray} (h : Part w wr g n k nm mf) (hk : k < n) :
    Part w ((((((wr.setCell ⟨g, k * 6, none⟩ (.string (nm k))).setCell ⟨g, k * 6 + 1, none⟩ (.int .u64 k)).setCell ⟨g, k * 6 + 2, none⟩ (.int .i64 0)).setCell ⟨g, k * 6 + 3, none⟩ (.pointer none)).setCell ⟨g, k * 6 + 4, none⟩ (.int .i64 k)).setCell ⟨g, k * 6 + 5, none⟩ (.string (mf k))) g n (k + 1) nm mf := by
  obtain ⟨hb, hn, hr, hf, hs⟩ := h
  have e : ((((((wr.setCell ⟨g, k * 6, none⟩ (.string (nm k))).setCell ⟨g, k * 6 + 1, none⟩ (.int .u64 k)).setCell ⟨g, k * 6 + 2, none⟩ (.int .i64 0)).setCell ⟨g, k * 6 + 3, none⟩ (.pointer none)).setCell ⟨g, k * 6 + 4, none⟩ (.int .i64 k)).setCell ⟨g, k * 6 + 5, none⟩ (.string (mf k)))
      = wr.setCells g (k * 6) [.string (nm k), .int .u64 k, .int .i64 0, .pointer none, .int .i64 k, .string (mf k)] := rfl
  rw [e]
  have hin := World.cell?_setCells_in g [.string (nm k), .int .u64 k, .int .i64 0, .pointer none, .int .i64 k, .string (mf k)] (k * 6) wr (fun j hj => hr _ (by simp at hj; omega))
  have hout : ∀ o, (o < k * 6 ∨ k * 6 + 6 ≤ o) → (wr.setCells g (k * 6) [.string (nm k), .int .u64 k, .int .i64 0, .pointer none, .int .i64 k, .string (mf k)]).cell? ⟨g, o, none⟩ = wr.cell? ⟨g, o, none⟩ := fun o ho =>
    World.cell?_setCells_out g _ (k * 6) wr ⟨g, o, none⟩ (fun _ _ => by simpa using ho)
  refine ⟨?_, hn, fun j hj => ?_, fun j => ?_, ⟨?_, ?_, ?_, ?_, ?_, ?_, ?_⟩⟩
  · rw [← e]
    exact (((((hb.setCell (p := ⟨g, _, none⟩) hn _).setCell (p := ⟨g, _, none⟩) hn _).setCell (p := ⟨g, _, none⟩) hn _).setCell (p := ⟨g, _, none⟩) hn _).setCell (p := ⟨g, _, none⟩) hn _).setCell (p := ⟨g, _, none⟩) hn _
  · by_cases h6 : k * 6 ≤ j ∧ j < k * 6 + 6
    · have := hin (j - k * 6) (by simp; omega)
      rw [show k * 6 + (j - k * 6) = j by omega] at this
      rw [this]; rfl
    · rw [hout j (by omega)]; exact hr j hj
  · rw [World.frozen?_setCells]; exact hf j
  · rw [← e]; simpa using hs.lt
  · intro i hi
    by_cases hik : i = k
    · subst hik; exact hin 0 (by simp)
    · rw [hout _ (by omega)]; exact hs.c0 i (by omega)
  · intro i hi
    by_cases hik : i = k
    · subst hik; exact hin 1 (by simp)
    · rw [hout _ (by omega)]; exact hs.c1 i (by omega)
  · intro i hi
    by_cases hik : i = k
    · subst hik; exact hin 2 (by simp)
    · rw [hout _ (by omega)]; exact hs.c2 i (by omega)
  · intro i hi
    by_cases hik : i = k
    · subst hik; exact hin 3 (by simp)
    · rw [hout _ (by omega)]; exact hs.c3 i (by omega)
  · intro i hi
    by_cases hik : i = k
    · subst hik; exact hin 4 (by simp)
    · rw [hout _ (by omega)]; exact hs.c4 i (by omega)
  · intro i hi
    by_cases hik : i = k
    · subst hik; exact hin 5 (by simp)
    · rw [hout _ (by omega)]; exact hs.c5 i (by omega)

/-- New blocks and draws turn nothing of it. -/
theorem Part.later {w wr w2 : World} {g n k : Nat} {nm mf : Nat → ByteArray} (h : Part w wr g n k nm mf) (hb : Below wr.heap.size wr w2) : Part w w2 g n k nm mf := by
  obtain ⟨hb0, hn, hr, hf, hs⟩ := h
  refine ⟨hb0.trans (hb.mono hb0.size), hn, fun j hj => ?_, fun j => ?_, hs.later hb hs.lt⟩
  · rw [hb.cell (p := ⟨g, j, none⟩) hs.lt]; exact hr j hj
  · rw [hb.frozen (p := ⟨g, j, none⟩) hs.lt]; exact hf j

end Go.Proofs.YbulkcwhsFmt.Find
