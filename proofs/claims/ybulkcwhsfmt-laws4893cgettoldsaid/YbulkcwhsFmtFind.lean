/-
  'fmt.Errorf' at the one format (function 26), the closure 'find$1' (44), 'slices.IndexFunc' (43), 'find' (25), 'get' (13).
-/
import Derived.Test.YbulkcwhsFmtStops
import Derived.WalkKit
import Derived.WalkSpells
import Derived.WalkLawsBesides
namespace Go.Proofs.YbulkcwhsFmt.Find
open Go.RowKit Go.Extern.Stop Go.Stop Go.Extern
attribute [local go_sem] call45 fguard fmt0 fmt0r op9_113 op9_113w strict9 ptr101 elem101 isError101

set_option maxHeartbeats 400000 in
theorem errorf_any (F : Interp) (q : ByteArray) (b : Nat) (w : World) (hF : F.answers w.tape) (hc : w.cell? ⟨b, 0, none⟩ = some (.iface 9 (.string q))) :
    Calls Ybaf.prog 26 #[.string ⟨#[110, 111, 32, 115, 110, 97, 112, 115, 104, 111, 116, 32, 110, 97, 109, 101, 100, 32, 37, 113]⟩, .slice (some ⟨b, 0, none⟩) 1 1] w fun e w' =>
      ∃ s : ByteArray, e = .returned (.iface 101 (.pointer (some ⟨w.heap.size, 0, none⟩))) ∧ w' = (w.alloc (.cells #[.string s] 103)).drew := by
  have hF' := answers_open hF
  go_enter Ybaf.func26, Ybaf.ntmps26
  go_wp2
  go_ret
  exact ⟨_, rfl, rfl⟩

set_option maxHeartbeats 400000 in
theorem closure_any (nm m q : ByteArray) (x1 x2 x3 x4 : Value) (c : Nat) (w : World) (hlt : c < w.heap.size) (hc : w.cell? ⟨c, 0, none⟩ = some (.string q)) :
    Calls Ybaf.prog 44 #[.agg #[.string nm, x1, x2, x3, x4, .string m], .pointer (some ⟨c, 0, none⟩)] w fun e w' =>
      e = .returned (.bool (nm.toList == q.toList)) ∧ w' = w.alloc (.cells #[.string nm, x1, x2, x3, x4, .string m] 51) := by
  go_enter Ybaf.func44, Ybaf.ntmps44
  go_wp2
  go_ret
  exact ⟨rfl, rfl⟩

theorem str_eq {a b : ByteArray} (h : a = b) : (a.toList == b.toList) = true := by simp [h]
theorem str_ne {a b : ByteArray} (h : a ≠ b) : (a.toList == b.toList) = false := by
  rw [beq_eq_false_iff_ne]
  intro e
  rw [ByteArray.toList_eq, ByteArray.toList_eq] at e
  exact h (WideShapes.bytes_inj e)

/-- THE SNAPSHOTS IN MEMORY: n records of six cells in block g, the k-th named 'nm k', made at k, its manifest 'mf k'. -/
structure SnapsAt (w : World) (g n : Nat) (nm mf : Nat → ByteArray) : Prop where
  lt : g < w.heap.size
  c0 : ∀ k, k < n → w.cell? ⟨g, k * 6, none⟩ = some (.string (nm k))
  c1 : ∀ k, k < n → w.cell? ⟨g, k * 6 + 1, none⟩ = some (.int .u64 k)
  c2 : ∀ k, k < n → w.cell? ⟨g, k * 6 + 2, none⟩ = some (.int .i64 0)
  c3 : ∀ k, k < n → w.cell? ⟨g, k * 6 + 3, none⟩ = some (.pointer none)
  c4 : ∀ k, k < n → w.cell? ⟨g, k * 6 + 4, none⟩ = some (.int .i64 k)
  c5 : ∀ k, k < n → w.cell? ⟨g, k * 6 + 5, none⟩ = some (.string (mf k))

theorem SnapsAt.later {w w' : World} {g n : Nat} {nm mf : Nat → ByteArray} {B : Nat} (h : SnapsAt w g n nm mf) (hb : Below B w w') (hg : g < B) : SnapsAt w' g n nm mf :=
  ⟨Nat.lt_of_lt_of_le h.lt hb.size, fun k hk => (hb.cell (p := ⟨g, _, none⟩) hg).trans (h.c0 k hk), fun k hk => (hb.cell (p := ⟨g, _, none⟩) hg).trans (h.c1 k hk), fun k hk => (hb.cell (p := ⟨g, _, none⟩) hg).trans (h.c2 k hk),
   fun k hk => (hb.cell (p := ⟨g, _, none⟩) hg).trans (h.c3 k hk), fun k hk => (hb.cell (p := ⟨g, _, none⟩) hg).trans (h.c4 k hk), fun k hk => (hb.cell (p := ⟨g, _, none⟩) hg).trans (h.c5 k hk)⟩

/-- The first k below n with 'nm k = q', or -1. -/
def IsFirst (nm : Nat → ByteArray) (q : ByteArray) (n : Nat) (r : Int) : Prop :=
  (r = -1 ∧ ∀ j, j < n → nm j ≠ q) ∨ ∃ k : Nat, r = k ∧ k < n ∧ nm k = q ∧ ∀ j, j < k → nm j ≠ q

set_option maxHeartbeats 1000000 in
theorem index_any (g c n : Nat) (q : ByteArray) (nm mf : Nat → ByteArray) (w : World) (hn : n ≤ 1024)
    (hs : SnapsAt w g n nm mf) (hc : w.cell? ⟨c, 0, none⟩ = some (.string q)) (hlt : c < w.heap.size) :
    Calls Ybaf.prog 43 #[.slice (some ⟨g, 0, none⟩) n n, .func (.func 44) #[] #[.pointer (some ⟨c, 0, none⟩)]] w fun e w' =>
      ∃ r : Int, e = .returned (.int .i64 r) ∧ IsFirst nm q n r ∧ Below w.heap.size w w' := by
  have HS : Hid (SnapsAt w g n nm mf) := hs
  have HC : Hid (w.cell? ⟨c, 0, none⟩ = some (.string q)) := hc
  have hglt := hs.lt
  clear hs hc
  go_enter Ybaf.func43, Ybaf.ntmps43
  go_wp2
  go_loopw [8] (fun i wr => ∃ k : Nat, k ≤ n ∧ i = .int .i64 k ∧ (∀ j, j < k → nm j ≠ q) ∧ Below w.heap.size w wr) (fun i _ => n - (intOf i).toNat)
  case atStart => exact ⟨0, by omega, rfl, by intro j hj; omega, Below.refl _ _⟩
  case round =>
    obtain ⟨k, hk, rfl, hno, hb⟩ := hrel
    have HN : Hid (∀ j, j < k → nm j ≠ q) := hno
    clear hno
    by_cases hlt2 : k < n
    · have hs := HS.out.later hb hglt
      have c0 := hs.c0 k hlt2
      have c1 := hs.c1 k hlt2
      have c2 := hs.c2 k hlt2
      have c3 := hs.c3 k hlt2
      have c4 := hs.c4 k hlt2
      have c5 := hs.c5 k hlt2
      clear hs
      have hcr : wr.cell? ⟨c, 0, none⟩ = some (.string q) := (hb.cell (p := ⟨c, 0, none⟩) hlt).trans HC.out
      have hcl : c < wr.heap.size := Nat.lt_of_lt_of_le hlt hb.size
      go_wp2_with fail
      refine (closure_any (nm k) (mf k) q _ _ _ _ c _ hcl hcr).mono ?_
      rintro e w' ⟨rfl, rfl⟩
      have hbs := hb.size
      by_cases hq : nm k = q
      · have hq' := str_eq hq
        have HQ : Hid (nm k = q) := hq
        clear hq
        go_wp2
        go_ret
        exact ⟨k, rfl, .inr ⟨k, rfl, hlt2, HQ.out, HN.out⟩, hb.alloc hbs _⟩
      · have hq' := str_ne hq
        have HQ : Hid (¬ nm k = q) := hq
        clear hq
        go_wp2
        go_roundw
        case rel => exact ⟨k + 1, by omega, by go_num, fun j hj => if h : j = k then h ▸ HQ.out else HN.out j (by omega), hb.alloc hbs _⟩
        case measure => simp [intOf]; omega
    · have hkn : k = n := by omega
      subst hkn
      go_wp2
      go_ret
      exact ⟨-1, rfl, .inl ⟨rfl, HN.out⟩, hb⟩

end Go.Proofs.YbulkcwhsFmt.Find
