/-
  '(*snapshotsDoc).find' (function 25), '(*snapshotsDoc).get' (function 13).
-/
import Derived.Test.YbulkcwhsFmtFind
namespace Go.Proofs.YbulkcwhsFmt.Find
open Go.RowKit Go.Extern.Stop Go.Stop Go.Extern

theorem bcell {B : Nat} {W w1 : World} (hb : Below B W w1) : (∀ b o, b < B → w1.cell? ⟨b, o, none⟩ = W.cell? ⟨b, o, none⟩) ∧ (∀ b o, b < B → w1.frozen? ⟨b, o, none⟩ = W.frozen? ⟨b, o, none⟩) :=
  ⟨fun b o h => hb.cell (p := ⟨b, o, none⟩) h, fun b o h => hb.frozen (p := ⟨b, o, none⟩) h⟩

abbrev snapV (nm mf : ByteArray) (k : Nat) : Value := .agg #[.string nm, .int .u64 k, .int .i64 0, .pointer none, .int .i64 k, .string mf]
abbrev zeroV : Value := .agg #[.string ⟨#[]⟩, .int .u64 0, .int .i64 0, .pointer none, .int .i64 0, .string ⟨#[]⟩]

/-- Six stores into one new block. -/
theorem below6 {B : Nat} {a w : World} (h : Below B a w) {b : Nat} (hp : B ≤ b) {v0 v1 v2 v3 v4 v5 : Value} :
    Below B a ((((((w.setCell ⟨b, 0, none⟩ v0).setCell ⟨b, 1, none⟩ v1).setCell ⟨b, 2, none⟩ v2).setCell ⟨b, 3, none⟩ v3).setCell ⟨b, 4, none⟩ v4).setCell ⟨b, 5, none⟩ v5) :=
  (((((h.setCell (p := ⟨b, 0, none⟩) hp v0).setCell (p := ⟨b, 1, none⟩) hp v1).setCell (p := ⟨b, 2, none⟩) hp v2).setCell (p := ⟨b, 3, none⟩) hp v3).setCell (p := ⟨b, 4, none⟩) hp v4).setCell (p := ⟨b, 5, none⟩) hp v5

set_option maxHeartbeats 1000000 in
theorem find_any (d g n : Nat) (q : ByteArray) (nm mf : Nat → ByteArray) (w : World) (hn : n ≤ 1024)
    (hs : SnapsAt w g n nm mf) (hdl : d < w.heap.size) (hd : w.cell? ⟨d, 3, none⟩ = some (.slice (some ⟨g, 0, none⟩) n n)) :
    Calls Ybaf.prog 25 #[.pointer (some ⟨d, 0, none⟩), .string q] w fun e w' =>
      ((e = .returned (.tuple #[zeroV, .bool false]) ∧ ∀ j, j < n → nm j ≠ q) ∨ (∃ k : Nat, e = .returned (.tuple #[snapV (nm k) (mf k) k, .bool true]) ∧ k < n ∧ nm k = q ∧ ∀ j, j < k → nm j ≠ q)) ∧ Below w.heap.size w w' := by
  have hglt := hs.lt
  have HS : Hid (SnapsAt w g n nm mf) := hs
  clear hs
  go_enter Ybaf.func25, Ybaf.ntmps25
  go_wp2_with fail
  have hbA : Below w.heap.size w ((w.alloc (.cells #[.string q] 9)).alloc (.cells #[.string ⟨#[]⟩, .int .u64 0, .int .i64 0, .pointer none, .int .i64 0, .string ⟨#[]⟩] 51)) := ((Below.refl _ _).alloc (Nat.le_refl _) _).alloc (by simp) _
  refine (index_any g w.heap.size n q nm mf _ hn (HS.out.later hbA hglt) (by go_simp) (by simp; omega)).mono ?_
  rintro e w1 ⟨r, rfl, hr, hb⟩
  obtain ⟨hcc, hff⟩ := bcell hb
  have hz := hb.size
  simp at hz
  rcases hr with ⟨rfl, hno⟩ | ⟨k, rfl, hk, hq, hno⟩
  · have HN : Hid (∀ j, j < n → nm j ≠ q) := hno
    clear hno
    go_wp2
    refine bodyPost_ret (v := .tuple #[zeroV, .bool false]) (by simp [results, Ybaf.results25, go_sem, hcc]) rfl ⟨.inl ⟨rfl, HN.out⟩, ?_⟩
    exact below6 (hbA.trans (hb.mono (by simp; omega))) (by simp)
  · have HN : Hid (∀ j, j < k → nm j ≠ q) := hno
    have HQ : Hid (nm k = q) := hq
    have hbT := hbA.trans (hb.mono (B' := w.heap.size) (by simp; omega))
    have hs := HS.out.later hbT hglt
    have hd1 : w1.cell? ⟨d, 3, none⟩ = some (.slice (some ⟨g, 0, none⟩) n n) := (hbT.cell (p := ⟨d, 3, none⟩) hdl).trans hd
    have c0 := hs.c0 k hk
    have c1 := hs.c1 k hk
    have c2 := hs.c2 k hk
    have c3 := hs.c3 k hk
    have c4 := hs.c4 k hk
    have c5 := hs.c5 k hk
    clear hno hq hs hbT hd
    go_wp2
    refine bodyPost_ret (v := .tuple #[snapV (nm k) (mf k) k, .bool true]) (by simp [results, Ybaf.results25, go_sem, hcc]) rfl ⟨.inr ⟨k, rfl, hk, HQ.out, HN.out⟩, ?_⟩
    exact below6 (hbA.trans (hb.mono (by simp; omega))) (by simp)

set_option maxHeartbeats 1000000 in
theorem get_any (F : Interp) (d g n : Nat) (q : ByteArray) (nm mf : Nat → ByteArray) (w : World) (hF : F.answers w.tape) (hn : n ≤ 1024)
    (hs : SnapsAt w g n nm mf) (hdl : d < w.heap.size) (hd : w.cell? ⟨d, 3, none⟩ = some (.slice (some ⟨g, 0, none⟩) n n)) :
    Calls Ybaf.prog 13 #[.pointer (some ⟨d, 0, none⟩), .string q] w fun e w' =>
      ((∃ a : Addr, e = .returned (.tuple #[zeroV, .iface 101 (.pointer (some a))]) ∧ ∀ j, j < n → nm j ≠ q) ∨ (∃ k : Nat, e = .returned (.tuple #[snapV (nm k) (mf k) k, .nilIface]) ∧ k < n ∧ nm k = q ∧ ∀ j, j < k → nm j ≠ q)) ∧ Below w.heap.size w w' := by
  have hglt := hs.lt
  have HS : Hid (SnapsAt w g n nm mf) := hs
  have HD : Hid (w.cell? ⟨d, 3, none⟩ = some (.slice (some ⟨g, 0, none⟩) n n)) := hd
  clear hs hd
  go_enter Ybaf.func13, Ybaf.ntmps13
  go_wp2_with fail
  have hbA : Below w.heap.size w (w.alloc (.cells #[.string ⟨#[]⟩, .int .u64 0, .int .i64 0, .pointer none, .int .i64 0, .string ⟨#[]⟩] 51)) := (Below.refl _ _).alloc (Nat.le_refl _) _
  refine (find_any d g n q nm mf _ hn (HS.out.later hbA hglt) (by simp; omega) ((hbA.cell (p := ⟨d, 3, none⟩) hdl).trans HD.out)).mono ?_
  rintro e w1 ⟨he, hb⟩
  obtain ⟨hcc, hff⟩ := bcell hb
  have hz := hb.size
  simp at hz
  have hz' : w.heap.size < w1.heap.size := by omega
  have hz1 : w.heap.size < w1.heap.size + 1 := by omega
  have hz2 : w.heap.size < w1.heap.size + 1 + 1 := by omega
  clear hz
  have hbT := hbA.trans (hb.mono (B' := w.heap.size) (by simp))
  rcases he with ⟨rfl, hno⟩ | ⟨k, rfl, hk, hq, hno⟩
  · have HN : Hid (∀ j, j < n → nm j ≠ q) := hno
    clear hno
    go_wp2_with fail
    refine (errorf_any F q _ _ (by show F.answers w1.tape; rw [hbT.tape]; exact hF) (by go_simp)).mono ?_
    rintro e w2 ⟨s, rfl, rfl⟩
    go_wp2
    refine bodyPost_ret (v := .tuple #[zeroV, .iface 101 (.pointer (some ⟨w1.heap.size + 1 + 1, 0, none⟩))]) (by simp [results, Ybaf.results13, go_sem, hcc, hz', hz1, hz2]) rfl ⟨.inl ⟨_, rfl, HN.out⟩, ?_⟩
    exact ((((below6 hbT (Nat.le_refl _)).alloc (by simp; omega) _).alloc (by simp; omega) _).alloc (by simp; omega) _).drew
  · have HN : Hid (∀ j, j < k → nm j ≠ q) := hno
    have HQ : Hid (nm k = q) := hq
    clear hno hq
    go_wp2
    refine bodyPost_ret (v := .tuple #[snapV (nm k) (mf k) k, .nilIface]) (by simp [results, Ybaf.results13, go_sem, hcc, hz']) rfl ⟨.inr ⟨k, rfl, hk, HQ.out, HN.out⟩, ?_⟩
    exact (below6 hbT (Nat.le_refl _)).alloc (by simp; omega) _

end Go.Proofs.YbulkcwhsFmt.Find
