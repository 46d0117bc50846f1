/-
  THE WALK OF 'LawS4893CGet' (function 4).
-/
import Derived.Test.YbulkcwhsFmtMade
import Derived.Test.YbulkcwhsFmtTime
import Derived.Deep.RegionHeld3
import Derived.Deep.QuietTactic
import Derived.BigQuiet
namespace Go.Proofs.YbulkcwhsFmt.Find
open Go.RowKit Go.Extern.Stop Go.Stop Go.Extern

/-- THE NAMES THAT CAME IN. -/
def Names (w : World) (a0 : Option Addr) (n : Nat) (nm : Nat → ByteArray) : Prop :=
  n = 0 ∨ ∃ b off, a0 = some ⟨b, off, none⟩ ∧ b < w.heap.size ∧ ∀ i, i < n → w.cell? ⟨b, off + i, none⟩ = some (.string (nm i)) ∧ (nm i).size + 1 ≤ 9223372036854775807

theorem keepS {wr : World} {g b o k : Nat} {v0 v1 v2 v3 v4 v5 x : Value} {c1 c2 : Array Value} (_hg : g < wr.heap.size) (hbl : b < wr.heap.size) (_hne1 : b ≠ g) (hne2 : g ≠ b) (h : wr.cell? ⟨b, o, none⟩ = some x) :
    ((((((((wr.setCell ⟨g, k * 6, none⟩ v0).setCell ⟨g, k * 6 + 1, none⟩ v1).setCell ⟨g, k * 6 + 2, none⟩ v2).setCell ⟨g, k * 6 + 3, none⟩ v3).setCell ⟨g, k * 6 + 4, none⟩ v4).setCell ⟨g, k * 6 + 5, none⟩ v5).alloc (Obj.cells c1 47)).alloc (Obj.cells c2 47)).drew.cell? ⟨b, o, none⟩ = some x := by
  go_simp

theorem zero_eq (W : World) : (binOp .eql 51 zeroV zeroV).run Ybaf.prog W = .ok (.bool true) W := by kernel_rfl

theorem cell1 {W : World} {a : Addr} {v : Value} (o : Obj) (h : W.cell? a = some v) : (W.alloc o).cell? a = some v := by
  rw [World.cell?_alloc_some W a o (by rw [h]; rfl)]; exact h
theorem cell2 {W : World} {a : Addr} {v : Value} {o1 o2 : Obj} (h : W.cell? a = some v) : ((W.alloc o1).alloc o2).drew.cell? a = some v := cell1 o2 (cell1 o1 h)
theorem cell4 {W : World} {a : Addr} {v : Value} {o1 o2 o3 o4 : Obj} (h : W.cell? a = some v) : ((((W.alloc o1).alloc o2).alloc o3).alloc o4).drew.cell? a = some v := cell1 o4 (cell1 o3 (cell1 o2 (cell1 o1 h)))

theorem below4 {W W1 : World} {o1 o2 o3 o4 : Obj} (h : Below W.heap.size W W1) : Below W.heap.size W ((((W1.alloc o1).alloc o2).alloc o3).alloc o4).drew := by
  have hs := h.size
  exact ((((h.alloc hs _).alloc (by simp; omega) _).alloc (by simp; omega) _).alloc (by simp; omega) _).drew

def hash : ByteArray := ⟨#[35]⟩

end Go.Proofs.YbulkcwhsFmt.Find
