/-
  THE CONTRACT OF '(reading).parameter' (function 9), way by way.
-/
import Derived.Test.YbulkcwigRows
import Derived.WalkKit
import Derived.WalkSpells
import Derived.WalkLawsBesides
namespace Go.Proofs.Ybulkcwig.Param
open Go.RowKit

/-- What the call leaves: the receiver's box, and the result's cell. -/
abbrev after (op ue : Value) (nm : ByteArray) (w : World) : World := (w.alloc (.cells #[op, ue] 31)).alloc (.cells #[.string nm, .pointer none] 34)

theorem p_arg (a : Nat) (ue : Value) (nm : ByteArray) (w : World) (ha : a < w.heap.size) (h1 : w.cell? ⟨a, 2, none⟩ = some (.string nm)) (h2 : w.cell? ⟨a, 3, none⟩ = some (.pointer none)) :
    Calls Yba.prog 9 #[.agg #[.pointer (some ⟨a, 0, none⟩), ue], .int .u8 1] w fun e w' => e = .returned (.agg #[.string nm, .pointer none]) ∧ w' = after (.pointer (some ⟨a, 0, none⟩)) ue nm w := by
  go_enter Yba.func9, Yba.ntmps9
  go_wp2
  exact bodyPost_ret (v := .agg #[.string nm, .pointer none]) (by simp [results, Yba.results9, go_sem]) rfl ⟨rfl, rfl⟩

theorem p_res (a : Nat) (ue : Value) (nm : ByteArray) (t : Int) (w : World) (ht : t = 2 ∨ t = 3) (ha : a < w.heap.size) (h1 : w.cell? ⟨a, 4, none⟩ = some (.string nm)) (h2 : w.cell? ⟨a, 5, none⟩ = some (.pointer none)) :
    Calls Yba.prog 9 #[.agg #[.pointer (some ⟨a, 0, none⟩), ue], .int .u8 t] w fun e w' => e = .returned (.agg #[.string nm, .pointer none]) ∧ w' = after (.pointer (some ⟨a, 0, none⟩)) ue nm w := by
  rcases ht with rfl | rfl
  all_goals
    go_enter Yba.func9, Yba.ntmps9
    go_wp2
    exact bodyPost_ret (v := .agg #[.string nm, .pointer none]) (by simp [results, Yba.results9, go_sem]) rfl ⟨rfl, rfl⟩

theorem p_err (a : Nat) (op : Option Addr) (nm : ByteArray) (w : World) (ha : a < w.heap.size) (h1 : w.cell? ⟨a, 2, none⟩ = some (.string nm)) (h2 : w.cell? ⟨a, 3, none⟩ = some (.pointer none)) :
    Calls Yba.prog 9 #[.agg #[.pointer op, .pointer (some ⟨a, 0, none⟩)], .int .u8 4] w fun e w' => e = .returned (.agg #[.string nm, .pointer none]) ∧ w' = after (.pointer op) (.pointer (some ⟨a, 0, none⟩)) nm w := by
  go_enter Yba.func9, Yba.ntmps9
  go_wp2
  exact bodyPost_ret (v := .agg #[.string nm, .pointer none]) (by simp [results, Yba.results9, go_sem]) rfl ⟨rfl, rfl⟩

/-- No operation. -/
theorem p_noop (ue : Value) (t : Int) (w : World) (ht : t = 1 ∨ t = 2 ∨ t = 3) :
    Calls Yba.prog 9 #[.agg #[.pointer none, ue], .int .u8 t] w fun e w' => e = .returned (.agg #[.string ⟨#[]⟩, .pointer none]) ∧ w' = after (.pointer none) ue ⟨#[]⟩ w := by
  rcases ht with rfl | rfl | rfl
  all_goals
    go_enter Yba.func9, Yba.ntmps9
    go_wp2
    exact bodyPost_ret (v := .agg #[.string ⟨#[]⟩, .pointer none]) (by simp [results, Yba.results9, go_sem]) rfl ⟨rfl, rfl⟩

/-- No error. -/
theorem p_noue (op : Option Addr) (w : World) :
    Calls Yba.prog 9 #[.agg #[.pointer op, .pointer none], .int .u8 4] w fun e w' => e = .returned (.agg #[.string ⟨#[]⟩, .pointer none]) ∧ w' = after (.pointer op) (.pointer none) ⟨#[]⟩ w := by
  go_enter Yba.func9, Yba.ntmps9
  go_wp2
  exact bodyPost_ret (v := .agg #[.string ⟨#[]⟩, .pointer none]) (by simp [results, Yba.results9, go_sem]) rfl ⟨rfl, rfl⟩

/-- None of the four types. -/
theorem p_else (op ue : Value) (t : Int) (w : World) (h1 : (t == 1) = false) (h2 : (t == 2) = false) (h3 : (t == 3) = false) (h4 : (t == 4) = false) :
    Calls Yba.prog 9 #[.agg #[op, ue], .int .u8 t] w fun e w' => e = .returned (.agg #[.string ⟨#[]⟩, .pointer none]) ∧ w' = after op ue ⟨#[]⟩ w := by
  go_enter Yba.func9, Yba.ntmps9
  go_wp2
  exact bodyPost_ret (v := .agg #[.string ⟨#[]⟩, .pointer none]) (by simp [results, Yba.results9, go_sem]) rfl ⟨rfl, rfl⟩

end Go.Proofs.Ybulkcwig.Param
