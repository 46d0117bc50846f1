/-
  'LawS4895BHold' (function 3) where a slice is long: it returns true at once.
-/
import Derived.Test.YbulkcwiuLawH
namespace Go.Proofs.Ybulkcwiu.Hold
open Go.RowKit Go.Maps

set_option maxHeartbeats 1000000 in
set_option maxRecDepth 100000 in
theorem big (a0 a8 : Int) (p1 p2 p3 p4 p5 p6 p7 : Option Addr) (n1 c1 n2 c2 n3 c3 n4 c4 n5 c5 n6 c6 n7 c7 : Nat) (a9 : ByteArray) (a10 : Bool) (w : World)
    (h : ¬ (n1 ≤ 1024 ∧ n2 ≤ 1024 ∧ n3 ≤ 1024 ∧ n4 ≤ 1024 ∧ n5 ≤ 1024 ∧ n6 ≤ 1024 ∧ n7 ≤ 1024)) :
    Calls Yba.prog 3 #[.int .i8 a0, .slice p1 n1 c1, .slice p2 n2 c2, .slice p3 n3 c3, .slice p4 n4 c4, .slice p5 n5 c5, .slice p6 n6 c6, .slice p7 n7 c7, .int .i8 a8, .string a9, .bool a10] w fun e w' => e = .returned (.bool true) ∧ Below w.heap.size w w' := by
  have g : 1024 < n1 ∨ (n1 ≤ 1024 ∧ 1024 < n2) ∨ (n1 ≤ 1024 ∧ n2 ≤ 1024 ∧ 1024 < n3) ∨ (n1 ≤ 1024 ∧ n2 ≤ 1024 ∧ n3 ≤ 1024 ∧ 1024 < n4) ∨ (n1 ≤ 1024 ∧ n2 ≤ 1024 ∧ n3 ≤ 1024 ∧ n4 ≤ 1024 ∧ 1024 < n5) ∨
      (n1 ≤ 1024 ∧ n2 ≤ 1024 ∧ n3 ≤ 1024 ∧ n4 ≤ 1024 ∧ n5 ≤ 1024 ∧ 1024 < n6) ∨ (n1 ≤ 1024 ∧ n2 ≤ 1024 ∧ n3 ≤ 1024 ∧ n4 ≤ 1024 ∧ n5 ≤ 1024 ∧ n6 ≤ 1024 ∧ 1024 < n7) := by omega
  clear h
  rcases g with g1 | ⟨g1, g2⟩ | ⟨g1, g2, g3⟩ | ⟨g1, g2, g3, g4⟩ | ⟨g1, g2, g3, g4, g5⟩ | ⟨g1, g2, g3, g4, g5, g6⟩ | ⟨g1, g2, g3, g4, g5, g6, g7⟩
  all_goals
    go_enter Yba.func3, Yba.ntmps3
    go_wp2
    go_ret
    exact ⟨rfl, Below.refl _ _⟩

end Go.Proofs.Ybulkcwiu.Hold
