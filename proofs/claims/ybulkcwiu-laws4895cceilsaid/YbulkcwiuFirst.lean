import Derived.Test.YbulkcwiuRows
import Derived.WalkKit
import Derived.WalkSpells
import Derived.WalkLawsBesides
namespace Go.Proofs.Ybulkcwiu.First
open Go.RowKit

theorem ok_yes (i at_ : Int) (w : World) (h1 : 1 ≤ i) (h2 : i ≤ 1000000000000) (h3 : 0 ≤ at_) (h4 : at_ ≤ 1000000000000000) :
    Calls Yba.prog 7 #[.int .i64 i, .int .i64 at_] w fun e w' => e = .returned (.bool true) ∧ w' = w := by
  go_enter Yba.func7, Yba.ntmps7
  go_wp2
  go_ret
  exact ⟨rfl, rfl⟩

theorem ok_no (i at_ : Int) (w : World) (h : ¬ (1 ≤ i ∧ i ≤ 1000000000000 ∧ 0 ≤ at_ ∧ at_ ≤ 1000000000000000)) :
    Calls Yba.prog 7 #[.int .i64 i, .int .i64 at_] w fun e w' => e = .returned (.bool false) ∧ w' = w := by
  by_cases h1 : 1 ≤ i
  · by_cases h2 : i ≤ 1000000000000
    · by_cases h3 : 0 ≤ at_
      · have h4 : ¬ at_ ≤ 1000000000000000 := fun h4 => h ⟨h1, h2, h3, h4⟩
        clear h
        go_enter Yba.func7, Yba.ntmps7
        go_wp2
        go_ret
        exact ⟨rfl, rfl⟩
      · clear h
        go_enter Yba.func7, Yba.ntmps7
        go_wp2
        go_ret
        exact ⟨rfl, rfl⟩
    · clear h
      go_enter Yba.func7, Yba.ntmps7
      go_wp2
      go_ret
      exact ⟨rfl, rfl⟩
  · clear h
    go_enter Yba.func7, Yba.ntmps7
    go_wp2
    go_ret
    exact ⟨rfl, rfl⟩

/-- The round that FirstRound answers. -/
def fr (i a : Int) : Int := if a % i = 0 ∧ ¬ a / i = 0 then a / i else a / i + 1

/-! ### THE PLAIN LAWS: no Go in sight -/
theorem q_bd {i a : Int} (h1 : 1 ≤ i) (h3 : 0 ≤ a) : 0 ≤ a / i ∧ a / i ≤ a :=
  ⟨Int.ediv_nonneg h3 (by omega), Int.ediv_le_self i h3⟩

theorem ceil_eq {i a : Int} (h1 : 1 ≤ i) : (a + i - 1) / i = if a % i = 0 then a / i else a / i + 1 := by
  have hd := Int.mul_ediv_add_emod a i
  have hr0 := Int.emod_nonneg a (show i ≠ 0 by omega)
  have hr1 := Int.emod_lt_of_pos a (show 0 < i by omega)
  generalize hq : a / i = q at *
  generalize hr : a % i = r at *
  by_cases h : r = 0
  · rw [if_pos h]
    have e : a + i - 1 = (i - 1) + i * q := by omega
    rw [e, Int.add_mul_ediv_left _ _ (by omega), Int.ediv_eq_zero_of_lt (by omega) (by omega)]
    omega
  · rw [if_neg h]
    have e : a + i - 1 = (r - 1) + i * (q + 1) := by rw [Int.mul_add]; omega
    rw [e, Int.add_mul_ediv_left _ _ (by omega), Int.ediv_eq_zero_of_lt (by omega) (by omega)]
    omega

theorem fr_ceil {i a : Int} (h1 : 1 ≤ i) (h3 : 0 ≤ a) : fr i a = if (a + i - 1) / i < 1 then 1 else (a + i - 1) / i := by
  have hb := q_bd h1 h3
  rw [ceil_eq h1]
  unfold fr
  generalize a / i = q at *
  generalize a % i = r at *
  by_cases h : r = 0
  · by_cases hq : q = 0
    · simp [h, hq]
    · simp [h, hq]; omega
  · simp [h]; omega

theorem fr_pos {i a : Int} (h1 : 1 ≤ i) (h3 : 0 ≤ a) : 1 ≤ fr i a := by
  have hb := q_bd h1 h3
  unfold fr
  generalize a / i = q at *
  split <;> omega

theorem fr_le {i a : Int} (h1 : 1 ≤ i) (h3 : 0 ≤ a) : fr i a ≤ a + 1 := by
  have hb := q_bd h1 h3
  unfold fr
  generalize a / i = q at *
  split <;> omega

/-- Its start is at or after a; the round before starts before a; and no product overflows. -/
theorem fr_mul {i a : Int} (h1 : 1 ≤ i) (h3 : 0 ≤ a) : a ≤ fr i a * i ∧ fr i a * i ≤ a + i ∧ (1 < fr i a → (fr i a - 1) * i < a) := by
  have hb := q_bd h1 h3
  have hd := Int.mul_ediv_add_emod a i
  have hr0 := Int.emod_nonneg a (show i ≠ 0 by omega)
  have hr1 := Int.emod_lt_of_pos a (show 0 < i by omega)
  unfold fr
  generalize a / i = q at *
  generalize a % i = r at *
  have e : q * i = i * q := Int.mul_comm _ _
  by_cases h : r = 0 ∧ ¬ q = 0
  · rw [if_pos h]
    obtain ⟨hr, _⟩ := h
    refine ⟨by omega, by omega, fun _ => ?_⟩
    rw [Int.sub_mul, Int.one_mul]; omega
  · rw [if_neg h]
    have e2 : (q + 1) * i = i * q + i := by rw [Int.add_mul]; omega
    refine ⟨by omega, by omega, fun hlt => ?_⟩
    have e3 : (q + 1 - 1) * i = i * q := by rw [Int.add_sub_cancel]; exact e
    rw [e3]
    have : ¬ r = 0 := fun hr => h ⟨hr, by omega⟩
    omega

theorem fr_rounds {i a : Int} (h1 : 1 ≤ i) (h3 : 1 ≤ a) : fr i a = (a - 1) / i + 1 := by
  have hd := Int.mul_ediv_add_emod a i
  have hr0 := Int.emod_nonneg a (show i ≠ 0 by omega)
  have hr1 := Int.emod_lt_of_pos a (show 0 < i by omega)
  unfold fr
  generalize a / i = q at *
  generalize a % i = r at *
  by_cases h : r = 0
  · have hq : ¬ q = 0 := by rintro rfl; simp at hd; omega
    rw [if_pos ⟨h, hq⟩]
    have e : a - 1 = (i - 1) + i * (q - 1) := by rw [Int.mul_sub]; omega
    rw [e, Int.add_mul_ediv_left _ _ (by omega), Int.ediv_eq_zero_of_lt (by omega) (by omega)]
    omega
  · rw [if_neg (fun hh => h hh.1)]
    have e : a - 1 = (r - 1) + i * q := by omega
    rw [e, Int.add_mul_ediv_left _ _ (by omega), Int.ediv_eq_zero_of_lt (by omega) (by omega)]
    omega

theorem hide {p : Prop} (h : p) : Hid p := h
theorem ret_int {k : IntKind} {a b : Int} (h : a = b) : Ending.returned (.int k a) = .returned (.int k b) := by rw [h]

theorem first_any (i o at_ : Int) (w : World) (h1 : 1 ≤ i) (h2 : i ≤ 1000000000000) (h3 : 0 ≤ at_) (h4 : at_ ≤ 1000000000000000) :
    Calls Yba.prog 8 #[.agg #[.int .i64 i, .int .i64 o], .int .i64 at_] w fun e w' => e = .returned (.int .i64 (fr i at_)) ∧ w' = w.alloc (.cells #[.int .i64 i, .int .i64 o] 79) := by
  have hb := q_bd h1 h3
  obtain ⟨hb0, hb1⟩ := hb
  go_enter Yba.func8, Yba.ntmps8
  go_wp2
  all_goals
    go_ret
    refine ⟨ret_int ?_, rfl⟩
    unfold fr
    simp_all

theorem rounds_any (i o at_ : Int) (w : World) (h1 : 1 ≤ i) (h2 : i ≤ 1000000000000) (h3 : 0 ≤ at_) (h4 : at_ ≤ 1000000000000000) :
    Calls Yba.prog 9 #[.agg #[.int .i64 i, .int .i64 o], .int .i64 at_] w fun e w' => e = .returned (.int .i64 (at_ / i)) ∧ w' = w.alloc (.cells #[.int .i64 i, .int .i64 o] 79) := by
  go_enter Yba.func9, Yba.ntmps9
  go_wp2
  go_ret
  exact ⟨rfl, rfl⟩

end Go.Proofs.Ybulkcwiu.First
