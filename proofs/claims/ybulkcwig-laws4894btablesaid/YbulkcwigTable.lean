/-
  'parameter' (function 9) and 'zzs4894bwant' (function 10) compute ONE plain function, 'want'.
-/
import Derived.Test.YbulkcwigParam
namespace Go.Proofs.Ybulkcwig.Table
open Go.RowKit Go.Proofs.Ybulkcwig.Param

def want (t : Int) (hasOp hasUe : Bool) (arg res errp : ByteArray) : ByteArray :=
  if hasOp = true ∧ t = 1 then arg else if hasOp = true ∧ (t = 2 ∨ t = 3) then res else if hasUe = true ∧ t = 4 then errp else ⟨#[]⟩

theorem want_calls (t : Int) (hasOp hasUe : Bool) (arg res errp : ByteArray) (w : World) :
    Calls Yba.prog 10 #[.int .u8 t, .bool hasOp, .bool hasUe, .string arg, .string res, .string errp] w fun e w' => e = .returned (.string (want t hasOp hasUe arg res errp)) ∧ w' = w := by
  by_cases h1 : t = 1
  · subst h1
    cases hasOp
    · cases hasUe <;> (go_enter Yba.func10, Yba.ntmps10; go_wp2; go_ret; exact ⟨by simp [want], rfl⟩)
    · cases hasUe <;> (go_enter Yba.func10, Yba.ntmps10; go_wp2; go_ret; exact ⟨by simp [want], rfl⟩)
  by_cases h2 : t = 2
  · subst h2
    cases hasOp
    · cases hasUe <;> (go_enter Yba.func10, Yba.ntmps10; go_wp2; go_ret; exact ⟨by simp [want], rfl⟩)
    · cases hasUe <;> (go_enter Yba.func10, Yba.ntmps10; go_wp2; go_ret; exact ⟨by simp [want], rfl⟩)
  by_cases h3 : t = 3
  · subst h3
    cases hasOp
    · cases hasUe <;> (go_enter Yba.func10, Yba.ntmps10; go_wp2; go_ret; exact ⟨by simp [want], rfl⟩)
    · cases hasUe <;> (go_enter Yba.func10, Yba.ntmps10; go_wp2; go_ret; exact ⟨by simp [want], rfl⟩)
  by_cases h4 : t = 4
  · subst h4
    cases hasOp
    · cases hasUe <;> (go_enter Yba.func10, Yba.ntmps10; go_wp2; go_ret; exact ⟨by simp [want], rfl⟩)
    · cases hasUe <;> (go_enter Yba.func10, Yba.ntmps10; go_wp2; go_ret; exact ⟨by simp [want], rfl⟩)
  have e : want t hasOp hasUe arg res errp = ⟨#[]⟩ := by simp [want, h1, h2, h3, h4]
  rw [e]
  have g1 : (t == 1) = false := by simpa using h1
  have g2 : (t == 2) = false := by simpa using h2
  have g3 : (t == 3) = false := by simpa using h3
  have g4 : (t == 4) = false := by simpa using h4
  clear h1 h2 h3 h4 e
  cases hasOp
  · cases hasUe <;> (go_enter Yba.func10, Yba.ntmps10; go_wp2; go_ret; exact ⟨rfl, rfl⟩)
  · cases hasUe <;> (go_enter Yba.func10, Yba.ntmps10; go_wp2; go_ret; exact ⟨rfl, rfl⟩)

/-- 'op' leads to an Operation whose two parameters are named 'arg', 'res'. -/
structure HasOp (w : World) (a : Nat) (arg res : ByteArray) : Prop where
  lt : a < w.heap.size
  c2 : w.cell? ⟨a, 2, none⟩ = some (.string arg)
  c3 : w.cell? ⟨a, 3, none⟩ = some (.pointer none)
  c4 : w.cell? ⟨a, 4, none⟩ = some (.string res)
  c5 : w.cell? ⟨a, 5, none⟩ = some (.pointer none)
structure HasUe (w : World) (b : Nat) (errp : ByteArray) : Prop where
  lt : b < w.heap.size
  c2 : w.cell? ⟨b, 2, none⟩ = some (.string errp)
  c3 : w.cell? ⟨b, 3, none⟩ = some (.pointer none)

abbrev Ret (op ue : Value) (nm : ByteArray) (t : Int) (w : World) : Prop :=
  Calls Yba.prog 9 #[.agg #[op, ue], .int .u8 t] w fun e w' => e = .returned (.agg #[.string nm, .pointer none]) ∧ w' = after op ue nm w

theorem p11 (a b : Nat) (arg res errp : ByteArray) (t : Int) (w : World) (ho : HasOp w a arg res) (hu : HasUe w b errp) :
    Ret (.pointer (some ⟨a, 0, none⟩)) (.pointer (some ⟨b, 0, none⟩)) (want t true true arg res errp) t w := by
  by_cases h1 : t = 1
  · subst h1; exact p_arg a _ arg w ho.lt ho.c2 ho.c3
  by_cases h2 : t = 2 ∨ t = 3
  · have e : want t true true arg res errp = res := by simp [want, h1, h2]
    rw [e]; exact p_res a _ res t w h2 ho.lt ho.c4 ho.c5
  by_cases h4 : t = 4
  · subst h4; exact p_err b _ errp w hu.lt hu.c2 hu.c3
  · have e : want t true true arg res errp = ⟨#[]⟩ := by simp [want, h1, h2, h4]
    rw [e]; exact p_else _ _ t w (by simpa using h1) (by simpa using fun h => h2 (.inl h)) (by simpa using fun h => h2 (.inr h)) (by simpa using h4)

theorem p10 (a : Nat) (arg res errp : ByteArray) (t : Int) (w : World) (ho : HasOp w a arg res) :
    Ret (.pointer (some ⟨a, 0, none⟩)) (.pointer none) (want t true false arg res errp) t w := by
  by_cases h1 : t = 1
  · subst h1; exact p_arg a _ arg w ho.lt ho.c2 ho.c3
  by_cases h2 : t = 2 ∨ t = 3
  · have e : want t true false arg res errp = res := by simp [want, h1, h2]
    rw [e]; exact p_res a _ res t w h2 ho.lt ho.c4 ho.c5
  by_cases h4 : t = 4
  · subst h4; exact p_noue _ w
  · have e : want t true false arg res errp = ⟨#[]⟩ := by simp [want, h1, h2]
    rw [e]; exact p_else _ _ t w (by simpa using h1) (by simpa using fun h => h2 (.inl h)) (by simpa using fun h => h2 (.inr h)) (by simpa using h4)

theorem p01 (b : Nat) (arg res errp : ByteArray) (t : Int) (w : World) (hu : HasUe w b errp) :
    Ret (.pointer none) (.pointer (some ⟨b, 0, none⟩)) (want t false true arg res errp) t w := by
  by_cases h1 : t = 1 ∨ t = 2 ∨ t = 3
  · have e : want t false true arg res errp = ⟨#[]⟩ := by rcases h1 with rfl | rfl | rfl <;> simp [want]
    rw [e]; exact p_noop _ t w h1
  by_cases h4 : t = 4
  · subst h4; exact p_err b _ errp w hu.lt hu.c2 hu.c3
  · have e : want t false true arg res errp = ⟨#[]⟩ := by simp [want, h4]
    rw [e]; exact p_else _ _ t w (by simpa using fun h => h1 (.inl h)) (by simpa using fun h => h1 (.inr (.inl h))) (by simpa using fun h => h1 (.inr (.inr h))) (by simpa using h4)

theorem p00 (arg res errp : ByteArray) (t : Int) (w : World) :
    Ret (.pointer none) (.pointer none) (want t false false arg res errp) t w := by
  have e : want t false false arg res errp = ⟨#[]⟩ := by simp [want]
  rw [e]
  by_cases h1 : t = 1 ∨ t = 2 ∨ t = 3
  · exact p_noop _ t w h1
  by_cases h4 : t = 4
  · subst h4; exact p_noue _ w
  · exact p_else _ _ t w (by simpa using fun h => h1 (.inl h)) (by simpa using fun h => h1 (.inr (.inl h))) (by simpa using fun h => h1 (.inr (.inr h))) (by simpa using h4)

end Go.Proofs.Ybulkcwig.Table
