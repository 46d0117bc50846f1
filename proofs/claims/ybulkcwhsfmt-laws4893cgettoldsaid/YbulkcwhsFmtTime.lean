/-
  TIME: '(time.Time).Add' of the zero time (function 12), '(time.Time).Equal' (function 14).
-/
import Derived.Test.YbulkcwhsFmtRows
import Derived.WalkKit
import Derived.WalkSpells
import Derived.WalkLawsBesides
namespace Go.Proofs.YbulkcwhsFmt.Tm
open Go.RowKit

/-! ### The bits -/
theorem mono_fin : ∀ n : Fin 1025, bits BinOp.and IntKind.u64 (n.val : Int) 9223372036854775808 = 0 := by decide +kernel
theorem or_fin : ∀ n : Fin 1025, bits BinOp.or IntKind.u64 0 (n.val : Int) = (n.val : Int) := by decide +kernel
theorem mask_fin : ∀ n : Fin 1025, bits BinOp.and IntKind.u64 (n.val : Int) 1073741823 = (n.val : Int) := by decide +kernel
theorem self_fin : ∀ n : Fin 1025, bits BinOp.and IntKind.u64 (bits BinOp.and IntKind.u64 (n.val : Int) (n.val : Int)) 9223372036854775808 = 0 := by decide +kernel
theorem fin_of {i : Int} (h0 : 0 ≤ i) (h1 : i ≤ 1024) : ∃ n : Fin 1025, (n.val : Int) = i := ⟨⟨i.toNat, by omega⟩, by simp; omega⟩
theorem mono_test {i : Int} (h0 : 0 ≤ i) (h1 : i ≤ 1024) : (bits BinOp.and IntKind.u64 i 9223372036854775808 != 0) = false := by
  obtain ⟨n, rfl⟩ := fin_of h0 h1; rw [mono_fin]; rfl
theorem self_test {i : Int} (h0 : 0 ≤ i) (h1 : i ≤ 1024) : (bits BinOp.and IntKind.u64 (bits BinOp.and IntKind.u64 i i) 9223372036854775808 != 0) = false := by
  obtain ⟨n, rfl⟩ := fin_of h0 h1; rw [self_fin]; rfl
theorem or_zero {i : Int} (h0 : 0 ≤ i) (h1 : i ≤ 1024) : bits BinOp.or IntKind.u64 0 i = i := by
  obtain ⟨n, rfl⟩ := fin_of h0 h1; exact or_fin n
theorem mask_id {i : Int} (h0 : 0 ≤ i) (h1 : i ≤ 1024) : bits BinOp.and IntKind.u64 i 1073741823 = i := by
  obtain ⟨n, rfl⟩ := fin_of h0 h1; exact mask_fin n

set_option maxHeartbeats 400000 in
theorem nsec_any (b : Nat) (i : Int) (w : World) (h0 : 0 ≤ i) (h1 : i ≤ 1024) (hc : w.cell? ⟨b, 0, none⟩ = some (.int .u64 i)) :
    Calls Ybaf.prog 22 #[.pointer (some ⟨b, 0, none⟩)] w fun e w' => e = .returned (.int .i32 i) ∧ w' = w := by
  have hm := mask_id h0 h1
  go_enter Ybaf.func22, Ybaf.ntmps22
  go_wp2
  go_ret
  exact ⟨rfl, rfl⟩

set_option maxHeartbeats 400000 in
theorem sec_any (b : Nat) (i : Int) (w : World) (h0 : 0 ≤ i) (h1 : i ≤ 1024) (hc : w.cell? ⟨b, 0, none⟩ = some (.int .u64 i)) (hc1 : w.cell? ⟨b, 1, none⟩ = some (.int .i64 0)) :
    Calls Ybaf.prog 27 #[.pointer (some ⟨b, 0, none⟩)] w fun e w' => e = .returned (.int .i64 0) ∧ w' = w := by
  have hm := mono_test h0 h1
  go_enter Ybaf.func27, Ybaf.ntmps27
  go_wp2
  go_ret
  exact ⟨rfl, rfl⟩

set_option maxHeartbeats 400000 in
theorem addSec_zero (b : Nat) (i : Int) (w : World) (h0 : 0 ≤ i) (h1 : i ≤ 1024) (hc : w.cell? ⟨b, 0, none⟩ = some (.int .u64 i)) (hc1 : w.cell? ⟨b, 1, none⟩ = some (.int .i64 0)) (hf : w.frozen? ⟨b, 1, none⟩ = false) :
    Calls Ybaf.prog 23 #[.pointer (some ⟨b, 0, none⟩), .int .i64 0] w fun e w' => e = .returned (.tuple #[]) ∧ w' = w.setCell ⟨b, 1, none⟩ (.int .i64 0) := by
  have hm := mono_test h0 h1
  go_enter Ybaf.func23, Ybaf.ntmps23
  go_wp2
  go_end0
  exact ⟨rfl, rfl⟩

set_option maxHeartbeats 400000 in
theorem add_any (i : Int) (w : World) (h0 : 0 ≤ i) (h1 : i ≤ 1024) :
    Calls Ybaf.prog 12 #[.agg #[.int .u64 0, .int .i64 0, .pointer none], .int .i64 i] w fun e w' => e = .returned (.agg #[.int .u64 i, .int .i64 0, .pointer none]) ∧
      w' = (w.alloc (.cells #[.int .u64 i, .int .i64 0, .pointer none] 47)).alloc (.cells #[.int .u64 i, .int .i64 0, .pointer none] 47) := by
  have hm := mono_test h0 h1
  have ho := or_zero h0 h1
  have ha : bits BinOp.andNot IntKind.u64 0 1073741823 = 0 := by decide +kernel
  have hq : i / 1000000000 = 0 := by omega
  have hr : i % 1000000000 = i := by omega
  go_enter Ybaf.func12, Ybaf.ntmps12
  go_wp2_with fail
  refine (nsec_any _ 0 _ (by omega) (by omega) (by go_simp)).mono ?_
  rintro e w' ⟨rfl, rfl⟩
  go_wp2_with fail
  refine (addSec_zero _ i _ h0 h1 (by go_simp) (by go_simp) (by go_simp)).mono ?_
  rintro e w' ⟨rfl, rfl⟩
  go_wp2
  exact bodyPost_ret (v := .agg #[.int .u64 i, .int .i64 0, .pointer none]) (by simp [results, Ybaf.results12, go_sem]) rfl ⟨rfl, rfl⟩

set_option maxHeartbeats 400000 in
/-- Of two times that the law has made: the same one. -/
theorem equal_any (i : Int) (w : World) (h0 : 0 ≤ i) (h1 : i ≤ 1024) :
    Calls Ybaf.prog 14 #[.agg #[.int .u64 i, .int .i64 0, .pointer none], .agg #[.int .u64 i, .int .i64 0, .pointer none]] w fun e w' => e = .returned (.bool true) ∧
      w' = (w.alloc (.cells #[.int .u64 i, .int .i64 0, .pointer none] 47)).alloc (.cells #[.int .u64 i, .int .i64 0, .pointer none] 47) := by
  have hm := self_test h0 h1
  go_enter Ybaf.func14, Ybaf.ntmps14
  go_wp2_with fail
  refine (sec_any _ i _ h0 h1 (by go_simp) (by go_simp)).mono ?_
  rintro e w' ⟨rfl, rfl⟩
  go_wp2_with fail
  refine (sec_any _ i _ h0 h1 (by go_simp) (by go_simp)).mono ?_
  rintro e w' ⟨rfl, rfl⟩
  go_wp2_with fail
  refine (nsec_any _ i _ h0 h1 (by go_simp)).mono ?_
  rintro e w' ⟨rfl, rfl⟩
  go_wp2_with fail
  refine (nsec_any _ i _ h0 h1 (by go_simp)).mono ?_
  rintro e w' ⟨rfl, rfl⟩
  go_wp2
  go_ret
  exact ⟨by simp, rfl⟩

end Go.Proofs.YbulkcwhsFmt.Tm
