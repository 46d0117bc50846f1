/-
  'slices.Equal[[]byte,byte]' (function 8) at two slices of one length that hold the same bytes.
-/
import Derived.Test.YbulkcwigRows
import Derived.WalkKit
import Derived.WalkSpells
import Derived.WalkLawsBesides
import Derived.Deep.QuietTactic
import Derived.BigQuiet
namespace Go.Proofs.Ybulkcwig.Dig
open Go.RowKit

/-- n BYTES AT AN ADDRESS (none of them: whatever address). -/
def Bytes (w : World) (a : Option Addr) (n : Nat) (x : Nat → Int) : Prop :=
  n = 0 ∨ ∃ b o, a = some ⟨b, o, none⟩ ∧ b < w.heap.size ∧ ∀ i, i < n → w.cell? ⟨b, o + i, none⟩ = some (.int .u8 (x i))

theorem Bytes.later {w w' : World} {a : Option Addr} {n : Nat} {x : Nat → Int} (h : Bytes w a n x) (hb : Below w.heap.size w w') : Bytes w' a n x := by
  rcases h with h | ⟨b, o, ha, hl, hc⟩
  · exact .inl h
  · exact .inr ⟨b, o, ha, Nat.lt_of_lt_of_le hl hb.size, fun i hi => (hb.cell (p := ⟨b, o + i, none⟩) hl).trans (hc i hi)⟩

set_option maxHeartbeats 1000000 in
theorem equal_true (a b : Option Addr) (n ca cb : Nat) (x : Nat → Int) (w : World) (hn : n ≤ 100000) (ha : Bytes w a n x) (hb : Bytes w b n x) :
    Calls Yba.prog 8 #[.slice a n ca, .slice b n cb] w fun e w' => e = .returned (.bool true) ∧ Below w.heap.size w w' := by
  have HA : Hid (Bytes w a n x) := ha
  have HB : Hid (Bytes w b n x) := hb
  clear ha hb
  go_enter Yba.func8, Yba.ntmps8
  go_wp2
  go_loopw [13] (fun i wr => ∃ k : Nat, k ≤ n ∧ i = .int .i64 k ∧ Below w.heap.size w wr) (fun i _ => n - (intOf i).toNat)
  case atStart => exact ⟨0, by omega, rfl, Below.refl _ _⟩
  case round =>
    obtain ⟨k, hk, rfl, hbw⟩ := hrel
    by_cases hlt : k < n
    · rcases HA.out.later hbw with h0 | ⟨b1, o1, rfl, hl1, hc1⟩
      · omega
      rcases HB.out.later hbw with h0 | ⟨b2, o2, rfl, hl2, hc2⟩
      · omega
      have c1 := hc1 k hlt
      have c2 := hc2 k hlt
      have i0 : (0 : Int) ≤ (k : Int) := by omega
      have i1 : (k : Int) < (n : Int) := by omega
      clear hc1 hc2
      go_wp2
      go_quiet (fail)
      go_wp2
      go_roundw
      case rel => exact ⟨k + 1, by omega, by go_num, below_drewN hbw _⟩
      case measure => simp [intOf]; omega
    · go_wp2
      go_ret
      exact ⟨rfl, hbw⟩

end Go.Proofs.Ybulkcwig.Dig
