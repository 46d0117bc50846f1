/-
  'window.last' (14), 'window.get' (13), 'Learnt' (12), 'knows' (10).
-/
import Derived.Test.YbulkcwiuMap
import Derived.Deep.QuietTactic
import Derived.BigQuiet
import Derived.Laws.BytesArg
namespace Go.Proofs.Ybulkcwiu.Hold
open Go.RowKit Go.Maps

theorem drewN_drewN (w : World) (a b : Nat) : (w.drewN a).drewN b = w.drewN (a + b) := by simp [World.drewN, Nat.add_assoc]

set_option maxHeartbeats 400000 in
theorem last_any (p o n g : Nat) (b : Int) (w : World) (h0 : -1000 ≤ b) (h1 : b ≤ 1000) (hn : n ≤ 1024) (c0 : w.cell? ⟨p, o, none⟩ = some (.int .i64 b)) (c1 : w.cell? ⟨p, o + 1, none⟩ = some (.slice (some ⟨g, 0, none⟩) n n)) :
    Calls Yba.prog 14 #[.pointer (some ⟨p, o, none⟩)] w fun e w' => e = .returned (.int .i64 (b + n)) ∧ ∃ q, w' = w.drewN q := by
  go_enter Yba.func14, Yba.ntmps14
  go_wp2
  go_quiet (fail)
  go_wp2
  go_ret
  exact ⟨rfl, _, rfl⟩

/-- THE LOG's ROW: at the places that were learnt a message whose payload is one byte, at the others nil. -/
def AtRow (w : World) (g n : Nat) (L : Nat → Bool) : Prop :=
  ∀ k, k < n → (L k = false → w.cell? ⟨g, k, none⟩ = some (.pointer none)) ∧ (L k = true → ∃ c d cp, w.cell? ⟨g, k, none⟩ = some (.pointer (some ⟨c, 0, none⟩)) ∧ w.cell? ⟨c, 4, none⟩ = some (.slice (some ⟨d, 0, none⟩) 1 cp) ∧ w.cell? ⟨d, 0, none⟩ = some (.int .u8 118))

/-- Where the slot lies in the window. -/
def inWin (b : Int) (n : Nat) (s : Int) : Prop := b < s ∧ s ≤ b + n

set_option maxHeartbeats 400000 in
theorem get_out (p o n g : Nat) (b s : Int) (w : World) (h0 : -1000 ≤ b) (h1 : b ≤ 1000) (hn : n ≤ 1024) (hs : ¬ inWin b n s) (c0 : w.cell? ⟨p, o, none⟩ = some (.int .i64 b)) (c1 : w.cell? ⟨p, o + 1, none⟩ = some (.slice (some ⟨g, 0, none⟩) n n)) :
    Calls Yba.prog 13 #[.pointer (some ⟨p, o, none⟩), .int .i64 s] w fun e w' => e = .returned (.pointer none) ∧ ∃ q, w' = w.drewN q := by
  by_cases hle : s ≤ b
  · clear hs
    go_enter Yba.func13, Yba.ntmps13
    go_wp2
    go_ret
    exact ⟨rfl, 0, rfl⟩
  · have hgt : b + n < s := by unfold inWin at hs; omega
    clear hs
    go_enter Yba.func13, Yba.ntmps13
    go_wp2_with fail
    refine (last_any p o n g b _ h0 h1 hn c0 c1).mono ?_
    rintro e w' ⟨rfl, q, rfl⟩
    go_wp2
    go_ret
    exact ⟨rfl, q, rfl⟩

set_option maxHeartbeats 400000 in
theorem get_in (p o n g k : Nat) (b s : Int) (v : Option Addr) (w : World) (h0 : -1000 ≤ b) (h1 : b ≤ 1000) (hn : n ≤ 1024) (hb : b < s) (hs : s ≤ b + n) (hk : s - b - 1 = (k : Int)) (c0 : w.cell? ⟨p, o, none⟩ = some (.int .i64 b)) (c1 : w.cell? ⟨p, o + 1, none⟩ = some (.slice (some ⟨g, 0, none⟩) n n))
    (cv : w.cell? ⟨g, k, none⟩ = some (.pointer v)) :
    Calls Yba.prog 13 #[.pointer (some ⟨p, o, none⟩), .int .i64 s] w fun e w' => e = .returned (.pointer v) ∧ ∃ q, w' = w.drewN q := by
  have i1 : (k : Int) < (n : Int) := by omega
  go_enter Yba.func13, Yba.ntmps13
  go_wp2_with fail
  refine (last_any p o n g b _ h0 h1 hn c0 c1).mono ?_
  rintro e w' ⟨rfl, q, rfl⟩
  go_wp2
  go_quiet (fail)
  go_wp2
  go_ret
  exact ⟨rfl, _, (drewN_drewN _ _ _)⟩

/-- What the log says of slot s. -/
def lrn (b : Int) (n : Nat) (L : Nat → Bool) (s : Int) : Bool := decide (b < s) && decide (s ≤ b + n) && L (s - b - 1).toNat

theorem AtRow.later {w w' : World} {g n : Nat} {L : Nat → Bool} (h : AtRow w g n L) (hc : ∀ a v, w.cell? a = some v → w'.cell? a = some v) : AtRow w' g n L := fun k hk =>
  ⟨fun hl => hc _ _ ((h k hk).1 hl), fun hl => by
    obtain ⟨c, d, cp, h1, h2, h3⟩ := (h k hk).2 hl
    exact ⟨c, d, cp, hc _ _ h1, hc _ _ h2, hc _ _ h3⟩⟩

set_option maxHeartbeats 1000000 in
theorem learnt_any (p n g : Nat) (b s : Int) (L : Nat → Bool) (w : World) (h0 : -1000 ≤ b) (h1 : b ≤ 1000) (hn : n ≤ 1024) (c0 : w.cell? ⟨p, 15, none⟩ = some (.int .i64 b)) (c1 : w.cell? ⟨p, 16, none⟩ = some (.slice (some ⟨g, 0, none⟩) n n)) (hrow : AtRow w g n L) :
    Calls Yba.prog 12 #[.pointer (some ⟨p, 0, none⟩), .int .i64 s] w fun e w' => ∃ x : ByteArray, e = .returned (.tuple #[.string x, .bool (lrn b n L s)]) ∧ ∃ q, w' = w.drewN q := by
  by_cases hs : inWin b n s
  · obtain ⟨hb, hs⟩ := hs
    obtain ⟨k, hk⟩ : ∃ k : Nat, s - b - 1 = (k : Int) := ⟨(s - b - 1).toNat, by omega⟩
    have hkn : k < n := by omega
    obtain ⟨hf, ht⟩ := hrow k hkn
    have hL : lrn b n L s = L k := by
      unfold lrn
      rw [hk, Int.toNat_natCast]
      simp [hb, hs]
    rw [hL]
    clear hL hrow
    cases hv : L k with
    | false =>
      have cv := hf hv
      clear hf ht
      go_enter Yba.func12, Yba.ntmps12
      go_wp2_with fail
      refine (get_in p 15 n g k b s none _ h0 h1 hn hb hs hk c0 c1 cv).mono ?_
      rintro e w' ⟨rfl, q, rfl⟩
      go_wp2
      go_ret2
      exact ⟨_, rfl, q, rfl⟩
    | true =>
      obtain ⟨c, d, cp, cv, c4, cd⟩ := ht hv
      clear hf ht
      have hcd : ∀ i, i < 1 → w.cell? ⟨d, 0 + i, none⟩ = some (.int .u8 ([118].getD i 0)) := fun i hi => by
        obtain rfl : i = 0 := by omega
        exact cd
      have hcv : ∀ q, (convert 28 9 (.slice (some ⟨d, 0, none⟩) 1 cp)).run Yba.prog (w.drewN q) = .ok (.string (strOfNums [118])) (w.drewN q) := fun q =>
        run_convert_bytes_arg (P := Yba.prog) (w.drewN q) 28 5 Yba.underlying28 Yba.underlying5 d 0 1 cp [118] rfl hcd 9 Yba.underlying9
      clear hcd
      go_enter Yba.func12, Yba.ntmps12
      go_wp2_with fail
      refine (get_in p 15 n g k b s (some ⟨c, 0, none⟩) _ h0 h1 hn hb hs hk c0 c1 cv).mono ?_
      rintro e w' ⟨rfl, q, rfl⟩
      go_wp2
      go_ret2
      exact ⟨_, rfl, q, rfl⟩
  · have hL : lrn b n L s = false := by
      unfold lrn inWin at *
      by_cases h : b < s <;> simp [h] <;> omega
    rw [hL]
    clear hL hrow
    go_enter Yba.func12, Yba.ntmps12
    go_wp2_with fail
    refine (get_out p 15 n g b s _ h0 h1 hn hs c0 c1).mono ?_
    rintro e w' ⟨rfl, q, rfl⟩
    clear hs
    go_wp2
    go_ret2
    exact ⟨_, rfl, q, rfl⟩

set_option maxHeartbeats 1000000 in
theorem knows_at (r : Bool) (o : Option Value) (p n g mD nD sD : Nat) (b s : Int) (L : Nat → Bool) (fd : Lit → Option Value) (w : World) (h0 : -1000 ≤ b) (h1 : b ≤ 1000) (hn : n ≤ 1024) (s0 : -1000 ≤ s) (s1 : s ≤ 1000) (c0 : w.cell? ⟨p, 15, none⟩ = some (.int .i64 b)) (c1 : w.cell? ⟨p, 16, none⟩ = some (.slice (some ⟨g, 0, none⟩) n n)) (hrow : AtRow w g n L)
    (c2 : w.cell? ⟨p, 30, none⟩ = some (.map (some mD))) (hM : MapAt w 3 mD nD fd sD) (hr : Hid (lrn b n L s = r)) (ho : Hid (fd (.int .i64 s) = o)) :
    Calls Yba.prog 10 #[.pointer (some ⟨p, 0, none⟩), .int .i64 s] w fun e w' => e = .returned (.bool (decide (s ≤ b) || r || o.isSome)) ∧ ∃ q, w' = w.drewN q := by
  have HM : Hid (MapAt w 3 mD nD fd sD) := hM
  have HR : Hid (AtRow w g n L) := hrow
  clear hM hrow
  by_cases hle : s ≤ b
  all_goals
    cases r
    all_goals
      cases o
      all_goals
        go_enter Yba.func10, Yba.ntmps10
        go_wp2_with fail
        refine (learnt_any p n g b s L _ h0 h1 hn c0 c1 HR.out).mono ?_
        rintro e w' ⟨x, rfl, q, rfl⟩
        have hM1 : MapAt (w.drewN q) 3 mD nD fd sD := HM.out.block rfl
        have hlk := hM1.look_ok K3 Yba.underlying36 (zero9 _) (key3 s0 s1)
        rw [hr.out]
        rw [ho.out] at hlk
        clear hM1
        go_wp2
        go_ret
        exact ⟨by simp <;> omega, q, rfl⟩

theorem knows_any (p n g mD nD sD : Nat) (b s : Int) (L : Nat → Bool) (fd : Lit → Option Value) (w : World) (h0 : -1000 ≤ b) (h1 : b ≤ 1000) (hn : n ≤ 1024) (s0 : -1000 ≤ s) (s1 : s ≤ 1000) (c0 : w.cell? ⟨p, 15, none⟩ = some (.int .i64 b)) (c1 : w.cell? ⟨p, 16, none⟩ = some (.slice (some ⟨g, 0, none⟩) n n)) (hrow : AtRow w g n L)
    (c2 : w.cell? ⟨p, 30, none⟩ = some (.map (some mD))) (hM : MapAt w 3 mD nD fd sD) :
    Calls Yba.prog 10 #[.pointer (some ⟨p, 0, none⟩), .int .i64 s] w fun e w' => e = .returned (.bool (decide (s ≤ b) || lrn b n L s || (fd (.int .i64 s)).isSome)) ∧ ∃ q, w' = w.drewN q :=
  knows_at _ _ p n g mD nD sD b s L fd w h0 h1 hn s0 s1 c0 c1 hrow c2 hM rfl rfl

end Go.Proofs.Ybulkcwiu.Hold
