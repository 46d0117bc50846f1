/-
  'appendLarger' (function 11).
-/
import Derived.Test.YbulkcwigGrow
import Derived.RegionTactic
import Derived.BigRegion
namespace Go.Proofs.Ybulkcwig.Dig
open Go.RowKit

theorem nd_of {m c : Nat} (hm : m < 18446744073709551616) (h1 : 1 ≤ c) (h20 : c ≤ 20) (hlo : m / 10 ^ (c - 1) ≠ 0) (hhi : c < 20 → m < 10 ^ c) : Nd m c := by
  refine ⟨h1, h20, ?_, .inr hlo⟩
  by_cases h : c < 20
  · exact Nat.div_eq_of_lt (hhi h)
  · have : c = 20 := by omega
    subst this
    exact Nat.div_eq_of_lt (by omega)

theorem pow_lt {c : Nat} (h : c < 19) : 10 ^ c ≤ 1000000000000000000 := by
  have : 10 ^ c ≤ 10 ^ 18 := Nat.pow_le_pow_right (by omega) (by omega)
  simpa using this

/-- WHAT THE WRITING LOOP KEEPS: the row g1 is there and may be written; its first n bytes are x; so are those of the buffer that came in; the digits at the places D are written. -/
structure Out (w wr : World) (g g1 n nd : Nat) (x : Nat → Int) (m : Nat) (D : Nat → Prop) : Prop where
  below : Below g w wr
  lt : g1 < wr.heap.size
  ge : g ≤ g1
  room : ∀ j, j < n + nd → (wr.cell? ⟨g1, j, none⟩).isSome = true
  free : ∀ j, j < n + nd → wr.frozen? ⟨g1, j, none⟩ = false
  pre : ∀ j, j < n → wr.cell? ⟨g1, j, none⟩ = some (.int .u8 (x j))
  old : ∀ j, j < n → wr.cell? ⟨g, j, none⟩ = some (.int .u8 (x j))
  done : ∀ j, D j → j < nd → wr.cell? ⟨g1, n + j, none⟩ = some (.int .u8 (digs m nd j))

theorem Out.weaken {w wr : World} {g g1 n nd : Nat} {x : Nat → Int} {m : Nat} {D D' : Nat → Prop} (h : Out w wr g g1 n nd x m D) (hd : ∀ j, D' j → j < nd → D j) : Out w wr g g1 n nd x m D' :=
  ⟨h.below, h.lt, h.ge, h.room, h.free, h.pre, h.old, fun j hj hl => h.done j (hd j hj hl) hl⟩

theorem Out.drewN {w wr : World} {g g1 n nd : Nat} {x : Nat → Int} {m : Nat} {D : Nat → Prop} (h : Out w wr g g1 n nd x m D) : Out w wr.drew g g1 n nd x m D :=
  ⟨h.below.drew, h.lt, h.ge, h.room, h.free, h.pre, h.old, h.done⟩

/-- One digit more. -/
theorem Out.put {w wr : World} {g g1 n nd : Nat} {x : Nat → Int} {m : Nat} {D : Nat → Prop} (h : Out w wr g g1 n nd x m D) (i : Nat) (hi : i < nd) {v : Value} (hv : v = .int .u8 (digs m nd i)) :
    Out w (wr.setCell ⟨g1, n + i, none⟩ v) g g1 n nd x m (fun j => D j ∨ j = i) := by
  have hother : ∀ (b j : Nat), (b ≠ g1 ∨ j ≠ n + i) → (wr.setCell ⟨g1, n + i, none⟩ v).cell? ⟨b, j, none⟩ = wr.cell? ⟨b, j, none⟩ := fun b j hj =>
    World.cell?_setCell_other _ _ _ _ (by simp only [ne_eq, Addr.mk.injEq, not_and]; intro h1 h2; rcases hj with hj | hj; exact absurd h1.symm hj; exact absurd h2.symm hj)
  refine ⟨h.below.setCell (p := ⟨g1, n + i, none⟩) h.ge _, by simpa using h.lt, h.ge, fun j hj => ?_, fun j hj => by rw [World.frozen?_setCell]; exact h.free j hj, fun j hj => ?_, fun j hj => ?_, fun j hj hl => ?_⟩
  · by_cases e : j = n + i
    · subst e; rw [World.cell?_setCell_same' _ _ _ (h.room _ hj)]; rfl
    · rw [hother g1 j (.inr e)]; exact h.room j hj
  · rw [hother g1 j (.inr (by omega))]; exact h.pre j hj
  · rw [hother g j (.inr (by omega))]; exact h.old j hj
  · by_cases e : j = i
    · subst e; rw [World.cell?_setCell_same' _ _ _ (h.room _ (by omega)), hv]
    · rw [hother g1 (n + j) (.inr (by omega))]; exact h.done j (hj.resolve_right e) hl

theorem out_start {w w1 : World} {g g1 n nd cap cap1 : Nat} {x : Nat → Int} {m : Nat} (hB : Buf w g n cap x) (hB1 : Buf w1 g1 n cap1 x) (hc : n + nd ≤ cap1)
    (ho : (g1 = g ∧ w1 = w) ∨ (g1 = w.heap.size ∧ Below w.heap.size w w1)) : Out w w1 g g1 n nd x m (fun j => nd ≤ j) := by
  rcases ho with ⟨rfl, rfl⟩ | ⟨rfl, hb⟩
  · exact ⟨Below.refl _ _, hB.lt, Nat.le_refl _, fun j hj => hB1.room j (by omega), fun j hj => hB1.free j (by omega), hB1.at_, hB.at_, fun j h1 h2 => by omega⟩
  · exact ⟨hb.mono (Nat.le_of_lt hB.lt), hB1.lt, Nat.le_of_lt hB.lt, fun j hj => hB1.room j (by omega), fun j hj => hB1.free j (by omega), hB1.at_, (hB.later hb).at_, fun j h1 h2 => by omega⟩

/-- The two digits of each number from 00 to 99. -/
def pairsB : ByteArray := ⟨#[48, 48, 48, 49, 48, 50, 48, 51, 48, 52, 48, 53, 48, 54, 48, 55, 48, 56, 48, 57, 49, 48, 49, 49, 49, 50, 49, 51, 49, 52, 49, 53, 49, 54, 49, 55, 49, 56, 49, 57, 50, 48, 50, 49, 50, 50, 50, 51, 50, 52, 50, 53, 50, 54, 50, 55, 50, 56, 50, 57, 51, 48, 51, 49, 51, 50, 51, 51, 51, 52, 51, 53, 51, 54, 51, 55, 51, 56, 51, 57, 52, 48, 52, 49, 52, 50, 52, 51, 52, 52, 52, 53, 52, 54, 52, 55, 52, 56, 52, 57, 53, 48, 53, 49, 53, 50, 53, 51, 53, 52, 53, 53, 53, 54, 53, 55, 53, 56, 53, 57, 54, 48, 54, 49, 54, 50, 54, 51, 54, 52, 54, 53, 54, 54, 54, 55, 54, 56, 54, 57, 55, 48, 55, 49, 55, 50, 55, 51, 55, 52, 55, 53, 55, 54, 55, 55, 55, 56, 55, 57, 56, 48, 56, 49, 56, 50, 56, 51, 56, 52, 56, 53, 56, 54, 56, 55, 56, 56, 56, 57, 57, 48, 57, 49, 57, 50, 57, 51, 57, 52, 57, 53, 57, 54, 57, 55, 57, 56, 57, 57]⟩
theorem pairsB_size : pairsB.size = 200 := by decide +kernel
theorem pairs_all : ∀ t : Fin 100, (pairsB[t.val * 2]'(by rw [pairsB_size]; omega)).toNat = 48 + t.val / 10 ∧ (pairsB[t.val * 2 + 1]'(by rw [pairsB_size]; omega)).toNat = 48 + t.val % 10 := by decide +kernel
theorem pair_hi {t : Nat} (h : t < 100) (hb : t * 2 < pairsB.size) : (pairsB[t * 2]'hb).toNat = 48 + t / 10 := (pairs_all ⟨t, h⟩).1
theorem pair_lo {t : Nat} (h : t < 100) (hb : t * 2 + 1 < pairsB.size) : (pairsB[t * 2 + 1]'hb).toNat = 48 + t % 10 := (pairs_all ⟨t, h⟩).2
theorem pair_hi' {t : Nat} (h : t < 100) (hb : 2 * t < pairsB.size) : (pairsB[2 * t]'hb).toNat = 48 + t / 10 := by
  have := pair_hi h (by omega)
  simpa only [Nat.mul_comm] using this
theorem pair_lo' {t : Nat} (h : t < 100) (hb : 2 * t + 1 < pairsB.size) : (pairsB[2 * t + 1]'hb).toNat = 48 + t % 10 := by
  have := pair_lo h (by omega)
  simpa only [Nat.mul_comm] using this

/-! ### The plain law of the digits -/
theorem div_rest {m c k q : Nat} (hq : q = m / 10 ^ (c - k)) (hk : k ≤ c) : q / 10 ^ k = m / 10 ^ c := by
  rw [hq, Nat.div_div_eq_div_mul, ← Nat.pow_add, Nat.sub_add_cancel hk]
theorem q_lt {m c k q : Nat} (hnd : Nd m c) (hq : q = m / 10 ^ (c - k)) (hk : k ≤ c) : q < 10 ^ k := by
  have h := div_rest hq hk
  rw [hnd.2.2.1] at h
  exact (Nat.div_eq_zero_iff_lt (Nat.pow_pos (by omega))).1 h
theorem q_ge {m c k q : Nat} (hnd : Nd m c) (hc : 2 ≤ c) (hq : q = m / 10 ^ (c - k)) (hk1 : 1 ≤ k) (hk : k ≤ c) : 10 ^ (k - 1) ≤ q := by
  have h : q / 10 ^ (k - 1) = m / 10 ^ (c - 1) := by
    rw [hq, Nat.div_div_eq_div_mul, ← Nat.pow_add, show c - k + (k - 1) = c - 1 by omega]
  have h0 : q / 10 ^ (k - 1) ≠ 0 := by rw [h]; exact hnd.2.2.2.resolve_left (by omega)
  rcases Nat.lt_or_ge q (10 ^ (k - 1)) with hl | hl
  · exact absurd (Nat.div_eq_of_lt hl) h0
  · exact hl
theorem digs_last {m c k q : Nat} (hq : q = m / 10 ^ (c - k)) (hk1 : 1 ≤ k) : digs m c (k - 1) = ((48 + q % 10 : Nat) : Int) := by
  unfold digs dg
  rw [show c - 1 - (k - 1) = c - k by omega, ← hq]
theorem digs_prev {m c k q : Nat} (hq : q = m / 10 ^ (c - k)) (hk2 : 2 ≤ k) (hk : k ≤ c) : digs m c (k - 2) = ((48 + q / 10 % 10 : Nat) : Int) := by
  unfold digs dg
  rw [show c - 1 - (k - 2) = c - k + 1 by omega, Nat.pow_succ, ← Nat.div_div_eq_div_mul, ← hq]
theorem q_next {m c k q : Nat} (hq : q = m / 10 ^ (c - (k + 2))) (hk : k + 2 ≤ c) : q / 100 = m / 10 ^ (c - k) := by
  rw [hq, Nat.div_div_eq_div_mul, show c - k = c - (k + 2) + 2 by omega, Nat.pow_add]

theorem byte_eq {a b : Nat} {d : Int} (h : a = b) (hd : d = (b : Int)) : Value.int IntKind.u8 (a : Int) = .int .u8 d := by rw [hd, h]

theorem fin_of {w w' : World} {g g1 n c cap1 : Nat} {x : Nat → Int} {m : Nat} {D : Nat → Prop} (h : Out w w' g g1 n c x m D) (hd : ∀ j, j < c → D j) (hnd : Nd m c) :
    ∃ g' cap' nd, Ending.returned (.slice (some ⟨g1, 0, none⟩) (n + c) cap1) = .returned (.slice (some ⟨g', 0, none⟩) (n + nd) cap') ∧ Nd m nd ∧
      (∀ j, j < n → w'.cell? ⟨g', j, none⟩ = some (.int .u8 (x j))) ∧ (∀ j, j < nd → w'.cell? ⟨g', n + j, none⟩ = some (.int .u8 (digs m nd j))) ∧ g' < w'.heap.size ∧ (∀ j, j < n → w'.cell? ⟨g, j, none⟩ = some (.int .u8 (x j))) ∧ Below g w w' :=
  ⟨g1, cap1, c, rfl, hnd, h.pre, fun j hj => h.done j (hd j hj) hj, h.lt, h.old, h.below⟩

set_option maxHeartbeats 2000000 in
set_option maxRecDepth 100000 in
theorem larger_any (g n cap : Nat) (x : Nat → Int) (m : Nat) (w : World) (hB : Buf w g n cap x) (hn : n ≤ 1024) (hcap : cap ≤ 2000) (h10 : 10 ≤ m) (hm : m < 18446744073709551616) :
    Calls Yba.prog 11 #[.slice (some ⟨g, 0, none⟩) n cap, .int .u64 m] w fun e w' => ∃ g' cap' nd, e = .returned (.slice (some ⟨g', 0, none⟩) (n + nd) cap') ∧ Nd m nd ∧
      (∀ j, j < n → w'.cell? ⟨g', j, none⟩ = some (.int .u8 (x j))) ∧ (∀ j, j < nd → w'.cell? ⟨g', n + j, none⟩ = some (.int .u8 (digs m nd j))) ∧ g' < w'.heap.size ∧ (∀ j, j < n → w'.cell? ⟨g, j, none⟩ = some (.int .u8 (x j))) ∧ Below g w w' := by
  have HB : Hid (Buf w g n cap x) := hB
  clear hB
  go_enter Yba.func11, Yba.ntmps11
  go_wp2
  go_loop [5, 6] (fun a b => ∃ (c : Nat) (p : Int), 2 ≤ c ∧ c ≤ 20 ∧ a = .int .i64 c ∧ b = .int .u64 p ∧ (c < 20 → p = ((10 ^ c : Nat) : Int)) ∧ m / 10 ^ (c - 1) ≠ 0) (fun a _ => 20 - (intOf a).toNat)
  case atStart => exact ⟨2, 100, by omega, by omega, rfl, rfl, fun _ => rfl, by simp; omega⟩
  case round =>
    obtain ⟨c, p, hc2, hc20, rfl, rfl, hp, hlo⟩ := hrel
    have HLO : Hid (m / 10 ^ (c - 1) ≠ 0) := hlo
    have HP : Hid (c < 20 → p = ((10 ^ c : Nat) : Int)) := hp
    clear hlo hp
    by_cases hcond : c < 20 ∧ p ≤ (m : Int)
    · obtain ⟨h20, hpm⟩ := hcond
      have hpe := HP.out h20
      have hp0 : 0 ≤ p := by rw [hpe]; exact Int.natCast_nonneg _
      have hlo1 : m / 10 ^ (c + 1 - 1) ≠ 0 := by
        have : 10 ^ c ≤ m := by omega
        have := Nat.div_pos this (Nat.pow_pos (by omega : 0 < 10))
        rw [Nat.add_sub_cancel]; omega
      have HLO1 : Hid (m / 10 ^ (c + 1 - 1) ≠ 0) := hlo1
      clear hlo1
      by_cases h19 : c < 19
      · have hp18 : p ≤ 1000000000000000000 := by have := pow_lt h19; omega
        clear hpe
        go_wp2
        go_round
        case rel => exact ⟨c + 1, _, by omega, by omega, by go_num, rfl, fun h => by rw [HP.out h20, Nat.pow_succ]; omega, HLO1.out⟩
        case measure => simp [intOf]; omega
      · clear hpe
        go_wp2
        go_round
        case rel => exact ⟨c + 1, _, by omega, by omega, by go_num, rfl, fun h => by omega, HLO1.out⟩
        case measure => simp [intOf]; omega
    · have hnd : Nd m c := nd_of hm (by omega) hc20 HLO.out (fun h => by
        have := HP.out h
        have : ¬ p ≤ (m : Int) := fun hh => hcond ⟨h, hh⟩
        omega)
      have HND : Hid (Nd m c) := hnd
      clear hnd
      by_cases h20 : c < 20
      case' pos =>
        have hpm : ¬ p ≤ (m : Int) := fun h => hcond ⟨h20, h⟩
        clear hcond
        go_wp2_with fail
      case' neg =>
        clear hcond
        go_wp2_with fail
      all_goals
        refine (grow_any g n cap c x _ HB.out hcap (by omega) (by omega)).mono ?_
        rintro e w1 ⟨g1, cap1, rfl, hB1, hroom1, hc63, hor⟩
        have HB1 : Hid (Buf w1 g1 n cap1 x) := hB1
        have HO : Hid ((g1 = g ∧ w1 = w) ∨ (g1 = w.heap.size ∧ Below w.heap.size w w1)) := hor
        have hcc : (n : Int) + (c : Int) ≤ (cap1 : Int) := by omega
        have hc63' : (cap1 : Int) ≤ 9223372036854775807 := by omega
        clear hB1 hor hc63
        go_wp2
        go_loopw [1, 5] (fun v a wr => ∃ k q : Nat, 1 ≤ k ∧ k ≤ c ∧ a = .int .i64 k ∧ v = .int .u64 q ∧ q = m / 10 ^ (c - k) ∧ Out w wr g g1 n c x m (fun j => k ≤ j)) (fun _ a _ => (intOf a).toNat)
        case atStart => exact ⟨c, m, by omega, by omega, rfl, rfl, by simp, out_start HB.out HB1.out (by omega) HO.out⟩
        case round =>
          obtain ⟨k, q, hk1, hkc, rfl, rfl, hq, hout⟩ := hrel
          have HQ : Hid (q = m / 10 ^ (c - k)) := hq
          have HT : Hid (Out w wr g g1 n c x m (fun j => k ≤ j)) := hout
          have hqm : q ≤ m := by rw [hq]; exact Nat.div_le_self _ _
          have hqb : (q : Int) ≤ 18446744073709551615 := by omega
          clear hq hout hqm
          by_cases hbig : 100 ≤ q
          · have hk3 : 3 ≤ k := by
              have h1 := q_lt HND.out HQ.out hkc
              rcases Nat.lt_or_ge k 3 with h | h
              · have h2 : 10 ^ k ≤ 10 ^ 2 := Nat.pow_le_pow_right (by omega) (by omega)
                omega
              · exact h
            obtain ⟨k', rfl⟩ : ∃ k', k = k' + 2 := ⟨k - 2, by omega⟩
            have i0 : (0 : Int) ≤ (k' : Int) := by omega
            have i1 : (k' : Int) + 1 < (c : Int) := by omega
            obtain ⟨v0, r0⟩ := Option.isSome_iff_exists.1 (HT.out.room (n + k') (by omega))
            obtain ⟨v1, r1⟩ := Option.isSome_iff_exists.1 (HT.out.room (n + (k' + 1)) (by omega))
            have f0 := HT.out.free (n + k') (by omega)
            have f1 := HT.out.free (n + (k' + 1)) (by omega)
            obtain ⟨t, ht⟩ : ∃ t : Nat, (q : Int) % 100 = (t : Int) := ⟨q % 100, by omega⟩
            have ht0 : (t : Int) * 2 < 200 := by omega
            have ht1 : (t : Int) * 2 + 1 < 200 := by omega
            have ht2 : (0 : Int) ≤ (t : Int) * 2 := by omega
            have ht3 : (0 : Int) ≤ (t : Int) * 2 + 1 := by omega
            have htw : IntKind.u64.wrap ((t : Int) * 2 + 1) = (t : Int) * 2 + 1 := by rw [IntKind.wrap_u64]; omega
            go_wp2
            go_region
            go_wp2
            go_roundw
            case rel =>
              refine ⟨k', q / 100, by omega, by omega, by go_num, by go_num, q_next HQ.out hkc, ?_⟩
              refine (((HT.out.put (k' + 1) (by omega) (byte_eq (pair_lo (t := t) (by omega) (by rw [pairsB_size]; omega)) ((digs_last HQ.out (by omega)).trans (by omega)))).put k' (by omega) (byte_eq (pair_hi (t := t) (by omega) (by rw [pairsB_size]; omega)) ((digs_prev HQ.out (by omega) hkc).trans (by omega)))).drewN).weaken (fun j hj hl => ?_)
              by_cases e0 : j = k'
              · exact .inr e0
              · by_cases e1 : j = k' + 1
                · exact .inl (.inr e1)
                · exact .inl (.inl (by omega))
            case measure => simp [intOf]; omega
          · have hql := q_lt HND.out HQ.out hkc
            have hqg := q_ge HND.out hc2 HQ.out hk1 hkc
            have hnb : ¬ (100 : Int) ≤ (q : Int) := by omega
            by_cases h10q : 10 ≤ q
            · obtain rfl : k = 2 := by
                rcases Nat.lt_or_ge k 2 with h | h
                · have h2 : 10 ^ k ≤ 10 ^ 1 := Nat.pow_le_pow_right (by omega) (by omega)
                  omega
                · rcases Nat.lt_or_ge 2 k with h' | h'
                  · have h2 : 10 ^ 2 ≤ 10 ^ (k - 1) := Nat.pow_le_pow_right (by omega) (by omega)
                    omega
                  · omega
              obtain ⟨v0, r0⟩ := Option.isSome_iff_exists.1 (HT.out.room (n + 0) (by omega))
              obtain ⟨v1, r1⟩ := Option.isSome_iff_exists.1 (HT.out.room (n + 1) (by omega))
              have f0 := HT.out.free (n + 0) (by omega)
              have f1 := HT.out.free (n + 1) (by omega)
              simp only [Nat.add_zero] at r0 f0
              have ht0 : 2 * (q : Int) < 200 := by omega
              have ht1 : 2 * (q : Int) + 1 < 200 := by omega
              have ht2 : (0 : Int) ≤ 2 * (q : Int) := by omega
              have ht3 : (0 : Int) ≤ 2 * (q : Int) + 1 := by omega
              have i1 : (1 : Int) < (c : Int) := by omega
              have i2 : (0 : Int) < (c : Int) := by omega
              clear hql hqg
              go_wp2
              go_region
              go_wp2
              go_ret
              exact fin_of (((HT.out.put 1 (by omega) (byte_eq (pair_lo' (t := q) (by omega) (by rw [pairsB_size]; omega)) ((digs_last HQ.out (by omega)).trans rfl))).put 0 (by omega) (byte_eq (pair_hi' (t := q) (by omega) (by rw [pairsB_size]; omega)) ((digs_prev HQ.out (by omega) hkc).trans (by omega)))).drewN)
                (fun j hj => by
                  by_cases e0 : j = 0
                  · exact .inr e0
                  · by_cases e1 : j = 1
                    · exact .inl (.inr e1)
                    · exact .inl (.inl (by omega))) HND.out
            · obtain rfl : k = 1 := by
                rcases Nat.lt_or_ge 1 k with h' | h'
                · have h2 : 10 ^ 1 ≤ 10 ^ (k - 1) := Nat.pow_le_pow_right (by omega) (by omega)
                  omega
                · omega
              obtain ⟨v0, r0⟩ := Option.isSome_iff_exists.1 (HT.out.room (n + 0) (by omega))
              have f0 := HT.out.free (n + 0) (by omega)
              simp only [Nat.add_zero] at r0 f0
              have i2 : (0 : Int) < (c : Int) := by omega
              clear hql hqg
              go_wp2
              go_ret
              refine fin_of (HT.out.put 0 (by omega) (by rw [digs_last HQ.out (by omega)]; show Value.int _ (48 + (q : Int)) = _; congr 1; omega)) (fun j hj => ?_) HND.out
              by_cases e0 : j = 0
              · exact .inr e0
              · exact .inl (by omega)

end Go.Proofs.Ybulkcwig.Dig
