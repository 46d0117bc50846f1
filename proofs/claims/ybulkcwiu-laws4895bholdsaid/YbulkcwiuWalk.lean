/-
  THE WALK OF 'LawS4895BHold' (function 3).
-/
import Derived.Test.YbulkcwiuLawI
import Derived.Deep.Cut
import Derived.Deep.CutRange
namespace Go.Proofs.Ybulkcwiu.Hold
open Go.RowKit Go.Maps

theorem tmod_nat (k n : Nat) : ((k : Int).tmod (n : Int)) = ((k % n : Nat) : Int) := by
  rw [Int.tmod_eq_emod_of_nonneg (Int.natCast_nonneg k)]; simp

theorem Log.put' {w wr : World} {g n k : Nat} {L : Nat → Bool} (h : Log w wr g n k L) (hk : k < n) (hL : L k = true) :
    Log w (((wr.setCell ⟨g, k, none⟩ (.pointer (some ⟨wr.heap.size + 1, 0, none⟩))).alloc payO).alloc (msgO wr.heap.size)) g n (k + 1) L := by
  have := h.put hk hL
  rwa [World.setCell_alloc_past _ _ _ _ (by have := h.lt; simp; omega), World.setCell_alloc_past _ _ _ _ h.lt] at this

theorem str_ne {a b : ByteArray} (h : a ≠ b) : (a.toList == b.toList) = false := by
  rw [beq_eq_false_iff_ne]
  intro e
  rw [ByteArray.toList_eq, ByteArray.toList_eq] at e
  exact h (WideShapes.bytes_inj e)

theorem ne_same {a b : Nat} (h : a = b) : ((a : Int) != (b : Int)) = false := by subst h; simp
theorem ne_plus {a b : Nat} (h : a = b + 1) : ((a : Int) != (b : Int) + 1) = false := by subst h; simp

set_option maxHeartbeats 8000000 in
set_option maxRecDepth 100000 in
theorem body (a0 a8 : Int) (p1 p2 p3 p4 p5 p6 p7 : Option Addr) (n1 c1 n2 c2 n3 c3 n4 c4 n5 c5 n6 c6 n7 c7 : Nat) (a9 : ByteArray) (a10 : Bool) (L : Nat → Bool) (D : Nat → Int) (C : Nat → ByteArray) (S : Nat → Int) (V K : Nat → ByteArray) (Q : Nat → Int) (w : World)
    (b0 : -128 ≤ a0) (b1 : a0 ≤ 127) (s0 : -128 ≤ a8) (s1 : a8 ≤ 127) (h1 : n1 ≤ 1024) (h2 : n2 ≤ 1024) (h3 : n3 ≤ 1024) (h4 : n4 ≤ 1024) (h5 : n5 ≤ 1024) (h6 : n6 ≤ 1024) (h7 : n7 ≤ 1024)
    (r1 : Row w p1 n1 (fun i => .bool (L i))) (r2 : Row w p2 n2 (fun i => .int .i8 (D i))) (r3 : Row w p3 n3 (fun i => .string (C i))) (r4 : Row w p4 n4 (fun i => .int .i8 (S i))) (r5 : Row w p5 n5 (fun i => .string (V i))) (r6 : Row w p6 n6 (fun i => .string (K i))) (r7 : Row w p7 n7 (fun i => .int .i8 (Q i)))
    (d2 : ∀ i, i < n2 → -128 ≤ D i ∧ D i ≤ 127) (d4 : ∀ i, i < n4 → -128 ≤ S i ∧ S i ≤ 127) (d7 : ∀ i, i < n7 → -128 ≤ Q i ∧ Q i ≤ 127)
    (e3 : ∀ i, i < n3 → (C i).size ≤ maxLen) (e5 : ∀ i, i < n5 → (V i).size ≤ maxLen) (e6 : ∀ i, i < n6 → (K i).size ≤ maxLen) (e9 : a9.size ≤ maxLen) :
    Calls Yba.prog 3 #[.int .i8 a0, .slice p1 n1 c1, .slice p2 n2 c2, .slice p3 n3 c3, .slice p4 n4 c4, .slice p5 n5 c5, .slice p6 n6 c6, .slice p7 n7 c7, .int .i8 a8, .string a9, .bool a10] w fun e w' => e = .returned (.bool true) ∧ Below w.heap.size w w' := by
  have R1 := hide r1
  have R2 := hide r2
  have R3 := hide r3
  have R4 := hide r4
  have R5 := hide r5
  have R6 := hide r6
  have R7 := hide r7
  have D2 := hide d2
  have D4 := hide d4
  have D7 := hide d7
  have E3 := hide e3
  have E5 := hide e5
  have E6 := hide e6
  have E9 := hide e9
  clear r1 r2 r3 r4 r5 r6 r7 d2 d4 d7 e3 e5 e6 e9
  have hmk := madeP n1 h1
  have hmm := @run_makeMap Yba.prog
  go_enter Yba.func3, Yba.ntmps3
  go_wp2
  clear hmk
  go_loopw [110] (fun i wr => ∃ k : Nat, k ≤ n1 ∧ i = .int .i64 k ∧ Log w wr w.heap.size n1 k L) (fun i _ => n1 - (intOf i).toNat)
  case atStart => exact ⟨0, by omega, rfl, log_start w n1 L⟩
  obtain ⟨k, hk, rfl, hlog⟩ := hrel
  have HL := hide hlog
  clear hlog
  by_cases hlt : k < n1
  case pos =>
    rcases R1.out.later HL.out.below with h0 | ⟨bb, oo, rfl, hbl, hcl⟩
    · omega
    have hc : wr.cell? ⟨bb, oo + k, none⟩ = some (.bool (L k)) := hcl k hlt
    clear hcl
    cases hLk : L k with
    | false =>
      rw [hLk] at hc
      go_wp2
      go_roundw
      case rel => exact ⟨k + 1, by omega, by go_num, HL.out.skip hlt hLk⟩
      case measure => simp [intOf]; omega
    | true =>
      rw [hLk] at hc
      have kc := fun (w : World) (C : Array Value) (n c : Nat) => Lib.run_convert_bytes_const (P := Yba.prog) w 28 5 C n c Yba.underlying28 Yba.underlying5
      have hfr := HL.out.free k hlt
      have hce := HL.out.rest k (Nat.le_refl _) hlt
      have hgl := HL.out.lt
      go_wp2
      go_roundw
      case rel => exact ⟨k + 1, by omega, by go_num, HL.out.put' hlt hLk⟩
      case measure => simp [intOf]; omega
  obtain rfl : n1 = k := by omega
  obtain ⟨w1, rfl⟩ : ∃ w1 : World, w1 = wr := ⟨_, rfl⟩
  have HB1 := hide HL.out.below
  have HRow1 := hide HL.out.row
  have l1 := HL.out.lt
  clear HL hlt hk
  go_wp2
  go_loopw [128] (fun i wr => ∃ k : Nat, k ≤ n2 ∧ i = .int .i64 k ∧ ∃ sz, MapAt wr 3 w1.heap.size k (fdec D k) sz ∧ Below w1.heap.size w1 wr) (fun i _ => n2 - (intOf i).toNat)
  case atStart => exact ⟨0, by omega, rfl, 0, made w1 3, (Below.refl _ _).alloc (Nat.le_refl _) _⟩
  obtain ⟨k, hk, rfl, sz, hM, hb⟩ := hrel
  have HM := hide hM
  have Hb := hide hb
  clear hM hb
  by_cases hlt : k < n2
  case pos =>
    rcases R2.out.later (HB1.out.trans (Hb.out.mono HB1.out.size)) with h0 | ⟨bb, oo, rfl, hbl, hcl⟩
    · omega
    have hc : wr.cell? ⟨bb, oo + k, none⟩ = some (.int .i8 (D k)) := hcl k hlt
    clear hcl
    obtain ⟨dk0, dk1⟩ := D2.out k hlt
    obtain ⟨w', hrun, hM', ht⟩ := HM.out.store K3 Yba.underlying36 (by omega) (key3 (a := D k) (by omega) (by omega)) (.string ⟨#[100]⟩)
    have HM' := hide hM'
    have HT := hide ht
    clear hM' ht
    go_wp2
    go_roundw
    case rel => exact ⟨k + 1, by omega, by go_num, _, HM'.out, turned_below Hb.out HT.out (Nat.le_refl _)⟩
    case measure => simp [intOf]; omega
  obtain rfl : n2 = k := by omega
  obtain ⟨w2, rfl⟩ : ∃ w2 : World, w2 = wr := ⟨_, rfl⟩
  obtain ⟨sD, rfl⟩ : ∃ sD : Nat, sD = sz := ⟨_, rfl⟩
  have HB2 := hide (HB1.out.trans (Hb.out.mono HB1.out.size))
  have HRow2 := hide (row_below HRow1.out Hb.out)
  have HD2 := hide HM.out
  have l2 := HM.out.lt
  clear HM Hb hlt hk HB1 HRow1
  go_wp2
  go_loopw [139] (fun i wr => ∃ k : Nat, k ≤ n3 ∧ i = .int .i64 k ∧ ∃ sz, MapAt wr 9 w2.heap.size k (fch C k) sz ∧ Below w2.heap.size w2 wr) (fun i _ => n3 - (intOf i).toNat)
  case atStart => exact ⟨0, by omega, rfl, 0, made w2 9, (Below.refl _ _).alloc (Nat.le_refl _) _⟩
  obtain ⟨k, hk, rfl, sz, hM, hb⟩ := hrel
  have HM := hide hM
  have Hb := hide hb
  clear hM hb
  by_cases hlt : k < n3
  case pos =>
    rcases R3.out.later (HB2.out.trans (Hb.out.mono HB2.out.size)) with h0 | ⟨bb, oo, rfl, hbl, hcl⟩
    · omega
    have hc : wr.cell? ⟨bb, oo + k, none⟩ = some (.string (C k)) := hcl k hlt
    clear hcl
    obtain ⟨w', hrun, hM', ht⟩ := HM.out.store K9 Yba.underlying37 (by omega) (key9 (E3.out k hlt)) (.bool true)
    have HM' := hide hM'
    have HT := hide ht
    clear hM' ht
    go_wp2
    go_roundw
    case rel => exact ⟨k + 1, by omega, by go_num, _, HM'.out, turned_below Hb.out HT.out (Nat.le_refl _)⟩
    case measure => simp [intOf]; omega
  obtain rfl : n3 = k := by omega
  obtain ⟨w3, rfl⟩ : ∃ w3 : World, w3 = wr := ⟨_, rfl⟩
  obtain ⟨sC, rfl⟩ : ∃ sC : Nat, sC = sz := ⟨_, rfl⟩
  have HB3 := hide (HB2.out.trans (Hb.out.mono HB2.out.size))
  have HRow3 := hide (row_below HRow2.out Hb.out)
  have HD3 := hide (HD2.out.later Hb.out l2)
  have HC3 := hide HM.out
  have l3 := HM.out.lt
  clear HM Hb hlt hk HB2 HRow2 HD2
  go_wp2
  go_loopw [149] (fun i wr => ∃ k : Nat, k ≤ n4 ∧ i = .int .i64 k ∧ ∃ sz, MapAt wr 3 w3.heap.size k (frep S V n5 k) sz ∧ Below w3.heap.size w3 wr) (fun i _ => n4 - (intOf i).toNat)
  case atStart => exact ⟨0, by omega, rfl, 0, made w3 3, (Below.refl _ _).alloc (Nat.le_refl _) _⟩
  obtain ⟨k, hk, rfl, sz, hM, hb⟩ := hrel
  have HM := hide hM
  have Hb := hide hb
  clear hM hb
  by_cases hlt : k < n4
  case pos =>
    rcases R4.out.later (HB3.out.trans (Hb.out.mono HB3.out.size)) with h0 | ⟨bb, oo, rfl, hbl, hcl⟩
    · omega
    have hc : wr.cell? ⟨bb, oo + k, none⟩ = some (.int .i8 (S k)) := hcl k hlt
    clear hcl
    obtain ⟨dk0, dk1⟩ := D4.out k hlt
    obtain ⟨w', hrun, hM', ht⟩ := HM.out.store K3 Yba.underlying38 (by omega) (key3 (a := S k) (by omega) (by omega)) (voteV (S k) (rval V n5 k))
    have HM' := hide hM'
    have HT := hide ht
    clear hM' ht
    by_cases h5p : 0 < n5
    · rcases R5.out.later (HB3.out.trans (Hb.out.mono HB3.out.size)) with h0 | ⟨b5, o5, rfl, hbl5, hcl5⟩
      · omega
      have hc5 : wr.cell? ⟨b5, o5 + k % n5, none⟩ = some (.string (V (k % n5))) := hcl5 _ (Nat.mod_lt _ h5p)
      have htm := tmod_nat k n5
      have hml : k % n5 < n5 := Nat.mod_lt _ h5p
      have hrv : rval V n5 k = V (k % n5) := if_pos h5p
      rw [hrv] at hrun
      clear hcl5
      obtain ⟨m, hm⟩ : ∃ m, m = k % n5 := ⟨_, rfl⟩
      rw [← hm] at hc5 htm hml hrun
      clear hm hrv
      go_wp2
      go_roundw
      case rel => exact ⟨k + 1, by omega, by go_num, _, HM'.out, turned_below Hb.out HT.out (Nat.le_refl _)⟩
      case measure => simp [intOf]; omega
    · have hrv : rval V n5 k = ⟨#[]⟩ := if_neg h5p
      rw [hrv] at hrun
      clear hrv
      go_wp2
      go_roundw
      case rel => exact ⟨k + 1, by omega, by go_num, _, HM'.out, turned_below Hb.out HT.out (Nat.le_refl _)⟩
      case measure => simp [intOf]; omega
  obtain rfl : n4 = k := by omega
  obtain ⟨w4, rfl⟩ : ∃ w4 : World, w4 = wr := ⟨_, rfl⟩
  obtain ⟨sR, rfl⟩ : ∃ sR : Nat, sR = sz := ⟨_, rfl⟩
  have HB4 := hide (HB3.out.trans (Hb.out.mono HB3.out.size))
  have HRow4 := hide (row_below HRow3.out Hb.out)
  have HD4 := hide (HD3.out.later Hb.out (Nat.lt_trans l2 l3))
  have HC4 := hide (HC3.out.later Hb.out l3)
  have HR4 := hide HM.out
  have l4 := HM.out.lt
  clear HM Hb hlt hk HB3 HRow3 HD3 HC3
  go_wp2
  go_loopw [175] (fun i wr => ∃ k : Nat, k ≤ n6 ∧ i = .int .i64 k ∧ ∃ sz, MapAt wr 9 w4.heap.size k (fvt K Q n7 k) sz ∧ Below w4.heap.size w4 wr) (fun i _ => n6 - (intOf i).toNat)
  case atStart => exact ⟨0, by omega, rfl, 0, made w4 9, (Below.refl _ _).alloc (Nat.le_refl _) _⟩
  obtain ⟨k, hk, rfl, sz, hM, hb⟩ := hrel
  have HM := hide hM
  have Hb := hide hb
  clear hM hb
  by_cases hlt : k < n6
  case pos =>
    rcases R6.out.later (HB4.out.trans (Hb.out.mono HB4.out.size)) with h0 | ⟨bb, oo, rfl, hbl, hcl⟩
    · omega
    have hc : wr.cell? ⟨bb, oo + k, none⟩ = some (.string (K k)) := hcl k hlt
    clear hcl
    obtain ⟨w', hrun, hM', ht⟩ := HM.out.store K9 Yba.underlying42 (by omega) (key9 (E6.out k hlt)) (.int .i64 (rcnt Q n7 k))
    have HM' := hide hM'
    have HT := hide ht
    clear hM' ht
    by_cases h7p : 0 < n7
    · rcases R7.out.later (HB4.out.trans (Hb.out.mono HB4.out.size)) with h0 | ⟨b7, o7, rfl, hbl7, hcl7⟩
      · omega
      have hc7 : wr.cell? ⟨b7, o7 + k % n7, none⟩ = some (.int .i8 (Q (k % n7))) := hcl7 _ (Nat.mod_lt _ h7p)
      have htm := tmod_nat k n7
      have hml : k % n7 < n7 := Nat.mod_lt _ h7p
      have hrv : rcnt Q n7 k = Q (k % n7) := if_pos h7p
      obtain ⟨dk0, dk1⟩ := D7.out _ hml
      rw [hrv] at hrun
      clear hcl7
      obtain ⟨m, hm⟩ : ∃ m, m = k % n7 := ⟨_, rfl⟩
      rw [← hm] at hc7 htm hml hrun dk0 dk1
      clear hm hrv
      go_wp2
      go_roundw
      case rel => exact ⟨k + 1, by omega, by go_num, _, HM'.out, turned_below Hb.out HT.out (Nat.le_refl _)⟩
      case measure => simp [intOf]; omega
    · have hrv : rcnt Q n7 k = 0 := if_neg h7p
      rw [hrv] at hrun
      clear hrv
      go_wp2
      go_roundw
      case rel => exact ⟨k + 1, by omega, by go_num, _, HM'.out, turned_below Hb.out HT.out (Nat.le_refl _)⟩
      case measure => simp [intOf]; omega
  obtain rfl : n6 = k := by omega
  obtain ⟨w5, rfl⟩ : ∃ w5 : World, w5 = wr := ⟨_, rfl⟩
  obtain ⟨sV, rfl⟩ : ∃ sV : Nat, sV = sz := ⟨_, rfl⟩
  have HB5 := hide (HB4.out.trans (Hb.out.mono HB4.out.size))
  have HRow5 := hide (row_below HRow4.out Hb.out)
  have HD5 := hide (HD4.out.later Hb.out (Nat.lt_trans l2 (Nat.lt_trans l3 l4)))
  have HC5 := hide (HC4.out.later Hb.out (Nat.lt_trans l3 l4))
  have HR5 := hide (HR4.out.later Hb.out l4)
  have HV5 := hide HM.out
  have l5 := HM.out.lt
  clear HM Hb hlt hk HB4 HRow4 HD4 HC4 HR4
  go_upto_if 206 with fail
  go_cut [] from 206 to 210 (fun wc => Made w5 wc a0 w.heap.size n1 w1.heap.size n2 sD w2.heap.size n3 sC w3.heap.size n4 sR w4.heap.size n6 sV L (fdec D n2) (fch C n3) (frep S V n5 n4) (fvt K Q n7 n6) a10)
  case first =>
    cases a10
    · go_wp2_with fail
      go_meet
      case rel => exact made_ok false HRow5.out HD5.out HC5.out HR5.out HV5.out (by omega) (by omega) (by omega)
    · go_wp2_with fail
      go_meet
      case rel => exact made_ok true HRow5.out HD5.out HC5.out HR5.out HV5.out (by omega) (by omega) (by omega)
  have HM := hide hcut
  clear hcut HRow5 HD5 HC5 HR5 HV5
  have HBc := hide (HB5.out.trans (HM.out.below.mono HB5.out.size))
  obtain ⟨wd, rfl⟩ : ∃ wd : World, wd = wc := ⟨_, rfl⟩
  go_upto_region 47 with fail
  go_cut [235] from 213 to 235 (fun v wx => ∃ y : Bool, v = .bool y ∧ Hid (y = lrn a0 n1 L a8) ∧ wd = wx)
  case first =>
    by_cases hle : a8 ≤ a0
    · have HLr := hide (lrn_le (b := a0) (n := n1) (L := L) hle).symm
      go_wp2_with fail
      go_meet
      case rel => exact ⟨false, rfl, HLr, rfl⟩
    · by_cases hin : a8 ≤ a0 + n1
      · obtain ⟨k, hk⟩ : ∃ k : Nat, a8 - a0 - 1 = (k : Int) := ⟨(a8 - a0 - 1).toNat, by omega⟩
        have hkn : k < n1 := by omega
        have HLr := hide (lrn_in (L := L) hle hin hk).symm
        rcases R1.out.later HBc.out with h0 | ⟨bb, oo, rfl, hbl, hcl⟩
        · omega
        have hc : wd.cell? ⟨bb, oo + k, none⟩ = some (.bool (L k)) := hcl k hkn
        clear hcl
        have i1 : (k : Int) < (n1 : Int) := by omega
        go_wp2_with fail
        go_meet
        case rel => exact ⟨L k, rfl, HLr, rfl⟩
      · have i1 : ¬ a8 - a0 - 1 < (n1 : Int) := by omega
        have HLr := hide (lrn_gt (L := L) hin).symm
        go_wp2_with fail
        go_meet
        case rel => exact ⟨false, rfl, HLr, rfl⟩
  obtain ⟨y, rfl, Hy, rfl⟩ := hcut
  go_upto_if 235 with fail
  go_cut [43] from 213 to 235 (fun v wx => ∃ x : Bool, v = .bool x ∧ Hid (x = (decide (a8 ≤ a0) || y)) ∧ wd = wx)
  case first =>
    cases y
    · go_wp2_with fail
      go_meet
      case rel => exact ⟨_, rfl, by exact (Bool.or_false _).symm, rfl⟩
    · go_wp2_with fail
      go_meet
      case rel => exact ⟨true, rfl, by exact (Bool.or_true _).symm, rfl⟩
  obtain ⟨x0, rfl, Hx0, rfl⟩ := hcut
  go_wp2_with fail
  go_loopw [43, 238] (fun v i wr => ∃ k : Nat, k ≤ n2 ∧ i = .int .i64 k ∧ (∃ x : Bool, v = .bool x ∧ Hid (x = (x0 || (fdec D k (kI a8)).isSome))) ∧ wd = wr) (fun _ i _ => n2 - (intOf i).toNat)
  case atStart => exact ⟨0, by omega, rfl, ⟨_, rfl, by exact (Bool.or_false _).symm⟩, rfl⟩
  obtain ⟨k, hk, rfl, ⟨x, rfl, Hx⟩, rfl⟩ := hrel
  by_cases hlt : k < n2
  case pos =>
    rcases R2.out.later HBc.out with h0 | ⟨bb, oo, rfl, hbl, hcl⟩
    · omega
    have hc : wd.cell? ⟨bb, oo + k, none⟩ = some (.int .i8 (D k)) := hcl k hlt
    clear hcl
    obtain ⟨dk0, dk1⟩ := D2.out k hlt
    have hst := hide (fdec_step D a8 k)
    by_cases hq : D k = a8
    · have hq' : (D k == a8) = true := by simp [hq]
      go_wp2_with fail
      go_roundw
      case rel => exact ⟨k + 1, by omega, by go_num, ⟨true, rfl, hide (by rw [hst.out, decide_eq_true hq]; simp)⟩, by first | rfl | trivial⟩
      case measure => simp [intOf]; omega
    · have hq' : (D k == a8) = false := by simp [hq]
      go_wp2_with fail
      go_roundw
      case rel => exact ⟨k + 1, by omega, by go_num, ⟨x, rfl, hide (by rw [hst.out, decide_eq_false hq, Bool.false_or]; exact Hx.out)⟩, by first | rfl | trivial⟩
      case measure => simp [intOf]; omega
  obtain rfl : n2 = k := by omega
  obtain ⟨kb, rfl⟩ : ∃ kb : Bool, kb = x := ⟨_, rfl⟩
  have Hkb : Hid (kn a0 n1 L (fdec D n2) a8 = kb) := hide (by rw [Hx.out, Hx0.out, Hy.out]; rfl)
  clear Hx Hx0 Hy hk hlt
  go_upto_region 55 with fail
  go_cut [46] from 247 to 251 (fun v wx => ∃ act : Bool, v = .bool act ∧ Hid (act = (a10 && !kb)) ∧ wd = wx)
  case first =>
    cases a10
    all_goals
      cases kb
      all_goals
        go_wp2_with fail
        go_meet
        case rel => exact ⟨_, rfl, by exact rfl, rfl⟩
  obtain ⟨act, rfl, Hact, rfl⟩ := hcut
  have hlC := fun ty => HM.out.pro.ch.len Yba.underlying37 ty
  have hkC := HM.out.pro.ch.look K9 Yba.underlying37 (zero4 _) (key9 E9.out)
  rw [fch_get] at hkC
  obtain ⟨vw, hvw⟩ : ∃ vw : Bool, vw = (fch C n3 (kS a9)).isSome := ⟨_, rfl⟩
  rw [← hvw] at hkC
  have Hvw := hide hvw
  clear hvw
  obtain ⟨sl, rv, hsv, hrz⟩ := frep_val S V n5 n4 E5.out (kI a8)
  have hkR := HM.out.pro.rep.look_ok K3 Yba.underlying38 (zero41 _) (key3 (a := a8) (by omega) (by omega))
  rw [show (frep S V n5 n4 (.int .i64 a8)).getD (.agg #[.int .i64 0, .int .u64 0, .string ⟨#[]⟩, .bool false, .int .i64 0, .int .u64 0, .int .i64 0]) = voteV sl rv from hsv] at hkR
  obtain ⟨rb, hrb⟩ : ∃ rb : Bool, rb = (frep S V n5 n4 (kI a8)).isSome := ⟨_, rfl⟩
  rw [← hrb] at hkR
  have Hrb := hide hrb
  have Hsv := hide hsv
  have Hrz := hide hrz
  clear hrb hsv hrz
  go_upto_region 59 with fail
  go_cut [51] from 263 to 266 (fun v wx => ∃ dec : Bool, v = .bool dec ∧ Hid (dec = (act && rb)) ∧ Hid (Below wd.heap.size wd wx) ∧ wd.heap.size < wx.heap.size ∧ wx.cell? ⟨wd.heap.size, 2, none⟩ = some (.string rv))
  case first =>
    cases act
    all_goals
      cases rb
      all_goals
        go_wp2_with fail
        go_meet
        case rel => exact ⟨_, rfl, by exact rfl, hide ((Below.refl _ _).alloc (Nat.le_refl _) _), by simp, World.cell?_alloc_new _ _ _ _⟩
  obtain ⟨dec, rfl, Hdec, Hbe, hle, c49⟩ := hcut
  obtain ⟨we, rfl⟩ : ∃ we : World, we = wc := ⟨_, rfl⟩
  have HMe := hide (HM.out.later Hbe.out)
  have HBe := hide (HBc.out.trans (Hbe.out.mono HBc.out.size))
  have hwd := HM.out.size
  have H49 := hide c49
  clear hlC hkC hkR HM HBc
  have hlV := fun ty => HMe.out.pro.vt.len Yba.underlying42 ty
  have hlR := fun ty => HMe.out.pro.rep.len Yba.underlying38 ty
  have hlD := fun ty => HMe.out.box.dec.len Yba.underlying36 ty
  have hS := hide (fvt_small K Q n7 D7.out n6)
  obtain ⟨hg, hlo, hhi⟩ := hS.out.get (kS rv)
  have hkV := HMe.out.pro.vt.look_ok K9 Yba.underlying42 (zero3 _) (key9 Hrz.out)
  rw [hg] at hkV
  obtain ⟨vo, hvo⟩ : ∃ vo, vo = cnt (fvt K Q n7 n6) (kS rv) := ⟨_, rfl⟩
  obtain ⟨vb, hvb⟩ : ∃ vb : Bool, vb = (fvt K Q n7 n6 (kS rv)).isSome := ⟨_, rfl⟩
  rw [← hvo] at hkV hlo hhi
  rw [← hvb] at hkV
  have Hvo := hide hvo
  have Hvb := hide hvb
  clear hvo hvb hg
  have hmk := madeI n6 h6
  go_wp2_with fail
  clear hlV hlR hlD hkV hmk c49
  go_loopw [285] (fun i wr => ∃ k : Nat, k ≤ n6 ∧ i = .int .i64 k ∧ Old we wr we.heap.size n6 k (fun j => cnt (fvt K Q n7 n6) (kS (K j)))) (fun i _ => n6 - (intOf i).toNat)
  case atStart => exact ⟨0, by omega, rfl, old_start we n6 _⟩
  obtain ⟨k, hk, rfl, hold⟩ := hrel
  have HO := hide hold
  clear hold
  by_cases hlt : k < n6
  case pos =>
    rcases R6.out.later (HBe.out.trans (HO.out.below.mono HBe.out.size)) with h0 | ⟨bb, oo, rfl, hbl, hcl⟩
    · omega
    have hc : wr.cell? ⟨bb, oo + k, none⟩ = some (.string (K k)) := hcl k hlt
    clear hcl
    have hkx := (HMe.out.later HO.out.below).pro.vt.look K9 Yba.underlying42 (zero3 _) (key9 (E6.out k hlt))
    rw [(hS.out.get (kS (K k))).1] at hkx
    have hfr := HO.out.free k hlt
    have hce := HO.out.rest k (Nat.le_refl _) hlt
    have hgl := HO.out.lt
    have HP := hide (HO.out.put hlt)
    obtain ⟨cv, hcv⟩ : ∃ cv, cv = cnt (fvt K Q n7 n6) (kS (K k)) := ⟨_, rfl⟩
    rw [← hcv] at hkx
    have Hcv := hide hcv
    clear hcv
    go_wp2_with fail
    go_roundw
    case rel => exact ⟨k + 1, by omega, by go_num, by rw [Hcv.out]; exact HP.out⟩
    case measure => simp [intOf]; omega
  obtain rfl : n6 = k := by omega
  obtain ⟨wf, rfl⟩ : ∃ wf : World, wf = wr := ⟨_, rfl⟩
  have HMf := hide (HMe.out.later HO.out.below)
  have HBf := hide (HBe.out.trans (HO.out.below.mono HBe.out.size))
  clear hlt hk
  go_wp2_with fail
  refine (hold_all a10 kb rb (w5.heap.size + 1) w.heap.size n1 w1.heap.size n2 sD w5.heap.size w2.heap.size n3 sC w3.heap.size n4 sR w4.heap.size n6 sV a0 a8 sl L (fdec D n2) (fch C n3) (frep S V n5 n4) (fvt K Q n7 n6) a9 rv _ (by omega) (by omega) h1 (by omega) (by omega) E9.out Hrz.out (by omega) (by omega) HMf.out.c29 HMf.out.box HMf.out.pro Hkb.out Hsv.out Hrb.out.symm hS.out).mono ?_
  rintro e wh ⟨rfl, hA⟩
  rw [← Hact.out, ← Hdec.out] at hA
  have HA := hide hA
  clear hA
  have hwe : we.heap.size < wf.heap.size := HO.out.lt
  have HT := hide HA.out.turn
  have hns : ∀ i, (i < w2.heap.size ∨ i = w3.heap.size ∨ w5.heap.size ≤ i) → ¬ (i = w2.heap.size ∨ i = w4.heap.size) := fun i hi => by omega
  have Hns := hide hns
  clear hns
  have HBh := hide (Turn.below HBf.out HT.out (fun i hi => Hns.out i (by omega)) HBf.out.size)
  have HV49 := hide ((HT.out.cell (by omega) (Hns.out wd.heap.size (by omega))).trans ((HO.out.below.cell (p := ⟨wd.heap.size, 2, none⟩) hle).trans H49.out))
  have hlR := fun ty => (HT.out.map HMf.out.pro.rep (Hns.out w3.heap.size (by omega))).len Yba.underlying38 ty
  have hlD := fun ty => (HT.out.map HMf.out.box.dec (Hns.out w1.heap.size (by omega))).len Yba.underlying36 ty
  have HlR := hide hlR
  have HlD := hide hlD
  clear hlR hlD
  have hscn := HMf.out.pro.ch.size_le
  have hsvn := HMf.out.pro.vt.size_le
  have hkU := HA.out.lookC (fch_true C n3) a9 E9.out
  rw [decide_eq_true (rfl : a9 = a9), Bool.and_true, ← Hvw.out] at hkU
  have hlC := HA.out.lenC
  obtain ⟨cn, hcn⟩ : ∃ cn : Nat, cn = (if act then putSz (fch C n3) (kS a9) sC else sC) := ⟨_, rfl⟩
  rw [← hcn] at hlC
  unfold putSz at hcn
  rw [← Hvw.out] at hcn
  have Hcn := hide hcn
  clear hcn
  go_upto_if 301 with fail
  go_cut [] from 301 to 325 (fun wx => wh = wx)
  case first =>
    cases act
    all_goals
      cases vw
      all_goals
        have hcn := Hcn.out
        simp only [if_true, if_false, Bool.false_eq_true] at hcn
        try have hb1 := ne_same hcn
        try have hb2 := ne_plus hcn
        simp only [Bool.false_or, Bool.true_or] at hkU
        clear hcn
        go_wp2_with fail
        go_meet
        case rel => rfl
  obtain rfl := hcut
  clear hkU hlC
  go_wp2_with fail
  go_loopw [328] (fun i wr => ∃ k : Nat, k ≤ n3 ∧ i = .int .i64 k ∧ wh = wr) (fun i _ => n3 - (intOf i).toNat)
  case atStart => exact ⟨0, by omega, rfl, rfl⟩
  obtain ⟨k, hk, rfl, rfl⟩ := hrel
  by_cases hlt : k < n3
  case pos =>
    rcases R3.out.later HBh.out with h0 | ⟨bb, oo, rfl, hbl, hcl⟩
    · omega
    have hc : wh.cell? ⟨bb, oo + k, none⟩ = some (.string (C k)) := hcl k hlt
    clear hcl
    have hkx := HA.out.lookC (fch_true C n3) (C k) (E3.out k hlt)
    rw [fch_has C n3 k hlt, Bool.or_true] at hkx
    go_wp2_with fail
    go_roundw
    case rel => exact ⟨k + 1, by omega, by go_num, by first | rfl | trivial⟩
    case measure => simp [intOf]; omega
  obtain rfl : n3 = k := by omega
  clear hk hlt
  obtain ⟨vn, hvn⟩ : ∃ vn : Nat, vn = (if dec then unvSz (fvt K Q n7 n6) (kS rv) sV else sV) := ⟨_, rfl⟩
  have hlV := HA.out.lenV
  rw [← hvn] at hlV
  unfold unvSz at hvn
  rw [← Hvo.out, ← Hvb.out] at hvn
  have Hvn := hide hvn
  have Hv1 : Hid (vo = 1 → vb = true ∧ 1 ≤ sV) := hide (fun h => by
    have h1 := cnt_one (f := fvt K Q n7 n6) (kl := kS rv) (by rw [← Hvo.out]; exact h)
    exact ⟨by rw [Hvb.out]; exact h1, HMf.out.pro.vt.pos K9 h1⟩)
  clear hvn
  go_upto_if 338 with fail
  go_cut [63] from 338 to 364 (fun v wx => v = .int .i64 (vn : Nat) ∧ wh = wx)
  case first =>
    cases hd : dec with
    | false =>
      subst hd
      go_wp2_with fail
      go_meet
      case rel => exact ⟨by rw [Hvn.out]; rfl, rfl⟩
    | true =>
      subst hd
      have hkR := HA.out.lookRv hS.out Hrz.out
      rw [← Hvo.out] at hkR
      have c49 := HV49.out
      by_cases hv1 : vo = 1
      · obtain ⟨hb, hp⟩ := Hv1.out hv1
        have hvn := Hvn.out
        rw [if_pos rfl, if_pos hv1, hb, if_pos rfl] at hvn
        have Hvn' := hide hvn
        have hq : (vo - 1 == 0) = true := by rw [hv1]; rfl
        rw [show (decide (vo - 1 ≠ 0)) = false by rw [hv1]; rfl] at hkR
        subst hb
        clear hvn hv1
        go_wp2_with fail
        go_meet
        case rel => exact ⟨by rw [Hvn'.out]; congr 1; omega, rfl⟩
      · have hvn := Hvn.out
        rw [if_pos rfl, if_neg hv1] at hvn
        have Hvn' := hide hvn
        have hq : (vo - 1 == 0) = false := by simp; omega
        rw [show (decide (vo - 1 ≠ 0)) = true by simp; omega] at hkR
        clear hvn hv1
        cases vb
        all_goals
          go_wp2_with fail
          go_meet
          case rel => exact ⟨by rw [Hvn'.out]; simp, rfl⟩
  obtain ⟨rfl, rfl⟩ := hcut
  go_wp2_with fail
  clear hlV
  go_loopw [371] (fun i wr => ∃ k : Nat, k ≤ n6 ∧ i = .int .i64 k ∧ wh = wr) (fun i _ => n6 - (intOf i).toNat)
  case atStart => exact ⟨0, by omega, rfl, rfl⟩
  obtain ⟨k, hk, rfl, rfl⟩ := hrel
  by_cases hlt : k < n6
  case pos =>
    rcases R6.out.later HBh.out with h0 | ⟨bb, oo, rfl, hbl, hcl⟩
    · omega
    have hc : wh.cell? ⟨bb, oo + k, none⟩ = some (.string (K k)) := hcl k hlt
    clear hcl
    have ho : wh.cell? ⟨we.heap.size, k, none⟩ = some (.int .i64 (cnt (fvt K Q n7 n6) (kS (K k)))) := (HT.out.cell hwe (Hns.out we.heap.size (by omega))).trans (HO.out.got k hlt)
    have hkx := HA.out.lookV hS.out (K k) (E6.out k hlt)
    have c49 := HV49.out
    obtain ⟨cv, hcv⟩ : ∃ cv, cv = cnt (fvt K Q n7 n6) (kS (K k)) := ⟨_, rfl⟩
    rw [← hcv] at hkx ho
    rw [← Hvo.out] at hkx
    clear hcv
    cases hd : dec with
    | false =>
      subst hd
      rw [if_neg (fun h => by cases h.1)] at hkx
      go_wp2_with fail
      go_roundw
      case rel => exact ⟨k + 1, by omega, by go_num, by first | rfl | trivial⟩
      case measure => simp [intOf]; omega
    | true =>
      subst hd
      by_cases hq : K k = rv
      · rw [if_pos ⟨rfl, hq⟩] at hkx
        have hq' : ((K k).toList == rv.toList) = true := by simp [hq]
        have HQ := hide hq
        clear hq
        go_wp2_with fail
        go_roundw
        case rel => exact ⟨k + 1, by omega, by go_num, by first | rfl | trivial⟩
        case measure => simp [intOf]; omega
      · rw [if_neg (fun h => hq h.2)] at hkx
        have hq' : ((K k).toList == rv.toList) = false := str_ne hq
        have HQ := hide hq
        clear hq
        go_wp2_with fail
        go_roundw
        case rel => exact ⟨k + 1, by omega, by go_num, by first | rfl | trivial⟩
        case measure => simp [intOf]; omega
  obtain rfl : n6 = k := by omega
  have hlR := HlR.out
  have hlD := HlD.out
  go_wp2_with fail
  go_ret
  exact ⟨rfl, HBh.out⟩

end Go.Proofs.Ybulkcwiu.Hold
