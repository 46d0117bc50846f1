/-
  'hold' (6) where the slot is not known.
-/
import Derived.Test.YbulkcwiuHoldF
namespace Go.Proofs.Ybulkcwiu.Hold
open Go.RowKit Go.Maps

/-- How many entries there are behind a store. -/
def putSz (f : Lit → Option Value) (kl : Lit) (sz : Nat) : Nat := if (f kl).isSome then sz else sz + 1

abbrev voteV (s : Int) (x : ByteArray) : Value := .agg #[.int .i64 s, .int .u64 0, .string x, .bool false, .int .i64 0, .int .u64 0, .int .i64 0]

set_option maxHeartbeats 1000000 in
set_option maxRecDepth 100000 in
theorem hold_new (p g n mD nD sD pr mC nC sC mR nR sR mV nV sV : Nat) (b s : Int) (L : Nat → Bool) (fd fc fr fv : Lit → Option Value) (u : ByteArray) (w : World) (h0 : -1000 ≤ b) (h1 : b ≤ 1000) (hn : n ≤ 1024) (s0 : -1000 ≤ s) (s1 : s ≤ 1000) (hu : u.size ≤ maxLen) (hnC : nC < 90000)
    (c29 : w.cell? ⟨p, 29, none⟩ = some (.pointer (some ⟨pr, 0, none⟩))) (hB : Box w p g n mD nD sD b L fd) (hP : Prop_ w pr mC nC sC mR nR sR mV nV sV fc fr fv) (hk : kn b n L fd s = false) (hr : fr (.int .i64 s) = none) :
    Calls Yba.prog 6 #[.pointer (some ⟨p, 0, none⟩), .int .i64 s, .string u] w fun e w' => e = .returned (.tuple #[]) ∧ MapAt w' 9 mC (nC + 1) (upd fc (.string u.data.toList) (.bool true)) (putSz fc (.string u.data.toList) sC) ∧ MapAt w' 9 mV nV fv sV ∧ Turn (fun i => i = mC ∨ i = mV) w w' := by
  have HB := hide hB
  have HK := hide hk
  have HP := hide hP
  have HR := hide hr
  clear hB hk hP hr
  go_enter Yba.func6, Yba.ntmps6
  go_wp2_with fail
  refine (knows_any p n g mD nD sD b s L fd _ h0 h1 hn s0 s1 HB.out.c15 HB.out.c16 HB.out.row HB.out.c30 HB.out.dec).mono ?_
  rintro e w' ⟨rfl, q, rfl⟩
  rw [show (decide (s ≤ b) || lrn b n L s || (fd (.int .i64 s)).isSome) = false from HK.out]
  have c11 : (w.drewN q).cell? ⟨pr, 11, none⟩ = some (.map (some mC)) := HP.out.c11
  have hch : MapAt (w.drewN q) 9 mC nC fc sC := HP.out.ch.block rfl
  obtain ⟨w1, hrun, hM1, ht1⟩ := hch.store K9 Yba.underlying37 (by omega) (key9 hu) (.bool true)
  have hT1 : Turn (fun i => i = mC ∨ i = mV) w w1 := (Turn.of_below (by exact below_drewN (Below.refl _ _) q)).trans (Turn.of_turned ht1 (.inl rfl))
  have c9 : w1.cell? ⟨pr, 9, none⟩ = some (.map (some mR)) := (cell_turned ht1 HP.out.neC).trans HP.out.c9
  have er : w1.heap[mR]? = (w.drewN q).heap[mR]? := turned_block ht1 HP.out.rc
  have hrep : MapAt w1 3 mR nR fr sR := HP.out.rep.block er
  have hlk := hrep.look_ok K3 Yba.underlying38 (zero41 _) (key3 s0 s1)
  rw [HR.out] at hlk
  have HM1 := hide hM1
  have HT1 := hide hT1
  have Ht1 := hide ht1
  clear hch hM1 hT1 ht1 hrep er
  go_wp2
  go_end0
  refine ⟨rfl, HM1.out.block ?_, ?_, HT1.out.trans (Turn.of_below ((Below.refl _ _).alloc (Nat.le_refl _) _))⟩
  · exact Below.heap_alloc _ _ _ HM1.out.lt
  · have ev : w1.heap[mV]? = (w.drewN q).heap[mV]? := turned_block Ht1.out (Ne.symm HP.out.cv)
    have h2 : MapAt w1 9 mV nV fv sV := HP.out.vt.block ev
    exact h2.block (Below.heap_alloc _ _ _ h2.lt)

set_option maxHeartbeats 1000000 in
set_option maxRecDepth 100000 in
theorem hold_vote (p g n mD nD sD pr mC nC sC mR nR sR mV nV sV : Nat) (b s sl : Int) (L : Nat → Bool) (fd fc fr fv : Lit → Option Value) (u rv : ByteArray) (w : World) (h0 : -1000 ≤ b) (h1 : b ≤ 1000) (hn : n ≤ 1024) (s0 : -1000 ≤ s) (s1 : s ≤ 1000) (hu : u.size ≤ maxLen) (hrv : rv.size ≤ maxLen) (hnC : nC < 80000) (hnV : nV < 80000)
    (c29 : w.cell? ⟨p, 29, none⟩ = some (.pointer (some ⟨pr, 0, none⟩))) (hB : Box w p g n mD nD sD b L fd) (hP : Prop_ w pr mC nC sC mR nR sR mV nV sV fc fr fv) (hk : kn b n L fd s = false) (hr : fr (.int .i64 s) = some (voteV sl rv)) (hS : Small fv) :
    Calls Yba.prog 6 #[.pointer (some ⟨p, 0, none⟩), .int .i64 s, .string u] w fun e w' => e = .returned (.tuple #[]) ∧ MapAt w' 9 mC (nC + 1) (upd fc (.string u.data.toList) (.bool true)) (putSz fc (.string u.data.toList) sC) ∧
      MapAt w' 9 mV (nV + 1) (unv fv (.string rv.data.toList)) (unvSz fv (.string rv.data.toList) sV) ∧ Turn (fun i => i = mC ∨ i = mV) w w' := by
  have HB := hide hB
  have HK := hide hk
  have HP := hide hP
  have HR := hide hr
  have HS := hide hS
  clear hB hk hP hr hS
  go_enter Yba.func6, Yba.ntmps6
  go_wp2_with fail
  refine (knows_any p n g mD nD sD b s L fd _ h0 h1 hn s0 s1 HB.out.c15 HB.out.c16 HB.out.row HB.out.c30 HB.out.dec).mono ?_
  rintro e w' ⟨rfl, q, rfl⟩
  rw [show (decide (s ≤ b) || lrn b n L s || (fd (.int .i64 s)).isSome) = false from HK.out]
  have c11 : (w.drewN q).cell? ⟨pr, 11, none⟩ = some (.map (some mC)) := HP.out.c11
  have hch : MapAt (w.drewN q) 9 mC nC fc sC := HP.out.ch.block rfl
  obtain ⟨w1, hrun, hM1, ht1⟩ := hch.store K9 Yba.underlying37 (by omega) (key9 hu) (.bool true)
  have hT1 : Turn (fun i => i = mC ∨ i = mV) w w1 := (Turn.of_below (by exact below_drewN (Below.refl _ _) q)).trans (Turn.of_turned ht1 (.inl rfl))
  have c9 : w1.cell? ⟨pr, 9, none⟩ = some (.map (some mR)) := (cell_turned ht1 HP.out.neC).trans HP.out.c9
  have c12 : w1.cell? ⟨pr, 12, none⟩ = some (.map (some mV)) := (cell_turned ht1 HP.out.neC).trans HP.out.c12
  have er : w1.heap[mR]? = (w.drewN q).heap[mR]? := turned_block ht1 HP.out.rc
  have hrep : MapAt w1 3 mR nR fr sR := HP.out.rep.block er
  have hlk := hrep.look_ok K3 Yba.underlying38 (zero41 _) (key3 s0 s1)
  rw [HR.out] at hlk
  have ev : w1.heap[mV]? = (w.drewN q).heap[mV]? := turned_block ht1 (Ne.symm HP.out.cv)
  have hvt1 : MapAt w1 9 mV nV fv sV := HP.out.vt.block ev
  have hpl : pr < w1.heap.size := Nat.lt_of_lt_of_le HP.out.lt hT1.size
  have HM1 := hide hM1
  have HT1 := hide hT1
  have HV1 := hide hvt1
  clear hch hM1 hT1 ht1 hrep hvt1 er ev
  go_wp2_with fail
  refine (unvote_any pr mV nV sV rv fv _ hrv (by omega) ((World.cell?_alloc_lt _ _ _ hpl).trans c12) HP.out.neV (HV1.out.block (Below.heap_alloc _ _ _ HV1.out.lt)) HS.out).mono ?_
  rintro e w2 ⟨rfl, hM2, ht2⟩
  have HM2 := hide hM2
  have Ht2 := hide ht2
  clear hM2 ht2
  go_wp2
  go_end0
  refine ⟨rfl, ?_, HM2.out, ?_⟩
  · exact HM1.out.block ((turned_block Ht2.out HP.out.cv).trans (Below.heap_alloc _ _ _ HM1.out.lt))
  · exact (HT1.out.trans (Turn.of_below ((Below.refl _ _).alloc (Nat.le_refl _) _))).trans (Turn.of_turned Ht2.out (.inr rfl))

end Go.Proofs.Ybulkcwiu.Hold
