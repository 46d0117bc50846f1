/-
  'unvote' (11), 'hold' (6).
-/
import Derived.Test.YbulkcwiuKnows
namespace Go.Proofs.Ybulkcwiu.Hold
open Go.RowKit Go.Maps

theorem hide {p : Prop} (h : p) : Hid p := h

/-- The count at a key. -/
def cnt (f : Lit → Option Value) (kl : Lit) : Int := match f kl with
  | some (.int _ c) => c
  | _ => 0

/-- Every element is a small int. -/
def Small (f : Lit → Option Value) : Prop := ∀ kl v, f kl = some v → ∃ c : Int, v = .int .i64 c ∧ -128 ≤ c ∧ c ≤ 127

theorem Small.get {f : Lit → Option Value} (h : Small f) (kl : Lit) : (f kl).getD (.int .i64 0) = .int .i64 (cnt f kl) ∧ -128 ≤ cnt f kl ∧ cnt f kl ≤ 127 := by
  unfold cnt
  cases hf : f kl with
  | none => simp
  | some v =>
    obtain ⟨c, rfl, h1, h2⟩ := h kl v hf
    exact ⟨rfl, h1, h2⟩

/-- What 'unvote' makes of the counts. -/
def unv (f : Lit → Option Value) (kl : Lit) : Lit → Option Value := if cnt f kl = 1 then del (upd f kl (.int .i64 0)) kl else upd f kl (.int .i64 (cnt f kl - 1))
def unvSz (f : Lit → Option Value) (kl : Lit) (sz : Nat) : Nat := if cnt f kl = 1 then (if (f kl).isSome then sz else sz + 1) - 1 else if (f kl).isSome then sz else sz + 1

theorem upd_same {f : Lit → Option Value} {kl : Lit} (h : kl.sameKey kl = true) (v : Value) : upd f kl v kl = some v := by unfold upd; rw [if_pos h]

theorem cell_turned {w w' : World} {B : Nat} (h : w.mapTurned w' B) {b o : Nat} (hb : b ≠ B) : w'.cell? ⟨b, o, none⟩ = w.cell? ⟨b, o, none⟩ := World.cell?_of_block (w := w) (turned_block h hb)

set_option maxHeartbeats 1000000 in
theorem unvote_any (pr mV n sz : Nat) (u : ByteArray) (f : Lit → Option Value) (w : World) (hu : u.size ≤ maxLen) (hn : n < 90000) (c12 : w.cell? ⟨pr, 12, none⟩ = some (.map (some mV))) (hne : pr ≠ mV) (hM : MapAt w 9 mV n f sz) (hS : Small f) :
    Calls Yba.prog 11 #[.pointer (some ⟨pr, 0, none⟩), .string u] w fun e w' => e = .returned (.tuple #[]) ∧ MapAt w' 9 mV (n + 1) (unv f (.string u.data.toList)) (unvSz f (.string u.data.toList) sz) ∧ w.mapTurned w' mV := by
  obtain ⟨hg, hlo, hhi⟩ := hS.get (.string u.data.toList)
  have hlk1 := hM.look K9 Yba.underlying42 (zero3 _) (key9 hu)
  rw [hg] at hlk1
  obtain ⟨c, hc⟩ : ∃ c, c = cnt f (.string u.data.toList) := ⟨_, rfl⟩
  rw [← hc] at hlk1 hlo hhi
  obtain ⟨w1, hrun1, hM1, ht1⟩ := hM.store K9 Yba.underlying42 (by omega) (key9 hu) (.int .i64 (c - 1))
  have c12' : w1.cell? ⟨pr, 12, none⟩ = some (.map (some mV)) := (cell_turned ht1 hne).trans c12
  have hsame := same_of_key K9 (key9 hu)
  have hlk2 := hM1.look K9 Yba.underlying42 (zero3 _) (key9 hu)
  rw [upd_same hsame] at hlk2
  simp only [Option.getD_some] at hlk2
  have HC : Hid (c = cnt f (.string u.data.toList)) := hc
  have HM1 := hide hM1
  have HT1 := hide ht1
  clear hc hg hM hS
  by_cases h1 : c = 1
  · have hb1 : (c - 1 == 0) = true := by simp; omega
    obtain ⟨w2, hrun2, hM2, ht2⟩ := HM1.out.drop K9 Yba.underlying42 (key9 hu) 0
    have HM2 := hide hM2
    have HT2 := hide ht2
    have H1 : Hid (c = 1) := h1
    clear h1 hM2 ht2 hM1 ht1
    go_enter Yba.func11, Yba.ntmps11
    go_wp2
    go_end0
    refine ⟨rfl, ?_, HT1.out.trans HT2.out⟩
    have hm := HM2.out
    have h1 := H1.out
    have hc := HC.out
    subst h1
    rw [upd_same hsame] at hm
    unfold unv unvSz
    rw [if_pos hc.symm, if_pos hc.symm]
    simpa using hm
  · have hb1 : (c - 1 == 0) = false := by simp; omega
    have H1 : Hid (¬ c = 1) := h1
    clear h1 hM1 ht1
    go_enter Yba.func11, Yba.ntmps11
    go_wp2
    go_end0
    refine ⟨rfl, ?_, HT1.out⟩
    have := HM1.out
    unfold unv unvSz
    rw [if_neg (by rw [← HC.out]; exact H1.out), if_neg (by rw [← HC.out]; exact H1.out), ← HC.out]
    exact this

/-- w' IS w BUT FOR THE BLOCKS OF S AND NEW ONES. -/
structure Turn (S : Nat → Prop) (w w' : World) : Prop where
  os : w'.os = w.os
  tape : w'.tape = w.tape
  output : w'.output = w.output
  size : w.heap.size ≤ w'.heap.size
  block : ∀ i, i < w.heap.size → ¬ S i → w'.heap[i]? = w.heap[i]?

theorem Turn.refl (S : Nat → Prop) (w : World) : Turn S w w := ⟨rfl, rfl, rfl, Nat.le_refl _, fun _ _ _ => rfl⟩
theorem Turn.trans {S : Nat → Prop} {a b c : World} (h : Turn S a b) (k : Turn S b c) : Turn S a c :=
  ⟨k.os.trans h.os, k.tape.trans h.tape, k.output.trans h.output, Nat.le_trans h.size k.size, fun i hi hs => (k.block i (Nat.lt_of_lt_of_le hi h.size) hs).trans (h.block i hi hs)⟩
theorem Turn.of_below {S : Nat → Prop} {w w' : World} (h : Below w.heap.size w w') : Turn S w w' := ⟨h.os, h.tape, h.output, h.size, fun i hi _ => h.block i hi⟩
theorem Turn.of_turned {S : Nat → Prop} {w w' : World} {B : Nat} (h : w.mapTurned w' B) (hB : S B) : Turn S w w' :=
  ⟨h.grown.os, h.grown.tape, h.grown.output, h.grown.size, fun _ _ hs => turned_block h (fun e => hs (e ▸ hB))⟩
theorem Turn.cell {S : Nat → Prop} {w w' : World} (h : Turn S w w') {b o : Nat} (hb : b < w.heap.size) (hs : ¬ S b) : w'.cell? ⟨b, o, none⟩ = w.cell? ⟨b, o, none⟩ := World.cell?_of_block (w := w) (h.block b hb hs)
theorem Turn.map {S : Nat → Prop} {w w' : World} (h : Turn S w w') {k : TypeId} {B n : Nat} {f : Lit → Option Value} {sz : Nat} (hM : MapAt w k B n f sz) (hs : ¬ S B) : MapAt w' k B n f sz := hM.block (h.block B hM.lt hs)
theorem Turn.below {S : Nat → Prop} {w0 w w' : World} {N : Nat} (hb : Below N w0 w) (h : Turn S w w') (hN : ∀ i, i < N → ¬ S i) (hl : N ≤ w.heap.size) : Below N w0 w' :=
  hb.trans ⟨h.os, h.tape, h.output, h.size, fun i hi => h.block i (by omega) (hN i hi)⟩

/-- WHAT 'hold' FINDS: the process, its log, its decisions, its proposal. -/
structure Box (w : World) (p g n mD nD sD : Nat) (b : Int) (L : Nat → Bool) (fd : Lit → Option Value) : Prop where
  c15 : w.cell? ⟨p, 15, none⟩ = some (.int .i64 b)
  c16 : w.cell? ⟨p, 16, none⟩ = some (.slice (some ⟨g, 0, none⟩) n n)
  c30 : w.cell? ⟨p, 30, none⟩ = some (.map (some mD))
  row : AtRow w g n L
  dec : MapAt w 3 mD nD fd sD
structure Prop_ (w : World) (pr mC nC sC mR nR sR mV nV sV : Nat) (fc fr fv : Lit → Option Value) : Prop where
  lt : pr < w.heap.size
  c9 : w.cell? ⟨pr, 9, none⟩ = some (.map (some mR))
  c11 : w.cell? ⟨pr, 11, none⟩ = some (.map (some mC))
  c12 : w.cell? ⟨pr, 12, none⟩ = some (.map (some mV))
  ch : MapAt w 9 mC nC fc sC
  rep : MapAt w 3 mR nR fr sR
  vt : MapAt w 9 mV nV fv sV
  neC : pr ≠ mC
  neV : pr ≠ mV
  rc : mR ≠ mC
  rv : mR ≠ mV
  cv : mC ≠ mV

def kn (b : Int) (n : Nat) (L : Nat → Bool) (fd : Lit → Option Value) (s : Int) : Bool := decide (s ≤ b) || lrn b n L s || (fd (.int .i64 s)).isSome

set_option maxHeartbeats 1000000 in
theorem hold_nil (p : Nat) (s : Int) (u : ByteArray) (w : World) (c29 : w.cell? ⟨p, 29, none⟩ = some (.pointer none)) :
    Calls Yba.prog 6 #[.pointer (some ⟨p, 0, none⟩), .int .i64 s, .string u] w fun e w' => e = .returned (.tuple #[]) ∧ w' = w := by
  go_enter Yba.func6, Yba.ntmps6
  go_wp2
  exact bodyPost_ret (v := .tuple #[]) (by simp [results, Yba.results6, go_sem]) rfl ⟨rfl, rfl⟩

set_option maxHeartbeats 1000000 in
theorem hold_known (p g n mD nD sD pr : Nat) (b s : Int) (L : Nat → Bool) (fd : Lit → Option Value) (u : ByteArray) (w : World) (h0 : -1000 ≤ b) (h1 : b ≤ 1000) (hn : n ≤ 1024) (s0 : -1000 ≤ s) (s1 : s ≤ 1000)
    (c29 : w.cell? ⟨p, 29, none⟩ = some (.pointer (some ⟨pr, 0, none⟩))) (hB : Box w p g n mD nD sD b L fd) (hk : kn b n L fd s = true) :
    Calls Yba.prog 6 #[.pointer (some ⟨p, 0, none⟩), .int .i64 s, .string u] w fun e w' => e = .returned (.tuple #[]) ∧ ∃ q, w' = w.drewN q := by
  have HB := hide hB
  have HK := hide hk
  clear hB hk
  go_enter Yba.func6, Yba.ntmps6
  go_wp2_with fail
  refine (knows_any p n g mD nD sD b s L fd _ h0 h1 hn s0 s1 HB.out.c15 HB.out.c16 HB.out.row HB.out.c30 HB.out.dec).mono ?_
  rintro e w' ⟨rfl, q, rfl⟩
  rw [show (decide (s ≤ b) || lrn b n L s || (fd (.int .i64 s)).isSome) = true from HK.out]
  go_wp2
  exact bodyPost_ret (v := .tuple #[]) (by simp [results, Yba.results6, go_sem]) rfl ⟨rfl, q, rfl⟩

end Go.Proofs.Ybulkcwiu.Hold
