/-
  WHAT THE LAW's WALK LAYS DOWN AND FINDS: the proposal and the process; the counts that it notes; 'hold' in every case; what the maps hold behind it.
-/
import Derived.Test.YbulkcwiuLawH
namespace Go.Proofs.Ybulkcwiu.Hold
open Go.RowKit Go.Maps

abbrev propO (mC mR mV : Nat) : Obj := .cells #[.int .u64 0, .slice none 0 0, .string ⟨#[]⟩, .int .i64 0, .string ⟨#[]⟩, .map none, .map none, .bool false, .bool false, .map (some mR), .int .i64 0, .map (some mC), .map (some mV), .int .i64 0, .int .i64 0, .int .i64 0, .map none, .map none] 47
abbrev procO (b : Int) (g n mD : Nat) (x : Option Addr) : Obj := .cells #[.int .i64 0, .int .u64 0, .int .i64 0, .int .i64 0, .nilIface, .slice none 0 0, .bool false, .int .u64 0, .int .i64 0, .slice none 0 0, .slice none 0 0, .slice none 0 0, .pointer none, .int .i64 0, .int .i64 0,
  .int .i64 b, .slice (some ⟨g, 0, none⟩) n n, .int .i64 0, .int .i64 0, .int .i64 0, .slice none 0 0, .int .i64 0, .string ⟨#[]⟩, .nilFunc, .map none, .pointer none, .map none, .string ⟨#[]⟩, .int .i64 0, .pointer x, .map (some mD), .pointer none, .bool false, .bool false, .bool false, .slice none 0 0, .int .i64 0, .slice none 0 0] 71

def ptrOf (hp : Bool) (pr : Nat) : Option Addr := if hp then some ⟨pr, 0, none⟩ else none

structure Made (w5 wc : World) (b : Int) (g n mD nD sD mC nC sC mR nR sR mV nV sV : Nat) (L : Nat → Bool) (fd fc fr fv : Lit → Option Value) (hp : Bool) : Prop where
  box : Box wc (w5.heap.size + 1) g n mD nD sD b L fd
  pro : Prop_ wc w5.heap.size mC nC sC mR nR sR mV nV sV fc fr fv
  c29 : wc.cell? ⟨w5.heap.size + 1, 29, none⟩ = some (.pointer (ptrOf hp w5.heap.size))
  below : Below w5.heap.size w5 wc
  size : w5.heap.size + 2 ≤ wc.heap.size

theorem row_below {w w' : World} {g n : Nat} {L : Nat → Bool} (h : AtRow w g n L) (hb : Below w.heap.size w w') : AtRow w' g n L :=
  h.later fun a _ ha => (hb.cell (World.block_lt_of_cell? w a ha)).trans ha

theorem made_ok {w5 : World} {b : Int} {g n mD nD sD mC nC sC mR nR sR mV nV sV : Nat} {L : Nat → Bool} {fd fc fr fv : Lit → Option Value} (hp : Bool) (hrow : AtRow w5 g n L) (hD : MapAt w5 3 mD nD fd sD) (hC : MapAt w5 9 mC nC fc sC) (hR : MapAt w5 3 mR nR fr sR) (hV : MapAt w5 9 mV nV fv sV) (rc : mR ≠ mC) (rv : mR ≠ mV) (cv : mC ≠ mV) :
    Made w5 ((w5.alloc (propO mC mR mV)).alloc (procO b g n mD (ptrOf hp w5.heap.size))) b g n mD nD sD mC nC sC mR nR sR mV nV sV L fd fc fr fv hp := by
  have hb : Below w5.heap.size w5 ((w5.alloc (propO mC mR mV)).alloc (procO b g n mD (ptrOf hp w5.heap.size))) := ((Below.refl _ _).alloc (Nat.le_refl _) _).alloc (by simp) _
  have hpr : ∀ i, ((w5.alloc (propO mC mR mV)).alloc (procO b g n mD (ptrOf hp w5.heap.size))).cell? ⟨w5.heap.size, i, none⟩ = (w5.alloc (propO mC mR mV)).cell? ⟨w5.heap.size, i, none⟩ := fun i => World.cell?_alloc_lt _ _ _ (by simp)
  have hp5 : ∀ i, ((w5.alloc (propO mC mR mV)).alloc (procO b g n mD (ptrOf hp w5.heap.size))).cell? ⟨w5.heap.size + 1, i, none⟩ = (#[.int .i64 0, .int .u64 0, .int .i64 0, .int .i64 0, .nilIface, .slice none 0 0, .bool false, .int .u64 0, .int .i64 0, .slice none 0 0, .slice none 0 0, .slice none 0 0, .pointer none, .int .i64 0, .int .i64 0,
  .int .i64 b, .slice (some ⟨g, 0, none⟩) n n, .int .i64 0, .int .i64 0, .int .i64 0, .slice none 0 0, .int .i64 0, .string ⟨#[]⟩, .nilFunc, .map none, .pointer none, .map none, .string ⟨#[]⟩, .int .i64 0, .pointer (ptrOf hp w5.heap.size), .map (some mD), .pointer none, .bool false, .bool false, .bool false, .slice none 0 0, .int .i64 0, .slice none 0 0] : Array Value)[i]? := fun i => by
    have := World.cell?_alloc_new (w5.alloc (propO mC mR mV)) #[.int .i64 0, .int .u64 0, .int .i64 0, .int .i64 0, .nilIface, .slice none 0 0, .bool false, .int .u64 0, .int .i64 0, .slice none 0 0, .slice none 0 0, .slice none 0 0, .pointer none, .int .i64 0, .int .i64 0,
  .int .i64 b, .slice (some ⟨g, 0, none⟩) n n, .int .i64 0, .int .i64 0, .int .i64 0, .slice none 0 0, .int .i64 0, .string ⟨#[]⟩, .nilFunc, .map none, .pointer none, .map none, .string ⟨#[]⟩, .int .i64 0, .pointer (ptrOf hp w5.heap.size), .map (some mD), .pointer none, .bool false, .bool false, .bool false, .slice none 0 0, .int .i64 0, .slice none 0 0] 71 i
    rw [show (w5.alloc (propO mC mR mV)).heap.size = w5.heap.size + 1 by simp] at this
    exact this
  refine ⟨⟨hp5 15, hp5 16, hp5 30, row_below hrow hb, hD.later hb hD.lt⟩, ⟨by simp; omega, (hpr 9).trans (World.cell?_alloc_new _ _ _ _), (hpr 11).trans (World.cell?_alloc_new _ _ _ _), (hpr 12).trans (World.cell?_alloc_new _ _ _ _), hC.later hb hC.lt, hR.later hb hR.lt, hV.later hb hV.lt, by have := hC.lt; omega, by have := hV.lt; omega, rc, rv, cv⟩, hp5 29, hb, by simp⟩

theorem Made.later {w5 wc wd : World} {b : Int} {g n mD nD sD mC nC sC mR nR sR mV nV sV : Nat} {L : Nat → Bool} {fd fc fr fv : Lit → Option Value} {hp : Bool} (h : Made w5 wc b g n mD nD sD mC nC sC mR nR sR mV nV sV L fd fc fr fv hp) (hb : Below wc.heap.size wc wd) : Made w5 wd b g n mD nD sD mC nC sC mR nR sR mV nV sV L fd fc fr fv hp := by
  have hs := h.size
  have hc : ∀ a v, wc.cell? a = some v → wd.cell? a = some v := fun a _ ha => (hb.cell (World.block_lt_of_cell? wc a ha)).trans ha
  exact ⟨⟨hc _ _ h.box.c15, hc _ _ h.box.c16, hc _ _ h.box.c30, row_below h.box.row hb, h.box.dec.later hb h.box.dec.lt⟩,
    ⟨Nat.lt_of_lt_of_le h.pro.lt hb.size, hc _ _ h.pro.c9, hc _ _ h.pro.c11, hc _ _ h.pro.c12, h.pro.ch.later hb h.pro.ch.lt, h.pro.rep.later hb h.pro.rep.lt, h.pro.vt.later hb h.pro.vt.lt, h.pro.neC, h.pro.neV, h.pro.rc, h.pro.rv, h.pro.cv⟩, hc _ _ h.c29, h.below.trans (hb.mono (by omega)), Nat.le_trans hs hb.size⟩

/-- THE COUNTS THAT THE LAW NOTES (loop 7): block g, n places, the first k written. -/
structure Old (w wr : World) (g n k : Nat) (x : Nat → Int) : Prop where
  below : Below w.heap.size w wr
  new : w.heap.size ≤ g
  lt : g < wr.heap.size
  rest : ∀ j, k ≤ j → j < n → wr.cell? ⟨g, j, none⟩ = some (.int .i64 0)
  free : ∀ j, j < n → wr.frozen? ⟨g, j, none⟩ = false
  got : ∀ j, j < k → wr.cell? ⟨g, j, none⟩ = some (.int .i64 (x j))

theorem get_ints (n j : Nat) (h : j < n) : (ints n)[j]? = some (.int .i64 0) := by
  unfold ints madeCells
  simp [h, Nat.mod_one]

theorem old_start (w : World) (n : Nat) (x : Nat → Int) : Old w (w.alloc (.cells (ints n) 3)) w.heap.size n 0 x :=
  ⟨(Below.refl _ _).alloc (Nat.le_refl _) _, Nat.le_refl _, by simp, fun j _ hj => by rw [World.cell?_alloc_new]; exact get_ints n j hj, fun j _ => World.frozen?_alloc_new w _ _ j, fun k hk => by omega⟩

theorem Old.put {w wr : World} {g n k : Nat} {x : Nat → Int} (h : Old w wr g n k x) (hk : k < n) : Old w (wr.setCell ⟨g, k, none⟩ (.int .i64 (x k))) g n (k + 1) x := by
  have hsome : (wr.cell? ⟨g, k, none⟩).isSome = true := by rw [h.rest k (Nat.le_refl _) hk]; rfl
  have hother : ∀ o, o ≠ k → (wr.setCell ⟨g, k, none⟩ (.int .i64 (x k))).cell? ⟨g, o, none⟩ = wr.cell? ⟨g, o, none⟩ := fun o ho =>
    World.cell?_setCell_other _ _ _ _ (by simp only [ne_eq, Addr.mk.injEq, not_and]; intro _ h2; exact absurd h2.symm ho)
  refine ⟨h.below.setCell (p := ⟨g, k, none⟩) h.new _, h.new, by simpa using h.lt, fun j h1 h2 => ?_, fun j hj => ?_, fun j hj => ?_⟩
  · rw [hother j (by omega)]; exact h.rest j (by omega) h2
  · rw [World.frozen?_setCell]; exact h.free j hj
  · rcases Nat.lt_or_ge j k with hl | hl
    · rw [hother j (by omega)]; exact h.got j hl
    · obtain rfl : j = k := by omega
      exact World.cell?_setCell_same' _ _ _ hsome

/-! ### 'hold' in every case -/
structure After (act dec : Bool) (w w' : World) (mC mV : Nat) (fc fv : Lit → Option Value) (u rv : ByteArray) (sC sV : Nat) : Prop where
  ch : ∃ n, MapAt w' 9 mC n (if act then upd fc (kS u) (.bool true) else fc) (if act then putSz fc (kS u) sC else sC)
  vt : ∃ n, MapAt w' 9 mV n (if dec then unv fv (kS rv) else fv) (if dec then unvSz fv (kS rv) sV else sV)
  turn : Turn (fun i => i = mC ∨ i = mV) w w'

theorem hold_all (hp kb rb : Bool) (p g n mD nD sD pr mC nC sC mR nR sR mV nV sV : Nat) (b s sl : Int) (L : Nat → Bool) (fd fc fr fv : Lit → Option Value) (u rv : ByteArray) (w : World) (h0 : -1000 ≤ b) (h1 : b ≤ 1000) (hn : n ≤ 1024) (s0 : -1000 ≤ s) (s1 : s ≤ 1000) (hu : u.size ≤ maxLen) (hrv : rv.size ≤ maxLen) (hnC : nC < 80000) (hnV : nV < 80000)
    (c29 : w.cell? ⟨p, 29, none⟩ = some (.pointer (ptrOf hp pr))) (hB : Box w p g n mD nD sD b L fd) (hP : Prop_ w pr mC nC sC mR nR sR mV nV sV fc fr fv) (hk : kn b n L fd s = kb) (hr : (fr (kI s)).getD (voteV 0 ⟨#[]⟩) = voteV sl rv) (hrb : (fr (kI s)).isSome = rb) (hS : Small fv) :
    Calls Yba.prog 6 #[.pointer (some ⟨p, 0, none⟩), .int .i64 s, .string u] w fun e w' => e = .returned (.tuple #[]) ∧ After (hp && !kb) (hp && !kb && rb) w w' mC mV fc fv u rv sC sV := by
  cases hp with
  | false =>
    refine (hold_nil p s u w c29).mono ?_
    rintro e w' ⟨rfl, rfl⟩
    exact ⟨rfl, ⟨_, hP.ch⟩, ⟨_, hP.vt⟩, Turn.refl _ _⟩
  | true =>
    cases kb with
    | true =>
      refine (hold_known p g n mD nD sD pr b s L fd u w h0 h1 hn s0 s1 c29 hB hk).mono ?_
      rintro e w' ⟨rfl, q, rfl⟩
      exact ⟨rfl, ⟨_, hP.ch.block rfl⟩, ⟨_, hP.vt.block rfl⟩, Turn.of_below (by exact below_drewN (Below.refl _ _) q)⟩
    | false =>
      cases hf : fr (kI s) with
      | none =>
        rw [hf] at hrb
        subst hrb
        refine (hold_new p g n mD nD sD pr mC nC sC mR nR sR mV nV sV b s L fd fc fr fv u w h0 h1 hn s0 s1 hu (by omega) c29 hB hP hk hf).mono ?_
        rintro e w' ⟨rfl, q1, q2, q3⟩
        exact ⟨rfl, ⟨_, q1⟩, ⟨_, q2⟩, q3⟩
      | some v =>
        rw [hf] at hrb hr
        subst hrb
        simp only [Option.getD_some] at hr
        subst hr
        refine (hold_vote p g n mD nD sD pr mC nC sC mR nR sR mV nV sV b s sl L fd fc fr fv u rv w h0 h1 hn s0 s1 hu hrv hnC hnV c29 hB hP hk hf hS).mono ?_
        rintro e w' ⟨rfl, q1, q2, q3⟩
        exact ⟨rfl, ⟨_, q1⟩, ⟨_, q2⟩, q3⟩

section
variable {act dec : Bool} {w w' : World} {mC mV : Nat} {fc fv : Lit → Option Value} {u rv : ByteArray} {sC sV : Nat}

theorem After.lookC (h : After act dec w w' mC mV fc fv u rv sC sV) (hf : ∀ kl v, fc kl = some v → v = .bool true) (x : ByteArray) (hx : x.size ≤ maxLen) :
    (Instr.lookup 37 (.map (some mC)) (.string x) false).run Yba.prog w' = .ok (.bool ((act && decide (x = u)) || (fc (kS x)).isSome)) w' := by
  obtain ⟨n, hM⟩ := h.ch
  rw [hM.look K9 Yba.underlying37 (zero4 _) (key9 hx)]
  cases act with
  | false =>
    simp only [Bool.false_and, Bool.false_or, if_false, Bool.false_eq_true]
    cases hc : fc (kS x) with
    | none => rfl
    | some v => rw [hf _ v hc]; rfl
  | true =>
    simp only [if_true, Bool.true_and]
    rw [upd_get_bool hf u x]

theorem After.lenC (h : After act dec w w' mC mV fc fv u rv sC sV) (ty : TypeId) :
    (Builtin.len_ #[37] ty #[.map (some mC)]).run Yba.prog w' = .ok (.int .i64 (if act then putSz fc (kS u) sC else sC : Nat)) w' := by
  obtain ⟨n, hM⟩ := h.ch
  exact hM.len Yba.underlying37 ty

theorem After.lenV (h : After act dec w w' mC mV fc fv u rv sC sV) (ty : TypeId) :
    (Builtin.len_ #[42] ty #[.map (some mV)]).run Yba.prog w' = .ok (.int .i64 (if dec then unvSz fv (kS rv) sV else sV : Nat)) w' := by
  obtain ⟨n, hM⟩ := h.vt
  exact hM.len Yba.underlying42 ty

theorem After.lookV (h : After act dec w w' mC mV fc fv u rv sC sV) (hS : Small fv) (x : ByteArray) (hx : x.size ≤ maxLen) :
    (Instr.lookup 42 (.map (some mV)) (.string x) false).run Yba.prog w' = .ok (.int .i64 (if dec = true ∧ x = rv then cnt fv (kS rv) - 1 else cnt fv (kS x))) w' := by
  obtain ⟨n, hM⟩ := h.vt
  rw [hM.look K9 Yba.underlying42 (zero3 _) (key9 hx)]
  cases dec with
  | false => simp only [Bool.false_eq_true, false_and, if_false]; rw [(hS.get (kS x)).1]
  | true => simp only [if_true, true_and]; rw [unv_get hS]

theorem After.lookRv (h : After act true w w' mC mV fc fv u rv sC sV) (hS : Small fv) (hx : rv.size ≤ maxLen) :
    (Instr.lookup 42 (.map (some mV)) (.string rv) true).run Yba.prog w' = .ok (.tuple #[.int .i64 (cnt fv (kS rv) - 1), .bool (decide (cnt fv (kS rv) - 1 ≠ 0))]) w' := by
  obtain ⟨n, hM⟩ := h.vt
  rw [hM.look_ok K9 Yba.underlying42 (zero3 _) (key9 hx)]
  simp only [if_true]
  rw [unv_get hS, unv_has]; simp
end

theorem MapAt.pos {w : World} {k : TypeId} {B n : Nat} {f : Lit → Option Value} {sz : Nat} (h : MapAt w k B n f sz) (K : Keyed Yba.prog k) {kl : Lit} (hf : (f kl).isSome = true) : 1 ≤ sz := by
  obtain ⟨D, hD, h1, _, rfl⟩ := h
  have := size_del (k := kl) (hD.tidy K)
  rw [h1, hf, if_pos rfl] at this
  omega

theorem cnt_one {f : Lit → Option Value} {kl : Lit} (h : cnt f kl = 1) : (f kl).isSome = true := by
  unfold cnt at h
  cases hf : f kl with
  | none => rw [hf] at h; simp at h
  | some v => rfl

theorem fdec_step (D : Nat → Int) (s : Int) (k : Nat) : (fdec D (k + 1) (kI s)).isSome = (decide (D k = s) || (fdec D k (kI s)).isSome) := by
  show (upd (fdec D k) (kI (D k)) (.string ⟨#[100]⟩) (kI s)).isSome = _
  unfold upd
  rw [same_int]
  by_cases h : s = D k
  · simp [h]
  · simp [h, Ne.symm h]

theorem frep_val (S : Nat → Int) (V : Nat → ByteArray) (nv n : Nat) (hV : ∀ i, i < nv → (V i).size ≤ maxLen) (kl : Lit) : ∃ sl rv, (frep S V nv n kl).getD (voteV 0 ⟨#[]⟩) = voteV sl rv ∧ rv.size ≤ maxLen := by
  cases h : frep S V nv n kl with
  | none => exact ⟨0, ⟨#[]⟩, rfl, by decide⟩
  | some v =>
    obtain ⟨i, _, rfl⟩ := frep_some S V nv n kl v h
    refine ⟨_, _, rfl, ?_⟩
    unfold rval
    split
    · exact hV _ (Nat.mod_lt _ (by assumption))
    · decide

theorem lrn_le {b : Int} {n : Nat} {L : Nat → Bool} {s : Int} (h : s ≤ b) : lrn b n L s = false := by unfold lrn; simp; omega
theorem lrn_gt {b : Int} {n : Nat} {L : Nat → Bool} {s : Int} (h : ¬ s ≤ b + n) : lrn b n L s = false := by unfold lrn; simp [h]
theorem lrn_in {b : Int} {n k : Nat} {L : Nat → Bool} {s : Int} (h : ¬ s ≤ b) (h2 : s ≤ b + n) (hk : s - b - 1 = (k : Int)) : lrn b n L s = L k := by
  unfold lrn
  rw [hk, Int.toNat_natCast]
  simp [h2, show b < s by omega]

end Go.Proofs.Ybulkcwiu.Hold
