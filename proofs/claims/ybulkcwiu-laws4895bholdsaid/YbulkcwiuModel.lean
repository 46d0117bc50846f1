/-
  THE PLAIN MODEL OF THE LAW's FOUR MAPS, and what the walk is told of the slices that came in.
-/
import Derived.Test.YbulkcwiuHoldG
namespace Go.Proofs.Ybulkcwiu.Hold
open Go.RowKit Go.Maps

/-- A SLICE THAT CAME IN: n one-cell values. -/
def Row (w : World) (a : Option Addr) (n : Nat) (x : Nat → Value) : Prop :=
  n = 0 ∨ ∃ b o, a = some ⟨b, o, none⟩ ∧ b < w.heap.size ∧ ∀ i, i < n → w.cell? ⟨b, o + i, none⟩ = some (x i)

theorem Row.later {w w' : World} {a : Option Addr} {n : Nat} {x : Nat → Value} (h : Row w a n x) (hb : Below w.heap.size w w') : Row w' a n x := by
  rcases h with h | ⟨b, o, ha, hl, hc⟩
  · exact .inl h
  · exact .inr ⟨b, o, ha, Nat.lt_of_lt_of_le hl hb.size, fun i hi => (hb.cell (p := ⟨b, o + i, none⟩) hl).trans (hc i hi)⟩

abbrev kI (a : Int) : Lit := .int .i64 a
abbrev kS (s : ByteArray) : Lit := .string s.data.toList

/-- The decided slots. -/
def fdec (D : Nat → Int) : Nat → Lit → Option Value
  | 0 => fun _ => none
  | j + 1 => upd (fdec D j) (kI (D j)) (.string ⟨#[100]⟩)
/-- The chosen values. -/
def fch (C : Nat → ByteArray) : Nat → Lit → Option Value
  | 0 => fun _ => none
  | j + 1 => upd (fch C j) (kS (C j)) (.bool true)
def rval (V : Nat → ByteArray) (nv j : Nat) : ByteArray := if 0 < nv then V (j % nv) else ⟨#[]⟩
/-- The reported votes. -/
def frep (S : Nat → Int) (V : Nat → ByteArray) (nv : Nat) : Nat → Lit → Option Value
  | 0 => fun _ => none
  | j + 1 => upd (frep S V nv j) (kI (S j)) (voteV (S j) (rval V nv j))
def rcnt (Q : Nat → Int) (nq j : Nat) : Int := if 0 < nq then Q (j % nq) else 0
/-- The counts. -/
def fvt (K : Nat → ByteArray) (Q : Nat → Int) (nq : Nat) : Nat → Lit → Option Value
  | 0 => fun _ => none
  | j + 1 => upd (fvt K Q nq j) (kS (K j)) (.int .i64 (rcnt Q nq j))

theorem same_int (a b : Int) : (kI a).sameKey (kI b) = decide (a = b) := by simp [Lit.sameKey]
theorem same_str (a b : ByteArray) : (kS a).sameKey (kS b) = decide (a = b) := by
  simp only [Lit.sameKey]
  by_cases h : a = b
  · subst h; simp
  · rw [decide_eq_false h]
    rw [beq_eq_false_iff_ne]
    exact fun e => h (WideShapes.bytes_inj e)

theorem fdec_some (D : Nat → Int) (s : Int) : ∀ j, (fdec D j (kI s)).isSome = true ↔ ∃ i, i < j ∧ D i = s
  | 0 => by simp [fdec]
  | j + 1 => by
    unfold fdec upd
    rw [same_int]
    by_cases h : s = D j
    · simp only [h, decide_true, if_true, Option.isSome_some, true_iff]
      exact ⟨j, by omega, rfl⟩
    · rw [if_neg (by simpa using h), fdec_some D s j]
      constructor
      · rintro ⟨i, hi, e⟩; exact ⟨i, by omega, e⟩
      · rintro ⟨i, hi, e⟩
        rcases Nat.lt_or_ge i j with hl | hl
        · exact ⟨i, hl, e⟩
        · obtain rfl : i = j := by omega
          exact absurd e.symm h

theorem fch_true (C : Nat → ByteArray) : ∀ j kl v, fch C j kl = some v → v = .bool true
  | 0, _, _, h => by simp [fch] at h
  | j + 1, kl, v, h => by
    unfold fch upd at h
    split at h
    · cases h; rfl
    · exact fch_true C j kl v h
theorem fch_get (C : Nat → ByteArray) (j : Nat) (kl : Lit) : (fch C j kl).getD (.bool false) = .bool (fch C j kl).isSome := by
  cases h : fch C j kl with
  | none => rfl
  | some v => rw [fch_true C j kl v h]; rfl
theorem fch_has (C : Nat → ByteArray) : ∀ n i, i < n → (fch C n (kS (C i))).isSome = true
  | n + 1, i, hi => by
    unfold fch upd
    by_cases h : C i = C n
    · rw [same_str, decide_eq_true h]; rfl
    · rw [same_str, decide_eq_false h, if_neg (by decide)]
      exact fch_has C n i (by
        rcases Nat.lt_or_ge i n with hl | hl
        · exact hl
        · obtain rfl : i = n := by omega
          exact absurd rfl h)
  | 0, _, hi => by omega

theorem frep_some (S : Nat → Int) (V : Nat → ByteArray) (nv : Nat) : ∀ n kl v, frep S V nv n kl = some v → ∃ i, i < n ∧ v = voteV (S i) (rval V nv i)
  | 0, _, _, h => by simp [frep] at h
  | n + 1, kl, v, h => by
    unfold frep upd at h
    split at h
    · cases h; exact ⟨n, by omega, rfl⟩
    · obtain ⟨i, hi, e⟩ := frep_some S V nv n kl v h
      exact ⟨i, by omega, e⟩

theorem fvt_small (K : Nat → ByteArray) (Q : Nat → Int) (nq : Nat) (hq : ∀ i, i < nq → -128 ≤ Q i ∧ Q i ≤ 127) : ∀ n, Small (fvt K Q nq n)
  | 0 => fun kl v h => by simp [fvt] at h
  | n + 1 => fun kl v h => by
    unfold fvt upd at h
    split at h
    · cases h
      refine ⟨_, rfl, ?_⟩
      unfold rcnt
      split
      · exact hq _ (Nat.mod_lt _ (by assumption))
      · exact ⟨by omega, by omega⟩
    · exact fvt_small K Q nq hq n kl v h

/-! ### What 'unvote' leaves of the counts, key by key -/
theorem unv_get {f : Lit → Option Value} (hS : Small f) (u x : ByteArray) : (unv f (kS u) (kS x)).getD (.int .i64 0) = .int .i64 (if x = u then cnt f (kS u) - 1 else cnt f (kS x)) := by
  unfold unv
  by_cases h1 : cnt f (kS u) = 1
  · rw [if_pos h1]
    unfold del upd
    rw [same_str]
    by_cases hx : x = u
    · subst hx; simp [h1]
    · simp only [hx, decide_false, if_false, Bool.false_eq_true]; exact (hS.get (kS x)).1
  · rw [if_neg h1]
    unfold upd
    rw [same_str]
    by_cases hx : x = u
    · subst hx; simp
    · simp only [hx, decide_false, if_false, Bool.false_eq_true]; exact (hS.get (kS x)).1
theorem unv_has {f : Lit → Option Value} (u : ByteArray) : (unv f (kS u) (kS u)).isSome = decide (cnt f (kS u) - 1 ≠ 0) := by
  unfold unv
  by_cases h1 : cnt f (kS u) = 1
  · rw [if_pos h1]
    unfold del
    rw [same_str]; simp [h1]
  · rw [if_neg h1]
    unfold upd
    rw [same_str]; simp; omega
theorem upd_get_bool {f : Lit → Option Value} (hf : ∀ kl v, f kl = some v → v = .bool true) (u x : ByteArray) : (upd f (kS u) (.bool true) (kS x)).getD (.bool false) = .bool (decide (x = u) || (f (kS x)).isSome) := by
  unfold upd
  rw [same_str]
  by_cases hx : x = u
  · subst hx; simp
  · simp only [hx, decide_false, if_false, Bool.false_eq_true, Bool.false_or]
    cases h : f (kS x) with
    | none => rfl
    | some v => rw [hf _ v h]; rfl

end Go.Proofs.Ybulkcwiu.Hold
