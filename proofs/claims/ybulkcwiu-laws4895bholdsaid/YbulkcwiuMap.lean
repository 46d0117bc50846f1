/-
  A MAP THAT THE CALL MAKES, WHATEVER ITS ELEMENTS, AS A FUNCTION: 'MapAt w k B n f sz': block B is a map of at most n entries (sz of them); at the key that reads as kl it holds 'f kl'. Over the kit's 'ownsMap', with each element read as itself ('.held v').
-/
import Derived.Test.YbulkcwiuRows
import Derived.WalkKit
import Derived.WalkSpells
import Derived.WalkLawsBesides
import Derived.Maps.OwnSet
namespace Go.Proofs.Ybulkcwiu.Hold
open Go.RowKit Go.Maps

def RV (v : Value) : Option (DataW Value × List MemPlace) := some (.held v, [])

def MapAt (w : World) (k : TypeId) (B n : Nat) (f : Lit → Option Value) (sz : Nat) : Prop :=
  ∃ D : DataW Value, w.ownsMap Yba.prog k RV B n D ∧ (∀ kl, Maps.has D kl = (f kl).isSome) ∧ (∀ kl v, f kl = some v → ∀ zd, D.atKey kl zd = .held v) ∧ Maps.size D = sz

def upd (f : Lit → Option Value) (kl : Lit) (v : Value) : Lit → Option Value := fun x => if x.sameKey kl = true then some v else f x
def del (f : Lit → Option Value) (kl : Lit) : Lit → Option Value := fun x => if x.sameKey kl = true then none else f x

theorem same_eq {a b : Lit} (h : a.sameKey b = true) : a = b := Classical.byContradiction fun hn => by rw [sameKey_ne hn] at h; cases h
theorem same_of_key {P : Program} {k : TypeId} {key : Value} {kl : Lit} (K : Keyed P k) (hkey : keyOf P k key = some kl) : kl.sameKey kl = true := by
  have := K.key hkey
  cases kl <;> simp_all [WideAt.IsKeyLit, Lit.sameKey]

section
variable {w w' : World} {t k e : TypeId} {B n : Nat} {f : Lit → Option Value} {sz : Nat}

theorem MapAt.lt (h : MapAt w k B n f sz) : B < w.heap.size := by
  obtain ⟨D, hD, _⟩ := h
  exact hD.lt

theorem MapAt.block (h : MapAt w k B n f sz) (hb : w'.heap[B]? = w.heap[B]?) : MapAt w' k B n f sz := by
  obtain ⟨D, ⟨es, clock, h1, h2⟩, hr⟩ := h
  exact ⟨D, ⟨es, clock, hb.trans h1, h2⟩, hr⟩

theorem MapAt.later (h : MapAt w k B n f sz) {N : Nat} (hb : Below N w w') (hN : B < N) : MapAt w' k B n f sz := h.block (hb.block B hN)

theorem MapAt.size_le (h : MapAt w k B n f sz) : sz ≤ n := by
  obtain ⟨D, hD, _, _, rfl⟩ := h
  exact hD.size_le

theorem made (w : World) (k : TypeId) : MapAt (w.alloc (.map #[] 0)) k w.heap.size 0 (fun _ => none) 0 :=
  ⟨.map [], World.ownsMap_made w Yba.prog k RV, fun _ => rfl, (fun _ _ h => by cases h), rfl⟩

theorem MapAt.look (h : MapAt w k B n f sz) (K : Keyed Yba.prog k) (ht : Yba.prog.underlying t = some (.map k e)) {z : Value} (hz : (zeroValue e).run Yba.prog w = .ok z w) {key : Value} {kl : Lit} (hkey : keyOf Yba.prog k key = some kl) :
    (Instr.lookup t (.map (some B)) key false).run Yba.prog w = .ok ((f kl).getD z) w := by
  obtain ⟨D, hD, h1, h2, _⟩ := h
  obtain ⟨v, ps, hrun, hv⟩ := hD.lookup K ht hz (zd := .held z) (zp := []) rfl hkey
  rw [hrun]
  simp only [RV, Option.some.injEq, Prod.mk.injEq] at hv
  cases hf : f kl with
  | none =>
    have := Maps.atKey_of_not_has (D := D) (k := kl) (by rw [h1, hf]; rfl) (.held z)
    rw [this] at hv
    simp only [DataW.held.injEq] at hv
    rw [hv.1]; rfl
  | some u =>
    rw [h2 kl u hf] at hv
    simp only [DataW.held.injEq] at hv
    rw [hv.1]; rfl

theorem MapAt.look_ok (h : MapAt w k B n f sz) (K : Keyed Yba.prog k) (ht : Yba.prog.underlying t = some (.map k e)) {z : Value} (hz : (zeroValue e).run Yba.prog w = .ok z w) {key : Value} {kl : Lit} (hkey : keyOf Yba.prog k key = some kl) :
    (Instr.lookup t (.map (some B)) key true).run Yba.prog w = .ok (.tuple #[(f kl).getD z, .bool (f kl).isSome]) w := by
  obtain ⟨D, hD, h1, h2, _⟩ := h
  obtain ⟨v, ps, hrun, hv⟩ := hD.look_ok K ht hz (zd := .held z) (zp := []) rfl hkey
  rw [hrun, h1]
  simp only [RV, Option.some.injEq, Prod.mk.injEq] at hv
  cases hf : f kl with
  | none =>
    have := Maps.atKey_of_not_has (D := D) (k := kl) (by rw [h1, hf]; rfl) (.held z)
    rw [this] at hv
    simp only [DataW.held.injEq] at hv
    rw [hv.1]; rfl
  | some u =>
    rw [h2 kl u hf] at hv
    simp only [DataW.held.injEq] at hv
    rw [hv.1]; rfl

theorem MapAt.len (h : MapAt w k B n f sz) (ht : Yba.prog.underlying t = some (.map k e)) (ty : TypeId) : (Builtin.len_ #[t] ty #[.map (some B)]).run Yba.prog w = .ok (.int .i64 sz) w := by
  obtain ⟨D, hD, _, _, rfl⟩ := h
  exact hD.len ht ty

theorem MapAt.store (h : MapAt w k B n f sz) (K : Keyed Yba.prog k) (ht : Yba.prog.underlying t = some (.map k e)) (hn : n < 100000) {key : Value} {kl : Lit} (hkey : keyOf Yba.prog k key = some kl) (v : Value) :
    ∃ w', (Instr.mapUpdate t (.map (some B)) key v).run Yba.prog w = .ok () w' ∧ MapAt w' k B (n + 1) (upd f kl v) (if (f kl).isSome then sz else sz + 1) ∧ w.mapTurned w' B := by
  obtain ⟨D, hD, h1, h2, rfl⟩ := h
  obtain ⟨w', hrun, hown, hturn⟩ := hD.store K ht (by unfold maxLen; omega) hkey (val := v) (d := .held v) (ps := []) rfl
  refine ⟨w', hrun, ⟨D.put kl (.held v), hown, fun x => ?_, fun x u hx zd => ?_, ?_⟩, hturn⟩
  · unfold upd
    by_cases hx : x = kl
    · subst hx; rw [if_pos (same_of_key K hkey)]; exact has_put_same hD.isMap (K.key hkey) _
    · rw [if_neg (by rw [sameKey_ne hx]; decide), has_put_other hx]; exact h1 x
  · unfold upd at hx
    by_cases e0 : x = kl
    · subst e0; rw [if_pos (same_of_key K hkey)] at hx; cases hx; exact atKey_put_same hD.isMap (K.key hkey) _ _
    · rw [if_neg (by rw [sameKey_ne e0]; decide)] at hx; rw [atKey_put_other e0]; exact h2 x u hx zd
  · rw [size_put (hD.tidy K), h1]

theorem MapAt.drop (h : MapAt w k B n f sz) (K : Keyed Yba.prog k) (ht : Yba.prog.underlying t = some (.map k e)) {key : Value} {kl : Lit} (hkey : keyOf Yba.prog k key = some kl) (ty : TypeId) :
    ∃ w', (Builtin.delete_ #[t, k] ty #[.map (some B), key]).run Yba.prog w = .ok (.tuple #[]) w' ∧ MapAt w' k B n (del f kl) (if (f kl).isSome then sz - 1 else sz) ∧ w.mapTurned w' B := by
  obtain ⟨D, hD, h1, h2, rfl⟩ := h
  obtain ⟨w', hrun, hown, hturn⟩ := hD.drop K ht hkey ty
  refine ⟨w', hrun, ⟨D.del kl, hown, fun x => ?_, fun x u hx zd => ?_, ?_⟩, hturn⟩
  · unfold del
    by_cases hx : x = kl
    · subst hx; rw [if_pos (same_of_key K hkey)]; exact has_del_same
    · rw [if_neg (by rw [sameKey_ne hx]; decide), has_del_other hx]; exact h1 x
  · unfold del at hx
    by_cases e0 : x = kl
    · subst e0; rw [if_pos (same_of_key K hkey)] at hx; cases hx
    · rw [if_neg (by rw [sameKey_ne e0]; decide)] at hx; rw [atKey_del_other e0]; exact h2 x u hx zd
  · have := size_del (k := kl) (hD.tidy K)
    rw [h1] at this
    split <;> simp_all <;> omega

end

theorem K3 : Keyed Yba.prog 3 := int_keyed Yba.underlying3
theorem K9 : Keyed Yba.prog 9 := string_keyed Yba.underlying9
theorem zero9 (w : World) : (zeroValue 9).run Yba.prog w = .ok (.string ⟨#[]⟩) w := by kernel_rfl
theorem zero4 (w : World) : (zeroValue 4).run Yba.prog w = .ok (.bool false) w := by kernel_rfl
theorem zero3 (w : World) : (zeroValue 3).run Yba.prog w = .ok (.int .i64 0) w := by kernel_rfl
theorem zero41 (w : World) : (zeroValue 41).run Yba.prog w = .ok (.agg #[.int .i64 0, .int .u64 0, .string ⟨#[]⟩, .bool false, .int .i64 0, .int .u64 0, .int .i64 0]) w := by kernel_rfl

/-- An int as a key; a string as a key. -/
theorem key3 {a : Int} (h0 : -1000 ≤ a) (h1 : a ≤ 1000) : keyOf Yba.prog 3 (.int .i64 a) = some (.int .i64 a) := keyOf_int_mk Yba.underlying3 (by simp [Lit.wf, IntKind.min, IntKind.max, IntKind.signed, IntKind.bits]; omega)
theorem key9 {s : ByteArray} (h : s.size ≤ maxLen) : keyOf Yba.prog 9 (.string s) = some (.string s.data.toList) := WideMaps.keyOf_string_mk Yba.underlying9 h

/-- The world behind a map's store: every other block is as it was. -/
theorem turned_block {w w' : World} {B i : Nat} (h : w.mapTurned w' B) (hi : i ≠ B) : w'.heap[i]? = w.heap[i]? := by
  rcases Nat.lt_or_ge i w.heap.size with hl | hl
  · exact h.grown.block i hl (by simpa using hi)
  · have hs : w'.heap.size = w.heap.size := by
      obtain ⟨es, clock, es', clock', hb, rfl⟩ := h
      simp [ChangeMaps.setBlock]
    rw [Array.getElem?_eq_none (by omega), Array.getElem?_eq_none (by omega)]
theorem turned_below {w0 w w' : World} {N B : Nat} (hb : Below N w0 w) (h : w.mapTurned w' B) (hB : N ≤ B) : Below N w0 w' :=
  hb.trans ⟨h.grown.os, h.grown.tape, h.grown.output, h.grown.size, fun i hi => turned_block h (by omega)⟩

end Go.Proofs.Ybulkcwiu.Hold
