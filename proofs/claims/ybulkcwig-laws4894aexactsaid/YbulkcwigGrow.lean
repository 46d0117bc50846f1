/-
  'slices.Grow[[]byte,byte]' (function 12) on a buffer of the call's own.
-/
import Derived.Test.YbulkcwigDec
import Derived.Lib.AppendZeros
namespace Go.Proofs.Ybulkcwig.Dig
open Go.RowKit

/-- A BUFFER OF THE CALL's OWN: block g, whole, may be written; its first n bytes are x. -/
structure Buf (w : World) (g n cap : Nat) (x : Nat → Int) : Prop where
  lt : g < w.heap.size
  le : n ≤ cap
  room : ∀ j, j < cap → (w.cell? ⟨g, j, none⟩).isSome = true
  free : ∀ j, j < cap → w.frozen? ⟨g, j, none⟩ = false
  at_ : ∀ j, j < n → w.cell? ⟨g, j, none⟩ = some (.int .u8 (x j))

theorem Buf.later {w w' : World} {g n cap : Nat} {x : Nat → Int} (h : Buf w g n cap x) (hb : Below w.heap.size w w') : Buf w' g n cap x :=
  ⟨Nat.lt_of_lt_of_le h.lt hb.size, h.le, fun j hj => by rw [hb.cell (p := ⟨g, j, none⟩) h.lt]; exact h.room j hj, fun j hj => by rw [hb.frozen (p := ⟨g, j, none⟩) h.lt]; exact h.free j hj,
   fun j hj => by rw [hb.cell (p := ⟨g, j, none⟩) h.lt]; exact h.at_ j hj⟩

/-- What the cells of a row hold. -/
theorem row_cells (w : World) (g : Nat) : ∀ n, (∀ j, j < n → (w.cell? ⟨g, j, none⟩).isSome = true) → ∃ olds : List Value, olds.length = n ∧ ∀ j v, olds[j]? = some v → w.cell? ⟨g, j, none⟩ = some v := by
  intro n
  induction n with
  | zero => exact fun _ => ⟨[], rfl, fun j v h => by simp at h⟩
  | succ n ih =>
    intro h
    obtain ⟨olds, hl, ho⟩ := ih (fun j hj => h j (by omega))
    obtain ⟨u, hu⟩ := Option.isSome_iff_exists.1 (h n (by omega))
    refine ⟨olds ++ [u], by simp [hl], fun j v hv => ?_⟩
    by_cases hj : j < n
    · rw [List.getElem?_append_left (by omega)] at hv; exact ho j v hv
    · have : j = n := by
        have := (List.getElem?_eq_some_iff.1 hv).1
        simp at this; omega
      subst this
      rw [List.getElem?_append_right (by omega)] at hv
      simp [hl] at hv
      rw [← hv]; exact hu

theorem cut_ge (w : World) (need old : Nat) (e : TypeId) (h : need < 2 ^ 63) : need ≤ grownCap w need old e ∧ grownCap w need old e < 2 ^ 63 := by
  unfold grownCap
  simp only [Question.cut]
  have : (w.tape w.drawn (.appendCap need old e)) % (2 ^ 63 - need) < 2 ^ 63 - need := Nat.mod_lt _ (by omega)
  omega

/-- 'append(s[:cap(s)], make([]byte, m)...)'. -/
theorem append_zeros (w : World) (g cap m : Nat) (ty : TypeId) (olds : List Value) (hl : olds.length = cap) (ho : ∀ j v, olds[j]? = some v → w.cell? ⟨g, j, none⟩ = some v) (hm : 0 < m) (hb : cap + m ≤ 100000) :
    ∃ (C : Nat) (news : Array Value), (Builtin.append_ #[22, 3] ty #[.slice (some ⟨g, 0, none⟩) cap cap, .int .i64 m]).run Yba.prog w = .ok (.slice (some ⟨w.heap.size, 0, none⟩) (cap + m) C) (w.drew.alloc (.cells news 5)) ∧
      news.size = C ∧ cap + m ≤ C ∧ C < 2 ^ 63 ∧ ∀ j, j < cap → news[j]? = olds[j]? := by
  obtain ⟨i, hi, hz, hs, hby⟩ := info_parts info5
  have hn : ¬ (cap + m ≤ cap) := by omega
  have hm0 : ¬ (m = 0) := by omega
  have hw : IntKind.i64.wrap (m : Int) = m := by rw [IntKind.wrap_i64]; omega
  have h48 : ¬ (281474976710656 < Builtin.nextslicecap (cap + m) cap) := by
    have := growslice_fits (need := cap + m) (old := cap) (bytes := 1) (by omega) (by omega)
    omega
  have hneg : ¬ ((m : Int) < 0) := by omega
  have h48i : ¬ (281474976710656 < (m : Int)) := by omega
  have h63 : ¬ (9223372036854775807 < ((cap : Int) + (m : Int))) := by omega
  have hfo := run_firstCells_some (P := Yba.prog) w.drew 1 cap ⟨g, 0, none⟩ cap cap olds (by omega) (fun j v hv => by rw [Addr.add_lit]; simpa using ho j v hv)
  have hc := cut_ge w (cap + m) cap 5 (by omega)
  refine ⟨grownCap w (cap + m) cap 5, olds.toArray ++ Builtin.zeroCells #[.int .u8 0] m ++ Builtin.zeroCells #[.int .u8 0] (grownCap w (cap + m) cap 5 - (cap + m)), ?_, ?_, hc.1, hc.2, fun j hj => ?_⟩
  · simp [Builtin.append_, run_underlying Yba.underlying22, run_underlying Yba.underlying3, sizeOf, typeInfo, zeroValue, hi, hz, hs, hby, asInt, asIntOf, hw, hn, hm0, hneg, h48, h48i, h63, Question.forced, hfo, newRow, grownCap, Value.cells]
  · simp [Builtin.zeroCells, hl]; omega
  · rw [Array.getElem?_append_left (by simp [hl]; omega), Array.getElem?_append_left (by simp [hl]; omega)]; simp

set_option maxHeartbeats 1000000 in
theorem grow_any (g n cap need : Nat) (x : Nat → Int) (w : World) (hB : Buf w g n cap x) (hcap : cap ≤ 2000) (h0 : 0 < need) (h20 : need ≤ 20) :
    Calls Yba.prog 12 #[.slice (some ⟨g, 0, none⟩) n cap, .int .i64 need] w fun e w' => ∃ g' cap', e = .returned (.slice (some ⟨g', 0, none⟩) n cap') ∧ Buf w' g' n cap' x ∧ n + need ≤ cap' ∧ cap' < 2 ^ 63 ∧
      ((g' = g ∧ w' = w) ∨ (g' = w.heap.size ∧ Below w.heap.size w w')) := by
  have hle := hB.le
  by_cases hr : n + need ≤ cap
  · have HB : Hid (Buf w g n cap x) := hB
    clear hB
    go_enter Yba.func12, Yba.ntmps12
    go_wp2
    go_ret
    exact ⟨g, cap, rfl, HB.out, hr, by omega, .inl ⟨rfl, rfl⟩⟩
  · obtain ⟨olds, hl, ho⟩ := row_cells w g cap hB.room
    obtain ⟨m, hm⟩ : ∃ m : Nat, (need : Int) - ((cap : Int) - (n : Int)) = m := ⟨need - (cap - n), by omega⟩
    obtain ⟨C, news, hrun, hsz, hC, hC63, hnews⟩ := append_zeros w g cap m 22 olds hl ho (by omega) (by omega)
    have HB : Hid (Buf w g n cap x) := hB
    have HO : Hid (∀ j v, olds[j]? = some v → w.cell? ⟨g, j, none⟩ = some v) := ho
    have HW : Hid (∀ j, j < cap → news[j]? = olds[j]?) := hnews
    have HS : Hid (news.size = C) := hsz
    have HL : Hid (olds.length = cap) := hl
    have hpos : (0 : Int) < m := by omega
    have hmn : m ≤ 20 := by omega
    have hC2 : C ≤ 9223372036854775807 := by omega
    have i2 : (n : Int) ≤ (C : Int) := by omega
    have hfin : Buf (w.drew.alloc (.cells news 5)) w.heap.size n C x := by
      refine ⟨by simp, by omega, fun j hj => ?_, fun j _ => World.frozen?_alloc_new w.drew _ _ j, fun j hj => ?_⟩
      · show ((w.drew.alloc (.cells news 5)).cell? ⟨w.drew.heap.size, j, none⟩).isSome = true
        rw [World.cell?_alloc_new]; simp [hsz, hj]
      · show (w.drew.alloc (.cells news 5)).cell? ⟨w.drew.heap.size, j, none⟩ = _
        rw [World.cell?_alloc_new, hnews j (by omega)]
        have := hB.at_ j hj
        have hj' : j < olds.length := by omega
        rw [ho j olds[j] (by simp [hj'])] at this
        rw [List.getElem?_eq_getElem hj']; exact this
    have HF : Hid (Buf (w.drew.alloc (.cells news 5)) w.heap.size n C x) := hfin
    clear hB ho hnews hsz hl hfin hC63
    go_enter Yba.func12, Yba.ntmps12
    go_wp2_with (at_builtin; refine Lib.wpList_append_run _ rfl _ _ _ _ rfl _ _ rfl rfl _ _ hrun ?_)
    go_ret
    refine ⟨w.heap.size, C, rfl, HF.out, by omega, by omega, .inr ⟨rfl, ?_⟩⟩
    exact (Below.refl _ _).drew.alloc (Nat.le_refl _) _

end Go.Proofs.Ybulkcwig.Dig
