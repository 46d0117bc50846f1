/-
  THE PROOF OF 'Rows.LawS4895CLeastSaid' (the shell's frame; the walk is ours).
-/
import Derived.Test.YbulkcwiuRows
import Derived.WalkKit
import Derived.ProofKit
import Derived.OpenShut
import Derived.ShutString
import Derived.Test.YbulkcwiuFirst
namespace Go.Proofs.Ybulkcwiu.lawS4895CLeast
open Go.Proofs.Ybulkcwiu.First
open Go.ChangeShapes Go.WideShapes Go.ChangeAt Go.RowKit
open Go.ChangeMaps (open_string shut_string)
set_option linter.unusedVariables false      -- a walk need not use every 'w<i>' (that an integer argument fits its kind)

theorem own : ownKnob Yba.prog.godebug = none := by kernel_rfl

/-! ### STEP 1: THE WALK: the Go text returns true. 'Grown w w'': the world has at most new blocks (Derived/RowKit3.lean). -/
set_option maxHeartbeats 2000000 in
theorem walk (a0 : Int) (a1 : Int) (a2 : Int) (w0 : (Lit.int .i64 a0).wf = true) (w1 : (Lit.int .i64 a1).wf = true) (w2 : (Lit.int .i64 a2).wf = true) (w : World) :
    Calls Yba.prog 5 #[.int .i64 a0, .int .i64 a1, .int .i64 a2] w fun e w' => e = .returned (.bool true) ∧ Grown w w' := by
  by_cases h : 1 ≤ a0 ∧ a0 ≤ 1000000000000 ∧ 0 ≤ a2 ∧ a2 ≤ 1000000000000000
  · obtain ⟨h1, h2, h3, h4⟩ := h
    obtain ⟨m1, m2, m3⟩ := fr_mul h1 h3
    have f1 := fr_pos h1 h3
    have f2 := fr_le h1 h3
    have hq := q_bd (i := a0) (a := a2 - 1) h1
    have hR := hide (fun h => fr_rounds (a := a2) h1 h)
    clear w0 w1 w2
    go_enter Yba.func5, Yba.ntmps5
    go_wp2_with fail
    refine (ok_yes a0 a2 _ h1 h2 h3 h4).mono ?_
    rintro e' w' ⟨rfl, rfl⟩
    go_wp2_with fail
    refine (first_any a0 a1 a2 _ h1 h2 h3 h4).mono ?_
    rintro e' w' ⟨rfl, rfl⟩
    generalize hF : fr a0 a2 = f at *
    have HF := hide (hF)
    clear hF
    by_cases hf : 1 < f
    · have m4 := m3 hf
      clear m3
      have m5 : 0 ≤ (f - 1) * a0 := Int.mul_nonneg (by omega) (by omega)
      by_cases ha : 1 ≤ a2
      · have hq' := hq (by omega)
        obtain ⟨hq0, hq1⟩ := hq'
        have hR' : (f != (a2 - 1) / a0 + 1) = false := by rw [hR.out ha]; simp
        clear hR hq
        go_wp2_with fail
        refine (rounds_any a0 a1 (a2 - 1) _ h1 h2 (by omega) (by omega)).mono ?_
        rintro e' w'' ⟨rfl, rfl⟩
        go_wp2
        go_ret
        exact ⟨rfl, by repeat (first | exact Grown.refl _ | apply Grown.drew | apply Grown.alloc)⟩
      · clear hR hq
        go_wp2
    · clear m3
      by_cases ha : 1 ≤ a2
      · have hq' := hq (by omega)
        obtain ⟨hq0, hq1⟩ := hq'
        have hR' : (f != (a2 - 1) / a0 + 1) = false := by rw [hR.out ha]; simp
        clear hR hq
        go_wp2_with fail
        refine (rounds_any a0 a1 (a2 - 1) _ h1 h2 (by omega) (by omega)).mono ?_
        rintro e' w'' ⟨rfl, rfl⟩
        go_wp2
        go_ret
        exact ⟨rfl, by repeat (first | exact Grown.refl _ | apply Grown.drew | apply Grown.alloc)⟩
      · clear hR hq
        go_wp2
        go_ret
        exact ⟨rfl, by repeat (first | exact Grown.refl _ | apply Grown.drew | apply Grown.alloc)⟩
  · go_enter Yba.func5, Yba.ntmps5
    go_wp2_with fail
    refine (ok_no a0 a2 _ h).mono ?_
    rintro e' w' ⟨rfl, rfl⟩
    clear h
    go_wp2
    go_ret
    exact ⟨rfl, by repeat (first | exact Grown.refl _ | apply Grown.drew | apply Grown.alloc)⟩

/-! ### THE ROW's STEP: WRITTEN OUT: LEAVE IT -/
set_option maxRecDepth 100000 in
theorem lifted (os : Os) (started : os.Started) (H : Type) (enc : TypeId × Value → H) :
    ReturnsInHanded {} Yba.checked os 5 .any (Rows.lawS4895CLeastSpec.pre6 enc Yba.prog Yba.f5 Rows.lawS4895CLeastRow.domain false) (Rows.lawS4895CLeastSpec.post enc Yba.prog Yba.f5 false true false false) := by
  refine returnsInHanded_of_change (C := Yba.checked) own started (by kernel_rfl) Yba.func5
    (ChangeSpec.witness6 (enc := enc) (C := Yba.checked) false ⟨#[], #[.int .i64 0, .int .i64 0, .int .i64 0], []⟩ 8 (by kernel_rfl) (by kernel_rfl) (by kernel_rfl) (by kernel_rfl)) ?_
  intro W base args ds gs before hval0 hW hcnd _
  have hval : ∀ (j : Nat) t v, Yba.f5.params[j]? = some t → args[j]? = some v → Value.okWide Yba.prog W .any base t v := hval0
  have hW' := hW
  obtain ⟨p, q, hA0, hV, rfl, hfz, hnd⟩ := hW
  have hA : DataW.TrodAll enc Yba.prog W 0 (fun _ => true) true Yba.f5.params.toList args.toList ds p := hA0
  rw [Yba.params5] at hA hval
  obtain ⟨v0, vs0, d0, ds0, p0, q0, hargs, rfl, rfl, h0, r0⟩ := trodAll_cons hA
  obtain ⟨v1, vs1, d1, ds1, p1, q1, rfl, rfl, rfl, h1, r1⟩ := trodAll_cons r0
  obtain ⟨v2, vs2, d2, ds2, p2, q2, rfl, rfl, rfl, h2, r2⟩ := trodAll_cons r1
  obtain ⟨rfl, rfl, rfl⟩ := trodAll_nil r2
  obtain rfl : args = #[v0, v1, v2] := by cases args; simp_all
  obtain ⟨rfl, rfl⟩ := trodVars_none hV
  obtain ⟨a0, rfl, rfl, rfl, w0⟩ := open_int Yba.underlying2 (hval 0 2 v0 rfl rfl) h0
  obtain ⟨a1, rfl, rfl, rfl, w1⟩ := open_int Yba.underlying2 (hval 1 2 v1 rfl rfl) h1
  obtain ⟨a2, rfl, rfl, rfl, w2⟩ := open_int Yba.underlying2 (hval 2 2 v2 rfl rfl) h2
  clear hA0 hval0
  simp only [List.append_nil] at hW'
  refine (walk a0 a1 a2 w0 w1 w2 W).mono fun e W' ⟨he, hg⟩ => ?_
  subst he
  exact ⟨_, rfl, post_of_same (pa := []) (pv := []) hW' (fun _ _ _ => (trodAll_cons_mk (shut_bool Yba.underlying4 _) trodAll_mk0)) (fun sp _ => (trodAll_cons_mk (shut_int Yba.underlying2 w0) (trodAll_cons_mk (shut_int Yba.underlying2 w1) (trodAll_cons_mk (shut_int Yba.underlying2 w2) trodAll_mk0)))) (fun _ _ => rfl) rfl
    (hg.frame _) hg.2.1 (ok_one (by kernel_rfl) rfl (okWide_bool_mk Yba.underlying4 _))⟩

theorem over : Rows.lawS4895CLeastRow.holds Yba.pinned (OpenSpec.ofChange Rows.lawS4895CLeastSpec) :=
  OpenClaim.holds_of_wide 5 Yba.f5 rfl rfl rfl rfl rfl rfl rfl ⟨rfl, rfl, rfl, rfl, rfl⟩ rfl rfl rfl rfl rfl (by kernel_rfl) Yba.func5 (by kernel_rfl)
    (of_decide_eq_true (by kernel_rfl)) (by unfold Func.isWrapper; first | (rw [if_pos (by decide +kernel)]; kernel_rfl) | (rw [if_neg (by decide +kernel)]; exact ⟨rfl, rfl⟩))
    (fun os started H enc _ => lifted os started H enc)

/-- ████ THE STATEMENT ████ -/
theorem proved : Rows.LawS4895CLeastSaid :=
  over
end Go.Proofs.Ybulkcwiu.lawS4895CLeast
