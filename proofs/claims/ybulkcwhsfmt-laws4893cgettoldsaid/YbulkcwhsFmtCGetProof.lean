/-
  THE PROOF OF 'Rows.LawS4893CGetToldSaid': the card over 'store.LawS4893CGet', fmt's text told. The walk: YbulkcwhsFmtLawC.lean. The law looks at no text of fmt's: the walk holds for every F, and is taken at F.told.
-/
import Derived.Test.YbulkcwhsFmtCards
import Derived.Test.YbulkcwhsFmtLawCa
import Derived.Test.YbulkcwhsFmtLawCb
import Derived.ProofKit
import Derived.OpenShut
import Derived.ShutString
import Derived.ChangeOld
import Derived.SliceStrings
import Derived.Stop.JoinedAt
import Derived.Stop.Texts
import Derived.Stop.ErrReads
import Derived.Stop.JoinedTold
import Derived.SevenToldRow
import Derived.SizedLaws
namespace Go.Proofs.YbulkcwhsFmt.lawS4893CGet
open Go.ChangeShapes Go.WideShapes Go.ChangeAt Go.RowKit Go.Kit
open Go.ChangeMaps (open_string shut_string)
open Go.Extern.Stop Go.Stop Go.Extern
open Go.Proofs.YbulkcwhsFmt.Find

theorem own : ownKnob Ybaf.prog.godebug = none := by kernel_rfl
theorem laidOut : laidOutB Ybaf.prog = true := by kernel_rfl
theorem cells9 : Ybaf.prog.cellsOf 9 = 1 := by kernel_rfl

/-- A string in a slice that is read takes no more than the form's reach. -/
theorem weights_strs {H : Type} {P : Program} {e : TypeId} : ∀ {ss : List ByteArray} {s : ByteArray}, s ∈ ss → s.data.toList.length ∈ DataW.weightsAll (H := H) P e (strs ss)
  | t :: ss, s, h => by
    simp only [strs, List.map_cons, DataW.weightsAll, DataW.weights, List.mem_append]
    rcases List.mem_cons.1 h with rfl | h
    · left; simp
    · right; exact weights_strs h
  | [], _, h => by cases h

theorem sized_strs {H : Type} {P : Program} {ts : List TypeId} {ds : List (DataW H)} (h : (DataW.weightsEach P ts ds).all (· ≤ reachBytes) = true) {j : Nat} {t e : TypeId} {ss spare : List ByteArray}
    (ht : ts[j]? = some t) (hd : ds[j]? = some (.slice (strs ss) (strs spare))) (hu : P.underlying t = some (.slice e)) {s : ByteArray} (hs : s ∈ ss) : s.data.toList.length ≤ reachBytes := by
  have := List.all_eq_true.1 h _ (DataW.weights_mem_each ht hd s.data.toList.length (by
    simp only [DataW.weights, hu, List.mem_cons, List.mem_append]
    exact Or.inr (Or.inl (weights_strs hs))))
  simpa using this

theorem strs_at {w : World} {a : Addr} {ss : List ByteArray} (h : ∀ i, i < ss.length → w.cell? (a.add i) = some (.string (ss.getD i ByteArray.empty))) (hp : 0 < ss.length) :
    ∃ b off, a = ⟨b, off, none⟩ ∧ ∀ i, i < ss.length → w.cell? ⟨b, off + i, none⟩ = some (.string (ss.getD i ByteArray.empty)) := by
  obtain ⟨b, off, spot⟩ := a
  have hspot : spot = none := by simpa [Addr.add] using World.cell?_spot (h 0 hp)
  subst hspot
  exact ⟨b, off, rfl, fun i hi => by have := h i hi; rwa [Addr.add_lit] at this⟩

set_option maxRecDepth 100000 in
theorem lifted (os : Os) (started : os.Started) (H : Type) (enc : TypeId × Value → H) :
    ReturnsInTold none {} Ybaf.checked os 4 .any Input.okWide ((OpenSpec.ofChange Rows.lawS4893CGetSpec).preRow enc Ybaf.prog Ybaf.f4 [] false []) (fun F => ((OpenSpec.ofChange Rows.lawS4893CGetSpec).at F).post enc Ybaf.prog Ybaf.f4 false true false false) (aloneAtReturn Ybaf.prog) nothingAlways := by
  refine returnsInTold_of_row (C := Ybaf.checked) (s := OpenSpec.ofChange Rows.lawS4893CGetSpec) (by kernel_rfl) own started (by kernel_rfl) Ybaf.func4
    (OpenSpec.witness_stopped (enc := enc) (C := Ybaf.checked) false ⟨#[], #[.slice none 0 0, .int .u8 0, .string ⟨#[]⟩], []⟩ 8 (by kernel_rfl) (by kernel_rfl) (by kernel_rfl) (by kernel_rfl)) ?_
  intro F W base args ds gs before _ hF hval0 hW _ _ hsz _ _
  have hval : ∀ (j : Nat) t v, Ybaf.f4.params[j]? = some t → args[j]? = some v → Value.okWide Ybaf.prog W .any base t v := hval0
  have hW' := hW
  obtain ⟨p, q, hA0, hV, rfl, hfz, hnd⟩ := hW
  have hA : DataW.TrodAll enc Ybaf.prog W 0 (fun _ => true) true Ybaf.f4.params.toList args.toList ds p := hA0
  rw [Ybaf.params4] at hA hval
  obtain ⟨v0, vs0, d0, ds0, p0, q0, hargs, rfl, rfl, h0, r0⟩ := trodAll_cons hA
  obtain ⟨v1, vs1, d1, ds1, p1, q1, rfl, rfl, rfl, h1, r1⟩ := trodAll_cons r0
  obtain ⟨v2, vs2, d2, ds2, p2, q2, rfl, rfl, rfl, h2, r2⟩ := trodAll_cons r1
  obtain ⟨rfl, rfl, rfl⟩ := trodAll_nil r2
  obtain rfl : args = #[v0, v1, v2] := by cases args; simp_all
  obtain ⟨rfl, rfl⟩ := trodVars_none hV
  obtain ⟨a0, len0, cap0, rfl⟩ := okWide_slice Ybaf.underlying42 (hval 0 42 v0 rfl rfl)
  have k0 := h0
  have lt0 : ∀ x ∈ p0, x.block < W.heap.size := by obtain ⟨m, hm⟩ := k0; exact DataW.trod_lt m _ _ _ hm
  obtain ⟨a1, rfl, rfl, rfl, w1⟩ := open_int Ybaf.underlying5 (hval 1 5 v1 rfl rfl) h1
  obtain ⟨a2, rfl, rfl, rfl, w2⟩ := open_string Ybaf.underlying9 (hval 2 9 v2 rfl rfl) h2
  have hb1 : 0 ≤ a1 ∧ a1 ≤ 255 := by simpa [Lit.wf, IntKind.min, IntKind.max, IntKind.signed, IntKind.bits] using w1
  have hrow : len0 ≤ maxLen ∧ ∃ nm, Names W a0 len0 nm := by
    obtain ⟨fuel, hf⟩ := h0
    rcases open_strings Ybaf.underlying42 Ybaf.underlying9 cells9 hf with ⟨hcs, _⟩ | ⟨x, l, c, ss, hcs, _, hl, hm, hz, hx, hcell, hsz0⟩
    · simp [Value.cells] at hcs
      obtain ⟨rfl, rfl, rfl⟩ := hcs
      exact ⟨Nat.zero_le _, fun _ => ByteArray.empty, .inl rfl⟩
    · simp [Value.cells] at hcs
      obtain ⟨rfl, rfl, rfl⟩ := hcs
      refine ⟨Nat.le_trans hl hm, fun i => ss.getD i ByteArray.empty, ?_⟩
      simp only [if_true] at hz
      by_cases hl0 : len0 = 0
      · exact .inl hl0
      · obtain ⟨b, off, rfl, hc⟩ := strs_at hcell (by omega)
        refine .inr ⟨b, off, rfl, World.block_lt_of_cell? _ _ (hc 0 (by omega)), fun i hi => ⟨hc i (by omega), ?_⟩⟩
        have hmem : ss.getD i ByteArray.empty ∈ ss.take len0 := by
          have hi' : i < (ss.take len0).length := by simp; omega
          have e : ss.getD i ByteArray.empty = (ss.take len0)[i] := by simp [List.getD, List.getElem?_eq_getElem (show i < ss.length by omega)]
          rw [e]; exact List.getElem_mem hi'
        have hd : ([d0, .lit (.int .u8 a1), .lit (.string a2.data.toList)] ++ [])[0]? = some (.slice (strs (ss.take len0)) (strs (ss.drop len0))) := by
          simp only [Prod.mk.injEq] at hx
          rw [hx.1]; rfl
        have hw := sized_strs hsz (j := 0) (t := 42) rfl hd Ybaf.underlying42 hmem
        have hr47 := reachBytes_lt
        have : (ss.getD i ByteArray.empty).size = (ss.getD i ByteArray.empty).data.toList.length := Array.length_toList.symm
        show (ss.getD i ByteArray.empty).size + 1 ≤ 9223372036854775807
        omega
  obtain ⟨hlen, nm, hnames⟩ := hrow
  clear hA0 hval0
  have hcall : Calls Ybaf.checked.prog 4 #[.slice a0 len0 cap0, .int .u8 a1, .string a2] W fun e w' => e = .returned (.bool true) ∧ Below W.heap.size W w' := by
    by_cases hbig : len0 ≤ 1024
    · by_cases hq : a1 % ((len0 : Int) + 1) < (len0 : Int)
      · exact law_pos F.told a0 len0 cap0 nm a1 a2 W hF hnames hb1.1 hb1.2 hbig hq
      · exact law_neg F.told a0 len0 cap0 nm a1 a2 W hF hnames hb1.1 hb1.2 hbig hq
    · exact law_big a0 len0 cap0 a1 a2 W (by omega) hlen
  refine hcall.mono fun e W' ⟨he, bel⟩ => ?_
  subst he
  exact ⟨_, rfl, _, _, _, [], _, [], hW', trodAll_mk1 (shut_bool Ybaf.underlying4 _), (trodAll_cons_mk (Below.trod laidOut (by kernel_rfl) (of_decide_eq_true (by kernel_rfl)) k0 bel lt0) (trodAll_cons_mk (shut_int Ybaf.underlying5 w1) (trodAll_cons_mk (shut_string Ybaf.underlying9 w2) trodAll_mk0))), rfl, bel.frame _, fun h => by cases h⟩

theorem stops : Ybaf.pinned.checked.prog.stops = ["fmt.Sprintf", "fmt.errorf"] := by kernel_rfl
theorem stopKnobs : Ybaf.pinned.checked.prog.stopKnobs = [] := by kernel_rfl
theorem quiet (os : Os) : Stop.quiet Ybaf.pinned.checked.prog os := by
  intro k hk
  rw [stopKnobs] at hk
  cases hk

/-- ████ THE STATEMENT ████ -/
theorem proved : Rows.LawS4893CGetToldSaid :=
  Claim7.holds_of_told_any 4 Ybaf.f4 "fmt.Sprintf" ["fmt.errorf"] [] _ _ _ (by kernel_rfl) rfl rfl rfl laidOut (by kernel_rfl) rfl ⟨rfl, rfl, rfl, rfl, rfl, rfl, rfl⟩ rfl rfl (by kernel_rfl) (by kernel_rfl) Ybaf.func4 (by kernel_rfl)
    (of_decide_eq_true (by kernel_rfl)) (of_decide_eq_true (by kernel_rfl)) stops.symm rfl stopKnobs.symm (by kernel_rfl)
    (by kernel_rfl) (by kernel_rfl) (by kernel_rfl) (by kernel_rfl) (by kernel_rfl) (by kernel_rfl) (by kernel_rfl) (by kernel_rfl) (by kernel_rfl) rfl (by kernel_rfl) rfl rfl
    rfl rfl
    rfl (by kernel_rfl) (by kernel_rfl) (by kernel_rfl) (by decide) (by kernel_rfl)
    (OpenClaim.moreEntering_of (by kernel_rfl) (by kernel_rfl) (by kernel_rfl) (by kernel_rfl) (by kernel_rfl) (by kernel_rfl) (by kernel_rfl) (by kernel_rfl) (by kernel_rfl) (by kernel_rfl))
    ⟨_, WideRow.started_initial, quiet _⟩
    (fun os started _ H enc _ => lifted os started H enc)

end Go.Proofs.YbulkcwhsFmt.lawS4893CGet
