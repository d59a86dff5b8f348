/- 'laws.FnNumDigits': FOR EVERY INPUT THE LAW RETURNS TRUE, AND ITS ARGUMENTS READ BEHIND THE CALL AS THEY READ BEFORE. No condition is set on the input; the listed package variables start as the program's text lays them (tied by the card). -/
import Derived.Test.YtlaepcfooopbmaaGreatDoorTie
import Derived.Test.YtlaepcfooopbmaaGreatDoorCards
import Derived.LaidMore
import Derived.OpenVars
import Derived.SevenTiedAt
import Derived.Test.YtlaepcfooopbmaaGreatDoorFnNumDigitsJ1
import Derived.Test.YtlaepcfooopbmaaGreatDoorFnNumDigitsJ2
import Derived.Test.YtlaepcfooopbmaaGreatDoorFnNumDigitsJ3
import Derived.Test.YtlaepcfooopbmaaGreatDoorFnNumDigitsJ4
import Derived.Test.YtlaepcfooopbmaaGreatDoorFnNumDigitsJ5
import Derived.Test.YtlaepcfooopbmaaGreatDoorFnNumDigitsJ6
import Derived.Test.YtlaepcfooopbmaaGreatDoorFnNumDigitsJ7
import Derived.Test.YtlaepcfooopbmaaGreatDoorFnNumDigitsJ8
import Derived.Test.YtlaepcfooopbmaaGreatDoorFnNumDigitsJ9
import Derived.Test.YtlaepcfooopbmaaGreatDoorFnNumDigitsJ10
import Derived.Test.YtlaepcfooopbmaaGreatDoorFnNumDigitsJ11
import Derived.Test.YtlaepcfooopbmaaGreatDoorFnNumDigitsJ12
import Derived.Test.YtlaepcfooopbmaaGreatDoorFnNumDigitsJ13
import Derived.Test.YtlaepcfooopbmaaGreatDoorFnNumDigitsJ14
import Derived.Test.YtlaepcfooopbmaaGreatDoorFnNumDigitsJ15
import Derived.Test.YtlaepcfooopbmaaGreatDoorFnNumDigitsJ16
import Derived.Test.YtlaepcfooopbmaaGreatDoorFnNumDigitsJ17
set_option linter.unusedVariables false
set_option linter.unusedSimpArgs false
namespace Go.Proofs.YtlaepcfooopbmaaGreatDoor
open Go Go.ChangeShapes Go.WideShapes Go.ChangeAt Go.RowKit Go.Joins

/-- The heap that the door's own run leaves meets the condition. -/
theorem fnNumDigits_met (os : Os) (args : Array Value) : laidMetH Tryz.prog Rows.fnNumDigitsRow.laid ((World.doorLaid Tryz.prog 400 os).forCall (fun _ _ => 0) ⟨#[], args, []⟩).memory :=
  laidMetH_of_parts3 (fuel := 8) (laidMet_of_run' 8 (by kernel_rfl) (by kernel_rfl)) (by kernel_rfl) (by kernel_rfl)

set_option maxRecDepth 100000 in
theorem fnNumDigits_lifted (os : Os) (started : os.Started) (H : Type) (enc : TypeId × Value → H) :
    ReturnsInHanded {} Tryz.checked os 3 .any (fun w args => (Rows.fnNumDigitsSpec.pre enc Tryz.prog Tryz.f3 [] false w args ∧ laidMetH Tryz.prog Rows.fnNumDigitsRow.laid w) ∧ sizedMet enc Tryz.prog Tryz.f3 (OpenSpec.ofChange Rows.fnNumDigitsSpec) false w args) (Rows.fnNumDigitsSpec.post enc Tryz.prog Tryz.f3 false true false false) := by
  refine returnsInHanded_of_change_and (C := Tryz.checked) (X := fun w _ => laidMetH Tryz.prog Rows.fnNumDigitsRow.laid w) (fun _ _ _ hh h => h.of_heap hh) own started (by kernel_rfl) Tryz.func3
    (ChangeSpec.witness_shaped (enc := enc) (C := Tryz.checked) (os := os) (X := fun w _ => laidMetH Tryz.prog Rows.fnNumDigitsRow.laid w) false (World.doorLaid Tryz.prog 400 os) #[.slice none 0 0] 8 rfl (World.shaped_of_RefB (by kernel_rfl) (by kernel_rfl)) (by kernel_rfl) (by kernel_rfl) (by kernel_rfl) (fnNumDigits_met os _)) ?_
  intro W base args ds gs before hval0 hW _ _ hL _
  have hval : ∀ (j : Nat) t v, Tryz.f3.params[j]? = some t → args[j]? = some v → Value.okWide Tryz.prog W .any base t v := hval0
  have hW' := hW
  obtain ⟨p, q, hA0, hV, rfl, _, _⟩ := hW
  have hA : DataW.TrodAll enc Tryz.prog W 0 (fun _ => true) true Tryz.f3.params.toList args.toList ds p := hA0
  rw [Tryz.params3] at hA hval
  obtain ⟨v0, vs0, d0, ds0, p0, q0, hargs, rfl, rfl, h0, r0⟩ := trodAll_cons hA
  obtain ⟨rfl, rfl, rfl⟩ := trodAll_nil r0
  obtain rfl : args = #[v0] := by cases args; simp_all
  have hlen := trodVars_len hV
  obtain ⟨g1, g2, g3, g4, g5, rfl⟩ : ∃ g1 g2 g3 g4 g5, gs = [g1, g2, g3, g4, g5] := by
    match gs, hlen with
    | [g1, g2, g3, g4, g5], _ => exact ⟨_, _, _, _, _, rfl⟩
  have lt0 : ∀ x ∈ p0, x.block < W.heap.size := by obtain ⟨m, hm⟩ := h0; exact DataW.trod_lt m _ _ _ hm
  obtain ⟨A0, c0, xs0, rfl, hv0, hd0⟩ := uints_open (hval 0 22 v0 rfl rfl) h0
  clear hA0 hval0
  have hvars : VarsL W W.heap.size := varsL_of hL (by kernel_rfl) (by first | exact List.mem_of_getElem? (i := 0) rfl | exact List.mem_of_getElem? (i := 1) rfl | exact List.mem_of_getElem? (i := 2) rfl | exact List.mem_of_getElem? (i := 3) rfl | exact List.mem_of_getElem? (i := 4) rfl | exact List.mem_of_getElem? (i := 5) rfl | exact List.mem_of_getElem? (i := 6) rfl) (by first | exact List.mem_of_getElem? (i := 0) rfl | exact List.mem_of_getElem? (i := 1) rfl | exact List.mem_of_getElem? (i := 2) rfl | exact List.mem_of_getElem? (i := 3) rfl | exact List.mem_of_getElem? (i := 4) rfl | exact List.mem_of_getElem? (i := 5) rfl | exact List.mem_of_getElem? (i := 6) rfl) (by first | exact List.mem_of_getElem? (i := 0) rfl | exact List.mem_of_getElem? (i := 1) rfl | exact List.mem_of_getElem? (i := 2) rfl | exact List.mem_of_getElem? (i := 3) rfl | exact List.mem_of_getElem? (i := 4) rfl | exact List.mem_of_getElem? (i := 5) rfl | exact List.mem_of_getElem? (i := 6) rfl) (by first | exact List.mem_of_getElem? (i := 0) rfl | exact List.mem_of_getElem? (i := 1) rfl | exact List.mem_of_getElem? (i := 2) rfl | exact List.mem_of_getElem? (i := 3) rfl | exact List.mem_of_getElem? (i := 4) rfl | exact List.mem_of_getElem? (i := 5) rfl | exact List.mem_of_getElem? (i := 6) rfl)
  refine (fnNumDigits_walk A0 c0 xs0 W hvars hv0 hd0).mono fun e W' ⟨he, bel⟩ => ?_
  subst he
  exact ⟨_, rfl, _, _, _, [], _, q, hW', trodAll_mk1 (shut_bool Tryz.underlying4 _), (trodAll_cons_mk (Below.trod laidOut (by kernel_rfl) (of_decide_eq_true (by kernel_rfl)) h0 bel lt0) trodAll_mk0), bel.trodVars laidOut (by kernel_rfl) hV, bel.frame _, fun h => by cases h⟩

/-! The row's closed facts, each a declaration of its own (in one they want more memory than there is). -/
theorem fnNumDigits_c0 : (Rows.fnNumDigitsRow.wf (OpenSpec.ofChange Rows.fnNumDigitsSpec)) = true := by kernel_rfl
theorem fnNumDigits_c1 : (laidOutB Tryz.prog) = true := by kernel_rfl
theorem fnNumDigits_c2 : (mapsRowed Tryz.prog) = true := by kernel_rfl
theorem fnNumDigits_c3 : (Tryz.f3.params.all (Tryz.prog.readableRec ·)) = true := by kernel_rfl
theorem fnNumDigits_c4 : (namedTie Tryz.prog Rows.fnNumDigitsRow.named Rows.fnNumDigitsSpec.vars) = true := by kernel_rfl
theorem fnNumDigits_c5 : ((Rows.fnNumDigitsRow.stops == [])) = true := by kernel_rfl
theorem fnNumDigits_c6 : ((Tryz.prog.stops == [])) = true := by kernel_rfl
theorem fnNumDigits_c7 : ((Rows.fnNumDigitsRow.knobs == [])) = true := by kernel_rfl
theorem fnNumDigits_c8 : ((Tryz.prog.stopKnobs == [])) = true := by kernel_rfl
theorem fnNumDigits_c9 : ((Rows.fnNumDigitsRow.inPlace == Tryz.prog.inPlace 3)) = true := by kernel_rfl
theorem fnNumDigits_c10 : ((Rows.fnNumDigitsRow.unfollowed == Tryz.prog.unfollowed 3)) = true := by kernel_rfl
theorem fnNumDigits_c11 : ((Rows.fnNumDigitsRow.recurses == Tryz.prog.recurses 3)) = true := by kernel_rfl
theorem fnNumDigits_c12 : ((Rows.fnNumDigitsRow.named == Tryz.prog.varsNamed 3)) = true := by kernel_rfl
theorem fnNumDigits_c13 : ((Rows.fnNumDigitsRow.maps == (Tryz.f3.params.toList ++ Rows.fnNumDigitsSpec.plain.varTypes Tryz.prog).any (Tryz.prog.mapsRec ·))) = true := by kernel_rfl
theorem fnNumDigits_c14 : ((Rows.fnNumDigitsRow.ifaces == (Tryz.f3.params.toList ++ Rows.fnNumDigitsSpec.plain.varTypes Tryz.prog).any (Tryz.prog.ifacesRec ·))) = true := by kernel_rfl
theorem fnNumDigits_c15 : ((Rows.fnNumDigitsRow.mapsOut == Tryz.prog.mapsAmong Tryz.f3.resultTypes.toList)) = true := by kernel_rfl
theorem fnNumDigits_c16 : ((Rows.fnNumDigitsRow.loops == (Tryz.f3.params.toList ++ Rows.fnNumDigitsSpec.plain.varTypes Tryz.prog).any (Tryz.prog.loopsFrom ·))) = true := by kernel_rfl
theorem fnNumDigits_c17 : ((Rows.fnNumDigitsRow.wideKeys == (Tryz.f3.params.toList ++ Rows.fnNumDigitsSpec.plain.varTypes Tryz.prog ++ Tryz.f3.resultTypes.toList).any (Tryz.prog.wideKeysFrom ·))) = true := by kernel_rfl
theorem fnNumDigits_c18 : (Rows.fnNumDigitsSpec.vars.all (Tryz.prog.varReadable ·)) = true := by kernel_rfl
theorem fnNumDigits_c19 : (Tryz.f3.resultTypes.all (fun t => Tryz.prog.readableRec t && decide (t < Tryz.prog.types.size))) = true := by kernel_rfl
theorem fnNumDigits_c20 : ((Rows.fnNumDigitsRow.ifacesOut == Tryz.f3.resultTypes.toList.any (Tryz.prog.ifacesRec ·))) = true := by kernel_rfl
theorem fnNumDigits_c21 : ((Rows.fnNumDigitsRow.loopsOut == Tryz.f3.resultTypes.toList.any (Tryz.prog.loopsFrom ·))) = true := by kernel_rfl
theorem fnNumDigits_c22 : ((Rows.fnNumDigitsRow.plainKeys == Tryz.prog.plainKeys)) = true := by kernel_rfl
theorem fnNumDigits_c23 : (Rows.fnNumDigitsRow.shortTexts.isNone) = true := by kernel_rfl
theorem fnNumDigits_c24 : (Tryz.prog.stopsHeard) = true := by kernel_rfl
theorem fnNumDigits_c25 : (Tryz.prog.mayEnter) = true := by kernel_rfl
theorem fnNumDigits_c26 : ((Rows.fnNumDigitsRow.lifted == Tryz.prog.liftsFinal)) = true := by kernel_rfl
theorem fnNumDigits_c27 : ((Tryz.prog.make == some Rows.fnNumDigitsRow.make)) = true := by kernel_rfl
theorem fnNumDigits_c28 : ((Rows.fnNumDigitsRow.kinds == (if Rows.fnNumDigitsRow.domain.isEmpty then [] else Tryz.f3.params.toList.map fun t => match Tryz.prog.underlying t with | some (.int k) => some k | _ => none))) = true := by kernel_rfl
theorem fnNumDigits_c29 : ((Rows.fnNumDigitsRow.pinned == Rows.fnNumDigitsRow.pinnedBy)) = true := by kernel_rfl
theorem fnNumDigits_c30 : ((Rows.fnNumDigitsRow.veiled == (Tryz.f3.params.toList ++ Rows.fnNumDigitsSpec.plain.varTypes Tryz.prog ++ Tryz.f3.resultTypes.toList).any (Tryz.prog.veiledRec ·))) = true := by kernel_rfl
theorem fnNumDigits_c31 : (Rows.fnNumDigitsRow.veiledFits Tryz.prog Tryz.f3.params.toList (Tryz.f3.params.toList ++ Rows.fnNumDigitsSpec.plain.varTypes Tryz.prog ++ Tryz.f3.resultTypes.toList)) = true := by kernel_rfl
theorem fnNumDigits_both {a b : Bool} (h : a = true) (k : b = true) : (a && b) = true := by subst h; exact k
set_option maxRecDepth 100000 in
theorem fnNumDigits_closed : joinedFacts Tryz.prog 3 Tryz.f3 Rows.fnNumDigitsSpec Rows.fnNumDigitsRow = true := by
  unfold joinedFacts
  exact (fnNumDigits_both (fnNumDigits_both (fnNumDigits_both (fnNumDigits_both (fnNumDigits_both (fnNumDigits_both (fnNumDigits_both (fnNumDigits_both (fnNumDigits_both (fnNumDigits_both (fnNumDigits_both (fnNumDigits_both (fnNumDigits_both (fnNumDigits_both (fnNumDigits_both (fnNumDigits_both (fnNumDigits_both (fnNumDigits_both (fnNumDigits_both (fnNumDigits_both (fnNumDigits_both (fnNumDigits_both (fnNumDigits_both (fnNumDigits_both (fnNumDigits_both (fnNumDigits_both (fnNumDigits_both (fnNumDigits_both (fnNumDigits_both (fnNumDigits_both (fnNumDigits_both fnNumDigits_c0 fnNumDigits_c1) fnNumDigits_c2) fnNumDigits_c3) fnNumDigits_c4) fnNumDigits_c5) fnNumDigits_c6) fnNumDigits_c7) fnNumDigits_c8) fnNumDigits_c9) fnNumDigits_c10) fnNumDigits_c11) fnNumDigits_c12) fnNumDigits_c13) fnNumDigits_c14) fnNumDigits_c15) fnNumDigits_c16) fnNumDigits_c17) fnNumDigits_c18) fnNumDigits_c19) fnNumDigits_c20) fnNumDigits_c21) fnNumDigits_c22) fnNumDigits_c23) fnNumDigits_c24) fnNumDigits_c25) fnNumDigits_c26) fnNumDigits_c27) fnNumDigits_c28) fnNumDigits_c29) fnNumDigits_c30) fnNumDigits_c31)

theorem fnNumDigits_over : Rows.fnNumDigitsRow.holds Tryz.pinned (OpenSpec.ofChange Rows.fnNumDigitsSpec) :=
  OpenClaim.holds_of_wide 3 Tryz.f3 rfl rfl rfl rfl rfl rfl rfl ⟨rfl, rfl, rfl, rfl, rfl⟩ rfl rfl rfl rfl rfl (by kernel_rfl) Tryz.func3 fnNumDigits_closed
    (of_decide_eq_true (by kernel_rfl)) (by unfold Func.isWrapper; first | (rw [if_pos (by decide +kernel)]; kernel_rfl) | (rw [if_neg (by decide +kernel)]; exact ⟨rfl, rfl⟩))
    (fun os started H enc _ => fnNumDigits_lifted os started H enc)

/-- The tied card. -/
theorem fnNumDigits_holds : Rows.FnNumDigitsCardSaid :=
  Claim7.holds_tied_plain_at .later [] [.data, .data, .data, .data, .data, .data, .data] true Rows.fnNumDigitsCard.stood.harness Rows.fnNumDigitsCard.stood.looks
    fnNumDigits_over (fun _ h => by cases h) (by kernel_rfl) (fun _ h => by cases h) fnNumDigits_row_tie rfl ⟨rfl, rfl⟩ (by kernel_rfl) (by kernel_rfl)
    (fun f fn hf hfn => by
      obtain rfl : f = 3 := Option.some.inj ((show Tryz.prog.funcNamed "loop.example/pub-g03241/laws.FnNumDigits" = some 3 by kernel_rfl).symm.trans hf) |>.symm
      obtain rfl : fn = Tryz.f3 := (Option.some.inj (Tryz.func3.symm.trans hfn)).symm
      have hall : Tryz.f3.params.all (fun t => !(Tryz.prog.wantsStandIn t)) = true := by kernel_rfl
      exact ⟨by kernel_rfl, fun j t ht => by
        obtain ⟨hj, rfl⟩ := Array.getElem?_eq_some_iff.1 ht
        have h1 := Array.all_eq_true.1 hall j hj
        have h2 : Tryz.prog.wantsStandIn (Tryz.f3.params[j]) = false := by simpa using h1
        exact h2⟩)
    (by kernel_rfl)
#print axioms fnNumDigits_holds
end Go.Proofs.YtlaepcfooopbmaaGreatDoor
