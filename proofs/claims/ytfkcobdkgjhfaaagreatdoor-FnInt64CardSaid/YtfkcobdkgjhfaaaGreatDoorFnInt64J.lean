/- 'laws.FnInt64': FOR EVERY INPUT THE LAW RETURNS TRUE, AND ITS ARGUMENTS READ BEHIND THE CALL AS THEY READ BEFORE. No condition is set on the input; the listed package variables start as the program's text lays them (tied by the card). -/
import Derived.Deep.DeepCutAuto
import Derived.Test.YtfkcobdkgjhfaaaGreatDoorTie
import Derived.Test.YtfkcobdkgjhfaaaGreatDoorCards
import Derived.LaidMore
import Derived.OpenVars
import Derived.SevenTiedAt
import Derived.Test.YtfkcobdkgjhfaaaGreatDoorG2
import Derived.Test.YtfkcobdkgjhfaaaGreatDoorG29
import Derived.Test.YtfkcobdkgjhfaaaGreatDoorG30
import Derived.Test.YtfkcobdkgjhfaaaGreatDoorG65
import Derived.Test.YtfkcobdkgjhfaaaGreatDoorG66
import Derived.Test.YtfkcobdkgjhfaaaGreatDoorG67
/- The law FnInt64: its walk. -/
set_option linter.unusedVariables false
set_option linter.unusedSimpArgs false
namespace Go.Proofs.YtfkcobdkgjhfaaaGreatDoor
open Go.RowKit

set_option maxHeartbeats 2000000 in
set_option maxRecDepth 20000 in
theorem fnInt64_walk (form : Int) (neg : Bool) (A : Option Addr) (c : Nat) (xs : List Nat) (exp : Int) (w : World) (hvars : VarsD w w.heap.size) (hv : RdG .u64 w (.slice A xs.length c) xs) (hd : Dig 18446744073709551616 xs) (_ : (Lit.int .i64 form).wf = true) (_ : (Lit.int .i64 exp).wf = true) :
    Calls Tryz.prog 6 #[.agg #[.int .i64 form, .bool neg, .slice A xs.length c, .int .i64 exp]] w (BoolP w true) := by
  have HVr := hide hvars
  clear hvars
  have hP : ∀ W : World, Below w.heap.size w W → BoolP w true (.returned (.bool true)) W := fun W h => ⟨rfl, h⟩
  have Fin := hide hP
  clear hP
  by_cases hbig : 2147483647 < xs.length
  · clear hv hd
    go_enter Tryz.func6, Tryz.ntmps6
    go_wp2_with fail
    refine (fits_no form neg A xs.length c exp _ hbig).mono ?_
    rintro e w1 ⟨rfl, hb⟩
    have F2 := hide (Fin.out w1 (((Below.refl _ _).alloc (Nat.le_refl _) _).trans (hb.mono (by simp))))
    clear hb
    go_wp2
    go_ret
    exact F2.out
  have hb0 : Blk (w.alloc (.cells #[.int .i64 form, .bool neg, .slice A xs.length c, .int .i64 exp] 24)) w.heap.size 24 #[.int .i64 form, .bool neg, .slice A xs.length c, .int .i64 exp] := Blk.new w _ _
  have hbe0 : Below w.heap.size w (w.alloc (.cells #[.int .i64 form, .bool neg, .slice A xs.length c, .int .i64 exp] 24)) := below_al (Below.refl _ _) _
  have hv0 : RdG .u64 (w.alloc (.cells #[.int .i64 form, .bool neg, .slice A xs.length c, .int .i64 exp] 24)) (.slice A xs.length c) xs := hv.below hbe0
  have HH := hide (And.intro hb0 (And.intro hbe0 (And.intro hv0 hd)))
  clear hv hd hb0 hbe0 hv0
  go_enter Tryz.func6, Tryz.ntmps6
  go_wp2_with fail
  generalize w.alloc (.cells #[.int .i64 form, .bool neg, .slice A xs.length c, .int .i64 exp] 24) = W at HH ⊢
  refine (fits_yes form neg A xs.length c exp _ (by omega)).mono ?_
  rintro e w1 ⟨rfl, hb⟩
  have hb1 := HH.out.1.below hb
  have hbe1 := below_next HH.out.2.1 hb
  have hv1 := HH.out.2.2.1.below hb
  obtain ⟨c0, c1, c2, c3⟩ := hb1.dec4
  have HD := hide HH.out.2.2.2
  have H1 := hide (And.intro hb1 (And.intro hbe1 hv1))
  clear hb hb1 hbe1 hv1 HH
  by_cases hout : xs.length ≤ 3 ∧ ¬ exp < -100 ∧ ¬ 100 < exp
  · obtain ⟨h3, h4, h5⟩ := hout
    have con := finite_in form neg A c xs exp w1 H1.out.2.2 h3 h4 h5 HD.out
    have Con := hide con
    clear con
    go_wp2_with fail
    refine (Con.out).mono ?_
    rintro e w2 ⟨B, cB, rfl, hown, hbel⟩
    have hbe2 := below_next H1.out.2.1 hbel
    cases hok : okB form xs with
    | false =>
      have F2 := hide (Fin.out _ (below_al hbe2 (.cells #[.bool neg, .slice B (digs 65536 (numW xs)).length cB, .int .i64 exp] 29)))
      clear hown hbel hbe2 hok Con H1
      go_wp2
      go_ret
      exact F2.out
    | true =>
      obtain ⟨rfl, hxs⟩ := okB_split hok
      obtain ⟨m, hm⟩ : ∃ m, m = numW xs := ⟨_, rfl⟩
      rw [← hm] at hown hxs ⊢
      subst hxs
      have hS : HeldV w w.heap.size w2.heap.size neg A c (digs 18446744073709551616 m) exp neg B cB (digs 65536 m) (w2.alloc (.cells #[.bool neg, .slice B (digs 65536 m).length cB, .int .i64 exp] 29)) :=
        ⟨below_al hbe2 _, (H1.out.1.below hbel).alloc _, Blk.new _ _ _, (H1.out.2.2.below hbel).below (below_al (Below.refl _ _) _), RdG.below (k := .i64) hown.rd (below_al (Below.refl _ _) _)⟩
      have HS := hide hS
      have HO : Hid (∀ W, Below w2.heap.size w2 W → OwnI W w.heap.size (.slice B (digs 65536 m).length cB) (digs 65536 m)) := fun W hW => (hown.below hW).lower (by have := H1.out.2.1.size; omega)
      have HW3 : Hid (Below w2.heap.size w2 (w2.alloc (.cells #[.bool neg, .slice B (digs 65536 m).length cB, .int .i64 exp] 29))) := below_al (Below.refl _ _) _
      clear hS hown hbel hbe2 hok Con H1 hm c0 c1 c2 c3
      go_upto_region 6 with fail
      generalize w2.alloc (.cells #[.bool neg, .slice B (digs 65536 m).length cB, .int .i64 exp] 29) = W3 at HS HW3 ⊢
      have h12 : (digs 65536 m).length ≤ 12 := digs_length_le (by omega) (Nat.lt_of_lt_of_le (lt_of_digs_length (b := 18446744073709551616) (by omega) h3) (by decide))
      obtain ⟨⟨a0, a1, a2, a3⟩, -, -, -⟩ := HS.out.cells
      have Con5 := hide (implI64_any neg A c m exp W3 HS.out.rx h3 (by omega) ((HVr.out.below HS.out.bel).raise HS.out.bel.size))
      have HM := hide (And.intro h12 (And.intro h4 h5))
      clear h3 h4 h5 h12 HVr HO HW3
      go_wp2_with fail
      refine (Con5.out).mono ?_
      rintro e w5 ⟨p, q, ep, eq, hN, hbel5, hc⟩
      have HS5 := hide (HS.out.below hbel5)
      obtain ⟨-, b0, b1, b2⟩ := HS5.out.cells
      have con6 := sI64_any neg B _ cB m exp p q ep eq w5 HS5.out.rv HM.out.1 hN ⟨by have := HM.out.2.1; omega, by have := HM.out.2.2; omega⟩
      unfold SI64P at con6
      obtain ⟨r, hr⟩ : ∃ r, r = resZ neg (p * 10 ^ ep.natAbs) := ⟨_, rfl⟩
      rw [← hr] at con6 hc
      clear hN hbel5 Con5 HS a0 a1 a2 a3 hr HM
      cases hfit : fitZ neg q (p * 10 ^ ep.natAbs) with
      | true =>
        rw [hfit] at con6 hc
        have he : e = .returned (.tuple #[.int .i64 r, .bool true]) := hc.elim (fun h => h.2) (fun h => by cases h.1)
        subst he
        have Con6 := hide con6
        clear con6 hc hfit
        go_wp2_with fail
        refine (Con6.out).mono ?_
        rintro e w6 ⟨rfl, hb6⟩
        have F2 := hide (Fin.out _ (below_next HS5.out.bel hb6))
        clear hb6 HS5 Con6 b0 b1 b2
        go_wp2
        go_ret
        exact F2.out
      | false =>
        rw [hfit] at con6 hc
        have he : e = .returned (.tuple #[.int .i64 0, .bool false]) := hc.elim (fun h => by cases h.1) (fun h => h.2)
        subst he
        have Con6 := hide con6
        clear con6 hc hfit
        go_wp2_with fail
        refine (Con6.out).mono ?_
        rintro e w6 ⟨rfl, hb6⟩
        have F2 := hide (Fin.out _ (below_next HS5.out.bel hb6))
        clear hb6 HS5 Con6 b0 b1 b2
        go_wp2
        go_ret
        exact F2.out
  · have con := finite_out form neg A xs.length c exp w1 hout
    have Con := hide con
    clear con hout
    go_wp2_with fail
    refine (Con.out).mono ?_
    rintro e w2 ⟨rfl, hb⟩
    have F2 := hide (Fin.out _ (below_al (below_next H1.out.2.1 hb) (.cells #[.bool false, .slice none 0 0, .int .i64 0] 29)))
    clear hb Con H1
    go_wp2
    go_ret
    exact F2.out
end Go.Proofs.YtfkcobdkgjhfaaaGreatDoor

set_option linter.unusedVariables false
set_option linter.unusedSimpArgs false
namespace Go.Proofs.YtfkcobdkgjhfaaaGreatDoor
open Go Go.ChangeShapes Go.WideShapes Go.ChangeAt Go.RowKit Go.Joins

/-- The heap that the door's own run leaves meets the condition. -/
theorem fnInt64_met (os : Os) (args : Array Value) : laidMetH Tryz.prog Rows.fnInt64Row.laid ((World.doorLaid Tryz.prog 400 os).forCall (fun _ _ => 0) ⟨#[], args, []⟩).memory :=
  laidMetH_of_parts3 (fuel := 8) (laidMet_of_run' 8 (by kernel_rfl) (by kernel_rfl)) (by kernel_rfl) (by kernel_rfl)

set_option maxRecDepth 100000 in
theorem fnInt64_lifted (os : Os) (started : os.Started) (H : Type) (enc : TypeId × Value → H) :
    ReturnsInHanded {} Tryz.checked os 6 .any (fun w args => (Rows.fnInt64Spec.pre enc Tryz.prog Tryz.f6 [] false w args ∧ laidMetH Tryz.prog Rows.fnInt64Row.laid w) ∧ sizedMet enc Tryz.prog Tryz.f6 (OpenSpec.ofChange Rows.fnInt64Spec) false w args) (Rows.fnInt64Spec.post enc Tryz.prog Tryz.f6 false true false false) := by
  refine returnsInHanded_of_change_and (C := Tryz.checked) (X := fun w _ => laidMetH Tryz.prog Rows.fnInt64Row.laid w) (fun _ _ _ hh h => h.of_heap hh) own started (by kernel_rfl) Tryz.func6
    (ChangeSpec.witness_shaped (enc := enc) (C := Tryz.checked) (os := os) (X := fun w _ => laidMetH Tryz.prog Rows.fnInt64Row.laid w) false (World.doorLaid Tryz.prog 400 os) #[.agg #[.int .i64 0, .bool false, .slice none 0 0, .int .i64 0]] 8 rfl (World.shaped_of_RefB (by kernel_rfl) (by kernel_rfl)) (by kernel_rfl) (by kernel_rfl) (by kernel_rfl) (fnInt64_met os _)) ?_
  intro W base args ds gs before hval0 hW _ _ hL _
  have hval : ∀ (j : Nat) t v, Tryz.f6.params[j]? = some t → args[j]? = some v → Value.okWide Tryz.prog W .any base t v := hval0
  have hW' := hW
  obtain ⟨p, q, hA0, hV, rfl, _, _⟩ := hW
  have hA : DataW.TrodAll enc Tryz.prog W 0 (fun _ => true) true Tryz.f6.params.toList args.toList ds p := hA0
  rw [Tryz.params6] at hA hval
  obtain ⟨v0, vs0, d0, ds0, p0, q0, hargs, rfl, rfl, h0, r0⟩ := trodAll_cons hA
  obtain ⟨rfl, rfl, rfl⟩ := trodAll_nil r0
  obtain rfl : args = #[v0] := by cases args; simp_all
  have hlen := trodVars_len hV
  obtain ⟨g1, g2, g3, g4, g5, rfl⟩ : ∃ g1 g2 g3 g4 g5, gs = [g1, g2, g3, g4, g5] := by
    match gs, hlen with
    | [g1, g2, g3, g4, g5], _ => exact ⟨_, _, _, _, _, rfl⟩
  have lt0 : ∀ x ∈ p0, x.block < W.heap.size := by obtain ⟨m, hm⟩ := h0; exact DataW.trod_lt m _ _ _ hm
  obtain ⟨form0, neg0, A0, c0, xs0, exp0, rfl, hv0, hd0, wf0, we0⟩ := dec_open (hval 0 24 v0 rfl rfl) h0
  clear hA0 hval0
  have hvars : VarsD W W.heap.size := varsD_of hL (by kernel_rfl) (by first | exact List.mem_of_getElem? (i := 0) rfl | exact List.mem_of_getElem? (i := 1) rfl | exact List.mem_of_getElem? (i := 2) rfl | exact List.mem_of_getElem? (i := 3) rfl | exact List.mem_of_getElem? (i := 4) rfl | exact List.mem_of_getElem? (i := 5) rfl | exact List.mem_of_getElem? (i := 6) rfl) (by first | exact List.mem_of_getElem? (i := 0) rfl | exact List.mem_of_getElem? (i := 1) rfl | exact List.mem_of_getElem? (i := 2) rfl | exact List.mem_of_getElem? (i := 3) rfl | exact List.mem_of_getElem? (i := 4) rfl | exact List.mem_of_getElem? (i := 5) rfl | exact List.mem_of_getElem? (i := 6) rfl) (by first | exact List.mem_of_getElem? (i := 0) rfl | exact List.mem_of_getElem? (i := 1) rfl | exact List.mem_of_getElem? (i := 2) rfl | exact List.mem_of_getElem? (i := 3) rfl | exact List.mem_of_getElem? (i := 4) rfl | exact List.mem_of_getElem? (i := 5) rfl | exact List.mem_of_getElem? (i := 6) rfl) (by first | exact List.mem_of_getElem? (i := 0) rfl | exact List.mem_of_getElem? (i := 1) rfl | exact List.mem_of_getElem? (i := 2) rfl | exact List.mem_of_getElem? (i := 3) rfl | exact List.mem_of_getElem? (i := 4) rfl | exact List.mem_of_getElem? (i := 5) rfl | exact List.mem_of_getElem? (i := 6) rfl) (by first | exact List.mem_of_getElem? (i := 0) rfl | exact List.mem_of_getElem? (i := 1) rfl | exact List.mem_of_getElem? (i := 2) rfl | exact List.mem_of_getElem? (i := 3) rfl | exact List.mem_of_getElem? (i := 4) rfl | exact List.mem_of_getElem? (i := 5) rfl | exact List.mem_of_getElem? (i := 6) rfl)
  refine (fnInt64_walk form0 neg0 A0 c0 xs0 exp0 W hvars hv0 hd0 wf0 we0).mono fun e W' ⟨he, bel⟩ => ?_
  subst he
  exact ⟨_, rfl, _, _, _, [], _, q, hW', trodAll_mk1 (shut_bool Tryz.underlying4 _), (trodAll_cons_mk (Below.trod laidOut (by kernel_rfl) (of_decide_eq_true (by kernel_rfl)) h0 bel lt0) trodAll_mk0), bel.trodVars laidOut (by kernel_rfl) hV, bel.frame _, fun h => by cases h⟩

/-! The row's closed facts, each a declaration of its own (in one they want more memory than there is). -/
theorem fnInt64_c0 : (Rows.fnInt64Row.wf (OpenSpec.ofChange Rows.fnInt64Spec)) = true := by kernel_rfl
theorem fnInt64_c1 : (laidOutB Tryz.prog) = true := by kernel_rfl
theorem fnInt64_c2 : (mapsRowed Tryz.prog) = true := by kernel_rfl
theorem fnInt64_c3 : (Tryz.f6.params.all (Tryz.prog.readableRec ·)) = true := by kernel_rfl
theorem fnInt64_c4 : (namedTie Tryz.prog Rows.fnInt64Row.named Rows.fnInt64Spec.vars) = true := by kernel_rfl
theorem fnInt64_c5 : ((Rows.fnInt64Row.stops == [])) = true := by kernel_rfl
theorem fnInt64_c6 : ((Tryz.prog.stops == [])) = true := by kernel_rfl
theorem fnInt64_c7 : ((Rows.fnInt64Row.knobs == [])) = true := by kernel_rfl
theorem fnInt64_c8 : ((Tryz.prog.stopKnobs == [])) = true := by kernel_rfl
theorem fnInt64_c9 : ((Rows.fnInt64Row.inPlace == Tryz.prog.inPlace 6)) = true := by kernel_rfl
theorem fnInt64_c10 : ((Rows.fnInt64Row.unfollowed == Tryz.prog.unfollowed 6)) = true := by kernel_rfl
theorem fnInt64_c11 : ((Rows.fnInt64Row.recurses == Tryz.prog.recurses 6)) = true := by kernel_rfl
theorem fnInt64_c12 : ((Rows.fnInt64Row.named == Tryz.prog.varsNamed 6)) = true := by kernel_rfl
theorem fnInt64_c13 : ((Rows.fnInt64Row.maps == (Tryz.f6.params.toList ++ Rows.fnInt64Spec.plain.varTypes Tryz.prog).any (Tryz.prog.mapsRec ·))) = true := by kernel_rfl
theorem fnInt64_c14 : ((Rows.fnInt64Row.ifaces == (Tryz.f6.params.toList ++ Rows.fnInt64Spec.plain.varTypes Tryz.prog).any (Tryz.prog.ifacesRec ·))) = true := by kernel_rfl
theorem fnInt64_c15 : ((Rows.fnInt64Row.mapsOut == Tryz.prog.mapsAmong Tryz.f6.resultTypes.toList)) = true := by kernel_rfl
theorem fnInt64_c16 : ((Rows.fnInt64Row.loops == (Tryz.f6.params.toList ++ Rows.fnInt64Spec.plain.varTypes Tryz.prog).any (Tryz.prog.loopsFrom ·))) = true := by kernel_rfl
theorem fnInt64_c17 : ((Rows.fnInt64Row.wideKeys == (Tryz.f6.params.toList ++ Rows.fnInt64Spec.plain.varTypes Tryz.prog ++ Tryz.f6.resultTypes.toList).any (Tryz.prog.wideKeysFrom ·))) = true := by kernel_rfl
theorem fnInt64_c18 : (Rows.fnInt64Spec.vars.all (Tryz.prog.varReadable ·)) = true := by kernel_rfl
theorem fnInt64_c19 : (Tryz.f6.resultTypes.all (fun t => Tryz.prog.readableRec t && decide (t < Tryz.prog.types.size))) = true := by kernel_rfl
theorem fnInt64_c20 : ((Rows.fnInt64Row.ifacesOut == Tryz.f6.resultTypes.toList.any (Tryz.prog.ifacesRec ·))) = true := by kernel_rfl
theorem fnInt64_c21 : ((Rows.fnInt64Row.loopsOut == Tryz.f6.resultTypes.toList.any (Tryz.prog.loopsFrom ·))) = true := by kernel_rfl
theorem fnInt64_c22 : ((Rows.fnInt64Row.plainKeys == Tryz.prog.plainKeys)) = true := by kernel_rfl
theorem fnInt64_c23 : (Rows.fnInt64Row.shortTexts.isNone) = true := by kernel_rfl
theorem fnInt64_c24 : (Tryz.prog.stopsHeard) = true := by kernel_rfl
theorem fnInt64_c25 : (Tryz.prog.mayEnter) = true := by kernel_rfl
theorem fnInt64_c26 : ((Rows.fnInt64Row.lifted == Tryz.prog.liftsFinal)) = true := by kernel_rfl
theorem fnInt64_c27 : ((Tryz.prog.make == some Rows.fnInt64Row.make)) = true := by kernel_rfl
theorem fnInt64_c28 : ((Rows.fnInt64Row.kinds == (if Rows.fnInt64Row.domain.isEmpty then [] else Tryz.f6.params.toList.map fun t => match Tryz.prog.underlying t with | some (.int k) => some k | _ => none))) = true := by kernel_rfl
theorem fnInt64_c29 : ((Rows.fnInt64Row.pinned == Rows.fnInt64Row.pinnedBy)) = true := by kernel_rfl
theorem fnInt64_c30 : ((Rows.fnInt64Row.veiled == (Tryz.f6.params.toList ++ Rows.fnInt64Spec.plain.varTypes Tryz.prog ++ Tryz.f6.resultTypes.toList).any (Tryz.prog.veiledRec ·))) = true := by kernel_rfl
theorem fnInt64_c31 : (Rows.fnInt64Row.veiledFits Tryz.prog Tryz.f6.params.toList (Tryz.f6.params.toList ++ Rows.fnInt64Spec.plain.varTypes Tryz.prog ++ Tryz.f6.resultTypes.toList)) = true := by kernel_rfl
theorem fnInt64_both {a b : Bool} (h : a = true) (k : b = true) : (a && b) = true := by subst h; exact k
set_option maxRecDepth 100000 in
theorem fnInt64_closed : joinedFacts Tryz.prog 6 Tryz.f6 Rows.fnInt64Spec Rows.fnInt64Row = true := by
  unfold joinedFacts
  exact (fnInt64_both (fnInt64_both (fnInt64_both (fnInt64_both (fnInt64_both (fnInt64_both (fnInt64_both (fnInt64_both (fnInt64_both (fnInt64_both (fnInt64_both (fnInt64_both (fnInt64_both (fnInt64_both (fnInt64_both (fnInt64_both (fnInt64_both (fnInt64_both (fnInt64_both (fnInt64_both (fnInt64_both (fnInt64_both (fnInt64_both (fnInt64_both (fnInt64_both (fnInt64_both (fnInt64_both (fnInt64_both (fnInt64_both (fnInt64_both (fnInt64_both fnInt64_c0 fnInt64_c1) fnInt64_c2) fnInt64_c3) fnInt64_c4) fnInt64_c5) fnInt64_c6) fnInt64_c7) fnInt64_c8) fnInt64_c9) fnInt64_c10) fnInt64_c11) fnInt64_c12) fnInt64_c13) fnInt64_c14) fnInt64_c15) fnInt64_c16) fnInt64_c17) fnInt64_c18) fnInt64_c19) fnInt64_c20) fnInt64_c21) fnInt64_c22) fnInt64_c23) fnInt64_c24) fnInt64_c25) fnInt64_c26) fnInt64_c27) fnInt64_c28) fnInt64_c29) fnInt64_c30) fnInt64_c31)

theorem fnInt64_over : Rows.fnInt64Row.holds Tryz.pinned (OpenSpec.ofChange Rows.fnInt64Spec) :=
  OpenClaim.holds_of_wide 6 Tryz.f6 rfl rfl rfl rfl rfl rfl rfl ⟨rfl, rfl, rfl, rfl, rfl⟩ rfl rfl rfl rfl rfl (by kernel_rfl) Tryz.func6 fnInt64_closed
    (of_decide_eq_true (by kernel_rfl)) (by unfold Func.isWrapper; first | (rw [if_pos (by decide +kernel)]; kernel_rfl) | (rw [if_neg (by decide +kernel)]; exact ⟨rfl, rfl⟩))
    (fun os started H enc _ => fnInt64_lifted os started H enc)

/-- The tied card. -/
theorem fnInt64_holds : Rows.FnInt64CardSaid :=
  Claim7.holds_tied_plain_at .later [] [.data, .data, .data, .data, .data, .data, .data] true Rows.fnInt64Card.stood.harness Rows.fnInt64Card.stood.looks
    fnInt64_over (fun _ h => by cases h) (by kernel_rfl) (fun _ h => by cases h) fnInt64_row_tie rfl ⟨rfl, rfl⟩ (by kernel_rfl) (by kernel_rfl)
    (fun f fn hf hfn => by
      obtain rfl : f = 6 := Option.some.inj ((show Tryz.prog.funcNamed "loop.example/pub-g03241/laws.FnInt64" = some 6 by kernel_rfl).symm.trans hf) |>.symm
      obtain rfl : fn = Tryz.f6 := (Option.some.inj (Tryz.func6.symm.trans hfn)).symm
      have hall : Tryz.f6.params.all (fun t => !(Tryz.prog.wantsStandIn t)) = true := by kernel_rfl
      exact ⟨by kernel_rfl, fun j t ht => by
        obtain ⟨hj, rfl⟩ := Array.getElem?_eq_some_iff.1 ht
        have h1 := Array.all_eq_true.1 hall j hj
        have h2 : Tryz.prog.wantsStandIn (Tryz.f6.params[j]) = false := by simpa using h1
        exact h2⟩)
    (by kernel_rfl)
#print axioms fnInt64_holds
end Go.Proofs.YtfkcobdkgjhfaaaGreatDoor
