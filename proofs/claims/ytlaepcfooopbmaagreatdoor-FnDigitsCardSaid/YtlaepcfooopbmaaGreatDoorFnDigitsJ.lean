/- 'laws.FnDigits': FOR EVERY INPUT THE LAW RETURNS TRUE, AND ITS ARGUMENTS READ BEHIND THE CALL AS THEY READ BEFORE. No condition is set on the input; the listed package variables start as the program's text lays them (tied by the card). -/
import Derived.Test.YtlaepcfooopbmaaGreatDoorTie
import Derived.Test.YtlaepcfooopbmaaGreatDoorCards
import Derived.LaidMore
import Derived.OpenVars
import Derived.SevenTiedAt
import Derived.Test.YtlaepcfooopbmaaGreatDoorG2
import Derived.Test.YtlaepcfooopbmaaGreatDoorG28
import Derived.Test.YtlaepcfooopbmaaGreatDoorG30
/- The law FnDigits: its walk. -/
set_option linter.unusedVariables false
set_option linter.unusedSimpArgs false
namespace Go.Proofs.YtlaepcfooopbmaaGreatDoor
open Go.RowKit

set_option maxHeartbeats 2000000 in
theorem fnDigits_walk (form : Int) (neg : Bool) (A : Option Addr) (c : Nat) (xs : List Nat) (exp : Int) (w : World) (hvars : VarsL w w.heap.size) (hv : RdG .u64 w (.slice A xs.length c) xs) (hd : Dig 18446744073709551616 xs) (_ : (Lit.int .i64 form).wf = true) (_ : (Lit.int .i64 exp).wf = true) :
    Calls Tryz.prog 4 #[.agg #[.int .i64 form, .bool neg, .slice A xs.length c, .int .i64 exp]] w (BoolP w true) := by
  have hP : ∀ W : World, Below w.heap.size w W → BoolP w true (.returned (.bool true)) W := fun W h => ⟨rfl, h⟩
  have Fin := hide hP
  clear hP
  by_cases hbig : 2147483647 < xs.length
  · clear hv hd hvars
    go_enter Tryz.func4, Tryz.ntmps4
    go_wp2_with fail
    refine (fits_no form neg A xs.length c exp _ hbig).mono ?_
    rintro e w1 ⟨rfl, hb⟩
    have F2 := hide (Fin.out w1 (((Below.refl _ _).alloc (Nat.le_refl _) _).trans (hb.mono (by simp))))
    clear hb
    go_wp2
    go_ret
    exact F2.out
  -- the box, and the first call
  have hb0 : Blk (w.alloc (.cells #[.int .i64 form, .bool neg, .slice A xs.length c, .int .i64 exp] 31)) w.heap.size 31 #[.int .i64 form, .bool neg, .slice A xs.length c, .int .i64 exp] := Blk.new w _ _
  have hbe0 : Below w.heap.size w (w.alloc (.cells #[.int .i64 form, .bool neg, .slice A xs.length c, .int .i64 exp] 31)) := below_al (Below.refl _ _) _
  have hv0 : RdG .u64 (w.alloc (.cells #[.int .i64 form, .bool neg, .slice A xs.length c, .int .i64 exp] 31)) (.slice A xs.length c) xs := hv.below hbe0
  have HH := hide (And.intro hb0 (And.intro hbe0 (And.intro hv0 hd)))
  have HVA := hide hvars
  clear hv hd hb0 hbe0 hv0 hvars
  go_enter Tryz.func4, Tryz.ntmps4
  go_wp2_with fail
  generalize w.alloc (.cells #[.int .i64 form, .bool neg, .slice A xs.length c, .int .i64 exp] 31) = W at HH ⊢
  refine (fits_yes form neg A xs.length c exp _ (by omega)).mono ?_
  rintro e w1 ⟨rfl, hb⟩
  have hb1 := HH.out.1.below hb
  have hbe1 := below_next HH.out.2.1 hb
  have hv1 := HH.out.2.2.1.below hb
  obtain ⟨c0, c1, c2, c3⟩ := hb1.dec4
  have HD := hide HH.out.2.2.2
  have H1 := hide (And.intro hb1 (And.intro hbe1 hv1))
  clear hb hb1 hbe1 hv1 HH
  by_cases hout : xs.length ≤ 3 ∧ ¬ exp < -100 ∧ ¬ 100 < exp
  · obtain ⟨h3, h4, h5⟩ := hout
    have con := finite_in form neg A c xs exp w1 H1.out.2.2 h3 h4 h5 HD.out
    have Con := hide con
    clear con
    go_wp2_with fail
    refine (Con.out).mono ?_
    rintro e w2 ⟨B, cB, rfl, hown, hbel⟩
    have hbe2 := below_next H1.out.2.1 hbel
    cases hok : okB form xs with
    | false =>
      have F2 := hide (Fin.out _ (below_al hbe2 (.cells #[.bool neg, .slice B (digs 65536 (numW xs)).length cB, .int .i64 exp] 34)).drew)
      clear hown hbel hbe2 hok Con H1
      go_wp2_with fail
      go_region
      all_goals go_wp2
      all_goals go_ret
      all_goals exact F2.out
    | true =>
      obtain ⟨rfl, hxs⟩ := okB_split hok
      obtain ⟨m, hm⟩ : ∃ m, m = numW xs := ⟨_, rfl⟩
      rw [← hm] at hown hxs ⊢
      subst hxs
      have hS : HeldV w w.heap.size w2.heap.size neg A c (digs 18446744073709551616 m) exp neg B cB (digs 65536 m) (w2.alloc (.cells #[.bool neg, .slice B (digs 65536 m).length cB, .int .i64 exp] 34)) :=
        ⟨below_al hbe2 _, (H1.out.1.below hbel).alloc _, Blk.new _ _ _, (H1.out.2.2.below hbel).below (below_al (Below.refl _ _) _), RdG.below (k := .i64) hown.rd (below_al (Below.refl _ _) _)⟩
      have HS := hide hS
      clear hS hown hbel hbe2 hok Con H1 hm
      obtain ⟨⟨a0, a1, a2, a3⟩, b0, b1, b2⟩ := HS.out.cells
      go_wp2_with fail
      generalize w2.alloc (.cells #[.bool neg, .slice B (digs 65536 m).length cB, .int .i64 exp] 34) = W3 at HS a0 a1 a2 a3 b0 b1 b2 ⊢
      by_cases hm0 : m = 0
      · subst hm0
        have hl : (digs 65536 0).length = 0 := by rw [digs_zero]; rfl
        have hsg : sgnI neg (digs 65536 0).length = 0 := by rw [hl]; rfl
        have HG := hide hsg
        clear hl hsg
        first
          | go_region_with (go_at_call 15; go_loud (refine (ssign_any neg B (digs 65536 0).length cB exp _).mono ?_; rintro e w4 ⟨rfl, hb4⟩; rw [HG.out]; have S4 := hide (HS.out.next hb4.os hb4.tape hb4.output hb4.size hb4.block); clear hb4))
          | fail
        all_goals go_wp2
        all_goals go_ret
        all_goals exact Fin.out _ S4.out.bel
      · have hl : (digs 65536 m).length ≠ 0 := fun h => digs_ne_nil (by omega) (Nat.pos_of_ne_zero hm0) (List.eq_nil_of_length_eq_zero h)
        have hlx : (digs 18446744073709551616 m).length ≠ 0 := fun h => digs_ne_nil (by omega) (Nat.pos_of_ne_zero hm0) (List.eq_nil_of_length_eq_zero h)
        have hsg : (sgnI neg (digs 65536 m).length == 0) = false := by rw [sgnI_beq]; simp [hl]
        have h3' : (digs 65536 m).length ≤ 12 := by
          refine digs_length_le (by omega) (Nat.lt_of_lt_of_le (lt_of_digs_length (b := 18446744073709551616) (by omega) h3) (by decide))
        clear hl hlx hm0 a0 a1 a2 a3 b0 b1 b2
        have ConD : Hid (∀ W, HeldV w w.heap.size w2.heap.size neg A c (digs 18446744073709551616 m) exp neg B cB (digs 65536 m) W → Calls Tryz.prog 16 #[.agg #[.int .i64 0, .bool neg, .slice A (digs 18446744073709551616 m).length c, .int .i64 exp]] W (FigP W m)) := fun W h => idig_fin neg A c m exp W h.rx (by omega) (by omega) (by omega) ((HVA.out.below h.bel).raise h.bel.size)
        have ConF : Hid (∀ W, HeldV w w.heap.size w2.heap.size neg A c (digs 18446744073709551616 m) exp neg B cB (digs 65536 m) W → Calls Tryz.prog 12 #[.slice B (digs 65536 m).length cB] W (FigP W m)) := fun W h => (sfigs_any B _ cB m W h.rv (by omega)).mono fun _ _ h => h
        obtain ⟨⟨a0, a1, a2, a3⟩, b0, b1, b2⟩ := HS.out.cells
        go_region_with (first | (go_at_call 15; go_loud (refine (ssign_any neg B (digs 65536 m).length cB exp _).mono ?_; rintro e w4 ⟨rfl, hb4⟩; have S4 := hide (HS.out.next hb4.os hb4.tape hb4.output hb4.size hb4.block); obtain ⟨⟨a0, a1, a2, a3⟩, b0, b1, b2⟩ := S4.out.cells; clear hb4)) | (go_at_call 16; go_loud (refine (ConD.out _ S4.out).mono ?_; rintro e w5 ⟨rfl, hb5⟩; have S5 := hide (S4.out.next hb5.os hb5.tape hb5.output hb5.size hb5.block); obtain ⟨_, b0, b1, b2⟩ := S5.out.cells; clear hb5)) | (go_at_call 12; go_loud (refine (ConF.out _ S5.out).mono ?_; rintro e w6 ⟨rfl, hb6⟩; have S6 := hide (S5.out.next hb6.os hb6.tape hb6.output hb6.size hb6.block); clear hb6)))
        all_goals go_wp2
        all_goals go_ret
        all_goals exact Fin.out _ S6.out.bel
  · have con := finite_out form neg A xs.length c exp w1 hout
    have Con := hide con
    clear con hout
    go_wp2_with fail
    refine (Con.out).mono ?_
    rintro e w2 ⟨rfl, hb⟩
    have F2 := hide (Fin.out _ (below_al (below_next H1.out.2.1 hb) (.cells #[.bool false, .slice none 0 0, .int .i64 0] 34)).drew)
    clear hb Con H1
    go_wp2_with fail
    go_region
    all_goals go_wp2
    all_goals go_ret
    all_goals exact F2.out
end Go.Proofs.YtlaepcfooopbmaaGreatDoor

set_option linter.unusedVariables false
set_option linter.unusedSimpArgs false
namespace Go.Proofs.YtlaepcfooopbmaaGreatDoor
open Go Go.ChangeShapes Go.WideShapes Go.ChangeAt Go.RowKit Go.Joins

/-- The heap that the door's own run leaves meets the condition. -/
theorem fnDigits_met (os : Os) (args : Array Value) : laidMetH Tryz.prog Rows.fnDigitsRow.laid ((World.doorLaid Tryz.prog 400 os).forCall (fun _ _ => 0) ⟨#[], args, []⟩).memory :=
  laidMetH_of_parts3 (fuel := 8) (laidMet_of_run' 8 (by kernel_rfl) (by kernel_rfl)) (by kernel_rfl) (by kernel_rfl)

set_option maxRecDepth 100000 in
theorem fnDigits_lifted (os : Os) (started : os.Started) (H : Type) (enc : TypeId × Value → H) :
    ReturnsInHanded {} Tryz.checked os 4 .any (fun w args => (Rows.fnDigitsSpec.pre enc Tryz.prog Tryz.f4 [] false w args ∧ laidMetH Tryz.prog Rows.fnDigitsRow.laid w) ∧ sizedMet enc Tryz.prog Tryz.f4 (OpenSpec.ofChange Rows.fnDigitsSpec) false w args) (Rows.fnDigitsSpec.post enc Tryz.prog Tryz.f4 false true false false) := by
  refine returnsInHanded_of_change_and (C := Tryz.checked) (X := fun w _ => laidMetH Tryz.prog Rows.fnDigitsRow.laid w) (fun _ _ _ hh h => h.of_heap hh) own started (by kernel_rfl) Tryz.func4
    (ChangeSpec.witness_shaped (enc := enc) (C := Tryz.checked) (os := os) (X := fun w _ => laidMetH Tryz.prog Rows.fnDigitsRow.laid w) false (World.doorLaid Tryz.prog 400 os) #[.agg #[.int .i64 0, .bool false, .slice none 0 0, .int .i64 0]] 8 rfl (World.shaped_of_RefB (by kernel_rfl) (by kernel_rfl)) (by kernel_rfl) (by kernel_rfl) (by kernel_rfl) (fnDigits_met os _)) ?_
  intro W base args ds gs before hval0 hW _ _ hL _
  have hval : ∀ (j : Nat) t v, Tryz.f4.params[j]? = some t → args[j]? = some v → Value.okWide Tryz.prog W .any base t v := hval0
  have hW' := hW
  obtain ⟨p, q, hA0, hV, rfl, _, _⟩ := hW
  have hA : DataW.TrodAll enc Tryz.prog W 0 (fun _ => true) true Tryz.f4.params.toList args.toList ds p := hA0
  rw [Tryz.params4] at hA hval
  obtain ⟨v0, vs0, d0, ds0, p0, q0, hargs, rfl, rfl, h0, r0⟩ := trodAll_cons hA
  obtain ⟨rfl, rfl, rfl⟩ := trodAll_nil r0
  obtain rfl : args = #[v0] := by cases args; simp_all
  have hlen := trodVars_len hV
  obtain ⟨g1, g2, g3, g4, g5, rfl⟩ : ∃ g1 g2 g3 g4 g5, gs = [g1, g2, g3, g4, g5] := by
    match gs, hlen with
    | [g1, g2, g3, g4, g5], _ => exact ⟨_, _, _, _, _, rfl⟩
  have lt0 : ∀ x ∈ p0, x.block < W.heap.size := by obtain ⟨m, hm⟩ := h0; exact DataW.trod_lt m _ _ _ hm
  obtain ⟨form0, neg0, A0, c0, xs0, exp0, rfl, hv0, hd0, wf0, we0⟩ := dec_open (hval 0 31 v0 rfl rfl) h0
  clear hA0 hval0
  have hvars : VarsL W W.heap.size := varsL_of hL (by kernel_rfl) (by first | exact List.mem_of_getElem? (i := 0) rfl | exact List.mem_of_getElem? (i := 1) rfl | exact List.mem_of_getElem? (i := 2) rfl | exact List.mem_of_getElem? (i := 3) rfl | exact List.mem_of_getElem? (i := 4) rfl | exact List.mem_of_getElem? (i := 5) rfl | exact List.mem_of_getElem? (i := 6) rfl) (by first | exact List.mem_of_getElem? (i := 0) rfl | exact List.mem_of_getElem? (i := 1) rfl | exact List.mem_of_getElem? (i := 2) rfl | exact List.mem_of_getElem? (i := 3) rfl | exact List.mem_of_getElem? (i := 4) rfl | exact List.mem_of_getElem? (i := 5) rfl | exact List.mem_of_getElem? (i := 6) rfl) (by first | exact List.mem_of_getElem? (i := 0) rfl | exact List.mem_of_getElem? (i := 1) rfl | exact List.mem_of_getElem? (i := 2) rfl | exact List.mem_of_getElem? (i := 3) rfl | exact List.mem_of_getElem? (i := 4) rfl | exact List.mem_of_getElem? (i := 5) rfl | exact List.mem_of_getElem? (i := 6) rfl) (by first | exact List.mem_of_getElem? (i := 0) rfl | exact List.mem_of_getElem? (i := 1) rfl | exact List.mem_of_getElem? (i := 2) rfl | exact List.mem_of_getElem? (i := 3) rfl | exact List.mem_of_getElem? (i := 4) rfl | exact List.mem_of_getElem? (i := 5) rfl | exact List.mem_of_getElem? (i := 6) rfl)
  refine (fnDigits_walk form0 neg0 A0 c0 xs0 exp0 W hvars hv0 hd0 wf0 we0).mono fun e W' ⟨he, bel⟩ => ?_
  subst he
  exact ⟨_, rfl, _, _, _, [], _, q, hW', trodAll_mk1 (shut_bool Tryz.underlying4 _), (trodAll_cons_mk (Below.trod laidOut (by kernel_rfl) (of_decide_eq_true (by kernel_rfl)) h0 bel lt0) trodAll_mk0), bel.trodVars laidOut (by kernel_rfl) hV, bel.frame _, fun h => by cases h⟩

/-! The row's closed facts, each a declaration of its own (in one they want more memory than there is). -/
theorem fnDigits_c0 : (Rows.fnDigitsRow.wf (OpenSpec.ofChange Rows.fnDigitsSpec)) = true := by kernel_rfl
theorem fnDigits_c1 : (laidOutB Tryz.prog) = true := by kernel_rfl
theorem fnDigits_c2 : (mapsRowed Tryz.prog) = true := by kernel_rfl
theorem fnDigits_c3 : (Tryz.f4.params.all (Tryz.prog.readableRec ·)) = true := by kernel_rfl
theorem fnDigits_c4 : (namedTie Tryz.prog Rows.fnDigitsRow.named Rows.fnDigitsSpec.vars) = true := by kernel_rfl
theorem fnDigits_c5 : ((Rows.fnDigitsRow.stops == [])) = true := by kernel_rfl
theorem fnDigits_c6 : ((Tryz.prog.stops == [])) = true := by kernel_rfl
theorem fnDigits_c7 : ((Rows.fnDigitsRow.knobs == [])) = true := by kernel_rfl
theorem fnDigits_c8 : ((Tryz.prog.stopKnobs == [])) = true := by kernel_rfl
theorem fnDigits_c9 : ((Rows.fnDigitsRow.inPlace == Tryz.prog.inPlace 4)) = true := by kernel_rfl
theorem fnDigits_c10 : ((Rows.fnDigitsRow.unfollowed == Tryz.prog.unfollowed 4)) = true := by kernel_rfl
theorem fnDigits_c11 : ((Rows.fnDigitsRow.recurses == Tryz.prog.recurses 4)) = true := by kernel_rfl
theorem fnDigits_c12 : ((Rows.fnDigitsRow.named == Tryz.prog.varsNamed 4)) = true := by kernel_rfl
theorem fnDigits_c13 : ((Rows.fnDigitsRow.maps == (Tryz.f4.params.toList ++ Rows.fnDigitsSpec.plain.varTypes Tryz.prog).any (Tryz.prog.mapsRec ·))) = true := by kernel_rfl
theorem fnDigits_c14 : ((Rows.fnDigitsRow.ifaces == (Tryz.f4.params.toList ++ Rows.fnDigitsSpec.plain.varTypes Tryz.prog).any (Tryz.prog.ifacesRec ·))) = true := by kernel_rfl
theorem fnDigits_c15 : ((Rows.fnDigitsRow.mapsOut == Tryz.prog.mapsAmong Tryz.f4.resultTypes.toList)) = true := by kernel_rfl
theorem fnDigits_c16 : ((Rows.fnDigitsRow.loops == (Tryz.f4.params.toList ++ Rows.fnDigitsSpec.plain.varTypes Tryz.prog).any (Tryz.prog.loopsFrom ·))) = true := by kernel_rfl
theorem fnDigits_c17 : ((Rows.fnDigitsRow.wideKeys == (Tryz.f4.params.toList ++ Rows.fnDigitsSpec.plain.varTypes Tryz.prog ++ Tryz.f4.resultTypes.toList).any (Tryz.prog.wideKeysFrom ·))) = true := by kernel_rfl
theorem fnDigits_c18 : (Rows.fnDigitsSpec.vars.all (Tryz.prog.varReadable ·)) = true := by kernel_rfl
theorem fnDigits_c19 : (Tryz.f4.resultTypes.all (fun t => Tryz.prog.readableRec t && decide (t < Tryz.prog.types.size))) = true := by kernel_rfl
theorem fnDigits_c20 : ((Rows.fnDigitsRow.ifacesOut == Tryz.f4.resultTypes.toList.any (Tryz.prog.ifacesRec ·))) = true := by kernel_rfl
theorem fnDigits_c21 : ((Rows.fnDigitsRow.loopsOut == Tryz.f4.resultTypes.toList.any (Tryz.prog.loopsFrom ·))) = true := by kernel_rfl
theorem fnDigits_c22 : ((Rows.fnDigitsRow.plainKeys == Tryz.prog.plainKeys)) = true := by kernel_rfl
theorem fnDigits_c23 : (Rows.fnDigitsRow.shortTexts.isNone) = true := by kernel_rfl
theorem fnDigits_c24 : (Tryz.prog.stopsHeard) = true := by kernel_rfl
theorem fnDigits_c25 : (Tryz.prog.mayEnter) = true := by kernel_rfl
theorem fnDigits_c26 : ((Rows.fnDigitsRow.lifted == Tryz.prog.liftsFinal)) = true := by kernel_rfl
theorem fnDigits_c27 : ((Tryz.prog.make == some Rows.fnDigitsRow.make)) = true := by kernel_rfl
theorem fnDigits_c28 : ((Rows.fnDigitsRow.kinds == (if Rows.fnDigitsRow.domain.isEmpty then [] else Tryz.f4.params.toList.map fun t => match Tryz.prog.underlying t with | some (.int k) => some k | _ => none))) = true := by kernel_rfl
theorem fnDigits_c29 : ((Rows.fnDigitsRow.pinned == Rows.fnDigitsRow.pinnedBy)) = true := by kernel_rfl
theorem fnDigits_c30 : ((Rows.fnDigitsRow.veiled == (Tryz.f4.params.toList ++ Rows.fnDigitsSpec.plain.varTypes Tryz.prog ++ Tryz.f4.resultTypes.toList).any (Tryz.prog.veiledRec ·))) = true := by kernel_rfl
theorem fnDigits_c31 : (Rows.fnDigitsRow.veiledFits Tryz.prog Tryz.f4.params.toList (Tryz.f4.params.toList ++ Rows.fnDigitsSpec.plain.varTypes Tryz.prog ++ Tryz.f4.resultTypes.toList)) = true := by kernel_rfl
theorem fnDigits_both {a b : Bool} (h : a = true) (k : b = true) : (a && b) = true := by subst h; exact k
set_option maxRecDepth 100000 in
theorem fnDigits_closed : joinedFacts Tryz.prog 4 Tryz.f4 Rows.fnDigitsSpec Rows.fnDigitsRow = true := by
  unfold joinedFacts
  exact (fnDigits_both (fnDigits_both (fnDigits_both (fnDigits_both (fnDigits_both (fnDigits_both (fnDigits_both (fnDigits_both (fnDigits_both (fnDigits_both (fnDigits_both (fnDigits_both (fnDigits_both (fnDigits_both (fnDigits_both (fnDigits_both (fnDigits_both (fnDigits_both (fnDigits_both (fnDigits_both (fnDigits_both (fnDigits_both (fnDigits_both (fnDigits_both (fnDigits_both (fnDigits_both (fnDigits_both (fnDigits_both (fnDigits_both (fnDigits_both (fnDigits_both fnDigits_c0 fnDigits_c1) fnDigits_c2) fnDigits_c3) fnDigits_c4) fnDigits_c5) fnDigits_c6) fnDigits_c7) fnDigits_c8) fnDigits_c9) fnDigits_c10) fnDigits_c11) fnDigits_c12) fnDigits_c13) fnDigits_c14) fnDigits_c15) fnDigits_c16) fnDigits_c17) fnDigits_c18) fnDigits_c19) fnDigits_c20) fnDigits_c21) fnDigits_c22) fnDigits_c23) fnDigits_c24) fnDigits_c25) fnDigits_c26) fnDigits_c27) fnDigits_c28) fnDigits_c29) fnDigits_c30) fnDigits_c31)

theorem fnDigits_over : Rows.fnDigitsRow.holds Tryz.pinned (OpenSpec.ofChange Rows.fnDigitsSpec) :=
  OpenClaim.holds_of_wide 4 Tryz.f4 rfl rfl rfl rfl rfl rfl rfl ⟨rfl, rfl, rfl, rfl, rfl⟩ rfl rfl rfl rfl rfl (by kernel_rfl) Tryz.func4 fnDigits_closed
    (of_decide_eq_true (by kernel_rfl)) (by unfold Func.isWrapper; first | (rw [if_pos (by decide +kernel)]; kernel_rfl) | (rw [if_neg (by decide +kernel)]; exact ⟨rfl, rfl⟩))
    (fun os started H enc _ => fnDigits_lifted os started H enc)

/-- The tied card. -/
theorem fnDigits_holds : Rows.FnDigitsCardSaid :=
  Claim7.holds_tied_plain_at .later [] [.data, .data, .data, .data, .data, .data, .data] true Rows.fnDigitsCard.stood.harness Rows.fnDigitsCard.stood.looks
    fnDigits_over (fun _ h => by cases h) (by kernel_rfl) (fun _ h => by cases h) fnDigits_row_tie rfl ⟨rfl, rfl⟩ (by kernel_rfl) (by kernel_rfl)
    (fun f fn hf hfn => by
      obtain rfl : f = 4 := Option.some.inj ((show Tryz.prog.funcNamed "loop.example/pub-g03241/laws.FnDigits" = some 4 by kernel_rfl).symm.trans hf) |>.symm
      obtain rfl : fn = Tryz.f4 := (Option.some.inj (Tryz.func4.symm.trans hfn)).symm
      have hall : Tryz.f4.params.all (fun t => !(Tryz.prog.wantsStandIn t)) = true := by kernel_rfl
      exact ⟨by kernel_rfl, fun j t ht => by
        obtain ⟨hj, rfl⟩ := Array.getElem?_eq_some_iff.1 ht
        have h1 := Array.all_eq_true.1 hall j hj
        have h2 : Tryz.prog.wantsStandIn (Tryz.f4.params[j]) = false := by simpa using h1
        exact h2⟩)
    (by kernel_rfl)
#print axioms fnDigits_holds
end Go.Proofs.YtlaepcfooopbmaaGreatDoor
