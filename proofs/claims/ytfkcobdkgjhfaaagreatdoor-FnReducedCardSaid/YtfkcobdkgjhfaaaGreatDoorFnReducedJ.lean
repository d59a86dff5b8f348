/- 'laws.FnReduced': FOR EVERY INPUT THE LAW RETURNS TRUE, AND ITS ARGUMENTS READ BEHIND THE CALL AS THEY READ BEFORE. No condition is set on the input; the listed package variables start as the program's text lays them (tied by the card). -/
import Derived.Test.YtfkcobdkgjhfaaaGreatDoorTie
import Derived.Test.YtfkcobdkgjhfaaaGreatDoorCards
import Derived.LaidMore
import Derived.OpenVars
import Derived.SevenTiedAt
import Derived.Test.YtfkcobdkgjhfaaaGreatDoorG2
import Derived.Test.YtfkcobdkgjhfaaaGreatDoorG19
import Derived.Test.YtfkcobdkgjhfaaaGreatDoorG28
import Derived.Test.YtfkcobdkgjhfaaaGreatDoorG29
import Derived.Test.YtfkcobdkgjhfaaaGreatDoorG30
import Derived.Test.YtfkcobdkgjhfaaaGreatDoorG59
import Derived.Test.YtfkcobdkgjhfaaaGreatDoorG61
/- The law FnReduced: its walk. -/
set_option linter.unusedVariables false
set_option linter.unusedSimpArgs false
namespace Go.Proofs.YtfkcobdkgjhfaaaGreatDoor
open Go.RowKit

set_option maxHeartbeats 2000000 in
set_option maxRecDepth 20000 in
theorem fnReduced_walk (form : Int) (neg : Bool) (A : Option Addr) (c : Nat) (xs : List Nat) (exp : Int) (w : World) (_ : VarsL w w.heap.size) (hv : RdG .u64 w (.slice A xs.length c) xs) (hd : Dig 18446744073709551616 xs) (_ : (Lit.int .i64 form).wf = true) (_ : (Lit.int .i64 exp).wf = true) :
    Calls Tryz.prog 4 #[.agg #[.int .i64 form, .bool neg, .slice A xs.length c, .int .i64 exp]] w (BoolP w true) := by
  have hP : ∀ W : World, Below w.heap.size w W → BoolP w true (.returned (.bool true)) W := fun W h => ⟨rfl, h⟩
  have Fin := hide hP
  clear hP
  by_cases hbig : 2147483647 < xs.length
  · clear hv hd
    go_enter Tryz.func4, Tryz.ntmps4
    go_wp2_with fail
    refine (fits_no form neg A xs.length c exp _ hbig).mono ?_
    rintro e w1 ⟨rfl, hb⟩
    have F2 := hide (Fin.out w1 (((Below.refl _ _).alloc (Nat.le_refl _) _).trans (hb.mono (by simp))))
    clear hb
    go_wp2
    go_ret
    exact F2.out
  have hb0 : Blk (w.alloc (.cells #[.int .i64 form, .bool neg, .slice A xs.length c, .int .i64 exp] 24)) w.heap.size 24 #[.int .i64 form, .bool neg, .slice A xs.length c, .int .i64 exp] := Blk.new w _ _
  have hbe0 : Below w.heap.size w (w.alloc (.cells #[.int .i64 form, .bool neg, .slice A xs.length c, .int .i64 exp] 24)) := below_al (Below.refl _ _) _
  have hv0 : RdG .u64 (w.alloc (.cells #[.int .i64 form, .bool neg, .slice A xs.length c, .int .i64 exp] 24)) (.slice A xs.length c) xs := hv.below hbe0
  have HH := hide (And.intro hb0 (And.intro hbe0 (And.intro hv0 hd)))
  clear hv hd hb0 hbe0 hv0
  go_enter Tryz.func4, Tryz.ntmps4
  go_wp2_with fail
  generalize w.alloc (.cells #[.int .i64 form, .bool neg, .slice A xs.length c, .int .i64 exp] 24) = W at HH ⊢
  refine (fits_yes form neg A xs.length c exp _ (by omega)).mono ?_
  rintro e w1 ⟨rfl, hb⟩
  have hb1 := HH.out.1.below hb
  have hbe1 := below_next HH.out.2.1 hb
  have hv1 := HH.out.2.2.1.below hb
  obtain ⟨c0, c1, c2, c3⟩ := hb1.dec4
  have HD := hide HH.out.2.2.2
  have H1 := hide (And.intro hb1 (And.intro hbe1 hv1))
  clear hb hb1 hbe1 hv1 HH
  by_cases hout : xs.length ≤ 3 ∧ ¬ exp < -100 ∧ ¬ 100 < exp
  · obtain ⟨h3, h4, h5⟩ := hout
    have con := finite_in form neg A c xs exp w1 H1.out.2.2 h3 h4 h5 HD.out
    have Con := hide con
    clear con
    go_wp2_with fail
    refine (Con.out).mono ?_
    rintro e w2 ⟨B, cB, rfl, hown, hbel⟩
    have hbe2 := below_next H1.out.2.1 hbel
    cases hok : okB form xs with
    | false =>
      have F2 := hide (Fin.out _ (below_al hbe2 (.cells #[.bool neg, .slice B (digs 65536 (numW xs)).length cB, .int .i64 exp] 29)))
      clear hown hbel hbe2 hok Con H1
      go_wp2
      go_ret
      exact F2.out
    | true =>
      obtain ⟨rfl, hxs⟩ := okB_split hok
      obtain ⟨m, hm⟩ : ∃ m, m = numW xs := ⟨_, rfl⟩
      rw [← hm] at hown hxs ⊢
      subst hxs
      have hS : HeldV w w.heap.size w2.heap.size neg A c (digs 18446744073709551616 m) exp neg B cB (digs 65536 m) (w2.alloc (.cells #[.bool neg, .slice B (digs 65536 m).length cB, .int .i64 exp] 29)) :=
        ⟨below_al hbe2 _, (H1.out.1.below hbel).alloc _, Blk.new _ _ _, (H1.out.2.2.below hbel).below (below_al (Below.refl _ _) _), RdG.below (k := .i64) hown.rd (below_al (Below.refl _ _) _)⟩
      have HS := hide hS
      clear hS hown hbel hbe2 hok Con H1 hm c0 c1 c2 c3
      go_wp2_with fail
      generalize w2.alloc (.cells #[.bool neg, .slice B (digs 65536 m).length cB, .int .i64 exp] 29) = W3 at HS ⊢
      have h12 : (digs 65536 m).length ≤ 12 := digs_length_le (by omega) (Nat.lt_of_lt_of_le (lt_of_digs_length (b := 18446744073709551616) (by omega) h3) (by decide))
      refine (ssign_any neg B (digs 65536 m).length cB exp _).mono ?_
      rintro e w4 ⟨rfl, hb4⟩
      have HS4 := hide (HS.out.below hb4)
      clear HS hb4
      by_cases hm0 : m = 0
      · have hsg : (sgnI neg (digs 65536 m).length == 0) = true := by rw [hm0, digs_zero]; rfl
        have F2 := hide (Fin.out _ HS4.out.bel)
        clear HS4 hm0 h3 h12
        go_wp2
        go_ret
        exact F2.out
      · have hl : (digs 65536 m).length ≠ 0 := fun h => digs_ne_nil (by omega) (Nat.pos_of_ne_zero hm0) (List.eq_nil_of_length_eq_zero h)
        have hsg : (sgnI neg (digs 65536 m).length == 0) = false := by rw [sgnI_beq]; simp [hl]
        obtain ⟨⟨a0, a1, a2, a3⟩, -, -, -⟩ := HS4.out.cells
        have hpos : 0 < m := Nat.pos_of_ne_zero hm0
        have Con5 := hide (ired_any neg A c m exp w4 HS4.out.rx h3 hpos (by omega))
        have HM := hide (And.intro hpos (And.intro h12 (And.intro h3 (And.intro h4 h5))))
        clear hl hm0 hpos h3 h4 h5 h12
        go_wp2_with fail
        refine (Con5.out).mono ?_
        rintro e w5 ⟨t, D, cD, rfl, hdv, hlast, hown5, hbel5⟩
        obtain ⟨x, hx⟩ : ∃ x, x = exp + (t : Int) := ⟨_, rfl⟩
        rw [← hx]
        have hb6 : Below w5.heap.size w5 (w5.alloc (.cells #[.int .i64 0, .bool neg, .slice D (digs 18446744073709551616 (m / 10 ^ t)).length cD, .int .i64 x] 24)) := below_al (Below.refl _ _) _
        have hS6 := (HS4.out.below hbel5).below hb6
        have hZ6 := RdG.below (k := .u64) hown5.rd hb6
        have hB6 := Blk.new w5 24 #[.int .i64 0, .bool neg, .slice D (digs 18446744073709551616 (m / 10 ^ t)).length cD, .int .i64 x]
        have Con7 := hide (sbare_any neg B _ cB m exp _ hS6.rv HM.out.1 (by have := HM.out.2.1; omega) (by have := HM.out.2.2.2; omega))
        have HS6 := hide (And.intro hS6 (And.intro hZ6 (And.intro hB6 (And.intro hdv (And.intro hlast hx)))))
        obtain ⟨-, b0, b1, b2⟩ := hS6.cells
        clear hown5 hbel5 hb6 hS6 hZ6 hB6 hdv hlast hx HS4 Con5 a0 a1 a2 a3 hsg
        go_wp2_with fail
        generalize w5.alloc (.cells #[.int .i64 0, .bool neg, .slice D (digs 18446744073709551616 (m / 10 ^ t)).length cD, .int .i64 x] 24) = W6 at HS6 Con7 b0 b1 b2 ⊢
        refine (Con7.out).mono ?_
        rintro e w7 ⟨t2, B2, l2, c2, rfl, hrd, hdv2, hlast2, hb7⟩
        obtain rfl := tz_unique HS6.out.2.2.2.1 HS6.out.2.2.2.2.1 hdv2 hlast2
        obtain rfl := RdG.len hrd
        rw [← HS6.out.2.2.2.2.2]
        have hb8 : Below w7.heap.size w7 (w7.alloc (.cells #[.bool neg, .slice B2 (digs 65536 (m / 10 ^ t)).length c2, .int .i64 x] 29)) := below_al (Below.refl _ _) _
        have hZ8 := (RdG.below (k := .u64) HS6.out.2.1 hb7).below hb8
        have hR8 := RdG.below (k := .i64) hrd hb8
        obtain ⟨d0, d1, d2, d3⟩ := ((HS6.out.2.2.1.below hb7).below hb8).dec4
        have hbl := below_next (below_next HS6.out.1.bel hb7) hb8
        have hlm : (digs 18446744073709551616 (m / 10 ^ t)).length ≤ 1048576 := Nat.le_trans (digs_length_mono (by omega) (Nat.div_le_self _ _)) (Nat.le_trans HM.out.2.2.1 (by omega))
        have Con9 := hide (isDec_yes neg neg D B2 cD c2 (m / 10 ^ t) x _ hZ8 hR8 hlm (.inl rfl))
        have HB8 := hide hbl
        clear hb8 hZ8 hR8 hbl hlm hrd hdv2 hlast2 hb7 HS6 b0 b1 b2 Con7
        go_wp2_with fail
        refine (Con9.out).mono ?_
        rintro e w9 ⟨rfl, hb9⟩
        have F2 := hide (Fin.out _ (below_next HB8.out hb9))
        clear hb9 HB8 Con9 d0 d1 d2 d3
        go_wp2
        go_ret
        exact F2.out
  · have con := finite_out form neg A xs.length c exp w1 hout
    have Con := hide con
    clear con hout
    go_wp2_with fail
    refine (Con.out).mono ?_
    rintro e w2 ⟨rfl, hb⟩
    have F2 := hide (Fin.out _ (below_al (below_next H1.out.2.1 hb) (.cells #[.bool false, .slice none 0 0, .int .i64 0] 29)))
    clear hb Con H1
    go_wp2
    go_ret
    exact F2.out
end Go.Proofs.YtfkcobdkgjhfaaaGreatDoor

set_option linter.unusedVariables false
set_option linter.unusedSimpArgs false
namespace Go.Proofs.YtfkcobdkgjhfaaaGreatDoor
open Go Go.ChangeShapes Go.WideShapes Go.ChangeAt Go.RowKit Go.Joins

/-- The heap that the door's own run leaves meets the condition. -/
theorem fnReduced_met (os : Os) (args : Array Value) : laidMetH Tryz.prog Rows.fnReducedRow.laid ((World.doorLaid Tryz.prog 400 os).forCall (fun _ _ => 0) ⟨#[], args, []⟩).memory :=
  laidMetH_of_parts3 (fuel := 8) (laidMet_of_run' 8 (by kernel_rfl) (by kernel_rfl)) (by kernel_rfl) (by kernel_rfl)

set_option maxRecDepth 100000 in
theorem fnReduced_lifted (os : Os) (started : os.Started) (H : Type) (enc : TypeId × Value → H) :
    ReturnsInHanded {} Tryz.checked os 4 .any (fun w args => (Rows.fnReducedSpec.pre enc Tryz.prog Tryz.f4 [] false w args ∧ laidMetH Tryz.prog Rows.fnReducedRow.laid w) ∧ sizedMet enc Tryz.prog Tryz.f4 (OpenSpec.ofChange Rows.fnReducedSpec) false w args) (Rows.fnReducedSpec.post enc Tryz.prog Tryz.f4 false true false false) := by
  refine returnsInHanded_of_change_and (C := Tryz.checked) (X := fun w _ => laidMetH Tryz.prog Rows.fnReducedRow.laid w) (fun _ _ _ hh h => h.of_heap hh) own started (by kernel_rfl) Tryz.func4
    (ChangeSpec.witness_shaped (enc := enc) (C := Tryz.checked) (os := os) (X := fun w _ => laidMetH Tryz.prog Rows.fnReducedRow.laid w) false (World.doorLaid Tryz.prog 400 os) #[.agg #[.int .i64 0, .bool false, .slice none 0 0, .int .i64 0]] 8 rfl (World.shaped_of_RefB (by kernel_rfl) (by kernel_rfl)) (by kernel_rfl) (by kernel_rfl) (by kernel_rfl) (fnReduced_met os _)) ?_
  intro W base args ds gs before hval0 hW _ _ hL _
  have hval : ∀ (j : Nat) t v, Tryz.f4.params[j]? = some t → args[j]? = some v → Value.okWide Tryz.prog W .any base t v := hval0
  have hW' := hW
  obtain ⟨p, q, hA0, hV, rfl, _, _⟩ := hW
  have hA : DataW.TrodAll enc Tryz.prog W 0 (fun _ => true) true Tryz.f4.params.toList args.toList ds p := hA0
  rw [Tryz.params4] at hA hval
  obtain ⟨v0, vs0, d0, ds0, p0, q0, hargs, rfl, rfl, h0, r0⟩ := trodAll_cons hA
  obtain ⟨rfl, rfl, rfl⟩ := trodAll_nil r0
  obtain rfl : args = #[v0] := by cases args; simp_all
  have hlen := trodVars_len hV
  obtain ⟨g1, g2, g3, g4, g5, rfl⟩ : ∃ g1 g2 g3 g4 g5, gs = [g1, g2, g3, g4, g5] := by
    match gs, hlen with
    | [g1, g2, g3, g4, g5], _ => exact ⟨_, _, _, _, _, rfl⟩
  have lt0 : ∀ x ∈ p0, x.block < W.heap.size := by obtain ⟨m, hm⟩ := h0; exact DataW.trod_lt m _ _ _ hm
  obtain ⟨form0, neg0, A0, c0, xs0, exp0, rfl, hv0, hd0, wf0, we0⟩ := dec_open (hval 0 24 v0 rfl rfl) h0
  clear hA0 hval0
  have hvars : VarsL W W.heap.size := varsL_of hL (by kernel_rfl) (by first | exact List.mem_of_getElem? (i := 0) rfl | exact List.mem_of_getElem? (i := 1) rfl | exact List.mem_of_getElem? (i := 2) rfl | exact List.mem_of_getElem? (i := 3) rfl | exact List.mem_of_getElem? (i := 4) rfl | exact List.mem_of_getElem? (i := 5) rfl | exact List.mem_of_getElem? (i := 6) rfl) (by first | exact List.mem_of_getElem? (i := 0) rfl | exact List.mem_of_getElem? (i := 1) rfl | exact List.mem_of_getElem? (i := 2) rfl | exact List.mem_of_getElem? (i := 3) rfl | exact List.mem_of_getElem? (i := 4) rfl | exact List.mem_of_getElem? (i := 5) rfl | exact List.mem_of_getElem? (i := 6) rfl) (by first | exact List.mem_of_getElem? (i := 0) rfl | exact List.mem_of_getElem? (i := 1) rfl | exact List.mem_of_getElem? (i := 2) rfl | exact List.mem_of_getElem? (i := 3) rfl | exact List.mem_of_getElem? (i := 4) rfl | exact List.mem_of_getElem? (i := 5) rfl | exact List.mem_of_getElem? (i := 6) rfl) (by first | exact List.mem_of_getElem? (i := 0) rfl | exact List.mem_of_getElem? (i := 1) rfl | exact List.mem_of_getElem? (i := 2) rfl | exact List.mem_of_getElem? (i := 3) rfl | exact List.mem_of_getElem? (i := 4) rfl | exact List.mem_of_getElem? (i := 5) rfl | exact List.mem_of_getElem? (i := 6) rfl)
  refine (fnReduced_walk form0 neg0 A0 c0 xs0 exp0 W hvars hv0 hd0 wf0 we0).mono fun e W' ⟨he, bel⟩ => ?_
  subst he
  exact ⟨_, rfl, _, _, _, [], _, q, hW', trodAll_mk1 (shut_bool Tryz.underlying4 _), (trodAll_cons_mk (Below.trod laidOut (by kernel_rfl) (of_decide_eq_true (by kernel_rfl)) h0 bel lt0) trodAll_mk0), bel.trodVars laidOut (by kernel_rfl) hV, bel.frame _, fun h => by cases h⟩

/-! The row's closed facts, each a declaration of its own (in one they want more memory than there is). -/
theorem fnReduced_c0 : (Rows.fnReducedRow.wf (OpenSpec.ofChange Rows.fnReducedSpec)) = true := by kernel_rfl
theorem fnReduced_c1 : (laidOutB Tryz.prog) = true := by kernel_rfl
theorem fnReduced_c2 : (mapsRowed Tryz.prog) = true := by kernel_rfl
theorem fnReduced_c3 : (Tryz.f4.params.all (Tryz.prog.readableRec ·)) = true := by kernel_rfl
theorem fnReduced_c4 : (namedTie Tryz.prog Rows.fnReducedRow.named Rows.fnReducedSpec.vars) = true := by kernel_rfl
theorem fnReduced_c5 : ((Rows.fnReducedRow.stops == [])) = true := by kernel_rfl
theorem fnReduced_c6 : ((Tryz.prog.stops == [])) = true := by kernel_rfl
theorem fnReduced_c7 : ((Rows.fnReducedRow.knobs == [])) = true := by kernel_rfl
theorem fnReduced_c8 : ((Tryz.prog.stopKnobs == [])) = true := by kernel_rfl
theorem fnReduced_c9 : ((Rows.fnReducedRow.inPlace == Tryz.prog.inPlace 4)) = true := by kernel_rfl
theorem fnReduced_c10 : ((Rows.fnReducedRow.unfollowed == Tryz.prog.unfollowed 4)) = true := by kernel_rfl
theorem fnReduced_c11 : ((Rows.fnReducedRow.recurses == Tryz.prog.recurses 4)) = true := by kernel_rfl
theorem fnReduced_c12 : ((Rows.fnReducedRow.named == Tryz.prog.varsNamed 4)) = true := by kernel_rfl
theorem fnReduced_c13 : ((Rows.fnReducedRow.maps == (Tryz.f4.params.toList ++ Rows.fnReducedSpec.plain.varTypes Tryz.prog).any (Tryz.prog.mapsRec ·))) = true := by kernel_rfl
theorem fnReduced_c14 : ((Rows.fnReducedRow.ifaces == (Tryz.f4.params.toList ++ Rows.fnReducedSpec.plain.varTypes Tryz.prog).any (Tryz.prog.ifacesRec ·))) = true := by kernel_rfl
theorem fnReduced_c15 : ((Rows.fnReducedRow.mapsOut == Tryz.prog.mapsAmong Tryz.f4.resultTypes.toList)) = true := by kernel_rfl
theorem fnReduced_c16 : ((Rows.fnReducedRow.loops == (Tryz.f4.params.toList ++ Rows.fnReducedSpec.plain.varTypes Tryz.prog).any (Tryz.prog.loopsFrom ·))) = true := by kernel_rfl
theorem fnReduced_c17 : ((Rows.fnReducedRow.wideKeys == (Tryz.f4.params.toList ++ Rows.fnReducedSpec.plain.varTypes Tryz.prog ++ Tryz.f4.resultTypes.toList).any (Tryz.prog.wideKeysFrom ·))) = true := by kernel_rfl
theorem fnReduced_c18 : (Rows.fnReducedSpec.vars.all (Tryz.prog.varReadable ·)) = true := by kernel_rfl
theorem fnReduced_c19 : (Tryz.f4.resultTypes.all (fun t => Tryz.prog.readableRec t && decide (t < Tryz.prog.types.size))) = true := by kernel_rfl
theorem fnReduced_c20 : ((Rows.fnReducedRow.ifacesOut == Tryz.f4.resultTypes.toList.any (Tryz.prog.ifacesRec ·))) = true := by kernel_rfl
theorem fnReduced_c21 : ((Rows.fnReducedRow.loopsOut == Tryz.f4.resultTypes.toList.any (Tryz.prog.loopsFrom ·))) = true := by kernel_rfl
theorem fnReduced_c22 : ((Rows.fnReducedRow.plainKeys == Tryz.prog.plainKeys)) = true := by kernel_rfl
theorem fnReduced_c23 : (Rows.fnReducedRow.shortTexts.isNone) = true := by kernel_rfl
theorem fnReduced_c24 : (Tryz.prog.stopsHeard) = true := by kernel_rfl
theorem fnReduced_c25 : (Tryz.prog.mayEnter) = true := by kernel_rfl
theorem fnReduced_c26 : ((Rows.fnReducedRow.lifted == Tryz.prog.liftsFinal)) = true := by kernel_rfl
theorem fnReduced_c27 : ((Tryz.prog.make == some Rows.fnReducedRow.make)) = true := by kernel_rfl
theorem fnReduced_c28 : ((Rows.fnReducedRow.kinds == (if Rows.fnReducedRow.domain.isEmpty then [] else Tryz.f4.params.toList.map fun t => match Tryz.prog.underlying t with | some (.int k) => some k | _ => none))) = true := by kernel_rfl
theorem fnReduced_c29 : ((Rows.fnReducedRow.pinned == Rows.fnReducedRow.pinnedBy)) = true := by kernel_rfl
theorem fnReduced_c30 : ((Rows.fnReducedRow.veiled == (Tryz.f4.params.toList ++ Rows.fnReducedSpec.plain.varTypes Tryz.prog ++ Tryz.f4.resultTypes.toList).any (Tryz.prog.veiledRec ·))) = true := by kernel_rfl
theorem fnReduced_c31 : (Rows.fnReducedRow.veiledFits Tryz.prog Tryz.f4.params.toList (Tryz.f4.params.toList ++ Rows.fnReducedSpec.plain.varTypes Tryz.prog ++ Tryz.f4.resultTypes.toList)) = true := by kernel_rfl
theorem fnReduced_both {a b : Bool} (h : a = true) (k : b = true) : (a && b) = true := by subst h; exact k
set_option maxRecDepth 100000 in
theorem fnReduced_closed : joinedFacts Tryz.prog 4 Tryz.f4 Rows.fnReducedSpec Rows.fnReducedRow = true := by
  unfold joinedFacts
  exact (fnReduced_both (fnReduced_both (fnReduced_both (fnReduced_both (fnReduced_both (fnReduced_both (fnReduced_both (fnReduced_both (fnReduced_both (fnReduced_both (fnReduced_both (fnReduced_both (fnReduced_both (fnReduced_both (fnReduced_both (fnReduced_both (fnReduced_both (fnReduced_both (fnReduced_both (fnReduced_both (fnReduced_both (fnReduced_both (fnReduced_both (fnReduced_both (fnReduced_both (fnReduced_both (fnReduced_both (fnReduced_both (fnReduced_both (fnReduced_both (fnReduced_both fnReduced_c0 fnReduced_c1) fnReduced_c2) fnReduced_c3) fnReduced_c4) fnReduced_c5) fnReduced_c6) fnReduced_c7) fnReduced_c8) fnReduced_c9) fnReduced_c10) fnReduced_c11) fnReduced_c12) fnReduced_c13) fnReduced_c14) fnReduced_c15) fnReduced_c16) fnReduced_c17) fnReduced_c18) fnReduced_c19) fnReduced_c20) fnReduced_c21) fnReduced_c22) fnReduced_c23) fnReduced_c24) fnReduced_c25) fnReduced_c26) fnReduced_c27) fnReduced_c28) fnReduced_c29) fnReduced_c30) fnReduced_c31)

theorem fnReduced_over : Rows.fnReducedRow.holds Tryz.pinned (OpenSpec.ofChange Rows.fnReducedSpec) :=
  OpenClaim.holds_of_wide 4 Tryz.f4 rfl rfl rfl rfl rfl rfl rfl ⟨rfl, rfl, rfl, rfl, rfl⟩ rfl rfl rfl rfl rfl (by kernel_rfl) Tryz.func4 fnReduced_closed
    (of_decide_eq_true (by kernel_rfl)) (by unfold Func.isWrapper; first | (rw [if_pos (by decide +kernel)]; kernel_rfl) | (rw [if_neg (by decide +kernel)]; exact ⟨rfl, rfl⟩))
    (fun os started H enc _ => fnReduced_lifted os started H enc)

/-- The tied card. -/
theorem fnReduced_holds : Rows.FnReducedCardSaid :=
  Claim7.holds_tied_plain_at .later [] [.data, .data, .data, .data, .data, .data, .data] true Rows.fnReducedCard.stood.harness Rows.fnReducedCard.stood.looks
    fnReduced_over (fun _ h => by cases h) (by kernel_rfl) (fun _ h => by cases h) fnReduced_row_tie rfl ⟨rfl, rfl⟩ (by kernel_rfl) (by kernel_rfl)
    (fun f fn hf hfn => by
      obtain rfl : f = 4 := Option.some.inj ((show Tryz.prog.funcNamed "loop.example/pub-g03241/laws.FnReduced" = some 4 by kernel_rfl).symm.trans hf) |>.symm
      obtain rfl : fn = Tryz.f4 := (Option.some.inj (Tryz.func4.symm.trans hfn)).symm
      have hall : Tryz.f4.params.all (fun t => !(Tryz.prog.wantsStandIn t)) = true := by kernel_rfl
      exact ⟨by kernel_rfl, fun j t ht => by
        obtain ⟨hj, rfl⟩ := Array.getElem?_eq_some_iff.1 ht
        have h1 := Array.all_eq_true.1 hall j hj
        have h2 : Tryz.prog.wantsStandIn (Tryz.f4.params[j]) = false := by simpa using h1
        exact h2⟩)
    (by kernel_rfl)
#print axioms fnReduced_holds
end Go.Proofs.YtfkcobdkgjhfaaaGreatDoor
