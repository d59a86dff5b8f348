/- 'laws.FnRoundNot': FOR EVERY INPUT THE LAW RETURNS TRUE, AND ITS ARGUMENTS READ BEHIND THE CALL AS THEY READ BEFORE. No condition is set on the input; the listed package variables start as the program's text lays them (tied by the card). -/
import Derived.Test.YtfkcobdkgjhfaaaGreatDoorTie
import Derived.Test.YtfkcobdkgjhfaaaGreatDoorCards
import Derived.LaidMore
import Derived.OpenVars
import Derived.SevenTiedAt
import Derived.Test.YtfkcobdkgjhfaaaGreatDoorG2
import Derived.Test.YtfkcobdkgjhfaaaGreatDoorG28
import Derived.Test.YtfkcobdkgjhfaaaGreatDoorG29
import Derived.Test.YtfkcobdkgjhfaaaGreatDoorG30
import Derived.Test.YtfkcobdkgjhfaaaGreatDoorG55
/- The law FnRoundNot: its walk. -/
set_option linter.unusedVariables false
set_option linter.unusedSimpArgs false
namespace Go.Proofs.YtfkcobdkgjhfaaaGreatDoor
open Go.RowKit

set_option maxHeartbeats 2000000 in
set_option maxRecDepth 20000 in
theorem fnRoundNot_walk (mm : Int) (form : Int) (neg : Bool) (A : Option Addr) (c : Nat) (xs : List Nat) (exp : Int) (w : World) (hvars : VarsL w w.heap.size) (hwm : (Lit.int .u8 mm).wf = true) (hv : RdG .u64 w (.slice A xs.length c) xs) (hd : Dig 18446744073709551616 xs) (_ : (Lit.int .i64 form).wf = true) (_ : (Lit.int .i64 exp).wf = true) :
    Calls Tryz.prog 7 #[.int .u8 mm, .agg #[.int .i64 form, .bool neg, .slice A xs.length c, .int .i64 exp]] w (BoolP w true) := by
  have hP : ∀ W : World, Below w.heap.size w W → BoolP w true (.returned (.bool true)) W := fun W h => ⟨rfl, h⟩
  have Fin := hide hP
  clear hP
  have ConW := hide (fun W => wide_any 0 mm W (by decide) hwm)
  clear hwm
  by_cases hbig : 2147483647 < xs.length
  · clear hv hd hvars ConW
    go_enter Tryz.func7, Tryz.ntmps7
    go_wp2_with fail
    refine (fits_no form neg A xs.length c exp _ hbig).mono ?_
    rintro e w1 ⟨rfl, hb⟩
    have F2 := hide (Fin.out w1 (((Below.refl _ _).alloc (Nat.le_refl _) _).trans (hb.mono (by simp))))
    clear hb
    go_wp2
    go_ret
    exact F2.out
  have hb0 : Blk (w.alloc (.cells #[.int .i64 form, .bool neg, .slice A xs.length c, .int .i64 exp] 24)) w.heap.size 24 #[.int .i64 form, .bool neg, .slice A xs.length c, .int .i64 exp] := Blk.new w _ _
  have hbe0 : Below w.heap.size w (w.alloc (.cells #[.int .i64 form, .bool neg, .slice A xs.length c, .int .i64 exp] 24)) := below_al (Below.refl _ _) _
  have hv0 : RdG .u64 (w.alloc (.cells #[.int .i64 form, .bool neg, .slice A xs.length c, .int .i64 exp] 24)) (.slice A xs.length c) xs := hv.below hbe0
  have HH := hide (And.intro hb0 (And.intro hbe0 (And.intro hv0 hd)))
  have HVA := hide hvars
  clear hv hd hb0 hbe0 hv0 hvars
  go_enter Tryz.func7, Tryz.ntmps7
  go_wp2_with fail
  generalize w.alloc (.cells #[.int .i64 form, .bool neg, .slice A xs.length c, .int .i64 exp] 24) = W at HH ⊢
  refine (fits_yes form neg A xs.length c exp _ (by omega)).mono ?_
  rintro e w1 ⟨rfl, hb⟩
  have hb1 := HH.out.1.below hb
  have hbe1 := below_next HH.out.2.1 hb
  have hv1 := HH.out.2.2.1.below hb
  obtain ⟨c0, c1, c2, c3⟩ := hb1.dec4
  have HD := hide HH.out.2.2.2
  have H1 := hide (And.intro hb1 (And.intro hbe1 hv1))
  clear hb hb1 hbe1 hv1 HH
  by_cases hout : xs.length ≤ 3 ∧ ¬ exp < -100 ∧ ¬ 100 < exp
  · obtain ⟨h3, h4, h5⟩ := hout
    have con := finite_in form neg A c xs exp w1 H1.out.2.2 h3 h4 h5 HD.out
    have Con := hide con
    clear con
    go_wp2_with fail
    refine (Con.out).mono ?_
    rintro e w2 ⟨B, cB, rfl, hown, hbel⟩
    have hbe2 := below_next H1.out.2.1 hbel
    cases hok : okB form xs with
    | false =>
      have F2 := hide (Fin.out _ (below_al hbe2 (.cells #[.bool neg, .slice B (digs 65536 (numW xs)).length cB, .int .i64 exp] 29)))
      clear hown hbel hbe2 hok Con H1 ConW
      go_wp2
      go_ret
      exact F2.out
    | true =>
      obtain ⟨rfl, hxs⟩ := okB_split hok
      obtain ⟨m, hm⟩ : ∃ m, m = numW xs := ⟨_, rfl⟩
      rw [← hm] at hown hxs ⊢
      subst hxs
      have hS : HeldV w w.heap.size w2.heap.size neg A c (digs 18446744073709551616 m) exp neg B cB (digs 65536 m) (w2.alloc (.cells #[.bool neg, .slice B (digs 65536 m).length cB, .int .i64 exp] 29)) :=
        ⟨below_al hbe2 _, (H1.out.1.below hbel).alloc _, Blk.new _ _ _, (H1.out.2.2.below hbel).below (below_al (Below.refl _ _) _), RdG.below (k := .i64) hown.rd (below_al (Below.refl _ _) _)⟩
      have HS := hide hS
      clear hS hown hbel hbe2 hok Con H1 hm c0 c1 c2 c3
      go_wp2_with fail
      generalize w2.alloc (.cells #[.bool neg, .slice B (digs 65536 m).length cB, .int .i64 exp] 29) = W3 at HS ⊢
      refine (ConW.out _).mono ?_
      rintro e w4 ⟨⟨q, k, hk, rfl⟩, hb4⟩
      have HS4 := hide (HS.out.below hb4)
      obtain ⟨W5, hW5⟩ : ∃ W, W = w4.alloc (.cells #[.int .u64 0, .int .i64 100000, .int .i64 (-100000), .int .i64 (k : Int)] 48) := ⟨_, rfl⟩
      have HS5 : Hid (HeldV w w.heap.size w2.heap.size neg A c (digs 18446744073709551616 m) exp neg B cB (digs 65536 m) W5) := by rw [hW5]; exact HS4.out.below (below_al (Below.refl _ _) _)
      have HK := hide hk
      clear hb4 HS HS4 ConW hk
      obtain ⟨⟨a0, a1, a2, a3⟩, -, -, -⟩ := HS5.out.cells
      rw [hW5] at a0 a1 a2 a3
      go_wp2_with fail
      rw [← hW5]
      clear hW5 a0 a1 a2 a3
      refine (irnd_any k HK.out neg A c m exp W5 HS5.out.rx (by omega) (by omega) ((HVA.out.below HS5.out.bel).raise HS5.out.bel.size)).mono ?_
      rintro e w6 ⟨D, cD, rfl, hown6, hbel6⟩
      have hb7 : Below w6.heap.size w6 (w6.alloc (.cells #[.int .i64 0, .bool neg, .slice D (digs 18446744073709551616 m).length cD, .int .i64 exp] 24)) := below_al (Below.refl _ _) _
      have HS7 := hide ((HS5.out.below hbel6).below hb7)
      have hoz : RdG .u64 (w6.alloc (.cells #[.int .i64 0, .bool neg, .slice D (digs 18446744073709551616 m).length cD, .int .i64 exp] 24)) (.slice D (digs 18446744073709551616 m).length cD) (digs 18446744073709551616 m) := RdG.below (k := .u64) hown6.rd hb7
      have HZ := hide hoz
      obtain ⟨-, d0, d1, d2⟩ := HS7.out.cells
      clear hown6 hbel6 hb7 hoz HS5
      go_wp2_with fail
      refine (isDec_yes neg neg D B cD cB m exp _ HZ.out HS7.out.rv (by omega) (.inl rfl)).mono ?_
      rintro e w8 ⟨rfl, hb8⟩
      have F2 := hide (Fin.out _ (below_next HS7.out.bel hb8))
      clear HS7 hb8 d0 d1 d2 HZ
      go_wp2
      go_ret
      exact F2.out
  · have con := finite_out form neg A xs.length c exp w1 hout
    have Con := hide con
    clear con hout ConW
    go_wp2_with fail
    refine (Con.out).mono ?_
    rintro e w2 ⟨rfl, hb⟩
    have F2 := hide (Fin.out _ (below_al (below_next H1.out.2.1 hb) (.cells #[.bool false, .slice none 0 0, .int .i64 0] 29)))
    clear hb Con H1
    go_wp2
    go_ret
    exact F2.out
end Go.Proofs.YtfkcobdkgjhfaaaGreatDoor

set_option linter.unusedVariables false
set_option linter.unusedSimpArgs false
namespace Go.Proofs.YtfkcobdkgjhfaaaGreatDoor
open Go Go.ChangeShapes Go.WideShapes Go.ChangeAt Go.RowKit Go.Joins

/-- The heap that the door's own run leaves meets the condition. -/
theorem fnRoundNot_met (os : Os) (args : Array Value) : laidMetH Tryz.prog Rows.fnRoundNotRow.laid ((World.doorLaid Tryz.prog 400 os).forCall (fun _ _ => 0) ⟨#[], args, []⟩).memory :=
  laidMetH_of_parts3 (fuel := 8) (laidMet_of_run' 8 (by kernel_rfl) (by kernel_rfl)) (by kernel_rfl) (by kernel_rfl)

set_option maxRecDepth 100000 in
theorem fnRoundNot_lifted (os : Os) (started : os.Started) (H : Type) (enc : TypeId × Value → H) :
    ReturnsInHanded {} Tryz.checked os 7 .any (fun w args => (Rows.fnRoundNotSpec.pre enc Tryz.prog Tryz.f7 [] false w args ∧ laidMetH Tryz.prog Rows.fnRoundNotRow.laid w) ∧ sizedMet enc Tryz.prog Tryz.f7 (OpenSpec.ofChange Rows.fnRoundNotSpec) false w args) (Rows.fnRoundNotSpec.post enc Tryz.prog Tryz.f7 false true false false) := by
  refine returnsInHanded_of_change_and (C := Tryz.checked) (X := fun w _ => laidMetH Tryz.prog Rows.fnRoundNotRow.laid w) (fun _ _ _ hh h => h.of_heap hh) own started (by kernel_rfl) Tryz.func7
    (ChangeSpec.witness_shaped (enc := enc) (C := Tryz.checked) (os := os) (X := fun w _ => laidMetH Tryz.prog Rows.fnRoundNotRow.laid w) false (World.doorLaid Tryz.prog 400 os) #[.int .u8 0, .agg #[.int .i64 0, .bool false, .slice none 0 0, .int .i64 0]] 8 rfl (World.shaped_of_RefB (by kernel_rfl) (by kernel_rfl)) (by kernel_rfl) (by kernel_rfl) (by kernel_rfl) (fnRoundNot_met os _)) ?_
  intro W base args ds gs before hval0 hW _ _ hL _
  have hval : ∀ (j : Nat) t v, Tryz.f7.params[j]? = some t → args[j]? = some v → Value.okWide Tryz.prog W .any base t v := hval0
  have hW' := hW
  obtain ⟨p, q, hA0, hV, rfl, _, _⟩ := hW
  have hA : DataW.TrodAll enc Tryz.prog W 0 (fun _ => true) true Tryz.f7.params.toList args.toList ds p := hA0
  rw [Tryz.params7] at hA hval
  obtain ⟨v0, vs0, d0, ds0, p0, q0, hargs, rfl, rfl, h0, r0⟩ := trodAll_cons hA
  obtain ⟨v1, vs1, d1, ds1, p1, q1, rfl, rfl, rfl, h1, r1⟩ := trodAll_cons r0
  obtain ⟨rfl, rfl, rfl⟩ := trodAll_nil r1
  obtain rfl : args = #[v0, v1] := by cases args; simp_all
  have hlen := trodVars_len hV
  obtain ⟨g1, g2, g3, g4, g5, rfl⟩ : ∃ g1 g2 g3 g4 g5, gs = [g1, g2, g3, g4, g5] := by
    match gs, hlen with
    | [g1, g2, g3, g4, g5], _ => exact ⟨_, _, _, _, _, rfl⟩
  obtain ⟨n0, rfl, rfl, rfl, wn0⟩ := open_int Tryz.underlying5 (hval 0 5 v0 rfl rfl) h0
  have lt1 : ∀ x ∈ p1, x.block < W.heap.size := by obtain ⟨m, hm⟩ := h1; exact DataW.trod_lt m _ _ _ hm
  obtain ⟨form1, neg1, A1, c1, xs1, exp1, rfl, hv1, hd1, wf1, we1⟩ := dec_open (hval 1 24 v1 rfl rfl) h1
  clear hA0 hval0
  have hvars : VarsL W W.heap.size := varsL_of hL (by kernel_rfl) (by first | exact List.mem_of_getElem? (i := 0) rfl | exact List.mem_of_getElem? (i := 1) rfl | exact List.mem_of_getElem? (i := 2) rfl | exact List.mem_of_getElem? (i := 3) rfl | exact List.mem_of_getElem? (i := 4) rfl | exact List.mem_of_getElem? (i := 5) rfl | exact List.mem_of_getElem? (i := 6) rfl) (by first | exact List.mem_of_getElem? (i := 0) rfl | exact List.mem_of_getElem? (i := 1) rfl | exact List.mem_of_getElem? (i := 2) rfl | exact List.mem_of_getElem? (i := 3) rfl | exact List.mem_of_getElem? (i := 4) rfl | exact List.mem_of_getElem? (i := 5) rfl | exact List.mem_of_getElem? (i := 6) rfl) (by first | exact List.mem_of_getElem? (i := 0) rfl | exact List.mem_of_getElem? (i := 1) rfl | exact List.mem_of_getElem? (i := 2) rfl | exact List.mem_of_getElem? (i := 3) rfl | exact List.mem_of_getElem? (i := 4) rfl | exact List.mem_of_getElem? (i := 5) rfl | exact List.mem_of_getElem? (i := 6) rfl) (by first | exact List.mem_of_getElem? (i := 0) rfl | exact List.mem_of_getElem? (i := 1) rfl | exact List.mem_of_getElem? (i := 2) rfl | exact List.mem_of_getElem? (i := 3) rfl | exact List.mem_of_getElem? (i := 4) rfl | exact List.mem_of_getElem? (i := 5) rfl | exact List.mem_of_getElem? (i := 6) rfl)
  refine (fnRoundNot_walk n0 form1 neg1 A1 c1 xs1 exp1 W hvars wn0 hv1 hd1 wf1 we1).mono fun e W' ⟨he, bel⟩ => ?_
  subst he
  exact ⟨_, rfl, _, _, _, [], _, q, hW', trodAll_mk1 (shut_bool Tryz.underlying4 _), (trodAll_cons_mk (shut_int Tryz.underlying5 wn0) (trodAll_cons_mk (Below.trod laidOut (by kernel_rfl) (of_decide_eq_true (by kernel_rfl)) h1 bel lt1) trodAll_mk0)), bel.trodVars laidOut (by kernel_rfl) hV, bel.frame _, fun h => by cases h⟩

/-! The row's closed facts, each a declaration of its own (in one they want more memory than there is). -/
theorem fnRoundNot_c0 : (Rows.fnRoundNotRow.wf (OpenSpec.ofChange Rows.fnRoundNotSpec)) = true := by kernel_rfl
theorem fnRoundNot_c1 : (laidOutB Tryz.prog) = true := by kernel_rfl
theorem fnRoundNot_c2 : (mapsRowed Tryz.prog) = true := by kernel_rfl
theorem fnRoundNot_c3 : (Tryz.f7.params.all (Tryz.prog.readableRec ·)) = true := by kernel_rfl
theorem fnRoundNot_c4 : (namedTie Tryz.prog Rows.fnRoundNotRow.named Rows.fnRoundNotSpec.vars) = true := by kernel_rfl
theorem fnRoundNot_c5 : ((Rows.fnRoundNotRow.stops == [])) = true := by kernel_rfl
theorem fnRoundNot_c6 : ((Tryz.prog.stops == [])) = true := by kernel_rfl
theorem fnRoundNot_c7 : ((Rows.fnRoundNotRow.knobs == [])) = true := by kernel_rfl
theorem fnRoundNot_c8 : ((Tryz.prog.stopKnobs == [])) = true := by kernel_rfl
theorem fnRoundNot_c9 : ((Rows.fnRoundNotRow.inPlace == Tryz.prog.inPlace 7)) = true := by kernel_rfl
theorem fnRoundNot_c10 : ((Rows.fnRoundNotRow.unfollowed == Tryz.prog.unfollowed 7)) = true := by kernel_rfl
theorem fnRoundNot_c11 : ((Rows.fnRoundNotRow.recurses == Tryz.prog.recurses 7)) = true := by kernel_rfl
theorem fnRoundNot_c12 : ((Rows.fnRoundNotRow.named == Tryz.prog.varsNamed 7)) = true := by kernel_rfl
theorem fnRoundNot_c13 : ((Rows.fnRoundNotRow.maps == (Tryz.f7.params.toList ++ Rows.fnRoundNotSpec.plain.varTypes Tryz.prog).any (Tryz.prog.mapsRec ·))) = true := by kernel_rfl
theorem fnRoundNot_c14 : ((Rows.fnRoundNotRow.ifaces == (Tryz.f7.params.toList ++ Rows.fnRoundNotSpec.plain.varTypes Tryz.prog).any (Tryz.prog.ifacesRec ·))) = true := by kernel_rfl
theorem fnRoundNot_c15 : ((Rows.fnRoundNotRow.mapsOut == Tryz.prog.mapsAmong Tryz.f7.resultTypes.toList)) = true := by kernel_rfl
theorem fnRoundNot_c16 : ((Rows.fnRoundNotRow.loops == (Tryz.f7.params.toList ++ Rows.fnRoundNotSpec.plain.varTypes Tryz.prog).any (Tryz.prog.loopsFrom ·))) = true := by kernel_rfl
theorem fnRoundNot_c17 : ((Rows.fnRoundNotRow.wideKeys == (Tryz.f7.params.toList ++ Rows.fnRoundNotSpec.plain.varTypes Tryz.prog ++ Tryz.f7.resultTypes.toList).any (Tryz.prog.wideKeysFrom ·))) = true := by kernel_rfl
theorem fnRoundNot_c18 : (Rows.fnRoundNotSpec.vars.all (Tryz.prog.varReadable ·)) = true := by kernel_rfl
theorem fnRoundNot_c19 : (Tryz.f7.resultTypes.all (fun t => Tryz.prog.readableRec t && decide (t < Tryz.prog.types.size))) = true := by kernel_rfl
theorem fnRoundNot_c20 : ((Rows.fnRoundNotRow.ifacesOut == Tryz.f7.resultTypes.toList.any (Tryz.prog.ifacesRec ·))) = true := by kernel_rfl
theorem fnRoundNot_c21 : ((Rows.fnRoundNotRow.loopsOut == Tryz.f7.resultTypes.toList.any (Tryz.prog.loopsFrom ·))) = true := by kernel_rfl
theorem fnRoundNot_c22 : ((Rows.fnRoundNotRow.plainKeys == Tryz.prog.plainKeys)) = true := by kernel_rfl
theorem fnRoundNot_c23 : (Rows.fnRoundNotRow.shortTexts.isNone) = true := by kernel_rfl
theorem fnRoundNot_c24 : (Tryz.prog.stopsHeard) = true := by kernel_rfl
theorem fnRoundNot_c25 : (Tryz.prog.mayEnter) = true := by kernel_rfl
theorem fnRoundNot_c26 : ((Rows.fnRoundNotRow.lifted == Tryz.prog.liftsFinal)) = true := by kernel_rfl
theorem fnRoundNot_c27 : ((Tryz.prog.make == some Rows.fnRoundNotRow.make)) = true := by kernel_rfl
theorem fnRoundNot_c28 : ((Rows.fnRoundNotRow.kinds == (if Rows.fnRoundNotRow.domain.isEmpty then [] else Tryz.f7.params.toList.map fun t => match Tryz.prog.underlying t with | some (.int k) => some k | _ => none))) = true := by kernel_rfl
theorem fnRoundNot_c29 : ((Rows.fnRoundNotRow.pinned == Rows.fnRoundNotRow.pinnedBy)) = true := by kernel_rfl
theorem fnRoundNot_c30 : ((Rows.fnRoundNotRow.veiled == (Tryz.f7.params.toList ++ Rows.fnRoundNotSpec.plain.varTypes Tryz.prog ++ Tryz.f7.resultTypes.toList).any (Tryz.prog.veiledRec ·))) = true := by kernel_rfl
theorem fnRoundNot_c31 : (Rows.fnRoundNotRow.veiledFits Tryz.prog Tryz.f7.params.toList (Tryz.f7.params.toList ++ Rows.fnRoundNotSpec.plain.varTypes Tryz.prog ++ Tryz.f7.resultTypes.toList)) = true := by kernel_rfl
theorem fnRoundNot_both {a b : Bool} (h : a = true) (k : b = true) : (a && b) = true := by subst h; exact k
set_option maxRecDepth 100000 in
theorem fnRoundNot_closed : joinedFacts Tryz.prog 7 Tryz.f7 Rows.fnRoundNotSpec Rows.fnRoundNotRow = true := by
  unfold joinedFacts
  exact (fnRoundNot_both (fnRoundNot_both (fnRoundNot_both (fnRoundNot_both (fnRoundNot_both (fnRoundNot_both (fnRoundNot_both (fnRoundNot_both (fnRoundNot_both (fnRoundNot_both (fnRoundNot_both (fnRoundNot_both (fnRoundNot_both (fnRoundNot_both (fnRoundNot_both (fnRoundNot_both (fnRoundNot_both (fnRoundNot_both (fnRoundNot_both (fnRoundNot_both (fnRoundNot_both (fnRoundNot_both (fnRoundNot_both (fnRoundNot_both (fnRoundNot_both (fnRoundNot_both (fnRoundNot_both (fnRoundNot_both (fnRoundNot_both (fnRoundNot_both (fnRoundNot_both fnRoundNot_c0 fnRoundNot_c1) fnRoundNot_c2) fnRoundNot_c3) fnRoundNot_c4) fnRoundNot_c5) fnRoundNot_c6) fnRoundNot_c7) fnRoundNot_c8) fnRoundNot_c9) fnRoundNot_c10) fnRoundNot_c11) fnRoundNot_c12) fnRoundNot_c13) fnRoundNot_c14) fnRoundNot_c15) fnRoundNot_c16) fnRoundNot_c17) fnRoundNot_c18) fnRoundNot_c19) fnRoundNot_c20) fnRoundNot_c21) fnRoundNot_c22) fnRoundNot_c23) fnRoundNot_c24) fnRoundNot_c25) fnRoundNot_c26) fnRoundNot_c27) fnRoundNot_c28) fnRoundNot_c29) fnRoundNot_c30) fnRoundNot_c31)

theorem fnRoundNot_over : Rows.fnRoundNotRow.holds Tryz.pinned (OpenSpec.ofChange Rows.fnRoundNotSpec) :=
  OpenClaim.holds_of_wide 7 Tryz.f7 rfl rfl rfl rfl rfl rfl rfl ⟨rfl, rfl, rfl, rfl, rfl⟩ rfl rfl rfl rfl rfl (by kernel_rfl) Tryz.func7 fnRoundNot_closed
    (of_decide_eq_true (by kernel_rfl)) (by unfold Func.isWrapper; first | (rw [if_pos (by decide +kernel)]; kernel_rfl) | (rw [if_neg (by decide +kernel)]; exact ⟨rfl, rfl⟩))
    (fun os started H enc _ => fnRoundNot_lifted os started H enc)

/-- The tied card. -/
theorem fnRoundNot_holds : Rows.FnRoundNotCardSaid :=
  Claim7.holds_tied_plain_at .later [] [.data, .data, .data, .data, .data, .data, .data] true Rows.fnRoundNotCard.stood.harness Rows.fnRoundNotCard.stood.looks
    fnRoundNot_over (fun _ h => by cases h) (by kernel_rfl) (fun _ h => by cases h) fnRoundNot_row_tie rfl ⟨rfl, rfl⟩ (by kernel_rfl) (by kernel_rfl)
    (fun f fn hf hfn => by
      obtain rfl : f = 7 := Option.some.inj ((show Tryz.prog.funcNamed "loop.example/pub-g03241/laws.FnRoundNot" = some 7 by kernel_rfl).symm.trans hf) |>.symm
      obtain rfl : fn = Tryz.f7 := (Option.some.inj (Tryz.func7.symm.trans hfn)).symm
      have hall : Tryz.f7.params.all (fun t => !(Tryz.prog.wantsStandIn t)) = true := by kernel_rfl
      exact ⟨by kernel_rfl, fun j t ht => by
        obtain ⟨hj, rfl⟩ := Array.getElem?_eq_some_iff.1 ht
        have h1 := Array.all_eq_true.1 hall j hj
        have h2 : Tryz.prog.wantsStandIn (Tryz.f7.params[j]) = false := by simpa using h1
        exact h2⟩)
    (by kernel_rfl)
#print axioms fnRoundNot_holds
end Go.Proofs.YtfkcobdkgjhfaaaGreatDoor
