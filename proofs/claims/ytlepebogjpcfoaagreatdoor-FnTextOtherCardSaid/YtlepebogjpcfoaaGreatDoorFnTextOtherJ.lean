/- 'laws.FnTextOther': FOR EVERY INPUT THE LAW RETURNS TRUE, AND ITS ARGUMENTS READ BEHIND THE CALL AS THEY READ BEFORE. No condition is set on the input; the listed package variables start as the program's text lays them (tied by the card). -/
import Derived.Test.YtlepebogjpcfoaaGreatDoorTie
import Derived.Test.YtlepebogjpcfoaaGreatDoorCards
import Derived.LaidMore
import Derived.OpenVars
import Derived.SevenTiedAt
import Derived.Test.YtlepebogjpcfoaaGreatDoorG2
import Derived.Test.YtlepebogjpcfoaaGreatDoorG28
import Derived.Test.YtlepebogjpcfoaaGreatDoorG30
import Derived.Test.YtlepebogjpcfoaaGreatDoorG42
/- The law FnTextOther: its walk. -/
set_option linter.unusedVariables false
set_option linter.unusedSimpArgs false
namespace Go.Proofs.YtlepebogjpcfoaaGreatDoor
open Go.RowKit

theorem small_rem43 {c : Int} (h : (Lit.int .u8 c).wf = true) : ∃ q : Nat, c % 43 = (q : Int) ∧ c.tmod 43 = (q : Int) ∧ IntKind.u8.wrap (q : Int) = (q : Int) ∧ q < 43 ∧ (q : Int) < 43 := by
  have h0 : 0 ≤ c ∧ c ≤ 255 := by simpa [Lit.wf, IntKind.min, IntKind.max, IntKind.signed, IntKind.bits] using h
  obtain ⟨n, rfl⟩ : ∃ n : Nat, c = (n : Int) := ⟨c.toNat, (Int.toNat_of_nonneg h0.1).symm⟩
  refine ⟨n % 43, by omega, by rw [Int.tmod_eq_emod_of_nonneg h0.1]; omega, ?_, by omega, by omega⟩
  simp [IntKind.wrap, IntKind.signed, IntKind.bits]; omega

set_option maxRecDepth 20000 in
theorem other_at (q : Nat) (hq : q < 43) : ∃ d : Nat, (∀ h, ((⟨#[97, 98, 99, 100, 104, 105, 106, 107, 108, 109, 110, 111, 112, 113, 114, 116, 117, 119, 120, 121, 122, 65, 66, 67, 68, 72, 73, 74, 75, 76, 77, 78, 79, 80, 81, 82, 84, 85, 86, 87, 88, 89, 90]⟩ : ByteArray)[q]'h).toNat = d) ∧ NoFmt (d : Int) ∧ d < 256 := by
  have key : ∀ q : Fin 43, (101 ≠ ((#[97, 98, 99, 100, 104, 105, 106, 107, 108, 109, 110, 111, 112, 113, 114, 116, 117, 119, 120, 121, 122, 65, 66, 67, 68, 72, 73, 74, 75, 76, 77, 78, 79, 80, 81, 82, 84, 85, 86, 87, 88, 89, 90] : Array UInt8)[q.val]'(by simp <;> omega)).toNat ∧ 69 ≠ ((#[97, 98, 99, 100, 104, 105, 106, 107, 108, 109, 110, 111, 112, 113, 114, 116, 117, 119, 120, 121, 122, 65, 66, 67, 68, 72, 73, 74, 75, 76, 77, 78, 79, 80, 81, 82, 84, 85, 86, 87, 88, 89, 90] : Array UInt8)[q.val]'(by simp <;> omega)).toNat ∧ 102 ≠ ((#[97, 98, 99, 100, 104, 105, 106, 107, 108, 109, 110, 111, 112, 113, 114, 116, 117, 119, 120, 121, 122, 65, 66, 67, 68, 72, 73, 74, 75, 76, 77, 78, 79, 80, 81, 82, 84, 85, 86, 87, 88, 89, 90] : Array UInt8)[q.val]'(by simp <;> omega)).toNat ∧ 103 ≠ ((#[97, 98, 99, 100, 104, 105, 106, 107, 108, 109, 110, 111, 112, 113, 114, 116, 117, 119, 120, 121, 122, 65, 66, 67, 68, 72, 73, 74, 75, 76, 77, 78, 79, 80, 81, 82, 84, 85, 86, 87, 88, 89, 90] : Array UInt8)[q.val]'(by simp <;> omega)).toNat ∧ 71 ≠ ((#[97, 98, 99, 100, 104, 105, 106, 107, 108, 109, 110, 111, 112, 113, 114, 116, 117, 119, 120, 121, 122, 65, 66, 67, 68, 72, 73, 74, 75, 76, 77, 78, 79, 80, 81, 82, 84, 85, 86, 87, 88, 89, 90] : Array UInt8)[q.val]'(by simp <;> omega)).toNat) ∧ ((#[97, 98, 99, 100, 104, 105, 106, 107, 108, 109, 110, 111, 112, 113, 114, 116, 117, 119, 120, 121, 122, 65, 66, 67, 68, 72, 73, 74, 75, 76, 77, 78, 79, 80, 81, 82, 84, 85, 86, 87, 88, 89, 90] : Array UInt8)[q.val]'(by simp <;> omega)).toNat < 256 := by decide
  have h := key ⟨q, hq⟩
  refine ⟨_, fun _ => rfl, ?_, h.2⟩
  obtain ⟨⟨h1, h2, h3, h4, h5⟩, _⟩ := h
  exact ⟨beq_eq_false_iff_ne.2 (fun e => h1 (Int.ofNat.inj e).symm), beq_eq_false_iff_ne.2 (fun e => h2 (Int.ofNat.inj e).symm), beq_eq_false_iff_ne.2 (fun e => h3 (Int.ofNat.inj e).symm), beq_eq_false_iff_ne.2 (fun e => h4 (Int.ofNat.inj e).symm), beq_eq_false_iff_ne.2 (fun e => h5 (Int.ofNat.inj e).symm)⟩

set_option maxHeartbeats 4000000 in
set_option maxRecDepth 20000 in
theorem fnTextOther_walk (form : Int) (neg : Bool) (A : Option Addr) (c : Nat) (xs : List Nat) (exp : Int) (k : Int) (w : World) (hvars : VarsL w w.heap.size) (hv : RdG .u64 w (.slice A xs.length c) xs) (hd : Dig 18446744073709551616 xs) (_ : (Lit.int .i64 form).wf = true) (_ : (Lit.int .i64 exp).wf = true) (hk : (Lit.int .u8 k).wf = true) :
    Calls Tryz.prog 4 #[.agg #[.int .i64 form, .bool neg, .slice A xs.length c, .int .i64 exp], .int .u8 k] w (BoolP w true) := by
  have hP : ∀ W : World, Below w.heap.size w W → BoolP w true (.returned (.bool true)) W := fun W h => ⟨rfl, h⟩
  have Fin := hide hP
  clear hP
  by_cases hbig : 2147483647 < xs.length
  · clear hv hd hvars
    go_enter Tryz.func4, Tryz.ntmps4
    go_wp2_with fail
    refine (fits_no form neg A xs.length c exp _ hbig).mono ?_
    rintro e w1 ⟨rfl, hb⟩
    have F2 := hide (Fin.out w1 (((Below.refl _ _).alloc (Nat.le_refl _) _).trans (hb.mono (by simp))))
    clear hb
    go_wp2
    go_ret
    exact F2.out
  -- the box, and the first call
  have hb0 : Blk (w.alloc (.cells #[.int .i64 form, .bool neg, .slice A xs.length c, .int .i64 exp] 24)) w.heap.size 24 #[.int .i64 form, .bool neg, .slice A xs.length c, .int .i64 exp] := Blk.new w _ _
  have hbe0 : Below w.heap.size w (w.alloc (.cells #[.int .i64 form, .bool neg, .slice A xs.length c, .int .i64 exp] 24)) := below_al (Below.refl _ _) _
  have hv0 : RdG .u64 (w.alloc (.cells #[.int .i64 form, .bool neg, .slice A xs.length c, .int .i64 exp] 24)) (.slice A xs.length c) xs := hv.below hbe0
  have HH := hide (And.intro hb0 (And.intro hbe0 (And.intro hv0 hd)))
  have HVA := hide hvars
  have HR0 := hide hv
  clear hv hd hb0 hbe0 hv0 hvars
  go_enter Tryz.func4, Tryz.ntmps4
  go_wp2_with fail
  generalize w.alloc (.cells #[.int .i64 form, .bool neg, .slice A xs.length c, .int .i64 exp] 24) = W at HH ⊢
  refine (fits_yes form neg A xs.length c exp _ (by omega)).mono ?_
  rintro e w1 ⟨rfl, hb⟩
  have hb1 := HH.out.1.below hb
  have hbe1 := below_next HH.out.2.1 hb
  have hv1 := HH.out.2.2.1.below hb
  obtain ⟨c0, c1, c2, c3⟩ := hb1.dec4
  have HD := hide HH.out.2.2.2
  have H1 := hide (And.intro hb1 (And.intro hbe1 hv1))
  clear hb hb1 hbe1 hv1 HH
  by_cases hout : xs.length ≤ 3 ∧ ¬ exp < -100 ∧ ¬ 100 < exp
  · obtain ⟨h3, h4, h5⟩ := hout
    have con := finite_in form neg A c xs exp w1 H1.out.2.2 h3 h4 h5 HD.out
    have Con := hide con
    clear con
    go_wp2_with fail
    refine (Con.out).mono ?_
    rintro e w2 ⟨B, cB, rfl, hown, hbel⟩
    have hbe2 := below_next H1.out.2.1 hbel
    cases hok : okB form xs with
    | false =>
      have F2 := hide (Fin.out _ (below_al hbe2 (.cells #[.bool neg, .slice B (digs 65536 (numW xs)).length cB, .int .i64 exp] 29)))
      clear hown hbel hbe2 hok Con H1
      go_wp2
      go_ret
      exact F2.out
    | true =>
      obtain ⟨rfl, hxs⟩ := okB_split hok
      obtain ⟨m, hm⟩ : ∃ m, m = numW xs := ⟨_, rfl⟩
      rw [← hm] at hown hxs ⊢
      subst hxs
      have hS : HeldV w w.heap.size w2.heap.size neg A c (digs 18446744073709551616 m) exp neg B cB (digs 65536 m) (w2.alloc (.cells #[.bool neg, .slice B (digs 65536 m).length cB, .int .i64 exp] 29)) :=
        ⟨below_al hbe2 _, (H1.out.1.below hbel).alloc _, Blk.new _ _ _, (H1.out.2.2.below hbel).below (below_al (Below.refl _ _) _), RdG.below (k := .i64) hown.rd (below_al (Below.refl _ _) _)⟩
      have HS := hide hS
      clear hS hown hbel hbe2 hok Con H1 hm
      obtain ⟨⟨a0, a1, a2, a3⟩, b0, b1, b2⟩ := HS.out.cells
      have HR : Hid (RdG .u64 w (.slice A (digs 18446744073709551616 m).length c) (digs 18446744073709551616 m)) := HR0
      obtain ⟨q, hq1, hq2, hq3, hq4, hq5⟩ := small_rem43 hk
      obtain ⟨d, hd, hdn, hd2⟩ := other_at q hq4
      have ConT : Hid (∀ W, Below w.heap.size w W → Calls Tryz.prog 12 #[.agg #[.int .i64 0, .bool neg, .slice A (digs 18446744073709551616 m).length c, .int .i64 exp], .int .u8 (d : Int)] W (TextP W [37, d])) := fun W h => by
        have := itext_other neg A c m exp (d : Int) W (HR.out.below h) h3 (by omega) (by omega) ((HVA.out.below h).raise h.size) hdn (by omega) (by omega)
        rwa [Int.toNat_natCast] at this
      have hconv : ∀ W g, W.cell? ⟨g, 0, none⟩ = some (.int .u8 (d : Int)) → (convert 38 9 (.slice (some ⟨g, 0, none⟩) 1 1)).run Tryz.prog W = .ok (.string (bstr [d])) W := fun W g h =>
        conv_text (xs := [d]) (.inr ⟨g, 0, 1, rfl, Nat.le_refl _, by simp [maxLen], fun i hi => by
          obtain rfl : i = 0 := by simpa using hi
          exact h⟩)
      have hcell : ∀ W : World, (W.alloc (.cells #[.int .u8 (d : Int)] 5)).cell? ⟨W.heap.size, 0, none⟩ = some (.int .u8 (d : Int)) := fun W => (Blk.new W 5 #[.int .u8 (d : Int)]).cell 0
      have hconv2 : ∀ W : World, (convert 38 9 (.slice (some ⟨W.heap.size, 0, none⟩) 1 1)).run Tryz.prog (W.alloc (.cells #[.int .u8 (d : Int)] 5)) = .ok (.string (bstr [d])) (W.alloc (.cells #[.int .u8 (d : Int)] 5)) := fun W => hconv _ _ (hcell W)
      have hconv3 : ∀ W : World, (convert 38 9 (.slice (some ⟨W.heap.size, 0, none⟩) 1 1)).run Tryz.prog (W.alloc (.cells #[.int .u8 (d : Int)] 5)).drew = .ok (.string (bstr [d])) (W.alloc (.cells #[.int .u8 (d : Int)] 5)).drew := fun W => hconv _ _ (hcell W)
      have Hconv := hide hconv
      have Hcell := hide hcell
      clear hconv hcell
      have hadd : ∀ W, (Op.stringOp .add ⟨#[37]⟩ (bstr [d])).run Tryz.prog W = .ok (.string (bstr [37, d])) W := fun W => add_text (a := ⟨#[37]⟩) (b := bstr [d]) (c := bstr [37, d]) (bstr_append [37] [d]).symm (by rw [bstr_size]; simp [ByteArray.size]) W
      unfold TextP at ConT
      generalize bstr [37, d] = p2 at ConT hadd
      generalize bstr [d] = p1 at Hconv hconv2 hconv3 hadd
      go_wp2_with fail
      clear hd hdn hd2 hq1 hq2 hq3 hq4 hq5
      generalize w2.alloc (.cells #[.bool neg, .slice B (digs 65536 m).length cB, .int .i64 exp] 29) = W3 at HS a0 a1 a2 a3 b0 b1 b2 ⊢
      obtain ⟨p0, p1', p2', p3⟩ := (HS.out.box.alloc (.cells #[.int .u8 (d : Int)] 5)).dec4
      have hlt3 := HS.out.box.lt
      have hne3 : w.heap.size ≠ W3.heap.size := by omega
      go_region_with (go_at_call 12; go_loud (refine (ConT.out _ ?_).mono ?_; (first | exact Below.mk HS.out.bel.os HS.out.bel.tape HS.out.bel.output HS.out.bel.size HS.out.bel.block | exact below_al (Below.mk HS.out.bel.os HS.out.bel.tape HS.out.bel.output HS.out.bel.size HS.out.bel.block) _ | exact Below.mk (below_al HS.out.bel (.cells #[.int .u8 (d : Int)] 5)).os (below_al HS.out.bel (.cells #[.int .u8 (d : Int)] 5)).tape (below_al HS.out.bel (.cells #[.int .u8 (d : Int)] 5)).output (below_al HS.out.bel (.cells #[.int .u8 (d : Int)] 5)).size (below_al HS.out.bel (.cells #[.int .u8 (d : Int)] 5)).block); rintro e w4 ⟨rfl, hb4⟩; have S4 : Hid (Below w.heap.size w w4) := (by first | exact below_next HS.out.bel (Below.mk hb4.os hb4.tape hb4.output hb4.size hb4.block) | exact below_next (below_al HS.out.bel (.cells #[.int .u8 (d : Int)] 5)) (Below.mk hb4.os hb4.tape hb4.output hb4.size hb4.block)); try (have hsz4 : W3.heap.size < (W3.alloc (.cells #[.int .u8 (d : Int)] 5)).heap.size := (by simp); have hc4 : w4.cell? ⟨W3.heap.size, 0, none⟩ = some (.int .u8 (d : Int)) := Eq.trans (World.cell?_of_block (a := ⟨W3.heap.size, 0, none⟩) (w := (W3.alloc (.cells #[.int .u8 (d : Int)] 5))) (hb4.block W3.heap.size hsz4)) (Hcell.out W3); have hcv4 := Hconv.out w4 W3.heap.size hc4; clear hsz4 hc4)))
      all_goals go_wp2
      all_goals go_ret
      all_goals first | exact Fin.out _ S4.out | exact Fin.out _ (below_al S4.out _)
  · have con := finite_out form neg A xs.length c exp w1 hout
    have Con := hide con
    clear con hout
    go_wp2_with fail
    refine (Con.out).mono ?_
    rintro e w2 ⟨rfl, hb⟩
    have F2 := hide (Fin.out _ (below_al (below_next H1.out.2.1 hb) (.cells #[.bool false, .slice none 0 0, .int .i64 0] 29)))
    clear hb Con H1
    go_wp2
    go_ret
    exact F2.out
end Go.Proofs.YtlepebogjpcfoaaGreatDoor

set_option linter.unusedVariables false
set_option linter.unusedSimpArgs false
namespace Go.Proofs.YtlepebogjpcfoaaGreatDoor
open Go Go.ChangeShapes Go.WideShapes Go.ChangeAt Go.RowKit Go.Joins

/-- The heap that the door's own run leaves meets the condition. -/
theorem fnTextOther_met (os : Os) (args : Array Value) : laidMetH Tryz.prog Rows.fnTextOtherRow.laid ((World.doorLaid Tryz.prog 400 os).forCall (fun _ _ => 0) ⟨#[], args, []⟩).memory :=
  laidMetH_of_parts3 (fuel := 8) (laidMet_of_run' 8 (by kernel_rfl) (by kernel_rfl)) (by kernel_rfl) (by kernel_rfl)

set_option maxRecDepth 100000 in
theorem fnTextOther_lifted (os : Os) (started : os.Started) (H : Type) (enc : TypeId × Value → H) :
    ReturnsInHanded {} Tryz.checked os 4 .any (fun w args => (Rows.fnTextOtherSpec.pre enc Tryz.prog Tryz.f4 [] false w args ∧ laidMetH Tryz.prog Rows.fnTextOtherRow.laid w) ∧ sizedMet enc Tryz.prog Tryz.f4 (OpenSpec.ofChange Rows.fnTextOtherSpec) false w args) (Rows.fnTextOtherSpec.post enc Tryz.prog Tryz.f4 false true false false) := by
  refine returnsInHanded_of_change_and (C := Tryz.checked) (X := fun w _ => laidMetH Tryz.prog Rows.fnTextOtherRow.laid w) (fun _ _ _ hh h => h.of_heap hh) own started (by kernel_rfl) Tryz.func4
    (ChangeSpec.witness_shaped (enc := enc) (C := Tryz.checked) (os := os) (X := fun w _ => laidMetH Tryz.prog Rows.fnTextOtherRow.laid w) false (World.doorLaid Tryz.prog 400 os) #[.agg #[.int .i64 0, .bool false, .slice none 0 0, .int .i64 0], .int .u8 0] 8 rfl (World.shaped_of_RefB (by kernel_rfl) (by kernel_rfl)) (by kernel_rfl) (by kernel_rfl) (by kernel_rfl) (fnTextOther_met os _)) ?_
  intro W base args ds gs before hval0 hW _ _ hL _
  have hval : ∀ (j : Nat) t v, Tryz.f4.params[j]? = some t → args[j]? = some v → Value.okWide Tryz.prog W .any base t v := hval0
  have hW' := hW
  obtain ⟨p, q, hA0, hV, rfl, _, _⟩ := hW
  have hA : DataW.TrodAll enc Tryz.prog W 0 (fun _ => true) true Tryz.f4.params.toList args.toList ds p := hA0
  rw [Tryz.params4] at hA hval
  obtain ⟨v0, vs0, d0, ds0, p0, q0, hargs, rfl, rfl, h0, r0⟩ := trodAll_cons hA
  obtain ⟨v1, vs1, d1, ds1, p1, q1, rfl, rfl, rfl, h1, r1⟩ := trodAll_cons r0
  obtain ⟨rfl, rfl, rfl⟩ := trodAll_nil r1
  obtain rfl : args = #[v0, v1] := by cases args; simp_all
  have hlen := trodVars_len hV
  obtain ⟨g1, g2, g3, g4, g5, rfl⟩ : ∃ g1 g2 g3 g4 g5, gs = [g1, g2, g3, g4, g5] := by
    match gs, hlen with
    | [g1, g2, g3, g4, g5], _ => exact ⟨_, _, _, _, _, rfl⟩
  have lt0 : ∀ x ∈ p0, x.block < W.heap.size := by obtain ⟨m, hm⟩ := h0; exact DataW.trod_lt m _ _ _ hm
  obtain ⟨form0, neg0, A0, c0, xs0, exp0, rfl, hv0, hd0, wf0, we0⟩ := dec_open (hval 0 24 v0 rfl rfl) h0
  obtain ⟨n1, rfl, rfl, rfl, wn1⟩ := open_int Tryz.underlying5 (hval 1 5 v1 rfl rfl) h1
  clear hA0 hval0
  have hvars : VarsL W W.heap.size := varsL_of hL (by kernel_rfl) (by first | exact List.mem_of_getElem? (i := 0) rfl | exact List.mem_of_getElem? (i := 1) rfl | exact List.mem_of_getElem? (i := 2) rfl | exact List.mem_of_getElem? (i := 3) rfl | exact List.mem_of_getElem? (i := 4) rfl | exact List.mem_of_getElem? (i := 5) rfl | exact List.mem_of_getElem? (i := 6) rfl | exact List.mem_of_getElem? (i := 7) rfl) (by first | exact List.mem_of_getElem? (i := 0) rfl | exact List.mem_of_getElem? (i := 1) rfl | exact List.mem_of_getElem? (i := 2) rfl | exact List.mem_of_getElem? (i := 3) rfl | exact List.mem_of_getElem? (i := 4) rfl | exact List.mem_of_getElem? (i := 5) rfl | exact List.mem_of_getElem? (i := 6) rfl | exact List.mem_of_getElem? (i := 7) rfl) (by first | exact List.mem_of_getElem? (i := 0) rfl | exact List.mem_of_getElem? (i := 1) rfl | exact List.mem_of_getElem? (i := 2) rfl | exact List.mem_of_getElem? (i := 3) rfl | exact List.mem_of_getElem? (i := 4) rfl | exact List.mem_of_getElem? (i := 5) rfl | exact List.mem_of_getElem? (i := 6) rfl | exact List.mem_of_getElem? (i := 7) rfl) (by first | exact List.mem_of_getElem? (i := 0) rfl | exact List.mem_of_getElem? (i := 1) rfl | exact List.mem_of_getElem? (i := 2) rfl | exact List.mem_of_getElem? (i := 3) rfl | exact List.mem_of_getElem? (i := 4) rfl | exact List.mem_of_getElem? (i := 5) rfl | exact List.mem_of_getElem? (i := 6) rfl | exact List.mem_of_getElem? (i := 7) rfl)
  refine (fnTextOther_walk form0 neg0 A0 c0 xs0 exp0 n1 W hvars hv0 hd0 wf0 we0 wn1).mono fun e W' ⟨he, bel⟩ => ?_
  subst he
  exact ⟨_, rfl, _, _, _, [], _, q, hW', trodAll_mk1 (shut_bool Tryz.underlying4 _), (trodAll_cons_mk (Below.trod laidOut (by kernel_rfl) (of_decide_eq_true (by kernel_rfl)) h0 bel lt0) (trodAll_cons_mk (shut_int Tryz.underlying5 wn1) trodAll_mk0)), bel.trodVars laidOut (by kernel_rfl) hV, bel.frame _, fun h => by cases h⟩

/-! The row's closed facts, each a declaration of its own (in one they want more memory than there is). -/
theorem fnTextOther_c0 : (Rows.fnTextOtherRow.wf (OpenSpec.ofChange Rows.fnTextOtherSpec)) = true := by kernel_rfl
theorem fnTextOther_c1 : (laidOutB Tryz.prog) = true := by kernel_rfl
theorem fnTextOther_c2 : (mapsRowed Tryz.prog) = true := by kernel_rfl
theorem fnTextOther_c3 : (Tryz.f4.params.all (Tryz.prog.readableRec ·)) = true := by kernel_rfl
theorem fnTextOther_c4 : (namedTie Tryz.prog Rows.fnTextOtherRow.named Rows.fnTextOtherSpec.vars) = true := by kernel_rfl
theorem fnTextOther_c5 : ((Rows.fnTextOtherRow.stops == [])) = true := by kernel_rfl
theorem fnTextOther_c6 : ((Tryz.prog.stops == [])) = true := by kernel_rfl
theorem fnTextOther_c7 : ((Rows.fnTextOtherRow.knobs == [])) = true := by kernel_rfl
theorem fnTextOther_c8 : ((Tryz.prog.stopKnobs == [])) = true := by kernel_rfl
theorem fnTextOther_c9 : ((Rows.fnTextOtherRow.inPlace == Tryz.prog.inPlace 4)) = true := by kernel_rfl
theorem fnTextOther_c10 : ((Rows.fnTextOtherRow.unfollowed == Tryz.prog.unfollowed 4)) = true := by kernel_rfl
theorem fnTextOther_c11 : ((Rows.fnTextOtherRow.recurses == Tryz.prog.recurses 4)) = true := by kernel_rfl
theorem fnTextOther_c12 : ((Rows.fnTextOtherRow.named == Tryz.prog.varsNamed 4)) = true := by kernel_rfl
theorem fnTextOther_c13 : ((Rows.fnTextOtherRow.maps == (Tryz.f4.params.toList ++ Rows.fnTextOtherSpec.plain.varTypes Tryz.prog).any (Tryz.prog.mapsRec ·))) = true := by kernel_rfl
theorem fnTextOther_c14 : ((Rows.fnTextOtherRow.ifaces == (Tryz.f4.params.toList ++ Rows.fnTextOtherSpec.plain.varTypes Tryz.prog).any (Tryz.prog.ifacesRec ·))) = true := by kernel_rfl
theorem fnTextOther_c15 : ((Rows.fnTextOtherRow.mapsOut == Tryz.prog.mapsAmong Tryz.f4.resultTypes.toList)) = true := by kernel_rfl
theorem fnTextOther_c16 : ((Rows.fnTextOtherRow.loops == (Tryz.f4.params.toList ++ Rows.fnTextOtherSpec.plain.varTypes Tryz.prog).any (Tryz.prog.loopsFrom ·))) = true := by kernel_rfl
theorem fnTextOther_c17 : ((Rows.fnTextOtherRow.wideKeys == (Tryz.f4.params.toList ++ Rows.fnTextOtherSpec.plain.varTypes Tryz.prog ++ Tryz.f4.resultTypes.toList).any (Tryz.prog.wideKeysFrom ·))) = true := by kernel_rfl
theorem fnTextOther_c18 : (Rows.fnTextOtherSpec.vars.all (Tryz.prog.varReadable ·)) = true := by kernel_rfl
theorem fnTextOther_c19 : (Tryz.f4.resultTypes.all (fun t => Tryz.prog.readableRec t && decide (t < Tryz.prog.types.size))) = true := by kernel_rfl
theorem fnTextOther_c20 : ((Rows.fnTextOtherRow.ifacesOut == Tryz.f4.resultTypes.toList.any (Tryz.prog.ifacesRec ·))) = true := by kernel_rfl
theorem fnTextOther_c21 : ((Rows.fnTextOtherRow.loopsOut == Tryz.f4.resultTypes.toList.any (Tryz.prog.loopsFrom ·))) = true := by kernel_rfl
theorem fnTextOther_c22 : ((Rows.fnTextOtherRow.plainKeys == Tryz.prog.plainKeys)) = true := by kernel_rfl
theorem fnTextOther_c23 : (Rows.fnTextOtherRow.shortTexts.isNone) = true := by kernel_rfl
theorem fnTextOther_c24 : (Tryz.prog.stopsHeard) = true := by kernel_rfl
theorem fnTextOther_c25 : (Tryz.prog.mayEnter) = true := by kernel_rfl
theorem fnTextOther_c26 : ((Rows.fnTextOtherRow.lifted == Tryz.prog.liftsFinal)) = true := by kernel_rfl
theorem fnTextOther_c27 : ((Tryz.prog.make == some Rows.fnTextOtherRow.make)) = true := by kernel_rfl
theorem fnTextOther_c28 : ((Rows.fnTextOtherRow.kinds == (if Rows.fnTextOtherRow.domain.isEmpty then [] else Tryz.f4.params.toList.map fun t => match Tryz.prog.underlying t with | some (.int k) => some k | _ => none))) = true := by kernel_rfl
theorem fnTextOther_c29 : ((Rows.fnTextOtherRow.pinned == Rows.fnTextOtherRow.pinnedBy)) = true := by kernel_rfl
theorem fnTextOther_c30 : ((Rows.fnTextOtherRow.veiled == (Tryz.f4.params.toList ++ Rows.fnTextOtherSpec.plain.varTypes Tryz.prog ++ Tryz.f4.resultTypes.toList).any (Tryz.prog.veiledRec ·))) = true := by kernel_rfl
theorem fnTextOther_c31 : (Rows.fnTextOtherRow.veiledFits Tryz.prog Tryz.f4.params.toList (Tryz.f4.params.toList ++ Rows.fnTextOtherSpec.plain.varTypes Tryz.prog ++ Tryz.f4.resultTypes.toList)) = true := by kernel_rfl
theorem fnTextOther_both {a b : Bool} (h : a = true) (k : b = true) : (a && b) = true := by subst h; exact k
set_option maxRecDepth 100000 in
theorem fnTextOther_closed : joinedFacts Tryz.prog 4 Tryz.f4 Rows.fnTextOtherSpec Rows.fnTextOtherRow = true := by
  unfold joinedFacts
  exact (fnTextOther_both (fnTextOther_both (fnTextOther_both (fnTextOther_both (fnTextOther_both (fnTextOther_both (fnTextOther_both (fnTextOther_both (fnTextOther_both (fnTextOther_both (fnTextOther_both (fnTextOther_both (fnTextOther_both (fnTextOther_both (fnTextOther_both (fnTextOther_both (fnTextOther_both (fnTextOther_both (fnTextOther_both (fnTextOther_both (fnTextOther_both (fnTextOther_both (fnTextOther_both (fnTextOther_both (fnTextOther_both (fnTextOther_both (fnTextOther_both (fnTextOther_both (fnTextOther_both (fnTextOther_both (fnTextOther_both fnTextOther_c0 fnTextOther_c1) fnTextOther_c2) fnTextOther_c3) fnTextOther_c4) fnTextOther_c5) fnTextOther_c6) fnTextOther_c7) fnTextOther_c8) fnTextOther_c9) fnTextOther_c10) fnTextOther_c11) fnTextOther_c12) fnTextOther_c13) fnTextOther_c14) fnTextOther_c15) fnTextOther_c16) fnTextOther_c17) fnTextOther_c18) fnTextOther_c19) fnTextOther_c20) fnTextOther_c21) fnTextOther_c22) fnTextOther_c23) fnTextOther_c24) fnTextOther_c25) fnTextOther_c26) fnTextOther_c27) fnTextOther_c28) fnTextOther_c29) fnTextOther_c30) fnTextOther_c31)

theorem fnTextOther_over : Rows.fnTextOtherRow.holds Tryz.pinned (OpenSpec.ofChange Rows.fnTextOtherSpec) :=
  OpenClaim.holds_of_wide 4 Tryz.f4 rfl rfl rfl rfl rfl rfl rfl ⟨rfl, rfl, rfl, rfl, rfl⟩ rfl rfl rfl rfl rfl (by kernel_rfl) Tryz.func4 fnTextOther_closed
    (of_decide_eq_true (by kernel_rfl)) (by unfold Func.isWrapper; first | (rw [if_pos (by decide +kernel)]; kernel_rfl) | (rw [if_neg (by decide +kernel)]; exact ⟨rfl, rfl⟩))
    (fun os started H enc _ => fnTextOther_lifted os started H enc)

/-- The tied card. -/
theorem fnTextOther_holds : Rows.FnTextOtherCardSaid :=
  Claim7.holds_tied_plain_at .later [] [.data, .data, .data, .data, .data, .data, .data, .data] true Rows.fnTextOtherCard.stood.harness Rows.fnTextOtherCard.stood.looks
    fnTextOther_over (fun _ h => by cases h) (by kernel_rfl) (fun _ h => by cases h) fnTextOther_row_tie rfl ⟨rfl, rfl⟩ (by kernel_rfl) (by kernel_rfl)
    (fun f fn hf hfn => by
      obtain rfl : f = 4 := Option.some.inj ((show Tryz.prog.funcNamed "loop.example/pub-g03241/laws.FnTextOther" = some 4 by kernel_rfl).symm.trans hf) |>.symm
      obtain rfl : fn = Tryz.f4 := (Option.some.inj (Tryz.func4.symm.trans hfn)).symm
      have hall : Tryz.f4.params.all (fun t => !(Tryz.prog.wantsStandIn t)) = true := by kernel_rfl
      exact ⟨by kernel_rfl, fun j t ht => by
        obtain ⟨hj, rfl⟩ := Array.getElem?_eq_some_iff.1 ht
        have h1 := Array.all_eq_true.1 hall j hj
        have h2 : Tryz.prog.wantsStandIn (Tryz.f4.params[j]) = false := by simpa using h1
        exact h2⟩)
    (by kernel_rfl)
#print axioms fnTextOther_holds
end Go.Proofs.YtlepebogjpcfoaaGreatDoor
