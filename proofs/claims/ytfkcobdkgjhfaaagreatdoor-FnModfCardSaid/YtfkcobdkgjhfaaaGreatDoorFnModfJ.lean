/- 'laws.FnModf': FOR EVERY INPUT THE LAW RETURNS TRUE, AND ITS ARGUMENTS READ BEHIND THE CALL AS THEY READ BEFORE. No condition is set on the input; the listed package variables start as the program's text lays them (tied by the card). -/
import Derived.Deep.DeepCutAuto
import Derived.Test.YtfkcobdkgjhfaaaGreatDoorTie
import Derived.Test.YtfkcobdkgjhfaaaGreatDoorCards
import Derived.LaidMore
import Derived.OpenVars
import Derived.SevenTiedAt
import Derived.Test.YtfkcobdkgjhfaaaGreatDoorG2
import Derived.Test.YtfkcobdkgjhfaaaGreatDoorG29
import Derived.Test.YtfkcobdkgjhfaaaGreatDoorG30
import Derived.Test.YtfkcobdkgjhfaaaGreatDoorG71
/- The law FnModf: its walk. -/
set_option linter.unusedVariables false
set_option linter.unusedSimpArgs false
namespace Go.Proofs.YtfkcobdkgjhfaaaGreatDoor
open Go.RowKit

set_option maxHeartbeats 2000000 in
set_option maxRecDepth 20000 in
theorem fnModf_walk (form : Int) (neg : Bool) (A : Option Addr) (c : Nat) (xs : List Nat) (exp : Int) (w : World) (hvars : VarsD w w.heap.size) (hv : RdG .u64 w (.slice A xs.length c) xs) (hd : Dig 18446744073709551616 xs) (_ : (Lit.int .i64 form).wf = true) (_ : (Lit.int .i64 exp).wf = true) :
    Calls Tryz.prog 3 #[.agg #[.int .i64 form, .bool neg, .slice A xs.length c, .int .i64 exp]] w (BoolP w true) := by
  have HVr := hide hvars
  clear hvars
  have hP : ∀ W : World, Below w.heap.size w W → BoolP w true (.returned (.bool true)) W := fun W h => ⟨rfl, h⟩
  have Fin := hide hP
  clear hP
  by_cases hbig : 2147483647 < xs.length
  · clear hv hd
    go_enter Tryz.func3, Tryz.ntmps3
    go_wp2_with fail
    refine (fits_no form neg A xs.length c exp _ hbig).mono ?_
    rintro e w1 ⟨rfl, hb⟩
    have F2 := hide (Fin.out w1 (((Below.refl _ _).alloc (Nat.le_refl _) _).trans (hb.mono (by simp))))
    clear hb
    go_wp2
    go_ret
    exact F2.out
  have hb0 : Blk (w.alloc (.cells #[.int .i64 form, .bool neg, .slice A xs.length c, .int .i64 exp] 24)) w.heap.size 24 #[.int .i64 form, .bool neg, .slice A xs.length c, .int .i64 exp] := Blk.new w _ _
  have hbe0 : Below w.heap.size w (w.alloc (.cells #[.int .i64 form, .bool neg, .slice A xs.length c, .int .i64 exp] 24)) := below_al (Below.refl _ _) _
  have hv0 : RdG .u64 (w.alloc (.cells #[.int .i64 form, .bool neg, .slice A xs.length c, .int .i64 exp] 24)) (.slice A xs.length c) xs := hv.below hbe0
  have HH := hide (And.intro hb0 (And.intro hbe0 (And.intro hv0 hd)))
  clear hv hd hb0 hbe0 hv0
  go_enter Tryz.func3, Tryz.ntmps3
  go_wp2_with fail
  generalize w.alloc (.cells #[.int .i64 form, .bool neg, .slice A xs.length c, .int .i64 exp] 24) = W at HH ⊢
  refine (fits_yes form neg A xs.length c exp _ (by omega)).mono ?_
  rintro e w1 ⟨rfl, hb⟩
  have hb1 := HH.out.1.below hb
  have hbe1 := below_next HH.out.2.1 hb
  have hv1 := HH.out.2.2.1.below hb
  obtain ⟨c0, c1, c2, c3⟩ := hb1.dec4
  have HD := hide HH.out.2.2.2
  have H1 := hide (And.intro hb1 (And.intro hbe1 hv1))
  clear hb hb1 hbe1 hv1 HH
  by_cases hout : xs.length ≤ 3 ∧ ¬ exp < -100 ∧ ¬ 100 < exp
  · obtain ⟨h3, h4, h5⟩ := hout
    have con := finite_in form neg A c xs exp w1 H1.out.2.2 h3 h4 h5 HD.out
    have Con := hide con
    clear con
    go_wp2_with fail
    refine (Con.out).mono ?_
    rintro e w2 ⟨B, cB, rfl, hown, hbel⟩
    have hbe2 := below_next H1.out.2.1 hbel
    cases hok : okB form xs with
    | false =>
      have F2 := hide (Fin.out _ (below_al hbe2 (.cells #[.bool neg, .slice B (digs 65536 (numW xs)).length cB, .int .i64 exp] 29)))
      clear hown hbel hbe2 hok Con H1
      go_wp2
      go_ret
      exact F2.out
    | true =>
      obtain ⟨rfl, hxs⟩ := okB_split hok
      obtain ⟨m, hm⟩ : ∃ m, m = numW xs := ⟨_, rfl⟩
      rw [← hm] at hown hxs ⊢
      subst hxs
      have hS : HeldV w w.heap.size w2.heap.size neg A c (digs 18446744073709551616 m) exp neg B cB (digs 65536 m) (w2.alloc (.cells #[.bool neg, .slice B (digs 65536 m).length cB, .int .i64 exp] 29)) :=
        ⟨below_al hbe2 _, (H1.out.1.below hbel).alloc _, Blk.new _ _ _, (H1.out.2.2.below hbel).below (below_al (Below.refl _ _) _), RdG.below (k := .i64) hown.rd (below_al (Below.refl _ _) _)⟩
      have HS := hide hS
      have HO : Hid (∀ W, Below w2.heap.size w2 W → OwnI W w.heap.size (.slice B (digs 65536 m).length cB) (digs 65536 m)) := fun W hW => (hown.below hW).lower (by have := H1.out.2.1.size; omega)
      have HW3 : Hid (Below w2.heap.size w2 (w2.alloc (.cells #[.bool neg, .slice B (digs 65536 m).length cB, .int .i64 exp] 29))) := below_al (Below.refl _ _) _
      clear hS hown hbel hbe2 hok Con H1 hm c0 c1 c2 c3
      go_upto_region 6 with fail
      generalize w2.alloc (.cells #[.bool neg, .slice B (digs 65536 m).length cB, .int .i64 exp] 29) = W3 at HS HW3 ⊢
      have h12 : (digs 65536 m).length ≤ 12 := digs_length_le (by omega) (Nat.lt_of_lt_of_le (lt_of_digs_length (b := 18446744073709551616) (by omega) h3) (by decide))
      obtain ⟨⟨a0, a1, a2, a3⟩, -, -, -⟩ := HS.out.cells
      have Con5 := hide (imodf_any neg A c m exp W3 HS.out.rx h3 (by omega) ((HVr.out.below HS.out.bel).raise HS.out.bel.size))
      have HM := hide (And.intro h12 (And.intro h3 (And.intro h4 h5)))
      clear h3 h4 h5 h12 HVr
      go_wp2_with fail
      refine (Con5.out).mono ?_
      rintro e w5 ⟨p, q, ep, eq, P, Q, cp, cq, rfl, hN, hop, hoq, hbel5⟩
      have hlp : (digs 18446744073709551616 p).length ≤ 3 := Nat.le_trans (digs_length_mono (by omega) hN.le.1) HM.out.2.1
      have hlq : (digs 18446744073709551616 q).length ≤ 3 := Nat.le_trans (digs_length_mono (by omega) hN.le.2) HM.out.2.1
      obtain ⟨M, sa, sb, st, u, hU⟩ := modN_sum hN ⟨by have := HM.out.2.2.1; omega, by have := HM.out.2.2.2; omega⟩
      obtain ⟨g5, hg5⟩ : ∃ g, g = w5.heap.size := ⟨_, rfl⟩
      obtain ⟨g6, hg6⟩ : ∃ g, g = w5.heap.size + 1 := ⟨_, rfl⟩
      obtain ⟨W6, hW6⟩ : ∃ W, W = (w5.alloc (.cells #[.int .i64 0, .bool neg, .slice P (digs 18446744073709551616 p).length cp, .int .i64 ep] 24)).alloc (.cells #[.int .i64 0, .bool neg, .slice Q (digs 18446744073709551616 q).length cq, .int .i64 eq] 24) := ⟨_, rfl⟩
      have hb6 : Below w5.heap.size w5 W6 := by rw [hW6]; exact below_al (below_al (Below.refl _ _) _) _
      have hB5 : Blk W6 g5 24 #[.int .i64 0, .bool neg, .slice P (digs 18446744073709551616 p).length cp, .int .i64 ep] := by rw [hW6, hg5]; exact (Blk.new w5 _ _).alloc _
      have hB6 : Blk W6 g6 24 #[.int .i64 0, .bool neg, .slice Q (digs 18446744073709551616 q).length cq, .int .i64 eq] := by
        rw [hW6, hg6]
        have := Blk.new (w5.alloc (.cells #[.int .i64 0, .bool neg, .slice P (digs 18446744073709551616 p).length cp, .int .i64 ep] 24)) 24 #[.int .i64 0, .bool neg, .slice Q (digs 18446744073709551616 q).length cq, .int .i64 eq]
        simpa using this
      have hbw6 := below_next (below_next HS.out.bel hbel5) hb6
      have hW36 := below_next hbel5 hb6
      obtain ⟨gv, hgv⟩ : ∃ g, g = w2.heap.size := ⟨_, rfl⟩
      have ba6 := HS.out.val.below hW36
      rw [← hgv] at ba6
      have ra6 := HO.out W6 (below_next HW3.out hW36)
      have rp6 : RdG .u64 W6 (.slice P (digs 18446744073709551616 p).length cp) (digs 18446744073709551616 p) := RdG.below (k := .u64) hop.rd hb6
      have rq6 : RdG .u64 W6 (.slice Q (digs 18446744073709551616 q).length cq) (digs 18446744073709551616 q) := RdG.below (k := .u64) hoq.rd hb6
      have H6 := hide (And.intro hbw6 (And.intro hB5 (And.intro hB6 (And.intro rp6 (And.intro rq6 (And.intro ba6 (And.intro ra6 (And.intro hlp hlq))))))))
      have hgl : gv < W6.heap.size := ba6.lt
      have hg56 : g6 = g5 + 1 ∧ g5 + 2 = W6.heap.size := by rw [hW6]; simp; omega
      have HGL := hide (And.intro hgl hg56)
      obtain ⟨x0, x1, x2, x3⟩ := hB5.dec4
      have HU := hide hU
      have HLE := hide hN.le
      clear hb6 hB5 hB6 hbw6 hW36 ba6 ra6 rp6 rq6 hlp hlq hgl hg56 hU hN hop hoq hbel5 HS HO HW3 a0 a1 a2 a3 Con5
      rw [← hgv]
      clear hgv
      have con7 := ofDec_any 0 neg (.slice P (digs 18446744073709551616 p).length cp) (digs 18446744073709551616 p) ep W6 H6.out.2.2.2.1 (by have := H6.out.2.2.2.2.2.2.2.1; omega) (dig_digs (by omega) _)
      rw [num_digs, ok_digs] at con7
      unfold ValP at con7
      have Con7 := hide con7
      clear con7
      generalize (digs 18446744073709551616 p).length = np at *
      generalize (digs 18446744073709551616 q).length = nq at *
      go_upto_region 7 with fail
      rw [← hW6]
      have hz5 : w5.heap.size = g5 := hg5.symm
      rw [← hg5]
      clear hW6 hg5 hz5
      go_wp2_with fail
      refine (Con7.out).mono ?_
      rintro e w7 ⟨Ap, c7, rfl, ho7, hb7⟩
      clear Con7 x0 x1 x2 x3
      obtain ⟨gp, hgp⟩ : ∃ g, g = w7.heap.size := ⟨_, rfl⟩
      obtain ⟨W7, hW7⟩ : ∃ W, W = w7.alloc (.cells #[.bool neg, .slice Ap (digs 65536 p).length c7, .int .i64 ep] 29) := ⟨_, rfl⟩
      have hb67 : Below W6.heap.size W6 W7 := by rw [hW7]; exact below_al hb7 _
      have hbp : Blk W7 gp 29 #[.bool neg, .slice Ap (digs 65536 p).length c7, .int .i64 ep] := by rw [hW7, hgp]; exact Blk.new w7 _ _
      have hop : OwnI W7 w.heap.size (.slice Ap (digs 65536 p).length c7) (digs 65536 p) := by
        have h : Below w7.heap.size w7 W7 := by rw [hW7]; exact below_al (Below.refl _ _) _
        exact (ho7.below h).lower H6.out.1.size
      have hgpl : W6.heap.size ≤ gp ∧ gp < W7.heap.size := ⟨by rw [hgp]; exact hb7.size, hbp.lt⟩
      obtain ⟨x0, x1, x2, x3⟩ := (H6.out.2.2.1.below hb67).dec4
      have H7 := hide (And.intro hb67 (And.intro hbp (And.intro hop hgpl)))
      clear hb67 hbp hop hgpl ho7 hb7
      have con8 := ofDec_any 0 neg (.slice Q nq cq) (digs 18446744073709551616 q) eq W7 (H6.out.2.2.2.2.1.below H7.out.1) (by have := H6.out.2.2.2.2.2.2.2.2; have := RdG.len H6.out.2.2.2.2.1; omega) (dig_digs (by omega) _)
      rw [num_digs, ok_digs] at con8
      unfold ValP at con8
      have Con8 := hide con8
      clear con8
      generalize (digs 65536 p).length = lp at *
      go_upto_region 8 with fail
      rw [← hgp, ← hW7]
      clear hgp hW7
      rw [HGL.out.2.1] at x0 x1 x2 x3
      clear hg6
      go_wp2_with fail
      refine (Con8.out).mono ?_
      rintro e w8 ⟨Aq, c8, rfl, ho8, hb8⟩
      clear Con8 x0 x1 x2 x3
      obtain ⟨gq, hgq⟩ : ∃ g, g = w8.heap.size := ⟨_, rfl⟩
      obtain ⟨W8, hW8⟩ : ∃ W, W = w8.alloc (.cells #[.bool neg, .slice Aq (digs 65536 q).length c8, .int .i64 eq] 29) := ⟨_, rfl⟩
      have hb78 : Below W7.heap.size W7 W8 := by rw [hW8]; exact below_al hb8 _
      have hbq : Blk W8 gq 29 #[.bool neg, .slice Aq (digs 65536 q).length c8, .int .i64 eq] := by rw [hW8, hgq]; exact Blk.new w8 _ _
      have hoq : OwnI W8 w.heap.size (.slice Aq (digs 65536 q).length c8) (digs 65536 q) := by
        have h : Below w8.heap.size w8 W8 := by rw [hW8]; exact below_al (Below.refl _ _) _
        exact (ho8.below h).lower (Nat.le_trans H6.out.1.size H7.out.1.size)
      have hgql : W7.heap.size ≤ gq := by rw [hgq]; exact hb8.size
      have h68 := below_next H7.out.1 hb78
      have hL : MfL w gv gp gq neg neg B Ap Aq (digs 65536 m).length lp (digs 65536 q).length cB c7 c8 m p q exp ep eq W8 :=
        ⟨below_next H6.out.1 h68, H6.out.2.2.2.2.2.1.below h68, H7.out.2.1.below hb78, hbq, H6.out.2.2.2.2.2.2.1.below h68, H7.out.2.2.1.below hb78, hoq⟩
      have HS := hide hL
      have HG : Hid (gp ≠ gq ∧ gv ≠ gq ∧ w.heap.size ≤ gq) := ⟨by have := H7.out.2.2.2.2; omega, by have := HGL.out.1; have := H7.out.1.size; omega, by have := H6.out.1.size; have := H7.out.1.size; omega⟩
      have HLP : Hid (lp = (digs 65536 p).length) := RdG.len (OwnG.rd H7.out.2.2.1)
      have hlq12 : (digs 65536 q).length ≤ 12 := Nat.le_trans (digs_len_mono (by omega) HLE.out.2) HM.out.1
      have hlp12 : lp ≤ 12 := by rw [HLP.out]; exact Nat.le_trans (digs_len_mono (by omega) HLE.out.1) HM.out.1
      clear hb78 hbq hoq hgql h68 hL ho8 hb8 H6 H7 HGL
      generalize hlqe : (digs 65536 q).length = lq at *
      have HLQ := hide hlqe
      clear hlqe
      generalize hlme : (digs 65536 m).length = lm at *
      have HLM := hide hlme
      clear hlme
      go_upto_region 9 with fail
      rw [← hgq, ← hW8]
      clear hgq hW8
      obtain ⟨S, hS⟩ : ∃ S, S = m * 10 ^ st := ⟨_, rfl⟩
      have hls : (digs 65536 S).length ≤ 33 := by rw [hS]; exact wide_100 (by rw [HLM.out]; exact HM.out.1) HU.out.l3
      have hlm12 : lm ≤ 12 := HM.out.1
      have ConS : Hid (∀ W, MfL w gv gp gq neg neg B Ap Aq lm lp lq cB c7 c8 m p q exp ep eq W → Calls Tryz.prog 13 #[.agg #[.bool neg, .slice Ap lp c7, .int .i64 ep], .agg #[.bool neg, .slice Aq lq c8, .int .i64 eq]] W (fun e w' => ∃ R c, e = .returned (.agg #[.bool neg, .slice R (digs 65536 S).length c, .int .i64 M]) ∧ RdG .i64 w' (.slice R (digs 65536 S).length c) (digs 65536 S) ∧ Below W.heap.size W w')) := fun W hW => by
        have h := sum_core neg neg Ap Aq lp lq c7 c8 p q sa sb M ep eq W HU.out.e1 HU.out.e2 (OwnG.rd hW.rp) (OwnG.rd hW.rq) (by omega) (by omega) HU.out.z (by have := HU.out.l1; omega) (by have := HU.out.l2; omega) (by have := HU.out.m1; omega) (by have := HU.out.m2; omega)
        unfold SumP at h
        rw [show sumV neg (p * 10 ^ sa) neg (q * 10 ^ sb) = (neg, S) by rw [sumV, if_pos rfl, HU.out.sum, hS]] at h
        exact h
      have ConT : Hid (∀ W R c, MfL w gv gp gq neg neg B Ap Aq lm lp lq cB c7 c8 m p q exp ep eq W → RdG .i64 W (.slice R (digs 65536 S).length c) (digs 65536 S) → Calls Tryz.prog 12 #[.agg #[.bool neg, .slice R (digs 65536 S).length c, .int .i64 M], .agg #[.bool neg, .slice B lm cB, .int .i64 exp]] W (fun e w' => e = .returned (.bool true) ∧ Below W.heap.size W w')) := fun W R c hW hR => by
        have h := ssame_any neg neg R B _ lm c cB S m 0 st M M exp W (by omega) HU.out.e3 hR (OwnG.rd hW.ra) (by omega) (by omega) (.inl rfl) (by omega) (by have := HU.out.l3; omega) (by have := HU.out.m1; omega) (by have := HU.out.m2; omega)
        rw [Nat.pow_zero, Nat.mul_one, ← hS, ordV_self] at h
        exact h
      have eP : decide (ep < 0) = false := decide_eq_false (by have := HU.out.p0; omega)
      have eQ : decide (0 < eq) = false := decide_eq_false (by have := HU.out.eu; omega)
      clear hls hlm12 hS
      generalize (digs 65536 S).length = ls at *
      go_wp2_with fail
      go_region_held3 (fun W => (W.cell? ⟨gv, 0, none⟩ = some (.bool neg) ∧ W.cell? ⟨gv, 1, none⟩ = some (.slice B lm cB) ∧ W.cell? ⟨gv, 2, none⟩ = some (.int .i64 exp)) ∧ (W.cell? ⟨gp, 0, none⟩ = some (.bool neg) ∧ W.cell? ⟨gp, 1, none⟩ = some (.slice Ap lp c7) ∧ W.cell? ⟨gp, 2, none⟩ = some (.int .i64 ep)) ∧ (W.cell? ⟨gq, 0, none⟩ = some (.bool neg) ∧ W.cell? ⟨gq, 1, none⟩ = some (.slice Aq lq c8) ∧ W.cell? ⟨gq, 2, none⟩ = some (.int .i64 eq))) (first | exact HS.out.cells | go_keep)
        (first
          | (go_at_call 13; go_loud (refine (ConS.out _ ?_).mono ?_; exact HS.out.next rfl rfl rfl (Nat.le_refl _) (fun _ _ => rfl); rintro e9 w9 ⟨R9, d9, rfl, hr9, hb9⟩; have HS := hide (HS.out.next hb9.os hb9.tape hb9.output hb9.size hb9.block); have H9 : Hid (∀ W, Below w9.heap.size w9 W → RdG .i64 W (.slice R9 ls d9) (digs 65536 S)) := fun W hW => hr9.below hW; clear hr9 hb9))
          | (go_at_call 12; go_loud (refine (ConT.out _ R9 d9 ?_ ?_).mono ?_; exact HS.out.next rfl rfl rfl (Nat.le_refl _) (fun _ _ => rfl); exact H9.out _ (Below.mk rfl rfl rfl (Nat.le_refl _) (fun _ _ => rfl)); rintro e10 w10 ⟨rfl, hb10⟩; have HS := hide (HS.out.next hb10.os hb10.tape hb10.output hb10.size hb10.block); clear hb10)))
      have Con6 : Hid (∀ W, Calls Tryz.prog 16 #[.int .i64 1] W (fun e w' => ∃ A c, e = .returned (.agg #[.bool false, .slice A 1 c, .int .i64 0]) ∧ RdG .i64 w' (.slice A 1 c) (digs 65536 1) ∧ Below W.heap.size W w')) := fun W => (of64_any 1 W (by decide) (by decide)).mono (fun e w' ⟨A, c, h1, h2, h3⟩ => ⟨A, c, by rw [h1, show (1 : Int).natAbs = 1 from rfl, digs_one16]; rfl, by have h := OwnG.rd h2; rw [show (1 : Int).natAbs = 1 from rfl] at h; rw [digs_one16] at h ⊢; exact h, h3⟩)
      have ConO : Hid (∀ W A c, MfL w gv gp gq neg false B Ap Aq lm lp lq cB c7 c8 m p q exp ep eq W → RdG .i64 W (.slice A 1 c) (digs 65536 1) → Calls Tryz.prog 15 #[.agg #[.bool false, .slice Aq lq c8, .int .i64 eq], .agg #[.bool false, .slice A 1 c, .int .i64 0]] W (fun e w' => e = .returned (.int .i64 (-1)) ∧ Below W.heap.size W w')) := fun W A c hW hA => by
        have h := sorder_any false false Aq A lq 1 c8 c q 1 0 u eq eq 0 W (by omega) (by have := HU.out.eu; omega) (OwnG.rd hW.rq) hA (by omega) (by omega) (.inl rfl) (by omega) (by have := HU.out.lu; omega) (by have := HU.out.eu; have := HU.out.lu; omega) (by have := HU.out.eu; omega)
        rw [Nat.pow_zero, Nat.mul_one, Nat.one_mul, ordV_less HU.out.lt] at h
        exact h
      have HSE := hide HS
      clear ConS ConT H9
      have ConG := hide (fun W => ssign_any neg Aq lq c8 eq W)
      obtain ⟨⟨y0, y1, y2⟩, ⟨y3, y4, y5⟩, y6, y7, y8⟩ := HS.out.cells
      go_upto_region 11 with fail
      clear eP eQ
      go_cut [69] (fun v wx => v = .bool false ∧ Hid (MfL w gv gp gq neg neg B Ap Aq lm lp lq cB c7 c8 m p q exp ep eq wx))
      case first =>
        clear Con6 ConO
        go_wp2_with fail
        refine (ConG.out _).mono ?_
        rintro e10 W9 ⟨rfl, hb10⟩
        have HS := hide (HS.out.below hb10)
        clear hb10 ConG HSE y0 y1 y2 y3 y4 y5 y6 y7 y8
        obtain ⟨⟨y0, y1, y2⟩, ⟨y3, y4, y5⟩, y6, y7, y8⟩ := HS.out.cells
        rcases Nat.eq_zero_or_pos lq with hq0 | hq0
        · have hsq : (sgnI neg lq == 0) = true := by rw [hq0]; cases neg <;> rfl
          clear hq0
          go_wp2_with fail
          all_goals go_meet
          all_goals exact ⟨rfl, HS⟩
        · have hsq : (sgnI neg lq == 0) = false := by rw [sgnI_beq]; simp; omega
          clear hq0
          go_wp2_with fail
          all_goals go_meet
          all_goals exact ⟨rfl, HS⟩
      case rest =>
        obtain ⟨rfl, HS⟩ := hcut
        obtain ⟨W9, hW9⟩ : ∃ W, W = wc := ⟨_, rfl⟩
        rw [← hW9] at HS ⊢
        clear hW9 ConG HSE y0 y1 y2 y3 y4 y5 y6 y7 y8
        obtain ⟨-, -, z0, -, -⟩ := HS.out.cells
        have z1 := HS.out.bq.frozen 0
        have HS2 := hide (HS.out.pos HG.out.1 HG.out.2.1 HG.out.2.2)
        clear HS
        obtain ⟨W10, hW10⟩ : ∃ W, W = W9.setCell ⟨gq, 0, none⟩ (.bool false) := ⟨_, rfl⟩
        rw [← hW10] at HS2
        go_upto_region 14 with fail
        rw [← hW10]
        clear hW10 z0 z1
        have HS := hide HS2.out
        clear HS2
        obtain ⟨⟨y0, y1, y2⟩, ⟨y3, y4, y5⟩, y6, y7, y8⟩ := HS.out.cells
        rcases Nat.eq_zero_or_pos lp with hp0 | hp0
        · have HG0 : Hid (sgnI neg lp = 0) := by rw [hp0]; exact sgnI_zero_len neg
          clear hp0
          go_wp2_with fail
          first | (go_region_with (first
              | (go_at_call 16; go_loud (refine (Con6.out _).mono ?_; rintro e11 w11 ⟨A11, c11, rfl, hr11, hb11⟩; have HS := hide (HS.out.next hb11.os hb11.tape hb11.output hb11.size hb11.block); obtain ⟨⟨y0, y1, y2⟩, ⟨y3, y4, y5⟩, y6, y7, y8⟩ := HS.out.cells; have H11 : Hid (∀ W, Below w11.heap.size w11 W → RdG .i64 W (.slice A11 1 c11) (digs 65536 1)) := fun W hW => hr11.below hW; clear hr11 hb11))
              | (go_at_call 15; go_loud (refine (ConO.out _ A11 c11 ?_ ?_).mono ?_; exact HS.out.next rfl rfl rfl (Nat.le_refl _) (fun _ _ => rfl); exact H11.out _ (Below.mk rfl rfl rfl (Nat.le_refl _) (fun _ _ => rfl)); rintro e12 w12 ⟨rfl, hb12⟩; have HS := hide (HS.out.next hb12.os hb12.tape hb12.output hb12.size hb12.block); obtain ⟨⟨y0, y1, y2⟩, ⟨y3, y4, y5⟩, y6, y7, y8⟩ := HS.out.cells; clear hb12))
              | (go_at_call 14; go_loud (refine (ssign_any neg Ap lp c7 ep _).mono ?_; rintro e13 w13 ⟨rfl, hb13⟩; rw [HG0.out]; have HS := hide (HS.out.next hb13.os hb13.tape hb13.output hb13.size hb13.block); clear hb13)))) | fail "no way"
          all_goals have F2 := hide (Fin.out _ HS.out.bel)
          all_goals clear HS Con6 ConO HG0
          all_goals go_wp2
          all_goals go_ret
          all_goals exact F2.out
        · have hsp : (sgnI neg lp == 0) = false := by rw [sgnI_beq]; simp; omega
          clear hp0
          clear y0 y1 y2 y3 y4 y5 y6 y7 y8
          go_wp2_with fail
          go_region_held3 (fun W => (W.cell? ⟨gv, 0, none⟩ = some (.bool neg) ∧ W.cell? ⟨gv, 1, none⟩ = some (.slice B lm cB) ∧ W.cell? ⟨gv, 2, none⟩ = some (.int .i64 exp)) ∧ (W.cell? ⟨gp, 0, none⟩ = some (.bool neg) ∧ W.cell? ⟨gp, 1, none⟩ = some (.slice Ap lp c7) ∧ W.cell? ⟨gp, 2, none⟩ = some (.int .i64 ep)) ∧ (W.cell? ⟨gq, 0, none⟩ = some (.bool false) ∧ W.cell? ⟨gq, 1, none⟩ = some (.slice Aq lq c8) ∧ W.cell? ⟨gq, 2, none⟩ = some (.int .i64 eq))) (first | exact HS.out.cells | go_keep)
            (first
              | (go_at_call 16; go_loud (refine (Con6.out _).mono ?_; rintro e11 w11 ⟨A11, c11, rfl, hr11, hb11⟩; have HS := hide (HS.out.next hb11.os hb11.tape hb11.output hb11.size hb11.block); have H11 : Hid (∀ W, Below w11.heap.size w11 W → RdG .i64 W (.slice A11 1 c11) (digs 65536 1)) := fun W hW => hr11.below hW; clear hr11 hb11))
              | (go_at_call 15; go_loud (refine (ConO.out _ A11 c11 ?_ ?_).mono ?_; exact HS.out.next rfl rfl rfl (Nat.le_refl _) (fun _ _ => rfl); exact H11.out _ (Below.mk rfl rfl rfl (Nat.le_refl _) (fun _ _ => rfl)); rintro e12 w12 ⟨rfl, hb12⟩; have HS := hide (HS.out.next hb12.os hb12.tape hb12.output hb12.size hb12.block); clear hb12))
              | (go_at_call 14; go_loud (refine (ssign_any neg Ap lp c7 ep _).mono ?_; rintro e13 w13 ⟨rfl, hb13⟩; have HS := hide (HS.out.next hb13.os hb13.tape hb13.output hb13.size hb13.block); clear hb13)))
          have F2 := hide (Fin.out _ HS.out.bel)
          clear HS Con6 ConO
          go_wp2
          go_ret
          exact F2.out
  · have con := finite_out form neg A xs.length c exp w1 hout
    have Con := hide con
    clear con hout
    go_wp2_with fail
    refine (Con.out).mono ?_
    rintro e w2 ⟨rfl, hb⟩
    have F2 := hide (Fin.out _ (below_al (below_next H1.out.2.1 hb) (.cells #[.bool false, .slice none 0 0, .int .i64 0] 29)))
    clear hb Con H1
    go_wp2
    go_ret
    exact F2.out
end Go.Proofs.YtfkcobdkgjhfaaaGreatDoor

set_option linter.unusedVariables false
set_option linter.unusedSimpArgs false
namespace Go.Proofs.YtfkcobdkgjhfaaaGreatDoor
open Go Go.ChangeShapes Go.WideShapes Go.ChangeAt Go.RowKit Go.Joins

/-- The heap that the door's own run leaves meets the condition. -/
theorem fnModf_met (os : Os) (args : Array Value) : laidMetH Tryz.prog Rows.fnModfRow.laid ((World.doorLaid Tryz.prog 400 os).forCall (fun _ _ => 0) ⟨#[], args, []⟩).memory :=
  laidMetH_of_parts3 (fuel := 8) (laidMet_of_run' 8 (by kernel_rfl) (by kernel_rfl)) (by kernel_rfl) (by kernel_rfl)

set_option maxRecDepth 100000 in
theorem fnModf_lifted (os : Os) (started : os.Started) (H : Type) (enc : TypeId × Value → H) :
    ReturnsInHanded {} Tryz.checked os 3 .any (fun w args => (Rows.fnModfSpec.pre enc Tryz.prog Tryz.f3 [] false w args ∧ laidMetH Tryz.prog Rows.fnModfRow.laid w) ∧ sizedMet enc Tryz.prog Tryz.f3 (OpenSpec.ofChange Rows.fnModfSpec) false w args) (Rows.fnModfSpec.post enc Tryz.prog Tryz.f3 false true false false) := by
  refine returnsInHanded_of_change_and (C := Tryz.checked) (X := fun w _ => laidMetH Tryz.prog Rows.fnModfRow.laid w) (fun _ _ _ hh h => h.of_heap hh) own started (by kernel_rfl) Tryz.func3
    (ChangeSpec.witness_shaped (enc := enc) (C := Tryz.checked) (os := os) (X := fun w _ => laidMetH Tryz.prog Rows.fnModfRow.laid w) false (World.doorLaid Tryz.prog 400 os) #[.agg #[.int .i64 0, .bool false, .slice none 0 0, .int .i64 0]] 8 rfl (World.shaped_of_RefB (by kernel_rfl) (by kernel_rfl)) (by kernel_rfl) (by kernel_rfl) (by kernel_rfl) (fnModf_met os _)) ?_
  intro W base args ds gs before hval0 hW _ _ hL _
  have hval : ∀ (j : Nat) t v, Tryz.f3.params[j]? = some t → args[j]? = some v → Value.okWide Tryz.prog W .any base t v := hval0
  have hW' := hW
  obtain ⟨p, q, hA0, hV, rfl, _, _⟩ := hW
  have hA : DataW.TrodAll enc Tryz.prog W 0 (fun _ => true) true Tryz.f3.params.toList args.toList ds p := hA0
  rw [Tryz.params3] at hA hval
  obtain ⟨v0, vs0, d0, ds0, p0, q0, hargs, rfl, rfl, h0, r0⟩ := trodAll_cons hA
  obtain ⟨rfl, rfl, rfl⟩ := trodAll_nil r0
  obtain rfl : args = #[v0] := by cases args; simp_all
  have hlen := trodVars_len hV
  obtain ⟨g1, g2, g3, g4, g5, rfl⟩ : ∃ g1 g2 g3 g4 g5, gs = [g1, g2, g3, g4, g5] := by
    match gs, hlen with
    | [g1, g2, g3, g4, g5], _ => exact ⟨_, _, _, _, _, rfl⟩
  have lt0 : ∀ x ∈ p0, x.block < W.heap.size := by obtain ⟨m, hm⟩ := h0; exact DataW.trod_lt m _ _ _ hm
  obtain ⟨form0, neg0, A0, c0, xs0, exp0, rfl, hv0, hd0, wf0, we0⟩ := dec_open (hval 0 24 v0 rfl rfl) h0
  clear hA0 hval0
  have hvars : VarsD W W.heap.size := varsD_of hL (by kernel_rfl) (by first | exact List.mem_of_getElem? (i := 0) rfl | exact List.mem_of_getElem? (i := 1) rfl | exact List.mem_of_getElem? (i := 2) rfl | exact List.mem_of_getElem? (i := 3) rfl | exact List.mem_of_getElem? (i := 4) rfl | exact List.mem_of_getElem? (i := 5) rfl | exact List.mem_of_getElem? (i := 6) rfl) (by first | exact List.mem_of_getElem? (i := 0) rfl | exact List.mem_of_getElem? (i := 1) rfl | exact List.mem_of_getElem? (i := 2) rfl | exact List.mem_of_getElem? (i := 3) rfl | exact List.mem_of_getElem? (i := 4) rfl | exact List.mem_of_getElem? (i := 5) rfl | exact List.mem_of_getElem? (i := 6) rfl) (by first | exact List.mem_of_getElem? (i := 0) rfl | exact List.mem_of_getElem? (i := 1) rfl | exact List.mem_of_getElem? (i := 2) rfl | exact List.mem_of_getElem? (i := 3) rfl | exact List.mem_of_getElem? (i := 4) rfl | exact List.mem_of_getElem? (i := 5) rfl | exact List.mem_of_getElem? (i := 6) rfl) (by first | exact List.mem_of_getElem? (i := 0) rfl | exact List.mem_of_getElem? (i := 1) rfl | exact List.mem_of_getElem? (i := 2) rfl | exact List.mem_of_getElem? (i := 3) rfl | exact List.mem_of_getElem? (i := 4) rfl | exact List.mem_of_getElem? (i := 5) rfl | exact List.mem_of_getElem? (i := 6) rfl) (by first | exact List.mem_of_getElem? (i := 0) rfl | exact List.mem_of_getElem? (i := 1) rfl | exact List.mem_of_getElem? (i := 2) rfl | exact List.mem_of_getElem? (i := 3) rfl | exact List.mem_of_getElem? (i := 4) rfl | exact List.mem_of_getElem? (i := 5) rfl | exact List.mem_of_getElem? (i := 6) rfl)
  refine (fnModf_walk form0 neg0 A0 c0 xs0 exp0 W hvars hv0 hd0 wf0 we0).mono fun e W' ⟨he, bel⟩ => ?_
  subst he
  exact ⟨_, rfl, _, _, _, [], _, q, hW', trodAll_mk1 (shut_bool Tryz.underlying4 _), (trodAll_cons_mk (Below.trod laidOut (by kernel_rfl) (of_decide_eq_true (by kernel_rfl)) h0 bel lt0) trodAll_mk0), bel.trodVars laidOut (by kernel_rfl) hV, bel.frame _, fun h => by cases h⟩

/-! The row's closed facts, each a declaration of its own (in one they want more memory than there is). -/
theorem fnModf_c0 : (Rows.fnModfRow.wf (OpenSpec.ofChange Rows.fnModfSpec)) = true := by kernel_rfl
theorem fnModf_c1 : (laidOutB Tryz.prog) = true := by kernel_rfl
theorem fnModf_c2 : (mapsRowed Tryz.prog) = true := by kernel_rfl
theorem fnModf_c3 : (Tryz.f3.params.all (Tryz.prog.readableRec ·)) = true := by kernel_rfl
theorem fnModf_c4 : (namedTie Tryz.prog Rows.fnModfRow.named Rows.fnModfSpec.vars) = true := by kernel_rfl
theorem fnModf_c5 : ((Rows.fnModfRow.stops == [])) = true := by kernel_rfl
theorem fnModf_c6 : ((Tryz.prog.stops == [])) = true := by kernel_rfl
theorem fnModf_c7 : ((Rows.fnModfRow.knobs == [])) = true := by kernel_rfl
theorem fnModf_c8 : ((Tryz.prog.stopKnobs == [])) = true := by kernel_rfl
theorem fnModf_c9 : ((Rows.fnModfRow.inPlace == Tryz.prog.inPlace 3)) = true := by kernel_rfl
theorem fnModf_c10 : ((Rows.fnModfRow.unfollowed == Tryz.prog.unfollowed 3)) = true := by kernel_rfl
theorem fnModf_c11 : ((Rows.fnModfRow.recurses == Tryz.prog.recurses 3)) = true := by kernel_rfl
theorem fnModf_c12 : ((Rows.fnModfRow.named == Tryz.prog.varsNamed 3)) = true := by kernel_rfl
theorem fnModf_c13 : ((Rows.fnModfRow.maps == (Tryz.f3.params.toList ++ Rows.fnModfSpec.plain.varTypes Tryz.prog).any (Tryz.prog.mapsRec ·))) = true := by kernel_rfl
theorem fnModf_c14 : ((Rows.fnModfRow.ifaces == (Tryz.f3.params.toList ++ Rows.fnModfSpec.plain.varTypes Tryz.prog).any (Tryz.prog.ifacesRec ·))) = true := by kernel_rfl
theorem fnModf_c15 : ((Rows.fnModfRow.mapsOut == Tryz.prog.mapsAmong Tryz.f3.resultTypes.toList)) = true := by kernel_rfl
theorem fnModf_c16 : ((Rows.fnModfRow.loops == (Tryz.f3.params.toList ++ Rows.fnModfSpec.plain.varTypes Tryz.prog).any (Tryz.prog.loopsFrom ·))) = true := by kernel_rfl
theorem fnModf_c17 : ((Rows.fnModfRow.wideKeys == (Tryz.f3.params.toList ++ Rows.fnModfSpec.plain.varTypes Tryz.prog ++ Tryz.f3.resultTypes.toList).any (Tryz.prog.wideKeysFrom ·))) = true := by kernel_rfl
theorem fnModf_c18 : (Rows.fnModfSpec.vars.all (Tryz.prog.varReadable ·)) = true := by kernel_rfl
theorem fnModf_c19 : (Tryz.f3.resultTypes.all (fun t => Tryz.prog.readableRec t && decide (t < Tryz.prog.types.size))) = true := by kernel_rfl
theorem fnModf_c20 : ((Rows.fnModfRow.ifacesOut == Tryz.f3.resultTypes.toList.any (Tryz.prog.ifacesRec ·))) = true := by kernel_rfl
theorem fnModf_c21 : ((Rows.fnModfRow.loopsOut == Tryz.f3.resultTypes.toList.any (Tryz.prog.loopsFrom ·))) = true := by kernel_rfl
theorem fnModf_c22 : ((Rows.fnModfRow.plainKeys == Tryz.prog.plainKeys)) = true := by kernel_rfl
theorem fnModf_c23 : (Rows.fnModfRow.shortTexts.isNone) = true := by kernel_rfl
theorem fnModf_c24 : (Tryz.prog.stopsHeard) = true := by kernel_rfl
theorem fnModf_c25 : (Tryz.prog.mayEnter) = true := by kernel_rfl
theorem fnModf_c26 : ((Rows.fnModfRow.lifted == Tryz.prog.liftsFinal)) = true := by kernel_rfl
theorem fnModf_c27 : ((Tryz.prog.make == some Rows.fnModfRow.make)) = true := by kernel_rfl
theorem fnModf_c28 : ((Rows.fnModfRow.kinds == (if Rows.fnModfRow.domain.isEmpty then [] else Tryz.f3.params.toList.map fun t => match Tryz.prog.underlying t with | some (.int k) => some k | _ => none))) = true := by kernel_rfl
theorem fnModf_c29 : ((Rows.fnModfRow.pinned == Rows.fnModfRow.pinnedBy)) = true := by kernel_rfl
theorem fnModf_c30 : ((Rows.fnModfRow.veiled == (Tryz.f3.params.toList ++ Rows.fnModfSpec.plain.varTypes Tryz.prog ++ Tryz.f3.resultTypes.toList).any (Tryz.prog.veiledRec ·))) = true := by kernel_rfl
theorem fnModf_c31 : (Rows.fnModfRow.veiledFits Tryz.prog Tryz.f3.params.toList (Tryz.f3.params.toList ++ Rows.fnModfSpec.plain.varTypes Tryz.prog ++ Tryz.f3.resultTypes.toList)) = true := by kernel_rfl
theorem fnModf_both {a b : Bool} (h : a = true) (k : b = true) : (a && b) = true := by subst h; exact k
set_option maxRecDepth 100000 in
theorem fnModf_closed : joinedFacts Tryz.prog 3 Tryz.f3 Rows.fnModfSpec Rows.fnModfRow = true := by
  unfold joinedFacts
  exact (fnModf_both (fnModf_both (fnModf_both (fnModf_both (fnModf_both (fnModf_both (fnModf_both (fnModf_both (fnModf_both (fnModf_both (fnModf_both (fnModf_both (fnModf_both (fnModf_both (fnModf_both (fnModf_both (fnModf_both (fnModf_both (fnModf_both (fnModf_both (fnModf_both (fnModf_both (fnModf_both (fnModf_both (fnModf_both (fnModf_both (fnModf_both (fnModf_both (fnModf_both (fnModf_both (fnModf_both fnModf_c0 fnModf_c1) fnModf_c2) fnModf_c3) fnModf_c4) fnModf_c5) fnModf_c6) fnModf_c7) fnModf_c8) fnModf_c9) fnModf_c10) fnModf_c11) fnModf_c12) fnModf_c13) fnModf_c14) fnModf_c15) fnModf_c16) fnModf_c17) fnModf_c18) fnModf_c19) fnModf_c20) fnModf_c21) fnModf_c22) fnModf_c23) fnModf_c24) fnModf_c25) fnModf_c26) fnModf_c27) fnModf_c28) fnModf_c29) fnModf_c30) fnModf_c31)

theorem fnModf_over : Rows.fnModfRow.holds Tryz.pinned (OpenSpec.ofChange Rows.fnModfSpec) :=
  OpenClaim.holds_of_wide 3 Tryz.f3 rfl rfl rfl rfl rfl rfl rfl ⟨rfl, rfl, rfl, rfl, rfl⟩ rfl rfl rfl rfl rfl (by kernel_rfl) Tryz.func3 fnModf_closed
    (of_decide_eq_true (by kernel_rfl)) (by unfold Func.isWrapper; first | (rw [if_pos (by decide +kernel)]; kernel_rfl) | (rw [if_neg (by decide +kernel)]; exact ⟨rfl, rfl⟩))
    (fun os started H enc _ => fnModf_lifted os started H enc)

/-- The tied card. -/
theorem fnModf_holds : Rows.FnModfCardSaid :=
  Claim7.holds_tied_plain_at .later [] [.data, .data, .data, .data, .data, .data, .data] true Rows.fnModfCard.stood.harness Rows.fnModfCard.stood.looks
    fnModf_over (fun _ h => by cases h) (by kernel_rfl) (fun _ h => by cases h) fnModf_row_tie rfl ⟨rfl, rfl⟩ (by kernel_rfl) (by kernel_rfl)
    (fun f fn hf hfn => by
      obtain rfl : f = 3 := Option.some.inj ((show Tryz.prog.funcNamed "loop.example/pub-g03241/laws.FnModf" = some 3 by kernel_rfl).symm.trans hf) |>.symm
      obtain rfl : fn = Tryz.f3 := (Option.some.inj (Tryz.func3.symm.trans hfn)).symm
      have hall : Tryz.f3.params.all (fun t => !(Tryz.prog.wantsStandIn t)) = true := by kernel_rfl
      exact ⟨by kernel_rfl, fun j t ht => by
        obtain ⟨hj, rfl⟩ := Array.getElem?_eq_some_iff.1 ht
        have h1 := Array.all_eq_true.1 hall j hj
        have h2 : Tryz.prog.wantsStandIn (Tryz.f3.params[j]) = false := by simpa using h1
        exact h2⟩)
    (by kernel_rfl)
#print axioms fnModf_holds
end Go.Proofs.YtfkcobdkgjhfaaaGreatDoor
