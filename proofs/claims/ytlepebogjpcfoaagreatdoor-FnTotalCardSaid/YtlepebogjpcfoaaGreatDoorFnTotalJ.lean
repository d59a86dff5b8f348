/- 'laws.FnTotal': FOR EVERY INPUT THE LAW RETURNS TRUE, AND ITS ARGUMENTS READ BEHIND THE CALL AS THEY READ BEFORE. No condition is set on the input; the listed package variables start as the program's text lays them (tied by the card). -/
import Derived.Test.YtlepebogjpcfoaaGreatDoorTie
import Derived.Test.YtlepebogjpcfoaaGreatDoorCards
import Derived.LaidMore
import Derived.OpenVars
import Derived.SevenTiedAt
import Derived.Test.YtlepebogjpcfoaaGreatDoorG2
import Derived.Test.YtlepebogjpcfoaaGreatDoorG28
import Derived.Test.YtlepebogjpcfoaaGreatDoorG40
import Derived.Test.YtlepebogjpcfoaaGreatDoorG44
/- The law FnTotal: its walk. -/
set_option linter.unusedVariables false
set_option linter.unusedSimpArgs false
namespace Go.Proofs.YtlepebogjpcfoaaGreatDoor
open Go.RowKit

theorem rank_idx0 (W : World) : (Instr.index 73 (.agg #[.int .i64 0, .int .i64 1, .int .i64 2, .int .i64 3]) (.int .i64 0)).run Tryz.prog W = .ok (.int .i64 0) W := by kernel_rfl
theorem rank_idx1 (W : World) : (Instr.index 73 (.agg #[.int .i64 0, .int .i64 1, .int .i64 2, .int .i64 3]) (.int .i64 1)).run Tryz.prog W = .ok (.int .i64 1) W := by kernel_rfl
theorem rank_idx2 (W : World) : (Instr.index 73 (.agg #[.int .i64 0, .int .i64 1, .int .i64 2, .int .i64 3]) (.int .i64 2)).run Tryz.prog W = .ok (.int .i64 2) W := by kernel_rfl
theorem rank_idx3 (W : World) : (Instr.index 73 (.agg #[.int .i64 0, .int .i64 1, .int .i64 2, .int .i64 3]) (.int .i64 3)).run Tryz.prog W = .ok (.int .i64 3) W := by kernel_rfl
set_option maxRecDepth 20000 in
theorem rank_any (f : Int) (n : Bool) (v : Value) (e : Int) (w : World) (h0 : 0 ≤ f) (h3 : f ≤ 3) : Calls Tryz.prog 21 #[.agg #[.int .i64 f, .bool n, v, .int .i64 e]] w fun e w' => e = .returned (.int .i64 (rankI n f)) ∧ Below w.heap.size w w' := by
  have hf : f = 0 ∨ f = 1 ∨ f = 2 ∨ f = 3 := by omega
  have HB := hide (below_al (Below.refl w.heap.size w) (.cells #[.int .i64 f, .bool n, v, .int .i64 e] 24))
  have k0 := rank_idx0
  have k1 := rank_idx1
  have k2 := rank_idx2
  have k3 := rank_idx3
  clear h0 h3
  cases n
  all_goals rcases hf with rfl | rfl | rfl | rfl
  all_goals go_enter Tryz.func21, Tryz.ntmps21
  all_goals go_wp2
  all_goals go_ret
  all_goals exact ⟨rfl, HB.out⟩

theorem lsign_any (x : Int) (w : World) : Calls Tryz.prog 20 #[.int .i64 x] w fun e w' => e = .returned (.int .i64 (sg3 x)) ∧ w = w' := by
  by_cases h1 : x < 0
  · have e1 : sg3 x = -1 := by unfold sg3; rw [if_pos h1]
    rw [e1]
    clear e1
    go_enter Tryz.func20, Tryz.ntmps20
    go_wp2
    go_ret
    exact ⟨rfl, rfl⟩
  · by_cases h2 : 0 < x
    · have e1 : sg3 x = 1 := by unfold sg3; rw [if_neg h1, if_pos h2]
      rw [e1]
      clear e1
      go_enter Tryz.func20, Tryz.ntmps20
      go_wp2
      go_ret
      exact ⟨rfl, rfl⟩
    · have e1 : sg3 x = 0 := by unfold sg3; rw [if_neg h1, if_neg h2]
      rw [e1]
      clear e1
      go_enter Tryz.func20, Tryz.ntmps20
      go_wp2
      go_ret
      exact ⟨rfl, rfl⟩

/-- What the law holds behind its two finites. -/
structure TotL (w w5 : World) (g1 g2 g5 g6 : Nat) (X1 X2 V1 V2 : Array Value) (W : World) : Prop where
  bel : Below w.heap.size w W
  bel5 : Below w5.heap.size w5 W
  x1 : Blk W g1 24 X1
  x2 : Blk W g2 24 X2
  v1 : Blk W g5 29 V1
  v2 : Blk W g6 29 V2
theorem TotL.next {w w5 : World} {g1 g2 g5 g6 : Nat} {X1 X2 V1 V2 : Array Value} {W W' : World} (h : TotL w w5 g1 g2 g5 g6 X1 X2 V1 V2 W) (h1 : W'.os = W.os) (h2 : W'.tape = W.tape) (h3 : W'.output = W.output) (h4 : W.heap.size ≤ W'.heap.size) (h5 : ∀ k, k < W.heap.size → W'.heap[k]? = W.heap[k]?) : TotL w w5 g1 g2 g5 g6 X1 X2 V1 V2 W' :=
  ⟨below_next h.bel ⟨h1, h2, h3, h4, h5⟩, below_next h.bel5 ⟨h1, h2, h3, h4, h5⟩, h.x1.below ⟨h1, h2, h3, h4, h5⟩, h.x2.below ⟨h1, h2, h3, h4, h5⟩, h.v1.below ⟨h1, h2, h3, h4, h5⟩, h.v2.below ⟨h1, h2, h3, h4, h5⟩⟩

set_option maxHeartbeats 2000000 in
set_option maxRecDepth 20000 in
theorem fnTotal_walk (form1 : Int) (neg1 : Bool) (A1 : Option Addr) (c1 : Nat) (xs1 : List Nat) (exp1 : Int) (form2 : Int) (neg2 : Bool) (A2 : Option Addr) (c2 : Nat) (xs2 : List Nat) (exp2 : Int) (w : World) (hvars : VarsL w w.heap.size)
    (hv1 : RdG .u64 w (.slice A1 xs1.length c1) xs1) (hd1 : Dig 18446744073709551616 xs1) (_ : (Lit.int .i64 form1).wf = true) (_ : (Lit.int .i64 exp1).wf = true) (hv2 : RdG .u64 w (.slice A2 xs2.length c2) xs2) (hd2 : Dig 18446744073709551616 xs2) (_ : (Lit.int .i64 form2).wf = true) (_ : (Lit.int .i64 exp2).wf = true) :
    Calls Tryz.prog 6 #[.agg #[.int .i64 form1, .bool neg1, .slice A1 xs1.length c1, .int .i64 exp1], .agg #[.int .i64 form2, .bool neg2, .slice A2 xs2.length c2, .int .i64 exp2]] w (BoolP w true) := by
  have Fin := hide (show ∀ W : World, Below w.heap.size w W → BoolP w true (.returned (.bool true)) W from fun W h => ⟨rfl, h⟩)
  obtain ⟨g1, hg1⟩ : ∃ g, g = w.heap.size := ⟨_, rfl⟩
  obtain ⟨g2, hg2⟩ : ∃ g, g = w.heap.size + 1 := ⟨_, rfl⟩
  obtain ⟨W0, hW0⟩ : ∃ W0, W0 = (w.alloc (.cells #[.int .i64 form1, .bool neg1, .slice A1 xs1.length c1, .int .i64 exp1] 24)).alloc (.cells #[.int .i64 form2, .bool neg2, .slice A2 xs2.length c2, .int .i64 exp2] 24) := ⟨_, rfl⟩
  have hb0 : Below w.heap.size w W0 := by rw [hW0]; exact below_al (below_al (Below.refl _ _) _) _
  have hx1 : Blk W0 g1 24 #[.int .i64 form1, .bool neg1, .slice A1 xs1.length c1, .int .i64 exp1] := by rw [hW0, hg1]; exact (Blk.new w _ _).alloc _
  have hx2 : Blk W0 g2 24 #[.int .i64 form2, .bool neg2, .slice A2 xs2.length c2, .int .i64 exp2] := by
    rw [hW0, hg2]
    have := Blk.new (w.alloc (.cells #[.int .i64 form1, .bool neg1, .slice A1 xs1.length c1, .int .i64 exp1] 24)) 24 #[.int .i64 form2, .bool neg2, .slice A2 xs2.length c2, .int .i64 exp2]
    simpa using this
  have HH := hide (And.intro hb0 (And.intro hx1 (And.intro hx2 (And.intro hv1 (And.intro hv2 (And.intro hd1 (And.intro hd2 hvars)))))))
  clear hb0 hx1 hx2 hv1 hv2 hd1 hd2 hvars
  go_enter Tryz.func6, Tryz.ntmps6
  go_wp2_with fail
  rw [← hW0, ← hg2, ← hg1]
  clear hW0 hg2 hg1
  by_cases hbig1 : 2147483647 < xs1.length
  · refine (fits_no form1 neg1 A1 xs1.length c1 exp1 _ hbig1).mono ?_
    rintro e w1 ⟨rfl, hb⟩
    have F2 := hide (Fin.out _ (below_next HH.out.1 hb))
    clear hb HH
    go_wp2
    go_ret
    exact F2.out
  refine (fits_yes form1 neg1 A1 xs1.length c1 exp1 _ (by omega)).mono ?_
  rintro e w1 ⟨rfl, hb⟩
  obtain ⟨y0, y1, y2, y3⟩ := (HH.out.2.2.1.below hb).dec4
  have Hb1 := hide hb
  clear hb
  go_wp2_with fail
  by_cases hbig2 : 2147483647 < xs2.length
  · refine (fits_no form2 neg2 A2 xs2.length c2 exp2 _ hbig2).mono ?_
    rintro e w2 ⟨rfl, hb⟩
    have F2 := hide (Fin.out _ (below_next HH.out.1 (below_next Hb1.out hb)))
    clear hb HH Hb1 y0 y1 y2 y3
    go_wp2
    go_ret
    exact F2.out
  refine (fits_yes form2 neg2 A2 xs2.length c2 exp2 _ (by omega)).mono ?_
  rintro e w2 ⟨rfl, hb⟩
  have hb2 := below_next Hb1.out hb
  obtain ⟨x0, x1, x2, x3⟩ := (HH.out.2.1.below hb2).dec4
  clear y0 y1 y2 y3
  have ConF1 := hide (fun W (h : Below w.heap.size w W) => finite_any form1 neg1 A1 c1 xs1 exp1 W (HH.out.2.2.2.1.below h) HH.out.2.2.2.2.2.1)
  have ConF2 := hide (fun W (h : Below w.heap.size w W) => finite_any form2 neg2 A2 c2 xs2 exp2 W (HH.out.2.2.2.2.1.below h) HH.out.2.2.2.2.2.2.1)
  have Hb2 := hide hb2
  clear hb hb2 Hb1
  go_wp2_with fail
  refine (ConF1.out _ (below_next HH.out.1 Hb2.out)).mono ?_
  rintro e w3 ⟨s1, B1, l1, d1, ex1, ok1, rfl, hb3, hok1⟩
  clear x0 x1 x2 x3
  obtain ⟨g5, hg5⟩ : ∃ g, g = w3.heap.size := ⟨_, rfl⟩
  obtain ⟨W3, hW3⟩ : ∃ W3, W3 = w3.alloc (.cells #[.bool s1, .slice B1 l1 d1, .int .i64 ex1] 29) := ⟨_, rfl⟩
  have hbel3 : Below w3.heap.size w3 W3 := by rw [hW3]; exact below_al (Below.refl _ _) _
  have hbe3 : Below w2.heap.size w2 W3 := below_next hb3 hbel3
  have h03 := below_next Hb2.out hbe3
  have hv1' : Blk W3 g5 29 #[.bool s1, .slice B1 l1 d1, .int .i64 ex1] := by rw [hW3, hg5]; exact Blk.new _ _ _
  obtain ⟨y0, y1, y2, y3⟩ := (HH.out.2.2.1.below h03).dec4
  rw [hW3] at y0 y1 y2 y3
  have H3 := hide (And.intro h03 (And.intro hv1' (fun h => (hok1 h).below hbel3)))
  clear hb3 hok1 hbe3 h03 hv1' hbel3 Hb2 ConF1
  go_wp2_with fail
  rw [← hW3, ← hg5]
  clear hW3 y0 y1 y2 y3
  refine (ConF2.out _ (below_next HH.out.1 H3.out.1)).mono ?_
  rintro e w4 ⟨s2, B2, l2, d2, ex2, ok2, rfl, hb4, hok2⟩
  obtain ⟨g6, hg6⟩ : ∃ g, g = w4.heap.size := ⟨_, rfl⟩
  obtain ⟨w5, hw5⟩ : ∃ W, W = w4.alloc (.cells #[.bool s2, .slice B2 l2 d2, .int .i64 ex2] 29) := ⟨_, rfl⟩
  have hbel5 : Below w4.heap.size w4 w5 := by rw [hw5]; exact below_al (Below.refl _ _) _
  have hbe5 : Below W3.heap.size W3 w5 := below_next hb4 hbel5
  have h05 := below_next H3.out.1 hbe5
  have hw05 := below_next HH.out.1 h05
  have hv2' : Blk w5 g6 29 #[.bool s2, .slice B2 l2 d2, .int .i64 ex2] := by rw [hw5, hg6]; exact Blk.new _ _ _
  obtain ⟨x0, x1, x2, x3⟩ := (HH.out.2.1.below h05).dec4
  obtain ⟨y0, y1, y2, y3⟩ := (HH.out.2.2.1.below h05).dec4
  have HT : Hid (TotL w w5 g1 g2 g5 g6 #[.int .i64 form1, .bool neg1, .slice A1 xs1.length c1, .int .i64 exp1] #[.int .i64 form2, .bool neg2, .slice A2 xs2.length c2, .int .i64 exp2] #[.bool s1, .slice B1 l1 d1, .int .i64 ex1] #[.bool s2, .slice B2 l2 d2, .int .i64 ex2] w5) :=
    ⟨hw05, Below.refl _ _, HH.out.2.1.below h05, HH.out.2.2.1.below h05, H3.out.2.1.below hbe5, hv2'⟩
  have HR := hide (And.intro HH.out.2.2.2.1 (And.intro HH.out.2.2.2.2.1 HH.out.2.2.2.2.2.2.2))
  have HOK := hide (And.intro (fun h => (H3.out.2.2 h).below hbe5) (fun h => (hok2 h).below hbel5))
  rw [hw5] at x0 x1 x2 x3 y0 y1 y2 y3
  clear hb4 hok2 hbel5 hbe5 h05 hw05 hv2' ConF2 H3 HH hbig1 hbig2
  by_cases hbad : (form1 < 0) ∨ (¬ form1 < 0 ∧ 3 < form1) ∨ (¬ form1 < 0 ∧ ¬ 3 < form1 ∧ form2 < 0) ∨ (¬ form1 < 0 ∧ ¬ 3 < form1 ∧ ¬ form2 < 0 ∧ 3 < form2) ∨ (¬ form1 < 0 ∧ ¬ 3 < form1 ∧ ¬ form2 < 0 ∧ ¬ 3 < form2 ∧ form1 = 0 ∧ ok1 = false) ∨ (¬ form1 < 0 ∧ ¬ 3 < form1 ∧ ¬ form2 < 0 ∧ ¬ 3 < form2 ∧ form1 = 0 ∧ ok1 = true ∧ form2 = 0 ∧ ok2 = false) ∨ (¬ form1 < 0 ∧ ¬ 3 < form1 ∧ ¬ form2 < 0 ∧ ¬ 3 < form2 ∧ (form1 == 0) = false ∧ form2 = 0 ∧ ok2 = false)
  · have F2 := hide (Fin.out _ HT.out.bel)
    rw [hw5] at F2
    clear HT HR HOK hw5 hg5 hg6
    rcases hbad with h | ⟨h, h2⟩ | ⟨h, h2, h3⟩ | ⟨h, h2, h3, h4⟩ | ⟨h, h2, h3, h4, rfl, rfl⟩ | ⟨h, h2, h3, h4, rfl, rfl, rfl, rfl⟩ | ⟨h, h2, h3, h4, h5, rfl, rfl⟩
    all_goals go_wp2
    all_goals go_ret
    all_goals exact F2.out
  have hr1 : ¬ form1 < 0 ∧ ¬ 3 < form1 := ⟨fun h => hbad (.inl h), fun h => hbad (.inr (.inl ⟨fun h' => hbad (.inl h'), h⟩))⟩
  have hr2 : ¬ form2 < 0 ∧ ¬ 3 < form2 := ⟨fun h => hbad (.inr (.inr (.inl ⟨hr1.1, hr1.2, h⟩))), fun h => hbad (.inr (.inr (.inr (.inl ⟨hr1.1, hr1.2, fun h' => hbad (.inr (.inr (.inl ⟨hr1.1, hr1.2, h'⟩))), h⟩))))⟩
  obtain ⟨p1, p2⟩ := hr1
  obtain ⟨p3, p4⟩ := hr2
  have ho1 : form1 = 0 → ok1 = true := fun h => by
    cases hk : ok1 with
    | true => rfl
    | false => exact absurd (.inr (.inr (.inr (.inr (.inl ⟨p1, p2, p3, p4, h, hk⟩))))) hbad
  have ho2 : form2 = 0 → ok2 = true := fun h => by
    cases hk : ok2 with
    | true => rfl
    | false =>
      by_cases h1 : form1 = 0
      · exact absurd (.inr (.inr (.inr (.inr (.inr (.inl ⟨p1, p2, p3, p4, h1, ho1 h1, h, hk⟩)))))) hbad
      · exact absurd (.inr (.inr (.inr (.inr (.inr (.inr ⟨p1, p2, p3, p4, beq_eq_false_iff_ne.2 h1, h, hk⟩)))))) hbad
  clear hbad
  by_cases hzz : form1 = 0 ∧ form2 = 0
  · obtain ⟨rfl, rfl⟩ := hzz
    obtain rfl := ho1 rfl
    obtain rfl := ho2 rfl
    clear ho1 ho2
    have V1 := HOK.out.1 rfl
    have V2 := HOK.out.2 rfl
    obtain ⟨m, sa, sb, he1, he2, hz, hsa, hsb, hm1, hm2⟩ := split_exp exp1 exp2 V1.lo V1.hi V2.lo V2.hi
    obtain rfl := V1.sgn
    obtain rfl := V2.sgn
    obtain rfl := V1.exq
    obtain rfl := V2.exq
    obtain ⟨a, hxa⟩ : ∃ a, a = numW xs1 := ⟨_, rfl⟩
    obtain ⟨b, hxb⟩ : ∃ b, b = numW xs2 := ⟨_, rfl⟩
    have hca := V1.can
    have hcb := V2.can
    have hl1 := V1.len
    have hl2 := V2.len
    have ho1 := V1.own
    have ho2 := V2.own
    rw [← hxa] at hca ho1
    rw [← hxb] at hcb ho2
    clear V1 V2 hxa hxb HOK
    subst hca hcb
    subst he1 he2
    obtain ⟨wa1, wa2, wa3⟩ := wide_len hl1 hsa
    obtain ⟨wb1, wb2, wb3⟩ := wide_len hl2 hsb
    have ConT : Hid (∀ W, Below w.heap.size w W → Calls Tryz.prog 19 #[.agg #[.int .i64 0, .bool s1, .slice A1 (digs 18446744073709551616 a).length c1, .int .i64 (m + (sa : Int))], .agg #[.int .i64 0, .bool s2, .slice A2 (digs 18446744073709551616 b).length c2, .int .i64 (m + (sb : Int))]] W (DcmpP W (totV s1 (a * 10 ^ sa) (m + (sa : Int)) s2 (b * 10 ^ sb) (m + (sb : Int))))) := fun W h =>
      itot_fin s1 s2 A1 A2 c1 c2 a b sa sb _ _ m W (RdG.below (k := .u64) HR.out.1 h) (RdG.below (k := .u64) HR.out.2.1 h) hl1 hl2 rfl rfl hz hsa hsb (by omega) (by omega) ((HR.out.2.2.below h).raise h.size)
    have ConO : Hid (∀ W, Below w5.heap.size w5 W → Calls Tryz.prog 22 #[.agg #[.bool s1, .slice B1 l1 d1, .int .i64 (m + (sa : Int))], .agg #[.bool s2, .slice B2 l2 d2, .int .i64 (m + (sb : Int))]] W (fun e w' => e = .returned (.int .i64 (ordV s1 (a * 10 ^ sa) s2 (b * 10 ^ sb))) ∧ Below W.heap.size W w')) := fun W h => by
      have r1 := ho1.rd
      have r2 := ho2.rd
      exact sorder_any s1 s2 B1 B2 l1 l2 d1 d2 a b sa sb m _ _ W rfl rfl (r1.below h) (r2.below h) (by rw [RdG.len (k := .i64) r1]; exact wa3) (by rw [RdG.len (k := .i64) r2]; exact wb3) hz hsa hsb (by omega) (by omega)
    have hlaw := total_law s1 (a * 10 ^ sa) (m + (sa : Int)) s2 (b * 10 ^ sb) (m + (sb : Int))
    obtain ⟨t, ht⟩ : ∃ t, t = totV s1 (a * 10 ^ sa) (m + (sa : Int)) s2 (b * 10 ^ sb) (m + (sb : Int)) := ⟨_, rfl⟩
    obtain ⟨r, hr⟩ : ∃ r, r = ordV s1 (a * 10 ^ sa) s2 (b * 10 ^ sb) := ⟨_, rfl⟩
    unfold DcmpP at ConT
    rw [← ht] at ConT hlaw
    rw [← hr] at ConO hlaw
    have hE1 : -300 ≤ m + (sa : Int) ∧ m + (sa : Int) ≤ 300 := ⟨by omega, by omega⟩
    have hE2 : -300 ≤ m + (sb : Int) ∧ m + (sb : Int) ≤ 300 := ⟨by omega, by omega⟩
    clear ho1 ho2 ht hr wa1 wa2 wa3 wb1 wb2 wb3 hz hsa hsb hm1 hm2 HR hl1 hl2
    generalize m + (sa : Int) = e1 at *
    generalize m + (sb : Int) = e2 at *
    generalize (digs 18446744073709551616 a).length = la at *
    generalize (digs 18446744073709551616 b).length = lb at *
    have HL := hide hlaw
    have HE := hide (And.intro hE1 hE2)
    clear hlaw hE1 hE2
    go_wp2_with fail
    rw [← hw5]
    clear hw5 x0 x1 x2 x3 y0 y1 y2 y3
    subst hg6 hg5
    refine (ConT.out _ HT.out.bel).mono ?_
    rintro e w6 ⟨rfl, hb6⟩
    have HT6 := hide (HT.out.next hb6.os hb6.tape hb6.output hb6.size hb6.block)
    obtain ⟨x0, x1, x2, x3⟩ := HT6.out.x1.dec4
    obtain ⟨y0, y1, y2, y3⟩ := HT6.out.x2.dec4
    obtain ⟨u0, u1, u2⟩ := HT6.out.v1.val3
    obtain ⟨v0, v1, v2⟩ := HT6.out.v2.val3
    clear hb6 HT ConT
    go_wp2_with fail
    refine (ConO.out _ HT6.out.bel5).mono ?_
    rintro e w7 ⟨rfl, hb7⟩
    have HT7 := hide (HT6.out.next hb7.os hb7.tape hb7.output hb7.size hb7.block)
    clear x0 x1 x2 x3 y0 y1 y2 y3 u0 u1 u2 v0 v1 v2
    obtain ⟨u0, u1, u2⟩ := HT7.out.v1.val3
    obtain ⟨v0, v1, v2⟩ := HT7.out.v2.val3
    have F9 := hide (Fin.out _ HT7.out.bel)
    clear hb7 HT6 ConO HT7
    by_cases hr0 : r = 0
    · subst hr0
      by_cases hn : s1 = s2
      · subst hn
        rcases HL.out.2.2 rfl rfl with ⟨rfl, hne⟩ | ht
        · have hb : (e1 == e2) = false := beq_eq_false_iff_ne.2 hne
          go_wp2
          all_goals go_ret
          all_goals first | exact F9.out | exact absurd rfl hne | (exfalso; simp at hb)
        · obtain ⟨d, hd⟩ : ∃ d, d = e1 - e2 := ⟨_, rfl⟩
          have hwr : IntKind.i64.wrap (e1 - e2) = d := by
            rw [← hd]
            have := HE.out
            simp [IntKind.wrap, IntKind.signed, IntKind.bits]; omega
          rw [← hd] at ht
          have ConS : ∀ W, Calls Tryz.prog 20 #[.int .i64 d] W fun e w' => e = .returned (.int .i64 t) ∧ W = w' := fun W => by rw [ht]; exact lsign_any d W
          have CS := hide ConS
          have htt : (t == t) = true := by simp
          clear ConS HE HL
          by_cases hee : e1 = e2
          · subst hee
            obtain rfl : d = 0 := by omega
            obtain rfl : t = 0 := by rw [ht]; rfl
            clear ht hd hwr htt
            have hb : (e1 == e1) = true := by simp
            cases s1
            · go_wp2_with (go_at_call 20; refine (CS.out _).mono ?_; rintro e w8 ⟨rfl, rfl⟩)
              go_wp2
              go_ret
              exact F9.out
            · go_wp2_with (go_at_call 20; refine (CS.out _).mono ?_; rintro e w8 ⟨rfl, rfl⟩)
              go_wp2
              go_ret
              exact F9.out
          · have hb : (e1 == e2) = false := beq_eq_false_iff_ne.2 hee
            clear ht hd
            cases s1
            · go_wp2_with (go_at_call 20; refine (CS.out _).mono ?_; rintro e w8 ⟨rfl, rfl⟩)
              go_wp2
              go_ret
              exact F9.out
            · go_wp2
              all_goals go_ret
              all_goals first | exact F9.out | exact absurd rfl hee | (exfalso; simp at hb)
      · have ht := HL.out.2.1 rfl hn
        subst ht
        clear HL HE
        cases s1 <;> cases s2 <;> simp only [reduceIte, Bool.false_eq_true] at hn ⊢
        all_goals first
          | exact absurd trivial hn
          | exact absurd rfl hn
          | (clear hn; go_wp2; go_ret; exact F9.out)
    · have ht := HL.out.1 hr0
      subst ht
      have hrb : (t == 0) = false := beq_eq_false_iff_ne.2 hr0
      have htt : (t == t) = true := by simp
      clear HL HE hr0
      go_wp2
      go_ret
      exact F9.out
  · obtain ⟨t, ht⟩ : ∃ t, t = totF (ordI neg1 form1) (ordI neg2 form2) := ⟨_, rfl⟩
    have ConT : Hid (∀ W, Below w.heap.size w W → Calls Tryz.prog 19 #[.agg #[.int .i64 form1, .bool neg1, .slice A1 xs1.length c1, .int .i64 exp1], .agg #[.int .i64 form2, .bool neg2, .slice A2 xs2.length c2, .int .i64 exp2]] W (DcmpP W t)) := fun W h => by
      rw [ht]
      refine itot_forms form1 form2 neg1 neg2 _ _ exp1 exp2 W (fun h1 W' h' => ?_) (fun h1 W' h' => ?_) (by omega) (by omega) (by omega) (by omega) hzz
      · have V := HOK.out.1 (ho1 h1)
        have hc := V.can
        have := finD_made neg1 exp1 (numW xs1) A1 c1 W' (by rw [← hc]; exact RdG.below (k := .u64) HR.out.1 (below_next h h')) (by rw [← hc]; exact V.len) (by have := V.lo; omega) (by have := V.hi; omega)
        rw [← hc] at this
        exact this.mono (fun _ _ h => finD_form h)
      · have V := HOK.out.2 (ho2 h1)
        have hc := V.can
        have := finD_made neg2 exp2 (numW xs2) A2 c2 W' (by rw [← hc]; exact RdG.below (k := .u64) HR.out.2.1 (below_next h h')) (by rw [← hc]; exact V.len) (by have := V.lo; omega) (by have := V.hi; omega)
        rw [← hc] at this
        exact this.mono (fun _ _ h => finD_form h)
    have hrk := rank_total neg1 neg2 form1 form2 (by omega) (by omega) hzz
    rw [← ht] at hrk
    have ConR1 := hide (fun W => rank_any form1 neg1 (.slice A1 xs1.length c1) exp1 W (by omega) (by omega))
    have ConR2 := hide (fun W => rank_any form2 neg2 (.slice A2 xs2.length c2) exp2 W (by omega) (by omega))
    obtain ⟨d, hd⟩ : ∃ d, d = rankI neg1 form1 - rankI neg2 form2 := ⟨_, rfl⟩
    have hwr : IntKind.i64.wrap (rankI neg1 form1 - rankI neg2 form2) = d := by
      rw [← hd]
      unfold rankI at hd
      have : -6 ≤ d ∧ d ≤ 6 := by cases neg1 <;> cases neg2 <;> simp at hd <;> omega
      simp [IntKind.wrap, IntKind.signed, IntKind.bits]; omega
    rw [← hd] at hrk
    have ConS : Hid (∀ W, Calls Tryz.prog 20 #[.int .i64 d] W fun e w' => e = .returned (.int .i64 t) ∧ W = w') := fun W => by rw [hrk]; exact lsign_any d W
    have htt : (t == t) = true := by simp
    generalize rankI neg1 form1 = r1 at *
    generalize rankI neg2 form2 = r2 at *
    unfold DcmpP at ConT
    clear ht hrk hd
    by_cases h1 : form1 = 0
    · obtain rfl := ho1 h1
      have h2 : form2 ≠ 0 := fun h => hzz ⟨h1, h⟩
      have q2 : (form2 == 0) = false := beq_eq_false_iff_ne.2 h2
      clear ho1 ho2 HOK HR hzz h2
      subst h1
      go_wp2_with fail
      rw [← hw5]
      clear hw5 hg6 hg5 x0 x1 x2 x3 y0 y1 y2 y3 p1 p2 p3 p4
      refine (ConT.out _ HT.out.bel).mono ?_
      rintro e w6 ⟨rfl, hb6⟩
      have HS := hide (HT.out.next hb6.os hb6.tape hb6.output hb6.size hb6.block)
      obtain ⟨x0, x1, x2, x3⟩ := HS.out.x1.dec4
      obtain ⟨y0, y1, y2, y3⟩ := HS.out.x2.dec4
      clear hb6 HT ConT
      go_wp2_with fail
      clear x0 x1 x2 x3 y0 y1 y2 y3
      go_region_held3 (fun W => ((W.cell? ⟨g1, 0, none⟩ = some (.int .i64 0) ∧ W.cell? ⟨g1, 1, none⟩ = some (.bool neg1) ∧ W.cell? ⟨g1, 2, none⟩ = some (.slice A1 xs1.length c1) ∧ W.cell? ⟨g1, 3, none⟩ = some (.int .i64 exp1)) ∧ (W.cell? ⟨g2, 0, none⟩ = some (.int .i64 form2) ∧ W.cell? ⟨g2, 1, none⟩ = some (.bool neg2) ∧ W.cell? ⟨g2, 2, none⟩ = some (.slice A2 xs2.length c2) ∧ W.cell? ⟨g2, 3, none⟩ = some (.int .i64 exp2)))) (first | exact ⟨HS.out.x1.dec4, HS.out.x2.dec4⟩ | go_keep)
        (first
          | (go_at_call_of 21 neg1; go_loud (refine (ConR1.out _).mono ?_; rintro e7 w7 ⟨rfl, hb7⟩; have HS := hide (HS.out.next hb7.os hb7.tape hb7.output hb7.size hb7.block); clear hb7))
          | (go_at_call_of 21 neg2; go_loud (refine (ConR2.out _).mono ?_; rintro e7 w7 ⟨rfl, hb7⟩; have HS := hide (HS.out.next hb7.os hb7.tape hb7.output hb7.size hb7.block); clear hb7))
          | (go_at_call 20; go_loud (refine (ConS.out _).mono ?_; rintro e8 w8 ⟨rfl, rfl⟩)))
      all_goals have F9 := hide (Fin.out _ HS.out.bel)
      all_goals clear ConS ConR1 ConR2 HS
      all_goals go_wp2
      all_goals go_ret
      all_goals exact F9.out
    have q1 : (form1 == 0) = false := beq_eq_false_iff_ne.2 h1
    by_cases h2 : form2 = 0
    · obtain rfl := ho2 h2
      clear ho1 ho2 HOK HR hzz
      subst h2
      go_wp2_with fail
      rw [← hw5]
      clear hw5 hg6 hg5 x0 x1 x2 x3 y0 y1 y2 y3 p1 p2 p3 p4
      refine (ConT.out _ HT.out.bel).mono ?_
      rintro e w6 ⟨rfl, hb6⟩
      have HS := hide (HT.out.next hb6.os hb6.tape hb6.output hb6.size hb6.block)
      obtain ⟨x0, x1, x2, x3⟩ := HS.out.x1.dec4
      obtain ⟨y0, y1, y2, y3⟩ := HS.out.x2.dec4
      clear hb6 HT ConT
      go_wp2_with fail
      clear x0 x1 x2 x3 y0 y1 y2 y3
      go_region_held3 (fun W => ((W.cell? ⟨g1, 0, none⟩ = some (.int .i64 form1) ∧ W.cell? ⟨g1, 1, none⟩ = some (.bool neg1) ∧ W.cell? ⟨g1, 2, none⟩ = some (.slice A1 xs1.length c1) ∧ W.cell? ⟨g1, 3, none⟩ = some (.int .i64 exp1)) ∧ (W.cell? ⟨g2, 0, none⟩ = some (.int .i64 0) ∧ W.cell? ⟨g2, 1, none⟩ = some (.bool neg2) ∧ W.cell? ⟨g2, 2, none⟩ = some (.slice A2 xs2.length c2) ∧ W.cell? ⟨g2, 3, none⟩ = some (.int .i64 exp2)))) (first | exact ⟨HS.out.x1.dec4, HS.out.x2.dec4⟩ | go_keep)
        (first
          | (go_at_call_of 21 neg1; go_loud (refine (ConR1.out _).mono ?_; rintro e7 w7 ⟨rfl, hb7⟩; have HS := hide (HS.out.next hb7.os hb7.tape hb7.output hb7.size hb7.block); clear hb7))
          | (go_at_call_of 21 neg2; go_loud (refine (ConR2.out _).mono ?_; rintro e7 w7 ⟨rfl, hb7⟩; have HS := hide (HS.out.next hb7.os hb7.tape hb7.output hb7.size hb7.block); clear hb7))
          | (go_at_call 20; go_loud (refine (ConS.out _).mono ?_; rintro e8 w8 ⟨rfl, rfl⟩)))
      all_goals have F9 := hide (Fin.out _ HS.out.bel)
      all_goals clear ConS ConR1 ConR2 HS
      all_goals go_wp2
      all_goals go_ret
      all_goals exact F9.out
    · have q2 : (form2 == 0) = false := beq_eq_false_iff_ne.2 h2
      clear ho1 ho2 HOK HR hzz
      go_wp2_with fail
      rw [← hw5]
      clear hw5 hg6 hg5 x0 x1 x2 x3 y0 y1 y2 y3 p1 p2 p3 p4
      refine (ConT.out _ HT.out.bel).mono ?_
      rintro e w6 ⟨rfl, hb6⟩
      have HS := hide (HT.out.next hb6.os hb6.tape hb6.output hb6.size hb6.block)
      obtain ⟨x0, x1, x2, x3⟩ := HS.out.x1.dec4
      obtain ⟨y0, y1, y2, y3⟩ := HS.out.x2.dec4
      clear hb6 HT ConT
      go_wp2_with fail
      clear x0 x1 x2 x3 y0 y1 y2 y3
      go_region_held3 (fun W => ((W.cell? ⟨g1, 0, none⟩ = some (.int .i64 form1) ∧ W.cell? ⟨g1, 1, none⟩ = some (.bool neg1) ∧ W.cell? ⟨g1, 2, none⟩ = some (.slice A1 xs1.length c1) ∧ W.cell? ⟨g1, 3, none⟩ = some (.int .i64 exp1)) ∧ (W.cell? ⟨g2, 0, none⟩ = some (.int .i64 form2) ∧ W.cell? ⟨g2, 1, none⟩ = some (.bool neg2) ∧ W.cell? ⟨g2, 2, none⟩ = some (.slice A2 xs2.length c2) ∧ W.cell? ⟨g2, 3, none⟩ = some (.int .i64 exp2)))) (first | exact ⟨HS.out.x1.dec4, HS.out.x2.dec4⟩ | go_keep)
        (first
          | (go_at_call_of 21 neg1; go_loud (refine (ConR1.out _).mono ?_; rintro e7 w7 ⟨rfl, hb7⟩; have HS := hide (HS.out.next hb7.os hb7.tape hb7.output hb7.size hb7.block); clear hb7))
          | (go_at_call_of 21 neg2; go_loud (refine (ConR2.out _).mono ?_; rintro e7 w7 ⟨rfl, hb7⟩; have HS := hide (HS.out.next hb7.os hb7.tape hb7.output hb7.size hb7.block); clear hb7))
          | (go_at_call 20; go_loud (refine (ConS.out _).mono ?_; rintro e8 w8 ⟨rfl, rfl⟩)))
      all_goals have F9 := hide (Fin.out _ HS.out.bel)
      all_goals clear ConS ConR1 ConR2 HS
      all_goals go_wp2
      all_goals go_ret
      all_goals exact F9.out
end Go.Proofs.YtlepebogjpcfoaaGreatDoor

set_option linter.unusedVariables false
set_option linter.unusedSimpArgs false
namespace Go.Proofs.YtlepebogjpcfoaaGreatDoor
open Go Go.ChangeShapes Go.WideShapes Go.ChangeAt Go.RowKit Go.Joins

/-- The heap that the door's own run leaves meets the condition. -/
theorem fnTotal_met (os : Os) (args : Array Value) : laidMetH Tryz.prog Rows.fnTotalRow.laid ((World.doorLaid Tryz.prog 400 os).forCall (fun _ _ => 0) ⟨#[], args, []⟩).memory :=
  laidMetH_of_parts3 (fuel := 8) (laidMet_of_run' 8 (by kernel_rfl) (by kernel_rfl)) (by kernel_rfl) (by kernel_rfl)

set_option maxRecDepth 100000 in
theorem fnTotal_lifted (os : Os) (started : os.Started) (H : Type) (enc : TypeId × Value → H) :
    ReturnsInHanded {} Tryz.checked os 6 .any (fun w args => (Rows.fnTotalSpec.pre enc Tryz.prog Tryz.f6 [] false w args ∧ laidMetH Tryz.prog Rows.fnTotalRow.laid w) ∧ sizedMet enc Tryz.prog Tryz.f6 (OpenSpec.ofChange Rows.fnTotalSpec) false w args) (Rows.fnTotalSpec.post enc Tryz.prog Tryz.f6 false true false false) := by
  refine returnsInHanded_of_change_and (C := Tryz.checked) (X := fun w _ => laidMetH Tryz.prog Rows.fnTotalRow.laid w) (fun _ _ _ hh h => h.of_heap hh) own started (by kernel_rfl) Tryz.func6
    (ChangeSpec.witness_shaped (enc := enc) (C := Tryz.checked) (os := os) (X := fun w _ => laidMetH Tryz.prog Rows.fnTotalRow.laid w) false (World.doorLaid Tryz.prog 400 os) #[.agg #[.int .i64 0, .bool false, .slice none 0 0, .int .i64 0], .agg #[.int .i64 0, .bool false, .slice none 0 0, .int .i64 0]] 8 rfl (World.shaped_of_RefB (by kernel_rfl) (by kernel_rfl)) (by kernel_rfl) (by kernel_rfl) (by kernel_rfl) (fnTotal_met os _)) ?_
  intro W base args ds gs before hval0 hW _ _ hL _
  have hval : ∀ (j : Nat) t v, Tryz.f6.params[j]? = some t → args[j]? = some v → Value.okWide Tryz.prog W .any base t v := hval0
  have hW' := hW
  obtain ⟨p, q, hA0, hV, rfl, _, _⟩ := hW
  have hA : DataW.TrodAll enc Tryz.prog W 0 (fun _ => true) true Tryz.f6.params.toList args.toList ds p := hA0
  rw [Tryz.params6] at hA hval
  obtain ⟨v0, vs0, d0, ds0, p0, q0, hargs, rfl, rfl, h0, r0⟩ := trodAll_cons hA
  obtain ⟨v1, vs1, d1, ds1, p1, q1, rfl, rfl, rfl, h1, r1⟩ := trodAll_cons r0
  obtain ⟨rfl, rfl, rfl⟩ := trodAll_nil r1
  obtain rfl : args = #[v0, v1] := by cases args; simp_all
  have hlen := trodVars_len hV
  obtain ⟨g1, g2, g3, g4, g5, rfl⟩ : ∃ g1 g2 g3 g4 g5, gs = [g1, g2, g3, g4, g5] := by
    match gs, hlen with
    | [g1, g2, g3, g4, g5], _ => exact ⟨_, _, _, _, _, rfl⟩
  have lt0 : ∀ x ∈ p0, x.block < W.heap.size := by obtain ⟨m, hm⟩ := h0; exact DataW.trod_lt m _ _ _ hm
  obtain ⟨form0, neg0, A0, c0, xs0, exp0, rfl, hv0, hd0, wf0, we0⟩ := dec_open (hval 0 24 v0 rfl rfl) h0
  have lt1 : ∀ x ∈ p1, x.block < W.heap.size := by obtain ⟨m, hm⟩ := h1; exact DataW.trod_lt m _ _ _ hm
  obtain ⟨form1, neg1, A1, c1, xs1, exp1, rfl, hv1, hd1, wf1, we1⟩ := dec_open (hval 1 24 v1 rfl rfl) h1
  clear hA0 hval0
  have hvars : VarsL W W.heap.size := varsL_of hL (by kernel_rfl) (by first | exact List.mem_of_getElem? (i := 0) rfl | exact List.mem_of_getElem? (i := 1) rfl | exact List.mem_of_getElem? (i := 2) rfl | exact List.mem_of_getElem? (i := 3) rfl | exact List.mem_of_getElem? (i := 4) rfl | exact List.mem_of_getElem? (i := 5) rfl | exact List.mem_of_getElem? (i := 6) rfl) (by first | exact List.mem_of_getElem? (i := 0) rfl | exact List.mem_of_getElem? (i := 1) rfl | exact List.mem_of_getElem? (i := 2) rfl | exact List.mem_of_getElem? (i := 3) rfl | exact List.mem_of_getElem? (i := 4) rfl | exact List.mem_of_getElem? (i := 5) rfl | exact List.mem_of_getElem? (i := 6) rfl) (by first | exact List.mem_of_getElem? (i := 0) rfl | exact List.mem_of_getElem? (i := 1) rfl | exact List.mem_of_getElem? (i := 2) rfl | exact List.mem_of_getElem? (i := 3) rfl | exact List.mem_of_getElem? (i := 4) rfl | exact List.mem_of_getElem? (i := 5) rfl | exact List.mem_of_getElem? (i := 6) rfl) (by first | exact List.mem_of_getElem? (i := 0) rfl | exact List.mem_of_getElem? (i := 1) rfl | exact List.mem_of_getElem? (i := 2) rfl | exact List.mem_of_getElem? (i := 3) rfl | exact List.mem_of_getElem? (i := 4) rfl | exact List.mem_of_getElem? (i := 5) rfl | exact List.mem_of_getElem? (i := 6) rfl)
  refine (fnTotal_walk form0 neg0 A0 c0 xs0 exp0 form1 neg1 A1 c1 xs1 exp1 W hvars hv0 hd0 wf0 we0 hv1 hd1 wf1 we1).mono fun e W' ⟨he, bel⟩ => ?_
  subst he
  exact ⟨_, rfl, _, _, _, [], _, q, hW', trodAll_mk1 (shut_bool Tryz.underlying4 _), (trodAll_cons_mk (Below.trod laidOut (by kernel_rfl) (of_decide_eq_true (by kernel_rfl)) h0 bel lt0) (trodAll_cons_mk (Below.trod laidOut (by kernel_rfl) (of_decide_eq_true (by kernel_rfl)) h1 bel lt1) trodAll_mk0)), bel.trodVars laidOut (by kernel_rfl) hV, bel.frame _, fun h => by cases h⟩

/-! The row's closed facts, each a declaration of its own (in one they want more memory than there is). -/
theorem fnTotal_c0 : (Rows.fnTotalRow.wf (OpenSpec.ofChange Rows.fnTotalSpec)) = true := by kernel_rfl
theorem fnTotal_c1 : (laidOutB Tryz.prog) = true := by kernel_rfl
theorem fnTotal_c2 : (mapsRowed Tryz.prog) = true := by kernel_rfl
theorem fnTotal_c3 : (Tryz.f6.params.all (Tryz.prog.readableRec ·)) = true := by kernel_rfl
theorem fnTotal_c4 : (namedTie Tryz.prog Rows.fnTotalRow.named Rows.fnTotalSpec.vars) = true := by kernel_rfl
theorem fnTotal_c5 : ((Rows.fnTotalRow.stops == [])) = true := by kernel_rfl
theorem fnTotal_c6 : ((Tryz.prog.stops == [])) = true := by kernel_rfl
theorem fnTotal_c7 : ((Rows.fnTotalRow.knobs == [])) = true := by kernel_rfl
theorem fnTotal_c8 : ((Tryz.prog.stopKnobs == [])) = true := by kernel_rfl
theorem fnTotal_c9 : ((Rows.fnTotalRow.inPlace == Tryz.prog.inPlace 6)) = true := by kernel_rfl
theorem fnTotal_c10 : ((Rows.fnTotalRow.unfollowed == Tryz.prog.unfollowed 6)) = true := by kernel_rfl
theorem fnTotal_c11 : ((Rows.fnTotalRow.recurses == Tryz.prog.recurses 6)) = true := by kernel_rfl
theorem fnTotal_c12 : ((Rows.fnTotalRow.named == Tryz.prog.varsNamed 6)) = true := by kernel_rfl
theorem fnTotal_c13 : ((Rows.fnTotalRow.maps == (Tryz.f6.params.toList ++ Rows.fnTotalSpec.plain.varTypes Tryz.prog).any (Tryz.prog.mapsRec ·))) = true := by kernel_rfl
theorem fnTotal_c14 : ((Rows.fnTotalRow.ifaces == (Tryz.f6.params.toList ++ Rows.fnTotalSpec.plain.varTypes Tryz.prog).any (Tryz.prog.ifacesRec ·))) = true := by kernel_rfl
theorem fnTotal_c15 : ((Rows.fnTotalRow.mapsOut == Tryz.prog.mapsAmong Tryz.f6.resultTypes.toList)) = true := by kernel_rfl
theorem fnTotal_c16 : ((Rows.fnTotalRow.loops == (Tryz.f6.params.toList ++ Rows.fnTotalSpec.plain.varTypes Tryz.prog).any (Tryz.prog.loopsFrom ·))) = true := by kernel_rfl
theorem fnTotal_c17 : ((Rows.fnTotalRow.wideKeys == (Tryz.f6.params.toList ++ Rows.fnTotalSpec.plain.varTypes Tryz.prog ++ Tryz.f6.resultTypes.toList).any (Tryz.prog.wideKeysFrom ·))) = true := by kernel_rfl
theorem fnTotal_c18 : (Rows.fnTotalSpec.vars.all (Tryz.prog.varReadable ·)) = true := by kernel_rfl
theorem fnTotal_c19 : (Tryz.f6.resultTypes.all (fun t => Tryz.prog.readableRec t && decide (t < Tryz.prog.types.size))) = true := by kernel_rfl
theorem fnTotal_c20 : ((Rows.fnTotalRow.ifacesOut == Tryz.f6.resultTypes.toList.any (Tryz.prog.ifacesRec ·))) = true := by kernel_rfl
theorem fnTotal_c21 : ((Rows.fnTotalRow.loopsOut == Tryz.f6.resultTypes.toList.any (Tryz.prog.loopsFrom ·))) = true := by kernel_rfl
theorem fnTotal_c22 : ((Rows.fnTotalRow.plainKeys == Tryz.prog.plainKeys)) = true := by kernel_rfl
theorem fnTotal_c23 : (Rows.fnTotalRow.shortTexts.isNone) = true := by kernel_rfl
theorem fnTotal_c24 : (Tryz.prog.stopsHeard) = true := by kernel_rfl
theorem fnTotal_c25 : (Tryz.prog.mayEnter) = true := by kernel_rfl
theorem fnTotal_c26 : ((Rows.fnTotalRow.lifted == Tryz.prog.liftsFinal)) = true := by kernel_rfl
theorem fnTotal_c27 : ((Tryz.prog.make == some Rows.fnTotalRow.make)) = true := by kernel_rfl
theorem fnTotal_c28 : ((Rows.fnTotalRow.kinds == (if Rows.fnTotalRow.domain.isEmpty then [] else Tryz.f6.params.toList.map fun t => match Tryz.prog.underlying t with | some (.int k) => some k | _ => none))) = true := by kernel_rfl
theorem fnTotal_c29 : ((Rows.fnTotalRow.pinned == Rows.fnTotalRow.pinnedBy)) = true := by kernel_rfl
theorem fnTotal_c30 : ((Rows.fnTotalRow.veiled == (Tryz.f6.params.toList ++ Rows.fnTotalSpec.plain.varTypes Tryz.prog ++ Tryz.f6.resultTypes.toList).any (Tryz.prog.veiledRec ·))) = true := by kernel_rfl
theorem fnTotal_c31 : (Rows.fnTotalRow.veiledFits Tryz.prog Tryz.f6.params.toList (Tryz.f6.params.toList ++ Rows.fnTotalSpec.plain.varTypes Tryz.prog ++ Tryz.f6.resultTypes.toList)) = true := by kernel_rfl
theorem fnTotal_both {a b : Bool} (h : a = true) (k : b = true) : (a && b) = true := by subst h; exact k
set_option maxRecDepth 100000 in
theorem fnTotal_closed : joinedFacts Tryz.prog 6 Tryz.f6 Rows.fnTotalSpec Rows.fnTotalRow = true := by
  unfold joinedFacts
  exact (fnTotal_both (fnTotal_both (fnTotal_both (fnTotal_both (fnTotal_both (fnTotal_both (fnTotal_both (fnTotal_both (fnTotal_both (fnTotal_both (fnTotal_both (fnTotal_both (fnTotal_both (fnTotal_both (fnTotal_both (fnTotal_both (fnTotal_both (fnTotal_both (fnTotal_both (fnTotal_both (fnTotal_both (fnTotal_both (fnTotal_both (fnTotal_both (fnTotal_both (fnTotal_both (fnTotal_both (fnTotal_both (fnTotal_both (fnTotal_both (fnTotal_both fnTotal_c0 fnTotal_c1) fnTotal_c2) fnTotal_c3) fnTotal_c4) fnTotal_c5) fnTotal_c6) fnTotal_c7) fnTotal_c8) fnTotal_c9) fnTotal_c10) fnTotal_c11) fnTotal_c12) fnTotal_c13) fnTotal_c14) fnTotal_c15) fnTotal_c16) fnTotal_c17) fnTotal_c18) fnTotal_c19) fnTotal_c20) fnTotal_c21) fnTotal_c22) fnTotal_c23) fnTotal_c24) fnTotal_c25) fnTotal_c26) fnTotal_c27) fnTotal_c28) fnTotal_c29) fnTotal_c30) fnTotal_c31)

theorem fnTotal_over : Rows.fnTotalRow.holds Tryz.pinned (OpenSpec.ofChange Rows.fnTotalSpec) :=
  OpenClaim.holds_of_wide 6 Tryz.f6 rfl rfl rfl rfl rfl rfl rfl ⟨rfl, rfl, rfl, rfl, rfl⟩ rfl rfl rfl rfl rfl (by kernel_rfl) Tryz.func6 fnTotal_closed
    (of_decide_eq_true (by kernel_rfl)) (by unfold Func.isWrapper; first | (rw [if_pos (by decide +kernel)]; kernel_rfl) | (rw [if_neg (by decide +kernel)]; exact ⟨rfl, rfl⟩))
    (fun os started H enc _ => fnTotal_lifted os started H enc)

/-- The tied card. -/
theorem fnTotal_holds : Rows.FnTotalCardSaid :=
  Claim7.holds_tied_plain_at .later [] [.data, .data, .data, .data, .data, .data, .data] true Rows.fnTotalCard.stood.harness Rows.fnTotalCard.stood.looks
    fnTotal_over (fun _ h => by cases h) (by kernel_rfl) (fun _ h => by cases h) fnTotal_row_tie rfl ⟨rfl, rfl⟩ (by kernel_rfl) (by kernel_rfl)
    (fun f fn hf hfn => by
      obtain rfl : f = 6 := Option.some.inj ((show Tryz.prog.funcNamed "loop.example/pub-g03241/laws.FnTotal" = some 6 by kernel_rfl).symm.trans hf) |>.symm
      obtain rfl : fn = Tryz.f6 := (Option.some.inj (Tryz.func6.symm.trans hfn)).symm
      have hall : Tryz.f6.params.all (fun t => !(Tryz.prog.wantsStandIn t)) = true := by kernel_rfl
      exact ⟨by kernel_rfl, fun j t ht => by
        obtain ⟨hj, rfl⟩ := Array.getElem?_eq_some_iff.1 ht
        have h1 := Array.all_eq_true.1 hall j hj
        have h2 : Tryz.prog.wantsStandIn (Tryz.f6.params[j]) = false := by simpa using h1
        exact h2⟩)
    (by kernel_rfl)
#print axioms fnTotal_holds
end Go.Proofs.YtlepebogjpcfoaaGreatDoor
