/- 'laws.FnCompare': FOR EVERY INPUT THE LAW RETURNS TRUE, AND ITS ARGUMENTS READ BEHIND THE CALL AS THEY READ BEFORE. No condition is set on the input; the listed package variables start as the program's text lays them (tied by the card). -/
import Derived.Test.YtlaepcfooopbmaaGreatDoorTie
import Derived.Test.YtlaepcfooopbmaaGreatDoorCards
import Derived.LaidMore
import Derived.OpenVars
import Derived.SevenTiedAt
import Derived.Test.YtlaepcfooopbmaaGreatDoorG2
import Derived.Test.YtlaepcfooopbmaaGreatDoorG28
import Derived.Test.YtlaepcfooopbmaaGreatDoorG39
import Derived.Test.YtlaepcfooopbmaaGreatDoorG40
/- The law FnCompare: its walk. -/
set_option linter.unusedVariables false
set_option linter.unusedSimpArgs false
namespace Go.Proofs.YtlaepcfooopbmaaGreatDoor
open Go.RowKit

/-- What the law holds while it compares. -/
structure CmpL (w w5 : World) (g1 g2 g5 g6 : Nat) (X1 X2 V1 V2 : Array Value) (W : World) : Prop where
  bel : Below w.heap.size w W
  bel5 : Below w5.heap.size w5 W
  x1 : Blk W g1 31 X1
  x2 : Blk W g2 31 X2
  v1 : Blk W g5 34 V1
  v2 : Blk W g6 34 V2
theorem CmpL.next {w w5 : World} {g1 g2 g5 g6 : Nat} {X1 X2 V1 V2 : Array Value} {W W' : World} (h : CmpL w w5 g1 g2 g5 g6 X1 X2 V1 V2 W) (h1 : W'.os = W.os) (h2 : W'.tape = W.tape) (h3 : W'.output = W.output) (h4 : W.heap.size ≤ W'.heap.size) (h5 : ∀ k, k < W.heap.size → W'.heap[k]? = W.heap[k]?) : CmpL w w5 g1 g2 g5 g6 X1 X2 V1 V2 W' :=
  ⟨below_next h.bel ⟨h1, h2, h3, h4, h5⟩, below_next h.bel5 ⟨h1, h2, h3, h4, h5⟩, h.x1.below ⟨h1, h2, h3, h4, h5⟩, h.x2.below ⟨h1, h2, h3, h4, h5⟩, h.v1.below ⟨h1, h2, h3, h4, h5⟩, h.v2.below ⟨h1, h2, h3, h4, h5⟩⟩
theorem Blk.frz4 {w : World} {g : Nat} {t : TypeId} {cs : Array Value} (h : Blk w g t cs) : w.frozen? ⟨g, 0, none⟩ = false ∧ w.frozen? ⟨g, 1, none⟩ = false ∧ w.frozen? ⟨g, 2, none⟩ = false ∧ w.frozen? ⟨g, 3, none⟩ = false := ⟨h.frozen 0, h.frozen 1, h.frozen 2, h.frozen 3⟩
/-- Four cells laid anew in a block of the call's own. -/
theorem set4 {w W : World} {g1 g2 : Nat} {t : TypeId} {a b c d : Value} {X2 : Array Value} (h : Below w.heap.size w W) (hg : w.heap.size ≤ g1) (hne : g1 ≠ g2) (h1 : Blk W g1 t #[a, b, c, d]) (h2 : Blk W g2 t X2) (a' b' c' d' : Value) :
    Below w.heap.size w ((((W.setCell ⟨g1, 0, none⟩ a').setCell ⟨g1, 1, none⟩ b').setCell ⟨g1, 2, none⟩ c').setCell ⟨g1, 3, none⟩ d') ∧ Blk ((((W.setCell ⟨g1, 0, none⟩ a').setCell ⟨g1, 1, none⟩ b').setCell ⟨g1, 2, none⟩ c').setCell ⟨g1, 3, none⟩ d') g1 t #[a', b', c', d'] ∧ Blk ((((W.setCell ⟨g1, 0, none⟩ a').setCell ⟨g1, 1, none⟩ b').setCell ⟨g1, 2, none⟩ c').setCell ⟨g1, 3, none⟩ d') g2 t X2 := by
  refine ⟨?_, (((h1.set 0 a').set 1 b').set 2 c').set 3 d', (((h2.far (p := ⟨g1, 0, none⟩) (Ne.symm hne) _).far (p := ⟨g1, 1, none⟩) (Ne.symm hne) _).far (p := ⟨g1, 2, none⟩) (Ne.symm hne) _).far (p := ⟨g1, 3, none⟩) (Ne.symm hne) _⟩
  refine ⟨h.os, h.tape, h.output, by simpa [World.setCell] using h.size, fun k hk => ?_⟩
  have e : k ≠ g1 := by omega
  rw [Below.heap_setCell _ _ _ _ e, Below.heap_setCell _ _ _ _ e, Below.heap_setCell _ _ _ _ e, Below.heap_setCell _ _ _ _ e]
  exact h.block k hk
theorem small_rem {c : Int} (h : (Lit.int .u8 c).wf = true) : ∃ q : Int, c % 6 = q ∧ c.tmod 6 = q ∧ IntKind.u8.wrap q = q ∧ (q = 0 ∨ q = 1 ∨ ((q == 0) = false ∧ (q == 1) = false)) := by
  have h0 : 0 ≤ c ∧ c ≤ 255 := by simpa [Lit.wf, IntKind.min, IntKind.max, IntKind.signed, IntKind.bits] using h
  refine ⟨c % 6, rfl, Int.tmod_eq_emod_of_nonneg h0.1, ?_, ?_⟩
  · simp [IntKind.wrap, IntKind.signed, IntKind.bits]; omega
  · by_cases h1 : c % 6 = 0
    · exact .inl h1
    · by_cases h2 : c % 6 = 1
      · exact .inr (.inl h2)
      · exact .inr (.inr ⟨beq_eq_false_iff_ne.2 h1, beq_eq_false_iff_ne.2 h2⟩)

set_option maxHeartbeats 1000000 in
set_option maxRecDepth 20000 in
theorem fnCompare_walk (form1 : Int) (neg1 : Bool) (A1 : Option Addr) (c1 : Nat) (xs1 : List Nat) (exp1 : Int) (form2 : Int) (neg2 : Bool) (A2 : Option Addr) (c2 : Nat) (xs2 : List Nat) (exp2 : Int) (c : Int) (w : World) (hvars : VarsL w w.heap.size)
    (hv1 : RdG .u64 w (.slice A1 xs1.length c1) xs1) (hd1 : Dig 18446744073709551616 xs1) (_ : (Lit.int .i64 form1).wf = true) (_ : (Lit.int .i64 exp1).wf = true) (hv2 : RdG .u64 w (.slice A2 xs2.length c2) xs2) (hd2 : Dig 18446744073709551616 xs2) (_ : (Lit.int .i64 form2).wf = true) (_ : (Lit.int .i64 exp2).wf = true) (hwc : (Lit.int .u8 c).wf = true) :
    Calls Tryz.prog 8 #[.agg #[.int .i64 form1, .bool neg1, .slice A1 xs1.length c1, .int .i64 exp1], .agg #[.int .i64 form2, .bool neg2, .slice A2 xs2.length c2, .int .i64 exp2], .int .u8 c] w (BoolP w true) := by
  have Fin := hide (show ∀ W : World, Below w.heap.size w W → BoolP w true (.returned (.bool true)) W from fun W h => ⟨rfl, h⟩)
  obtain ⟨g1, hg1⟩ : ∃ g, g = w.heap.size := ⟨_, rfl⟩
  obtain ⟨g2, hg2⟩ : ∃ g, g = w.heap.size + 1 := ⟨_, rfl⟩
  obtain ⟨W0, hW0⟩ : ∃ W0, W0 = (w.alloc (.cells #[.int .i64 form1, .bool neg1, .slice A1 xs1.length c1, .int .i64 exp1] 31)).alloc (.cells #[.int .i64 form2, .bool neg2, .slice A2 xs2.length c2, .int .i64 exp2] 31) := ⟨_, rfl⟩
  have hb0 : Below w.heap.size w W0 := by rw [hW0]; exact below_al (below_al (Below.refl _ _) _) _
  have hx1 : Blk W0 g1 31 #[.int .i64 form1, .bool neg1, .slice A1 xs1.length c1, .int .i64 exp1] := by rw [hW0, hg1]; exact (Blk.new w _ _).alloc _
  have hx2 : Blk W0 g2 31 #[.int .i64 form2, .bool neg2, .slice A2 xs2.length c2, .int .i64 exp2] := by
    rw [hW0, hg2]
    have := Blk.new (w.alloc (.cells #[.int .i64 form1, .bool neg1, .slice A1 xs1.length c1, .int .i64 exp1] 31)) 31 #[.int .i64 form2, .bool neg2, .slice A2 xs2.length c2, .int .i64 exp2]
    simpa using this
  have HH := hide (And.intro hb0 (And.intro hx1 (And.intro hx2 (And.intro hv1 (And.intro hv2 (And.intro hd1 (And.intro hd2 hvars)))))))
  have HG : Hid (w.heap.size ≤ g1 ∧ g1 ≠ g2 ∧ g2 ≠ g1) := ⟨by omega, by omega, by omega⟩
  clear hb0 hx1 hx2 hv1 hv2 hd1 hd2 hvars
  go_enter Tryz.func8, Tryz.ntmps8
  go_wp2_with fail
  rw [← hW0, ← hg2, ← hg1]
  clear hW0 hg2 hg1
  by_cases hbig1 : 2147483647 < xs1.length
  · refine (fits_no form1 neg1 A1 xs1.length c1 exp1 _ hbig1).mono ?_
    rintro e w1 ⟨rfl, hb⟩
    have F2 := hide (Fin.out _ (below_next HH.out.1 hb))
    clear hb HH
    go_wp2
    go_ret
    exact F2.out
  · refine (fits_yes form1 neg1 A1 xs1.length c1 exp1 _ (by omega)).mono ?_
    rintro e w1 ⟨rfl, hb⟩
    obtain ⟨y0, y1, y2, y3⟩ := (HH.out.2.2.1.below hb).dec4
    have Hb1 := hide hb
    clear hb
    go_wp2_with fail
    by_cases hbig2 : 2147483647 < xs2.length
    · refine (fits_no form2 neg2 A2 xs2.length c2 exp2 _ hbig2).mono ?_
      rintro e w2 ⟨rfl, hb⟩
      have F2 := hide (Fin.out _ (below_next HH.out.1 (below_next Hb1.out hb)))
      clear hb HH Hb1 y0 y1 y2 y3
      go_wp2
      go_ret
      exact F2.out
    · refine (fits_yes form2 neg2 A2 xs2.length c2 exp2 _ (by omega)).mono ?_
      rintro e w2 ⟨rfl, hb⟩
      have hb2 := below_next Hb1.out hb
      obtain ⟨x0, x1, x2, x3⟩ := (HH.out.2.1.below hb2).dec4
      clear y0 y1 y2 y3
      obtain ⟨y0, y1, y2, y3⟩ := (HH.out.2.2.1.below hb2).dec4
      have hbw := below_next HH.out.1 hb2
      have Con := hide (both_any form1 neg1 A1 c1 xs1 exp1 form2 neg2 A2 c2 xs2 exp2 w2 (HH.out.2.2.2.1.below hbw) HH.out.2.2.2.2.2.1 (HH.out.2.2.2.2.1.below hbw) HH.out.2.2.2.2.2.2.1)
      have Hb2 := hide hb2
      clear hb hb2 hbw Hb1
      go_wp2_with fail
      refine (Con.out).mono ?_
      rintro e w3 ⟨s1, B1, l1, d1, ex1, s2, B2, l2, d2, ex2, ok1, ok2, rfl, hb3, hok1, hok2⟩
      have hbe3 : Below w.heap.size w w3 := below_next HH.out.1 (below_next Hb2.out hb3)
      clear x0 x1 x2 x3 y0 y1 y2 y3
      cases hok : (ok1 && ok2) with
      | false =>
        have F2 := hide (Fin.out _ (below_al (below_al hbe3 (.cells #[.bool s1, .slice B1 l1 d1, .int .i64 ex1] 34)) (.cells #[.bool s2, .slice B2 l2 d2, .int .i64 ex2] 34)))
        clear hb3 hok1 hok2 hbe3 hok Con HH Hb2
        go_wp2
        go_ret
        exact F2.out
      | true =>
        obtain ⟨o1, o2⟩ : ok1 = true ∧ ok2 = true := by simpa using hok
        have V1 := hok1 o1
        have V2 := hok2 o2
        clear hok hok1 hok2 o1 o2
        obtain ⟨m, sa, sb, he1, he2, hz, hsa, hsb, hm1, hm2⟩ := split_exp exp1 exp2 V1.lo V1.hi V2.lo V2.hi
        obtain rfl := V1.sgn
        obtain rfl := V2.sgn
        obtain rfl := V1.exq
        obtain rfl := V2.exq
        obtain rfl := V1.frm
        obtain rfl := V2.frm
        obtain ⟨a, hxa⟩ : ∃ a, a = numW xs1 := ⟨_, rfl⟩
        obtain ⟨b, hxb⟩ : ∃ b, b = numW xs2 := ⟨_, rfl⟩
        have hca := V1.can
        have hcb := V2.can
        have hl1 := V1.len
        have hl2 := V2.len
        have ho1 := V1.own
        have ho2 := V2.own
        rw [← hxa] at hca ho1
        rw [← hxb] at hcb ho2
        clear V1 V2 hxa hxb
        subst hca hcb
        subst he1 he2
        obtain ⟨w5, hw5⟩ : ∃ w5, w5 = (w3.alloc (.cells #[.bool s1, .slice B1 l1 d1, .int .i64 (m + sa)] 34)).alloc (.cells #[.bool s2, .slice B2 l2 d2, .int .i64 (m + sb)] 34) := ⟨_, rfl⟩
        obtain ⟨g5, hg5⟩ : ∃ g, g = w3.heap.size := ⟨_, rfl⟩
        obtain ⟨g6, hg6⟩ : ∃ g, g = w3.heap.size + 1 := ⟨_, rfl⟩
        have h35 : Below w3.heap.size w3 w5 := by rw [hw5]; exact below_al (below_al (Below.refl _ _) _) _
        have ha5 : Blk w5 g5 34 #[.bool s1, .slice B1 l1 d1, .int .i64 (m + sa)] := by rw [hw5, hg5]; exact (Blk.new w3 _ _).alloc _
        have ha6 : Blk w5 g6 34 #[.bool s2, .slice B2 l2 d2, .int .i64 (m + sb)] := by
          rw [hw5, hg6]
          have := Blk.new (w3.alloc (.cells #[.bool s1, .slice B1 l1 d1, .int .i64 (m + sa)] 34)) 34 #[.bool s2, .slice B2 l2 d2, .int .i64 (m + sb)]
          simpa using this
        have hbe5 := below_next hbe3 h35
        have h05 := below_next (below_next Hb2.out hb3) h35
        have hgw : w.heap.size ≤ g1 ∧ g1 ≠ g2 ∧ g2 ≠ g1 := HG.out
        obtain ⟨x0, x1, x2, x3⟩ := (HH.out.2.1.below h05).dec4
        obtain ⟨y0, y1, y2, y3⟩ := (HH.out.2.2.1.below h05).dec4
        obtain ⟨wa1, wa2, wa3⟩ := wide_len hl1 hsa
        obtain ⟨wb1, wb2, wb3⟩ := wide_len hl2 hsb
        have H5 := hide (And.intro hbe5 (And.intro ha5 (And.intro ha6 (And.intro (ho1.below h35).rd (ho2.below h35).rd))))
        have HR := hide (And.intro hbe5 (And.intro HH.out.2.2.2.1 (And.intro HH.out.2.2.2.2.1 HH.out.2.2.2.2.2.2.2)))
        have HX := hide (And.intro (HH.out.2.1.below h05) (And.intro (HH.out.2.2.1.below h05) (And.intro (HH.out.2.2.2.1.below hbe5) (And.intro (HH.out.2.2.2.2.1.below hbe5) ((HH.out.2.2.2.2.2.2.2.below hbe5).raise hbe5.size)))))
        have HZ := hide (And.intro hz (And.intro (And.intro wa1 (And.intro wa2 wa3)) (And.intro (And.intro wb1 (And.intro wb2 wb3)) (And.intro hl1 hl2))))
        rw [hw5] at x0 x1 x2 x3 y0 y1 y2 y3
        clear hb3 hbe3 Con Hb2 HH ha5 ha6 hbe5 h05 ho1 ho2 hz wa1 wa2 wa3 wb1 wb2 wb3 h35
        obtain ⟨q, hq1, hq2, hq3, hq⟩ : ∃ q : Int, c % 6 = q ∧ c.tmod 6 = q ∧ IntKind.u8.wrap q = q ∧ (q = 0 ∨ q = 1 ∨ ((q == 0) = false ∧ (q == 1) = false)) := small_rem hwc
        rcases hq with rfl | rfl | ⟨hqa, hqb⟩
        · have ⟨f0, f1, f2, f3⟩ := HX.out.1.frz4
          rw [hw5] at f0 f1 f2 f3
          obtain ⟨hgw1, hgw2, hgw3⟩ := hgw
          obtain ⟨W6, hW6⟩ : ∃ W6, W6 = (((w5.setCell ⟨g1, 0, none⟩ (.int .i64 1)).setCell ⟨g1, 1, none⟩ (.bool false)).setCell ⟨g1, 2, none⟩ (.slice none 0 0)).setCell ⟨g1, 3, none⟩ (.int .i64 0) := ⟨_, rfl⟩
          have H6 : Hid (Below w.heap.size w W6 ∧ Blk W6 g1 31 #[.int .i64 1, .bool false, .slice none 0 0, .int .i64 0] ∧ Blk W6 g2 31 #[.int .i64 0, .bool s2, .slice A2 (digs 18446744073709551616 b).length c2, .int .i64 (m + (sb : Int))]) := by
            rw [hW6]
            exact set4 HR.out.1 hgw1 hgw2 HX.out.1 HX.out.2.1 _ _ _ _
          have Con6 : Hid (Calls Tryz.prog 24 #[.agg #[.int .i64 1, .bool false, .slice none 0 0, .int .i64 0], .agg #[.int .i64 0, .bool s2, .slice A2 (digs 18446744073709551616 b).length c2, .int .i64 (m + (sb : Int))]] W6 (DcmpP W6 (1))) :=
            icmp_infl false s2 A2 c2 b (m + (sb : Int)) W6 (RdG.below (k := .u64) HR.out.2.2.1 H6.out.1) hl2 (by omega) (by omega)
          have Con7 : Hid (∀ W7, Below w.heap.size w W7 → Calls Tryz.prog 24 #[.agg #[.int .i64 0, .bool s2, .slice A2 (digs 18446744073709551616 b).length c2, .int .i64 (m + (sb : Int))], .agg #[.int .i64 1, .bool false, .slice none 0 0, .int .i64 0]] W7 (DcmpP W7 (-1))) := fun W7 h =>
            icmp_infr s2 false A2 c2 b (m + (sb : Int)) W7 (RdG.below (k := .u64) HR.out.2.2.1 h) hl2 (by omega) (by omega)
          clear HX HR H5 HZ HG hgw1
          go_wp2_with fail
          rw [← hw5, ← hW6]
          clear hw5 hW6 f0 f1 f2 f3 x0 x1 x2 x3 y0 y1 y2 y3 hg5 hg6 hgw2 hgw3
          refine (Con6.out).mono ?_
          rintro e w7 ⟨rfl, hb7⟩
          obtain ⟨x0, x1, x2, x3⟩ := (H6.out.2.1.below hb7).dec4
          obtain ⟨y0, y1, y2, y3⟩ := (H6.out.2.2.below hb7).dec4
          have H7 := hide (below_next H6.out.1 hb7)
          clear hb7 H6 Con6
          go_wp2_with fail
          refine (Con7.out _ H7.out).mono ?_
          rintro e w8 ⟨rfl, hb8⟩
          have F9 := hide (Fin.out _ (below_next H7.out hb8))
          clear hb8 Con7 H7 x0 x1 x2 x3 y0 y1 y2 y3
          go_wp2
          go_ret
          exact F9.out
        · have ⟨f0, f1, f2, f3⟩ := HX.out.1.frz4
          rw [hw5] at f0 f1 f2 f3
          obtain ⟨hgw1, hgw2, hgw3⟩ := hgw
          obtain ⟨W6, hW6⟩ : ∃ W6, W6 = (((w5.setCell ⟨g1, 0, none⟩ (.int .i64 1)).setCell ⟨g1, 1, none⟩ (.bool true)).setCell ⟨g1, 2, none⟩ (.slice none 0 0)).setCell ⟨g1, 3, none⟩ (.int .i64 0) := ⟨_, rfl⟩
          have H6 : Hid (Below w.heap.size w W6 ∧ Blk W6 g1 31 #[.int .i64 1, .bool true, .slice none 0 0, .int .i64 0] ∧ Blk W6 g2 31 #[.int .i64 0, .bool s2, .slice A2 (digs 18446744073709551616 b).length c2, .int .i64 (m + (sb : Int))]) := by
            rw [hW6]
            exact set4 HR.out.1 hgw1 hgw2 HX.out.1 HX.out.2.1 _ _ _ _
          have Con6 : Hid (Calls Tryz.prog 24 #[.agg #[.int .i64 1, .bool true, .slice none 0 0, .int .i64 0], .agg #[.int .i64 0, .bool s2, .slice A2 (digs 18446744073709551616 b).length c2, .int .i64 (m + (sb : Int))]] W6 (DcmpP W6 (-1))) :=
            icmp_infl true s2 A2 c2 b (m + (sb : Int)) W6 (RdG.below (k := .u64) HR.out.2.2.1 H6.out.1) hl2 (by omega) (by omega)
          have Con7 : Hid (∀ W7, Below w.heap.size w W7 → Calls Tryz.prog 24 #[.agg #[.int .i64 0, .bool s2, .slice A2 (digs 18446744073709551616 b).length c2, .int .i64 (m + (sb : Int))], .agg #[.int .i64 1, .bool true, .slice none 0 0, .int .i64 0]] W7 (DcmpP W7 (1))) := fun W7 h =>
            icmp_infr s2 true A2 c2 b (m + (sb : Int)) W7 (RdG.below (k := .u64) HR.out.2.2.1 h) hl2 (by omega) (by omega)
          clear HX HR H5 HZ HG hgw1
          go_wp2_with fail
          rw [← hw5, ← hW6]
          clear hw5 hW6 f0 f1 f2 f3 x0 x1 x2 x3 y0 y1 y2 y3 hg5 hg6 hgw2 hgw3
          refine (Con6.out).mono ?_
          rintro e w7 ⟨rfl, hb7⟩
          obtain ⟨x0, x1, x2, x3⟩ := (H6.out.2.1.below hb7).dec4
          obtain ⟨y0, y1, y2, y3⟩ := (H6.out.2.2.below hb7).dec4
          have H7 := hide (below_next H6.out.1 hb7)
          clear hb7 H6 Con6
          go_wp2_with fail
          refine (Con7.out _ H7.out).mono ?_
          rintro e w8 ⟨rfl, hb8⟩
          have F9 := hide (Fin.out _ (below_next H7.out hb8))
          clear hb8 Con7 H7 x0 x1 x2 x3 y0 y1 y2 y3
          go_wp2
          go_ret
          exact F9.out
        · have ConC : Hid (∀ W, Below w.heap.size w W → Calls Tryz.prog 24 #[.agg #[.int .i64 0, .bool s1, .slice A1 (digs 18446744073709551616 a).length c1, .int .i64 (m + (sa : Int))], .agg #[.int .i64 0, .bool s2, .slice A2 (digs 18446744073709551616 b).length c2, .int .i64 (m + (sb : Int))]] W (DcmpP W (ordV s1 (a * 10 ^ sa) s2 (b * 10 ^ sb)))) := fun W h =>
            icmp_fin s1 s2 A1 A2 c1 c2 a b sa sb _ _ m W (RdG.below (k := .u64) HR.out.2.1 h) (RdG.below (k := .u64) HR.out.2.2.1 h) hl1 hl2 rfl rfl HZ.out.1 hsa hsb (by omega) (by omega) ((HR.out.2.2.2.below h).raise h.size)
          have ConO : Hid (∀ W, Below w5.heap.size w5 W → Calls Tryz.prog 25 #[.agg #[.bool s1, .slice B1 l1 d1, .int .i64 (m + (sa : Int))], .agg #[.bool s2, .slice B2 l2 d2, .int .i64 (m + (sb : Int))]] W (fun e w' => e = .returned (.int .i64 (ordV s1 (a * 10 ^ sa) s2 (b * 10 ^ sb))) ∧ Below W.heap.size W w')) := fun W h => by
            have r1 := H5.out.2.2.2.1
            have r2 := H5.out.2.2.2.2
            exact sorder_any s1 s2 B1 B2 l1 l2 d1 d2 a b sa sb m _ _ W rfl rfl (r1.below h) (r2.below h) (by rw [RdG.len (k := .i64) r1]; exact HZ.out.2.1.2.2) (by rw [RdG.len (k := .i64) r2]; exact HZ.out.2.2.1.2.2) HZ.out.1 hsa hsb (by omega) (by omega)
          have HS : Hid (CmpL w w5 g1 g2 g5 g6 #[.int .i64 0, .bool s1, .slice A1 (digs 18446744073709551616 a).length c1, .int .i64 (m + (sa : Int))] #[.int .i64 0, .bool s2, .slice A2 (digs 18446744073709551616 b).length c2, .int .i64 (m + (sb : Int))] #[.bool s1, .slice B1 l1 d1, .int .i64 (m + (sa : Int))] #[.bool s2, .slice B2 l2 d2, .int .i64 (m + (sb : Int))] w5) := ⟨HR.out.1, Below.refl _ _, HX.out.1, HX.out.2.1, H5.out.2.1, H5.out.2.2.1⟩
          obtain ⟨r, hr⟩ : ∃ r, r = ordV s1 (a * 10 ^ sa) s2 (b * 10 ^ sb) := ⟨_, rfl⟩
          have hrr : (r == r) = true := by simp
          unfold DcmpP at ConC
          rw [← hr] at ConC ConO
          clear hr
          go_wp2_with fail
          rw [← hw5, ← hg6, ← hg5]
          clear hw5 hg6 hg5 x0 x1 x2 x3 y0 y1 y2 y3 HX HR H5 HZ HG hgw
          go_region_held3 (fun W => ((W.cell? ⟨g1, 0, none⟩ = some (.int .i64 0) ∧ W.cell? ⟨g1, 1, none⟩ = some (.bool s1) ∧ W.cell? ⟨g1, 2, none⟩ = some (.slice A1 (digs 18446744073709551616 a).length c1) ∧ W.cell? ⟨g1, 3, none⟩ = some (.int .i64 (m + (sa : Int)))) ∧ (W.cell? ⟨g2, 0, none⟩ = some (.int .i64 0) ∧ W.cell? ⟨g2, 1, none⟩ = some (.bool s2) ∧ W.cell? ⟨g2, 2, none⟩ = some (.slice A2 (digs 18446744073709551616 b).length c2) ∧ W.cell? ⟨g2, 3, none⟩ = some (.int .i64 (m + (sb : Int))))) ∧
              ((W.cell? ⟨g5, 0, none⟩ = some (.bool s1) ∧ W.cell? ⟨g5, 1, none⟩ = some (.slice B1 l1 d1) ∧ W.cell? ⟨g5, 2, none⟩ = some (.int .i64 (m + (sa : Int)))) ∧ (W.cell? ⟨g6, 0, none⟩ = some (.bool s2) ∧ W.cell? ⟨g6, 1, none⟩ = some (.slice B2 l2 d2) ∧ W.cell? ⟨g6, 2, none⟩ = some (.int .i64 (m + (sb : Int)))))) (first | exact ⟨⟨HS.out.x1.dec4, HS.out.x2.dec4⟩, ⟨HS.out.v1.val3, HS.out.v2.val3⟩⟩ | go_keep)
            (first
              | (go_at_call 24; go_loud (refine (ConC.out _ ?_).mono ?_; exact Below.mk HS.out.bel.os HS.out.bel.tape HS.out.bel.output HS.out.bel.size HS.out.bel.block; rintro e7 w7 ⟨rfl, hb7⟩; have HS := hide (HS.out.next hb7.os hb7.tape hb7.output hb7.size hb7.block); clear hb7))
              | (go_at_call 25; go_loud (refine (ConO.out _ ?_).mono ?_; exact Below.mk HS.out.bel5.os HS.out.bel5.tape HS.out.bel5.output HS.out.bel5.size HS.out.bel5.block; rintro e8 w8 ⟨rfl, hb8⟩; have HS := hide (HS.out.next hb8.os hb8.tape hb8.output hb8.size hb8.block); clear hb8)))
          all_goals have F9 := hide (Fin.out _ HS.out.bel)
          all_goals clear ConC ConO HS
          all_goals go_wp2
          all_goals go_ret
          all_goals exact F9.out
end Go.Proofs.YtlaepcfooopbmaaGreatDoor

set_option linter.unusedVariables false
set_option linter.unusedSimpArgs false
namespace Go.Proofs.YtlaepcfooopbmaaGreatDoor
open Go Go.ChangeShapes Go.WideShapes Go.ChangeAt Go.RowKit Go.Joins

/-- The heap that the door's own run leaves meets the condition. -/
theorem fnCompare_met (os : Os) (args : Array Value) : laidMetH Tryz.prog Rows.fnCompareRow.laid ((World.doorLaid Tryz.prog 400 os).forCall (fun _ _ => 0) ⟨#[], args, []⟩).memory :=
  laidMetH_of_parts3 (fuel := 8) (laidMet_of_run' 8 (by kernel_rfl) (by kernel_rfl)) (by kernel_rfl) (by kernel_rfl)

set_option maxRecDepth 100000 in
theorem fnCompare_lifted (os : Os) (started : os.Started) (H : Type) (enc : TypeId × Value → H) :
    ReturnsInHanded {} Tryz.checked os 8 .any (fun w args => (Rows.fnCompareSpec.pre enc Tryz.prog Tryz.f8 [] false w args ∧ laidMetH Tryz.prog Rows.fnCompareRow.laid w) ∧ sizedMet enc Tryz.prog Tryz.f8 (OpenSpec.ofChange Rows.fnCompareSpec) false w args) (Rows.fnCompareSpec.post enc Tryz.prog Tryz.f8 false true false false) := by
  refine returnsInHanded_of_change_and (C := Tryz.checked) (X := fun w _ => laidMetH Tryz.prog Rows.fnCompareRow.laid w) (fun _ _ _ hh h => h.of_heap hh) own started (by kernel_rfl) Tryz.func8
    (ChangeSpec.witness_shaped (enc := enc) (C := Tryz.checked) (os := os) (X := fun w _ => laidMetH Tryz.prog Rows.fnCompareRow.laid w) false (World.doorLaid Tryz.prog 400 os) #[.agg #[.int .i64 0, .bool false, .slice none 0 0, .int .i64 0], .agg #[.int .i64 0, .bool false, .slice none 0 0, .int .i64 0], .int .u8 0] 8 rfl (World.shaped_of_RefB (by kernel_rfl) (by kernel_rfl)) (by kernel_rfl) (by kernel_rfl) (by kernel_rfl) (fnCompare_met os _)) ?_
  intro W base args ds gs before hval0 hW _ _ hL _
  have hval : ∀ (j : Nat) t v, Tryz.f8.params[j]? = some t → args[j]? = some v → Value.okWide Tryz.prog W .any base t v := hval0
  have hW' := hW
  obtain ⟨p, q, hA0, hV, rfl, _, _⟩ := hW
  have hA : DataW.TrodAll enc Tryz.prog W 0 (fun _ => true) true Tryz.f8.params.toList args.toList ds p := hA0
  rw [Tryz.params8] at hA hval
  obtain ⟨v0, vs0, d0, ds0, p0, q0, hargs, rfl, rfl, h0, r0⟩ := trodAll_cons hA
  obtain ⟨v1, vs1, d1, ds1, p1, q1, rfl, rfl, rfl, h1, r1⟩ := trodAll_cons r0
  obtain ⟨v2, vs2, d2, ds2, p2, q2, rfl, rfl, rfl, h2, r2⟩ := trodAll_cons r1
  obtain ⟨rfl, rfl, rfl⟩ := trodAll_nil r2
  obtain rfl : args = #[v0, v1, v2] := by cases args; simp_all
  have hlen := trodVars_len hV
  obtain ⟨g1, g2, g3, g4, g5, rfl⟩ : ∃ g1 g2 g3 g4 g5, gs = [g1, g2, g3, g4, g5] := by
    match gs, hlen with
    | [g1, g2, g3, g4, g5], _ => exact ⟨_, _, _, _, _, rfl⟩
  have lt0 : ∀ x ∈ p0, x.block < W.heap.size := by obtain ⟨m, hm⟩ := h0; exact DataW.trod_lt m _ _ _ hm
  obtain ⟨form0, neg0, A0, c0, xs0, exp0, rfl, hv0, hd0, wf0, we0⟩ := dec_open (hval 0 31 v0 rfl rfl) h0
  have lt1 : ∀ x ∈ p1, x.block < W.heap.size := by obtain ⟨m, hm⟩ := h1; exact DataW.trod_lt m _ _ _ hm
  obtain ⟨form1, neg1, A1, c1, xs1, exp1, rfl, hv1, hd1, wf1, we1⟩ := dec_open (hval 1 31 v1 rfl rfl) h1
  obtain ⟨n2, rfl, rfl, rfl, wn2⟩ := open_int Tryz.underlying5 (hval 2 5 v2 rfl rfl) h2
  clear hA0 hval0
  have hvars : VarsL W W.heap.size := varsL_of hL (by kernel_rfl) (by first | exact List.mem_of_getElem? (i := 0) rfl | exact List.mem_of_getElem? (i := 1) rfl | exact List.mem_of_getElem? (i := 2) rfl | exact List.mem_of_getElem? (i := 3) rfl | exact List.mem_of_getElem? (i := 4) rfl | exact List.mem_of_getElem? (i := 5) rfl | exact List.mem_of_getElem? (i := 6) rfl) (by first | exact List.mem_of_getElem? (i := 0) rfl | exact List.mem_of_getElem? (i := 1) rfl | exact List.mem_of_getElem? (i := 2) rfl | exact List.mem_of_getElem? (i := 3) rfl | exact List.mem_of_getElem? (i := 4) rfl | exact List.mem_of_getElem? (i := 5) rfl | exact List.mem_of_getElem? (i := 6) rfl) (by first | exact List.mem_of_getElem? (i := 0) rfl | exact List.mem_of_getElem? (i := 1) rfl | exact List.mem_of_getElem? (i := 2) rfl | exact List.mem_of_getElem? (i := 3) rfl | exact List.mem_of_getElem? (i := 4) rfl | exact List.mem_of_getElem? (i := 5) rfl | exact List.mem_of_getElem? (i := 6) rfl) (by first | exact List.mem_of_getElem? (i := 0) rfl | exact List.mem_of_getElem? (i := 1) rfl | exact List.mem_of_getElem? (i := 2) rfl | exact List.mem_of_getElem? (i := 3) rfl | exact List.mem_of_getElem? (i := 4) rfl | exact List.mem_of_getElem? (i := 5) rfl | exact List.mem_of_getElem? (i := 6) rfl)
  refine (fnCompare_walk form0 neg0 A0 c0 xs0 exp0 form1 neg1 A1 c1 xs1 exp1 n2 W hvars hv0 hd0 wf0 we0 hv1 hd1 wf1 we1 wn2).mono fun e W' ⟨he, bel⟩ => ?_
  subst he
  exact ⟨_, rfl, _, _, _, [], _, q, hW', trodAll_mk1 (shut_bool Tryz.underlying4 _), (trodAll_cons_mk (Below.trod laidOut (by kernel_rfl) (of_decide_eq_true (by kernel_rfl)) h0 bel lt0) (trodAll_cons_mk (Below.trod laidOut (by kernel_rfl) (of_decide_eq_true (by kernel_rfl)) h1 bel lt1) (trodAll_cons_mk (shut_int Tryz.underlying5 wn2) trodAll_mk0))), bel.trodVars laidOut (by kernel_rfl) hV, bel.frame _, fun h => by cases h⟩

/-! The row's closed facts, each a declaration of its own (in one they want more memory than there is). -/
theorem fnCompare_c0 : (Rows.fnCompareRow.wf (OpenSpec.ofChange Rows.fnCompareSpec)) = true := by kernel_rfl
theorem fnCompare_c1 : (laidOutB Tryz.prog) = true := by kernel_rfl
theorem fnCompare_c2 : (mapsRowed Tryz.prog) = true := by kernel_rfl
theorem fnCompare_c3 : (Tryz.f8.params.all (Tryz.prog.readableRec ·)) = true := by kernel_rfl
theorem fnCompare_c4 : (namedTie Tryz.prog Rows.fnCompareRow.named Rows.fnCompareSpec.vars) = true := by kernel_rfl
theorem fnCompare_c5 : ((Rows.fnCompareRow.stops == [])) = true := by kernel_rfl
theorem fnCompare_c6 : ((Tryz.prog.stops == [])) = true := by kernel_rfl
theorem fnCompare_c7 : ((Rows.fnCompareRow.knobs == [])) = true := by kernel_rfl
theorem fnCompare_c8 : ((Tryz.prog.stopKnobs == [])) = true := by kernel_rfl
theorem fnCompare_c9 : ((Rows.fnCompareRow.inPlace == Tryz.prog.inPlace 8)) = true := by kernel_rfl
theorem fnCompare_c10 : ((Rows.fnCompareRow.unfollowed == Tryz.prog.unfollowed 8)) = true := by kernel_rfl
theorem fnCompare_c11 : ((Rows.fnCompareRow.recurses == Tryz.prog.recurses 8)) = true := by kernel_rfl
theorem fnCompare_c12 : ((Rows.fnCompareRow.named == Tryz.prog.varsNamed 8)) = true := by kernel_rfl
theorem fnCompare_c13 : ((Rows.fnCompareRow.maps == (Tryz.f8.params.toList ++ Rows.fnCompareSpec.plain.varTypes Tryz.prog).any (Tryz.prog.mapsRec ·))) = true := by kernel_rfl
theorem fnCompare_c14 : ((Rows.fnCompareRow.ifaces == (Tryz.f8.params.toList ++ Rows.fnCompareSpec.plain.varTypes Tryz.prog).any (Tryz.prog.ifacesRec ·))) = true := by kernel_rfl
theorem fnCompare_c15 : ((Rows.fnCompareRow.mapsOut == Tryz.prog.mapsAmong Tryz.f8.resultTypes.toList)) = true := by kernel_rfl
theorem fnCompare_c16 : ((Rows.fnCompareRow.loops == (Tryz.f8.params.toList ++ Rows.fnCompareSpec.plain.varTypes Tryz.prog).any (Tryz.prog.loopsFrom ·))) = true := by kernel_rfl
theorem fnCompare_c17 : ((Rows.fnCompareRow.wideKeys == (Tryz.f8.params.toList ++ Rows.fnCompareSpec.plain.varTypes Tryz.prog ++ Tryz.f8.resultTypes.toList).any (Tryz.prog.wideKeysFrom ·))) = true := by kernel_rfl
theorem fnCompare_c18 : (Rows.fnCompareSpec.vars.all (Tryz.prog.varReadable ·)) = true := by kernel_rfl
theorem fnCompare_c19 : (Tryz.f8.resultTypes.all (fun t => Tryz.prog.readableRec t && decide (t < Tryz.prog.types.size))) = true := by kernel_rfl
theorem fnCompare_c20 : ((Rows.fnCompareRow.ifacesOut == Tryz.f8.resultTypes.toList.any (Tryz.prog.ifacesRec ·))) = true := by kernel_rfl
theorem fnCompare_c21 : ((Rows.fnCompareRow.loopsOut == Tryz.f8.resultTypes.toList.any (Tryz.prog.loopsFrom ·))) = true := by kernel_rfl
theorem fnCompare_c22 : ((Rows.fnCompareRow.plainKeys == Tryz.prog.plainKeys)) = true := by kernel_rfl
theorem fnCompare_c23 : (Rows.fnCompareRow.shortTexts.isNone) = true := by kernel_rfl
theorem fnCompare_c24 : (Tryz.prog.stopsHeard) = true := by kernel_rfl
theorem fnCompare_c25 : (Tryz.prog.mayEnter) = true := by kernel_rfl
theorem fnCompare_c26 : ((Rows.fnCompareRow.lifted == Tryz.prog.liftsFinal)) = true := by kernel_rfl
theorem fnCompare_c27 : ((Tryz.prog.make == some Rows.fnCompareRow.make)) = true := by kernel_rfl
theorem fnCompare_c28 : ((Rows.fnCompareRow.kinds == (if Rows.fnCompareRow.domain.isEmpty then [] else Tryz.f8.params.toList.map fun t => match Tryz.prog.underlying t with | some (.int k) => some k | _ => none))) = true := by kernel_rfl
theorem fnCompare_c29 : ((Rows.fnCompareRow.pinned == Rows.fnCompareRow.pinnedBy)) = true := by kernel_rfl
theorem fnCompare_c30 : ((Rows.fnCompareRow.veiled == (Tryz.f8.params.toList ++ Rows.fnCompareSpec.plain.varTypes Tryz.prog ++ Tryz.f8.resultTypes.toList).any (Tryz.prog.veiledRec ·))) = true := by kernel_rfl
theorem fnCompare_c31 : (Rows.fnCompareRow.veiledFits Tryz.prog Tryz.f8.params.toList (Tryz.f8.params.toList ++ Rows.fnCompareSpec.plain.varTypes Tryz.prog ++ Tryz.f8.resultTypes.toList)) = true := by kernel_rfl
theorem fnCompare_both {a b : Bool} (h : a = true) (k : b = true) : (a && b) = true := by subst h; exact k
set_option maxRecDepth 100000 in
theorem fnCompare_closed : joinedFacts Tryz.prog 8 Tryz.f8 Rows.fnCompareSpec Rows.fnCompareRow = true := by
  unfold joinedFacts
  exact (fnCompare_both (fnCompare_both (fnCompare_both (fnCompare_both (fnCompare_both (fnCompare_both (fnCompare_both (fnCompare_both (fnCompare_both (fnCompare_both (fnCompare_both (fnCompare_both (fnCompare_both (fnCompare_both (fnCompare_both (fnCompare_both (fnCompare_both (fnCompare_both (fnCompare_both (fnCompare_both (fnCompare_both (fnCompare_both (fnCompare_both (fnCompare_both (fnCompare_both (fnCompare_both (fnCompare_both (fnCompare_both (fnCompare_both (fnCompare_both (fnCompare_both fnCompare_c0 fnCompare_c1) fnCompare_c2) fnCompare_c3) fnCompare_c4) fnCompare_c5) fnCompare_c6) fnCompare_c7) fnCompare_c8) fnCompare_c9) fnCompare_c10) fnCompare_c11) fnCompare_c12) fnCompare_c13) fnCompare_c14) fnCompare_c15) fnCompare_c16) fnCompare_c17) fnCompare_c18) fnCompare_c19) fnCompare_c20) fnCompare_c21) fnCompare_c22) fnCompare_c23) fnCompare_c24) fnCompare_c25) fnCompare_c26) fnCompare_c27) fnCompare_c28) fnCompare_c29) fnCompare_c30) fnCompare_c31)

theorem fnCompare_over : Rows.fnCompareRow.holds Tryz.pinned (OpenSpec.ofChange Rows.fnCompareSpec) :=
  OpenClaim.holds_of_wide 8 Tryz.f8 rfl rfl rfl rfl rfl rfl rfl ⟨rfl, rfl, rfl, rfl, rfl⟩ rfl rfl rfl rfl rfl (by kernel_rfl) Tryz.func8 fnCompare_closed
    (of_decide_eq_true (by kernel_rfl)) (by unfold Func.isWrapper; first | (rw [if_pos (by decide +kernel)]; kernel_rfl) | (rw [if_neg (by decide +kernel)]; exact ⟨rfl, rfl⟩))
    (fun os started H enc _ => fnCompare_lifted os started H enc)

/-- The tied card. -/
theorem fnCompare_holds : Rows.FnCompareCardSaid :=
  Claim7.holds_tied_plain_at .later [] [.data, .data, .data, .data, .data, .data, .data] true Rows.fnCompareCard.stood.harness Rows.fnCompareCard.stood.looks
    fnCompare_over (fun _ h => by cases h) (by kernel_rfl) (fun _ h => by cases h) fnCompare_row_tie rfl ⟨rfl, rfl⟩ (by kernel_rfl) (by kernel_rfl)
    (fun f fn hf hfn => by
      obtain rfl : f = 8 := Option.some.inj ((show Tryz.prog.funcNamed "loop.example/pub-g03241/laws.FnCompare" = some 8 by kernel_rfl).symm.trans hf) |>.symm
      obtain rfl : fn = Tryz.f8 := (Option.some.inj (Tryz.func8.symm.trans hfn)).symm
      have hall : Tryz.f8.params.all (fun t => !(Tryz.prog.wantsStandIn t)) = true := by kernel_rfl
      exact ⟨by kernel_rfl, fun j t ht => by
        obtain ⟨hj, rfl⟩ := Array.getElem?_eq_some_iff.1 ht
        have h1 := Array.all_eq_true.1 hall j hj
        have h2 : Tryz.prog.wantsStandIn (Tryz.f8.params[j]) = false := by simpa using h1
        exact h2⟩)
    (by kernel_rfl)
#print axioms fnCompare_holds
end Go.Proofs.YtlaepcfooopbmaaGreatDoor
