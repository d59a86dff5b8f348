/- 'laws.FnQuoInteger': FOR EVERY INPUT THE LAW RETURNS TRUE, AND ITS ARGUMENTS READ BEHIND THE CALL AS THEY READ BEFORE. No condition is set on the input; the listed package variables start as the program's text lays them (tied by the card). -/
import Derived.Test.YtfkcobdkgjhfaaaGreatDoorTie
import Derived.Test.YtfkcobdkgjhfaaaGreatDoorCards
import Derived.LaidMore
import Derived.OpenVars
import Derived.SevenTiedAt
import Derived.Test.YtfkcobdkgjhfaaaGreatDoorG2
import Derived.Test.YtfkcobdkgjhfaaaGreatDoorG39
import Derived.Test.YtfkcobdkgjhfaaaGreatDoorG44
import Derived.Test.YtfkcobdkgjhfaaaGreatDoorG46
import Derived.Test.YtfkcobdkgjhfaaaGreatDoorG47
/- The law FnQuoInteger: its walk. -/
set_option linter.unusedVariables false
set_option linter.unusedSimpArgs false
namespace Go.Proofs.YtfkcobdkgjhfaaaGreatDoor
open Go.RowKit

def WidQ (w : World) (e : Ending) (w' : World) : Prop := (∃ (q m : Nat), (1 ≤ q ∧ q ≤ 60) ∧ m < 8 ∧ e = .returned (.agg #[.int .u64 (q : Int), .int .i64 100000, .int .i64 (-100000), .int .i64 (m : Int)])) ∧ Below w.heap.size w w'
theorem widq_any (p k : Int) (w : World) (hp : (Lit.int .u8 p).wf = true) (hk : (Lit.int .u8 k).wf = true) :
    Calls Tryz.prog 21 #[.int .u8 p, .int .u8 k] w (WidQ w) := by
  have hp0 : 0 ≤ p ∧ p ≤ 255 := by simpa [Lit.wf, IntKind.min, IntKind.max, IntKind.signed, IntKind.bits] using hp
  have hk0 : 0 ≤ k ∧ k ≤ 255 := by simpa [Lit.wf, IntKind.min, IntKind.max, IntKind.signed, IntKind.bits] using hk
  obtain ⟨q, hq, hq60⟩ : ∃ q : Nat, p % 60 = (q : Int) ∧ q < 60 := ⟨(p % 60).toNat, by omega, by omega⟩
  obtain ⟨m, hm, hm8⟩ : ∃ m : Nat, k % 8 = (m : Int) ∧ m < 8 := ⟨(k % 8).toNat, by omega, by omega⟩
  have hq2 : p.tmod 60 = (q : Int) := by rw [Int.tmod_eq_emod_of_nonneg hp0.1]; exact hq
  have hm2 : k.tmod 8 = (m : Int) := by rw [Int.tmod_eq_emod_of_nonneg hk0.1]; exact hm
  have w1 : IntKind.u8.wrap (q : Int) = (q : Int) := by simp [IntKind.wrap, IntKind.signed, IntKind.bits]; omega
  have w2 : IntKind.u8.wrap (m : Int) = (m : Int) := by simp [IntKind.wrap, IntKind.signed, IntKind.bits]; omega
  have w3 : IntKind.u64.wrap (q : Int) = (q : Int) := by simp [IntKind.wrap, IntKind.signed, IntKind.bits]; omega
  have w4 : IntKind.i64.wrap (m : Int) = (m : Int) := by simp [IntKind.wrap, IntKind.signed, IntKind.bits]; omega
  obtain ⟨q1, hq1⟩ : ∃ q1 : Nat, q1 = q + 1 := ⟨_, rfl⟩
  have w5 : IntKind.u64.wrap (1 + (q : Int)) = (q1 : Int) := by simp [IntKind.wrap, IntKind.signed, IntKind.bits]; omega
  have w6 : 1 + (q : Int) = (q1 : Int) := by omega
  have HB : Hid (WidQ w (.returned (.agg #[.int .u64 (q1 : Int), .int .i64 100000, .int .i64 (-100000), .int .i64 (m : Int)])) (w.alloc (.cells #[.int .u64 (q1 : Int), .int .i64 100000, .int .i64 (-100000), .int .i64 (m : Int)] 48))) := ⟨⟨q1, m, by omega, hm8, rfl⟩, below_al (Below.refl w.heap.size w) _⟩
  have hn := Blk.new w 48 #[.int .u64 (q1 : Int), .int .i64 100000, .int .i64 (-100000), .int .i64 (m : Int)]
  have HN := hide hn.dec4
  clear hp hk hp0 hk0 hq1 hn
  go_enter Tryz.func21, Tryz.ntmps21
  go_wp2
  exact bodyPost_ret (wide_result w.heap.size _ rfl _ (.int .u64 (q1 : Int)) (.int .i64 100000) (.int .i64 (-100000)) (.int .i64 (m : Int)) HN.out.1 HN.out.2.1 HN.out.2.2.1 HN.out.2.2.2) rfl HB.out

/-- What the law holds behind its finites. -/
structure QlL (w w5 : World) (g1 g2 g5 g6 : Nat) (X1 X2 V1 V2 : Array Value) (W : World) : Prop where
  bel : Below w.heap.size w W
  bel5 : Below w5.heap.size w5 W
  x1 : Blk W g1 24 X1
  x2 : Blk W g2 24 X2
  v1 : Blk W g5 29 V1
  v2 : Blk W g6 29 V2
theorem QlL.next {w w5 : World} {g1 g2 g5 g6 : Nat} {X1 X2 V1 V2 : Array Value} {W W' : World} (h : QlL w w5 g1 g2 g5 g6 X1 X2 V1 V2 W) (h1 : W'.os = W.os) (h2 : W'.tape = W.tape) (h3 : W'.output = W.output) (h4 : W.heap.size ≤ W'.heap.size) (h5 : ∀ k, k < W.heap.size → W'.heap[k]? = W.heap[k]?) : QlL w w5 g1 g2 g5 g6 X1 X2 V1 V2 W' :=
  ⟨below_next h.bel ⟨h1, h2, h3, h4, h5⟩, below_next h.bel5 ⟨h1, h2, h3, h4, h5⟩, h.x1.below ⟨h1, h2, h3, h4, h5⟩, h.x2.below ⟨h1, h2, h3, h4, h5⟩, h.v1.below ⟨h1, h2, h3, h4, h5⟩, h.v2.below ⟨h1, h2, h3, h4, h5⟩⟩


set_option maxHeartbeats 2000000 in
set_option maxRecDepth 20000 in
theorem fnQuoInteger_walk (pp mm : Int) (form1 : Int) (neg1 : Bool) (A1 : Option Addr) (c1 : Nat) (xs1 : List Nat) (exp1 : Int) (form2 : Int) (neg2 : Bool) (A2 : Option Addr) (c2 : Nat) (xs2 : List Nat) (exp2 : Int) (w : World) (hvars : VarsD w w.heap.size) (hwp : (Lit.int .u8 pp).wf = true) (hwm : (Lit.int .u8 mm).wf = true)
    (hv1 : RdG .u64 w (.slice A1 xs1.length c1) xs1) (hd1 : Dig 18446744073709551616 xs1) (_ : (Lit.int .i64 form1).wf = true) (_ : (Lit.int .i64 exp1).wf = true) (hv2 : RdG .u64 w (.slice A2 xs2.length c2) xs2) (hd2 : Dig 18446744073709551616 xs2) (_ : (Lit.int .i64 form2).wf = true) (_ : (Lit.int .i64 exp2).wf = true) :
    Calls Tryz.prog 5 #[.int .u8 pp, .int .u8 mm, .agg #[.int .i64 form1, .bool neg1, .slice A1 xs1.length c1, .int .i64 exp1], .agg #[.int .i64 form2, .bool neg2, .slice A2 xs2.length c2, .int .i64 exp2]] w (BoolP w true) := by
  have Fin := hide (show ∀ W : World, Below w.heap.size w W → BoolP w true (.returned (.bool true)) W from fun W h => ⟨rfl, h⟩)
  obtain ⟨g1, hg1⟩ : ∃ g, g = w.heap.size := ⟨_, rfl⟩
  obtain ⟨g2, hg2⟩ : ∃ g, g = w.heap.size + 1 := ⟨_, rfl⟩
  obtain ⟨W0, hW0⟩ : ∃ W0, W0 = (w.alloc (.cells #[.int .i64 form1, .bool neg1, .slice A1 xs1.length c1, .int .i64 exp1] 24)).alloc (.cells #[.int .i64 form2, .bool neg2, .slice A2 xs2.length c2, .int .i64 exp2] 24) := ⟨_, rfl⟩
  have hb0 : Below w.heap.size w W0 := by rw [hW0]; exact below_al (below_al (Below.refl _ _) _) _
  have hx1 : Blk W0 g1 24 #[.int .i64 form1, .bool neg1, .slice A1 xs1.length c1, .int .i64 exp1] := by rw [hW0, hg1]; exact (Blk.new w _ _).alloc _
  have hx2 : Blk W0 g2 24 #[.int .i64 form2, .bool neg2, .slice A2 xs2.length c2, .int .i64 exp2] := by
    rw [hW0, hg2]
    have := Blk.new (w.alloc (.cells #[.int .i64 form1, .bool neg1, .slice A1 xs1.length c1, .int .i64 exp1] 24)) 24 #[.int .i64 form2, .bool neg2, .slice A2 xs2.length c2, .int .i64 exp2]
    simpa using this
  have HH := hide (And.intro hb0 (And.intro hx1 (And.intro hx2 (And.intro hv1 (And.intro hv2 (And.intro hd1 (And.intro hd2 hvars)))))))
  have HG : Hid (w.heap.size ≤ g1 ∧ g1 ≠ g2 ∧ g2 ≠ g1) := ⟨by omega, by omega, by omega⟩
  clear hb0 hx1 hx2 hv1 hv2 hd1 hd2 hvars
  go_enter Tryz.func5, Tryz.ntmps5
  go_wp2_with fail
  rw [← hW0, ← hg2, ← hg1]
  clear hW0 hg2 hg1
  by_cases hbig1 : 2147483647 < xs1.length
  · refine (fits_no form1 neg1 A1 xs1.length c1 exp1 _ hbig1).mono ?_
    rintro e w1 ⟨rfl, hb⟩
    have F2 := hide (Fin.out _ (below_next HH.out.1 hb))
    clear hb HH
    go_wp2
    go_ret
    exact F2.out
  · refine (fits_yes form1 neg1 A1 xs1.length c1 exp1 _ (by omega)).mono ?_
    rintro e w1 ⟨rfl, hb⟩
    obtain ⟨y0, y1, y2, y3⟩ := (HH.out.2.2.1.below hb).dec4
    have Hb1 := hide hb
    clear hb
    go_wp2_with fail
    by_cases hbig2 : 2147483647 < xs2.length
    · refine (fits_no form2 neg2 A2 xs2.length c2 exp2 _ hbig2).mono ?_
      rintro e w2 ⟨rfl, hb⟩
      have F2 := hide (Fin.out _ (below_next HH.out.1 (below_next Hb1.out hb)))
      clear hb HH Hb1 y0 y1 y2 y3
      go_wp2
      go_ret
      exact F2.out
    · refine (fits_yes form2 neg2 A2 xs2.length c2 exp2 _ (by omega)).mono ?_
      rintro e w2 ⟨rfl, hb⟩
      have hb2 := below_next Hb1.out hb
      obtain ⟨x0, x1, x2, x3⟩ := (HH.out.2.1.below hb2).dec4
      clear y0 y1 y2 y3
      obtain ⟨y0, y1, y2, y3⟩ := (HH.out.2.2.1.below hb2).dec4
      have hbw := below_next HH.out.1 hb2
      have Con := hide (both_any form1 neg1 A1 c1 xs1 exp1 form2 neg2 A2 c2 xs2 exp2 w2 (HH.out.2.2.2.1.below hbw) HH.out.2.2.2.2.2.1 (HH.out.2.2.2.2.1.below hbw) HH.out.2.2.2.2.2.2.1)
      have Hb2 := hide hb2
      clear hb hb2 hbw Hb1
      go_wp2_with fail
      refine (Con.out).mono ?_
      rintro e w3 ⟨s1, B1, l1, d1, ex1, s2, B2, l2, d2, ex2, ok1, ok2, rfl, hb3, hok1, hok2⟩
      have hbe3 : Below w.heap.size w w3 := below_next HH.out.1 (below_next Hb2.out hb3)
      clear x0 x1 x2 x3 y0 y1 y2 y3
      cases hok : (ok1 && ok2) with
      | false =>
        have F2 := hide (Fin.out _ (below_al (below_al hbe3 (.cells #[.bool s1, .slice B1 l1 d1, .int .i64 ex1] 29)) (.cells #[.bool s2, .slice B2 l2 d2, .int .i64 ex2] 29)))
        clear hb3 hok1 hok2 hbe3 hok Con HH Hb2
        go_wp2
        go_ret
        exact F2.out
      | true =>
        obtain ⟨o1, o2⟩ : ok1 = true ∧ ok2 = true := by simpa using hok
        have V1 := hok1 o1
        have V2 := hok2 o2
        clear hok hok1 hok2 o1 o2
        obtain ⟨m, sa, sb, he1, he2, hz, hsa, hsb, hm1, hm2⟩ := split_exp exp1 exp2 V1.lo V1.hi V2.lo V2.hi
        obtain rfl := V1.sgn
        obtain rfl := V2.sgn
        obtain rfl := V1.exq
        obtain rfl := V2.exq
        obtain rfl := V1.frm
        obtain rfl := V2.frm
        obtain ⟨a, hxa⟩ : ∃ a, a = numW xs1 := ⟨_, rfl⟩
        obtain ⟨b, hxb⟩ : ∃ b, b = numW xs2 := ⟨_, rfl⟩
        have hca := V1.can
        have hcb := V2.can
        have hl1 := V1.len
        have hl2 := V2.len
        have ho1 := V1.own
        have ho2 := V2.own
        rw [← hxa] at hca ho1
        rw [← hxb] at hcb ho2
        clear V1 V2 hxa hxb
        subst hca hcb
        subst he1 he2
        obtain ⟨w5, hw5⟩ : ∃ w5, w5 = (w3.alloc (.cells #[.bool s1, .slice B1 l1 d1, .int .i64 (m + sa)] 29)).alloc (.cells #[.bool s2, .slice B2 l2 d2, .int .i64 (m + sb)] 29) := ⟨_, rfl⟩
        obtain ⟨g5, hg5⟩ : ∃ g, g = w3.heap.size := ⟨_, rfl⟩
        obtain ⟨g6, hg6⟩ : ∃ g, g = w3.heap.size + 1 := ⟨_, rfl⟩
        have h35 : Below w3.heap.size w3 w5 := by rw [hw5]; exact below_al (below_al (Below.refl _ _) _) _
        have ha5 : Blk w5 g5 29 #[.bool s1, .slice B1 l1 d1, .int .i64 (m + sa)] := by rw [hw5, hg5]; exact (Blk.new w3 _ _).alloc _
        have ha6 : Blk w5 g6 29 #[.bool s2, .slice B2 l2 d2, .int .i64 (m + sb)] := by
          rw [hw5, hg6]
          have := Blk.new (w3.alloc (.cells #[.bool s1, .slice B1 l1 d1, .int .i64 (m + sa)] 29)) 29 #[.bool s2, .slice B2 l2 d2, .int .i64 (m + sb)]
          simpa using this
        have hbe5 := below_next hbe3 h35
        have h05 := below_next (below_next Hb2.out hb3) h35
        have hgw : w.heap.size ≤ g1 ∧ g1 ≠ g2 ∧ g2 ≠ g1 := HG.out
        obtain ⟨x0, x1, x2, x3⟩ := (HH.out.2.1.below h05).dec4
        obtain ⟨y0, y1, y2, y3⟩ := (HH.out.2.2.1.below h05).dec4
        obtain ⟨wa1, wa2, wa3⟩ := wide_len hl1 hsa
        obtain ⟨wb1, wb2, wb3⟩ := wide_len hl2 hsb
        have H5 := hide (And.intro hbe5 (And.intro ha5 (And.intro ha6 (And.intro (ho1.below h35).rd (ho2.below h35).rd))))
        have HR := hide (And.intro hbe5 (And.intro HH.out.2.2.2.1 (And.intro HH.out.2.2.2.2.1 HH.out.2.2.2.2.2.2.2)))
        have HX := hide (And.intro (HH.out.2.1.below h05) (And.intro (HH.out.2.2.1.below h05) (And.intro (HH.out.2.2.2.1.below hbe5) (And.intro (HH.out.2.2.2.2.1.below hbe5) ((HH.out.2.2.2.2.2.2.2.below hbe5).raise hbe5.size)))))
        have HZ := hide (And.intro hz (And.intro (And.intro wa1 (And.intro wa2 wa3)) (And.intro (And.intro wb1 (And.intro wb2 wb3)) (And.intro hl1 hl2))))
        rw [hw5] at x0 x1 x2 x3 y0 y1 y2 y3
        clear hb3 hbe3 Con Hb2 HH ha5 ha6 hbe5 h05 ho1 ho2 hz wa1 wa2 wa3 wb1 wb2 wb3 h35
        obtain ⟨qq, hqq⟩ : ∃ q, q = a * 10 ^ sa / (b * 10 ^ sb) := ⟨_, rfl⟩
        obtain ⟨nn, hnn⟩ : ∃ n, n = (s1 != s2) := ⟨_, rfl⟩
        have conD : ∀ W, 0 < b → Below w5.heap.size w5 W → Calls Tryz.prog 23 #[.agg #[.bool s1, .slice B1 l1 d1, .int .i64 (m + (sa : Int))], .agg #[.bool s2, .slice B2 l2 d2, .int .i64 (m + (sb : Int))]] W (DvdP W nn qq) := fun W hb0 h => by
          have r1 := H5.out.2.2.2.1
          have r2 := H5.out.2.2.2.2
          rw [hnn, hqq]
          exact sdivided_any s1 s2 B1 B2 l1 l2 d1 d2 a b sa sb m _ _ W rfl rfl (r1.below h) (r2.below h) (by rw [RdG.len (k := .i64) r1]; exact HZ.out.2.1.2.2) (by rw [RdG.len (k := .i64) r2]; exact HZ.out.2.2.1.2.2) HZ.out.1 hsa hsb (by omega) (by omega) hb0
        have conF : ∀ W, 0 < b → Below w.heap.size w W → ∀ (q k : Nat), (1 ≤ q ∧ q ≤ 100) → k < 8 → figs qq ≤ q → Calls Tryz.prog 22 #[.agg #[.int .u64 (q : Int), .int .i64 100000, .int .i64 (-100000), .int .i64 (k : Int)], .agg #[.int .i64 0, .bool s1, .slice A1 (digs 18446744073709551616 a).length c1, .int .i64 (m + (sa : Int))], .agg #[.int .i64 0, .bool s2, .slice A2 (digs 18446744073709551616 b).length c2, .int .i64 (m + (sb : Int))]] W (IqfP W nn qq) := fun W hb0 h q k hq hk hf => by
          rw [hnn, hqq]
          exact iqi_fit q k hq hk s1 s2 A1 A2 c1 c2 a b sa sb m W (RdG.below (k := .u64) HR.out.2.1 h) (RdG.below (k := .u64) HR.out.2.2.1 h) ((HR.out.2.2.2.below h).raise h.size) HZ.out.1 hsa hsb (by omega) hl1 hl2 hb0 (by rw [← hqq]; exact hf)
        have conB : ∀ W, 0 < b → Below w.heap.size w W → ∀ (q k : Nat), (1 ≤ q ∧ q ≤ 100) → k < 8 → q < figs qq → Calls Tryz.prog 22 #[.agg #[.int .u64 (q : Int), .int .i64 100000, .int .i64 (-100000), .int .i64 (k : Int)], .agg #[.int .i64 0, .bool s1, .slice A1 (digs 18446744073709551616 a).length c1, .int .i64 (m + (sa : Int))], .agg #[.int .i64 0, .bool s2, .slice A2 (digs 18446744073709551616 b).length c2, .int .i64 (m + (sb : Int))]] W (IqbP W nn) := fun W hb0 h q k hq hk hf => by
          rw [hnn]
          exact iqi_big q k hq hk s1 s2 A1 A2 c1 c2 a b sa sb m W (RdG.below (k := .u64) HR.out.2.1 h) (RdG.below (k := .u64) HR.out.2.2.1 h) ((HR.out.2.2.2.below h).raise h.size) HZ.out.1 hsa hsb (by omega) hl1 hl2 hb0 (by rw [← hqq]; exact hf)
        have hlq : (digs 18446744073709551616 qq).length ≤ 14 := digs_length_le (by omega) (Nat.lt_of_le_of_lt (by rw [hqq]; exact Nat.div_le_self _ _) (qi_len hl1 hsa))
        have hbl2 : l2 ≠ 0 → 0 < b := fun h => by
          have h1 := RdG.len (k := .i64) H5.out.2.2.2.2
          rcases Nat.eq_zero_or_pos b with h2 | h2
          · rw [h2, digs_zero] at h1; exact absurd h1 h
          · exact h2
        have HS : Hid (QlL w w5 g1 g2 g5 g6 #[.int .i64 0, .bool s1, .slice A1 (digs 18446744073709551616 a).length c1, .int .i64 (m + (sa : Int))] #[.int .i64 0, .bool s2, .slice A2 (digs 18446744073709551616 b).length c2, .int .i64 (m + (sb : Int))] #[.bool s1, .slice B1 l1 d1, .int .i64 (m + (sa : Int))] #[.bool s2, .slice B2 l2 d2, .int .i64 (m + (sb : Int))] w5) := ⟨HR.out.1, Below.refl _ _, HX.out.1, HX.out.2.1, H5.out.2.1, H5.out.2.2.1⟩
        have ConD := hide conD
        have ConF := hide conF
        have ConB := hide conB
        have ConW := hide (fun W => widq_any pp mm W hwp hwm)
        have hlq6 : (digs 65536 qq).length ≤ 56 := digs_length_le (by omega) (by
          have h1 := lt_of_digs_length (b := 18446744073709551616) (by omega) hlq
          rwa [show (18446744073709551616 : Nat) ^ 14 = 65536 ^ 56 by decide +kernel] at h1)
        have HLQ := hide (And.intro hlq hlq6)
        obtain ⟨fg, hfg⟩ : ∃ f, f = figs qq := ⟨_, rfl⟩
        have HFG := hide hfg
        clear hfg hlq6
        have HB2 := hide hbl2
        unfold DvdP at ConD
        unfold IqfP at ConF
        unfold IqbP at ConB
        unfold WidQ at ConW
        clear conD conF conB hlq hbl2 hwp hwm hqq hnn
        generalize m + (sa : Int) = x1e at *
        generalize m + (sb : Int) = x2e at *
        generalize (digs 18446744073709551616 a).length = la at *
        generalize (digs 18446744073709551616 b).length = lb at *
        have HA5 := hide HX.out.1
        go_wp2_with fail
        rw [← hw5]
        clear hw5 x0 x1 x2 x3 y0 y1 y2 y3 HX HR H5 HZ HG hgw HA5
        subst hg6 hg5
        refine (ssign_any s2 B2 l2 d2 x2e _).mono ?_
        rintro e w6 ⟨rfl, hb6⟩
        have HS := hide (HS.out.next hb6.os hb6.tape hb6.output hb6.size hb6.block)
        clear hb6
        rcases Nat.eq_zero_or_pos l2 with hl0 | hl0
        · have F2 := hide (Fin.out _ HS.out.bel)
          rw [hl0, sgnI_zero]
          clear HS ConD ConF ConB ConW HLQ HB2 hl0
          go_wp2
          go_ret
          exact F2.out
        · have hb0 := HB2.out (by omega)
          obtain ⟨t, ht⟩ : ∃ t, t = sgnI s2 l2 := ⟨_, rfl⟩
          have t0 : (t == 0) = false := by rw [ht, sgnI_beq]; exact decide_eq_false (by omega)
          rw [← ht]
          have ConD := hide (fun W h => ConD.out W hb0 h)
          have ConF := hide (fun W h => ConF.out W hb0 h)
          have ConB := hide (fun W h => ConB.out W hb0 h)
          clear ht hl0 hb0 HB2
          go_wp2_with fail
          refine (ConW.out _).mono ?_
          rintro e w7 ⟨⟨q, k, hq, hk8, rfl⟩, hb7⟩
          have HS := hide (HS.out.next hb7.os hb7.tape hb7.output hb7.size hb7.block)
          obtain ⟨W8, hW8⟩ : ∃ W, W = w7.alloc (.cells #[.int .u64 (q : Int), .int .i64 100000, .int .i64 (-100000), .int .i64 (k : Int)] 48) := ⟨_, rfl⟩
          obtain ⟨g8, hg8⟩ : ∃ g, g = w7.heap.size := ⟨_, rfl⟩
          have hb8 : Below w7.heap.size w7 W8 := by rw [hW8]; exact below_al (Below.refl _ _) _
          have HC8 : Hid (Blk W8 g8 48 #[.int .u64 (q : Int), .int .i64 100000, .int .i64 (-100000), .int .i64 (k : Int)]) := (by show Blk _ _ _ _; rw [hW8, hg8]; exact Blk.new _ _ _)
          have HS := hide (HS.out.next hb8.os hb8.tape hb8.output hb8.size hb8.block)
          obtain ⟨x0, x1, x2, x3⟩ := HS.out.x1.dec4
          obtain ⟨y0, y1, y2, y3⟩ := HS.out.x2.dec4
          rw [hW8] at x0 x1 x2 x3 y0 y1 y2 y3
          have HQK := hide (And.intro hq hk8)
          clear hb7 hq hk8 ConW t0 hb8
          have hqi : IntKind.i64.wrap (q : Int) = (q : Int) := by have := HQK.out.1; simp [IntKind.wrap, IntKind.signed, IntKind.bits]; omega
          go_wp2_with fail
          rw [← hW8, ← hg8]
          clear hW8 hg8 x0 x1 x2 x3 y0 y1 y2 y3
          rcases Nat.lt_or_ge q fg with hlt | hlt
          · have u1 : (q : Int) < (fg : Int) := by omega
            have u2 : decide ((q : Int) < (fg : Int)) = true := decide_eq_true u1
            have u3 : decide (q < fg) = true := decide_eq_true hlt
            refine (ConB.out W8 HS.out.bel q k ⟨HQK.out.1.1, by have := HQK.out.1.2; omega⟩ HQK.out.2 (by rw [← HFG.out]; exact hlt)).mono ?_
            rintro e w9 ⟨rfl, hb9⟩
            obtain ⟨W10, hW10⟩ : ∃ W, W = w9.alloc (.cells #[.int .i64 3, .bool nn, .slice none 0 0, .int .i64 0] 24) := ⟨_, rfl⟩
            obtain ⟨g10, hg10⟩ : ∃ g, g = w9.heap.size := ⟨_, rfl⟩
            have hb10 : Below w9.heap.size w9 W10 := by rw [hW10]; exact below_al (Below.refl _ _) _
            have hb810 := below_next hb9 hb10
            have HC10 : Hid (Blk W10 g10 24 #[.int .i64 3, .bool nn, .slice none 0 0, .int .i64 0]) := (by show Blk _ _ _ _; rw [hW10, hg10]; exact Blk.new _ _ _)
            have HC8 := hide (HC8.out.below hb810)
            have HS := hide (HS.out.next hb810.os hb810.tape hb810.output hb810.size hb810.block)
            obtain ⟨x0, x1, x2⟩ := HS.out.v1.val3
            obtain ⟨y0, y1, y2⟩ := HS.out.v2.val3
            rw [hW10] at x0 x1 x2 y0 y1 y2
            clear hb9 hb10 hb810 ConB ConF
            go_wp2_with fail
            rw [← hW10, ← hg10]
            clear hW10 hg10 x0 x1 x2 y0 y1 y2
            refine (ConD.out W10 HS.out.bel5).mono ?_
            rintro e w11 ⟨Q, R, lq, cq, lr, cr, nr, mr, rfl, hrQ, hb11⟩
            obtain rfl := RdG.len hrQ
            obtain ⟨W12, hW12⟩ : ∃ W, W = (w11.alloc (.cells #[.bool nn, .slice Q (digs 65536 qq).length cq, .int .i64 0] 29)).alloc (.cells #[.bool nr, .slice R lr cr, .int .i64 mr] 29) := ⟨_, rfl⟩
            obtain ⟨g12, hg12⟩ : ∃ g, g = w11.heap.size := ⟨_, rfl⟩
            have hb12 : Below w11.heap.size w11 W12 := by rw [hW12]; exact below_al (below_al (Below.refl _ _) _) _
            have hb1012 := below_next hb11 hb12
            have HC12 : Hid (Blk W12 g12 29 #[.bool nn, .slice Q (digs 65536 qq).length cq, .int .i64 0]) := (by show Blk _ _ _ _; rw [hW12, hg12]; exact (Blk.new _ _ _).alloc _)
            have HC8 := hide (HC8.out.below hb1012)
            have HC10 := hide (HC10.out.below hb1012)
            have HQ12 := hide (hrQ.below hb12)
            have HS := hide (HS.out.next hb1012.os hb1012.tape hb1012.output hb1012.size hb1012.block)
            have ConG : Hid (∀ W, Below W12.heap.size W12 W → Calls Tryz.prog 24 #[.slice Q (digs 65536 qq).length cq] W (fun e w' => e = .returned (.int .i64 (fg : Int)) ∧ Below W.heap.size W w')) := fun W hW => by
              have h := sfigs_any Q (digs 65536 qq).length cq qq W (HQ12.out.below hW) (by have := HLQ.out.2; omega)
              rwa [← HFG.out] at h
            clear hrQ hb11 hb12 hb1012 ConD
            go_upto_region 9 with fail
            rw [← hW12, ← hg12]
            clear hW12 hg12
            go_region_held3 (fun W => W.cell? ⟨g12, 1, none⟩ = some (.slice Q (digs 65536 qq).length cq) ∧ W.cell? ⟨g8, 0, none⟩ = some (.int .u64 (q : Int))) (first | exact ⟨HC12.out.cell 1, HC8.out.cell 0⟩ | go_keep)
              ((go_at_call 24; refine (ConG.out _ ?_).mono ?_; exact Below.mk rfl rfl rfl (Nat.le_refl _) (fun _ _ => rfl); go_loud (rintro e w13 ⟨rfl, hb13⟩; have Hb13 : Hid (Below W12.heap.size W12 w13) := Below.mk hb13.os hb13.tape hb13.output hb13.size hb13.block; have HC8 := hide (HC8.out.below Hb13.out); have HC12 := hide (HC12.out.below Hb13.out); clear hb13)))
            have F2 := hide (Fin.out _ (below_next HS.out.bel Hb13.out))
            clear HS HC8 HC10 HC12 HQ12 ConG Hb13
            go_wp2
            go_ret
            exact F2.out
          · have u1 : ¬ (q : Int) < (fg : Int) := by omega
            have u2 : decide ((q : Int) < (fg : Int)) = false := decide_eq_false u1
            have u3 : decide (q < fg) = false := decide_eq_false (by omega)
            refine (ConF.out W8 HS.out.bel q k ⟨HQK.out.1.1, by have := HQK.out.1.2; omega⟩ HQK.out.2 (by rw [← HFG.out]; exact hlt)).mono ?_
            rintro e w9 ⟨AZ, cz, rfl, hz9, hb9⟩
            obtain ⟨W10, hW10⟩ : ∃ W, W = w9.alloc (.cells #[.int .i64 0, .bool nn, .slice AZ (digs 18446744073709551616 qq).length cz, .int .i64 0] 24) := ⟨_, rfl⟩
            obtain ⟨g10, hg10⟩ : ∃ g, g = w9.heap.size := ⟨_, rfl⟩
            have hb10 : Below w9.heap.size w9 W10 := by rw [hW10]; exact below_al (Below.refl _ _) _
            have hb810 := below_next hb9 hb10
            have HC10 : Hid (Blk W10 g10 24 #[.int .i64 0, .bool nn, .slice AZ (digs 18446744073709551616 qq).length cz, .int .i64 0]) := (by show Blk _ _ _ _; rw [hW10, hg10]; exact Blk.new _ _ _)
            have HC8 := hide (HC8.out.below hb810)
            have HS := hide (HS.out.next hb810.os hb810.tape hb810.output hb810.size hb810.block)
            have HZ10 := hide (RdG.below (k := .u64) hz9.rd hb10)
            clear hz9
            obtain ⟨x0, x1, x2⟩ := HS.out.v1.val3
            obtain ⟨y0, y1, y2⟩ := HS.out.v2.val3
            rw [hW10] at x0 x1 x2 y0 y1 y2
            clear hb9 hb10 hb810 ConB ConF
            go_wp2_with fail
            rw [← hW10, ← hg10]
            clear hW10 hg10 x0 x1 x2 y0 y1 y2
            refine (ConD.out W10 HS.out.bel5).mono ?_
            rintro e w11 ⟨Q, R, lq, cq, lr, cr, nr, mr, rfl, hrQ, hb11⟩
            obtain rfl := RdG.len hrQ
            obtain ⟨W12, hW12⟩ : ∃ W, W = (w11.alloc (.cells #[.bool nn, .slice Q (digs 65536 qq).length cq, .int .i64 0] 29)).alloc (.cells #[.bool nr, .slice R lr cr, .int .i64 mr] 29) := ⟨_, rfl⟩
            obtain ⟨g12, hg12⟩ : ∃ g, g = w11.heap.size := ⟨_, rfl⟩
            have hb12 : Below w11.heap.size w11 W12 := by rw [hW12]; exact below_al (below_al (Below.refl _ _) _) _
            have hb1012 := below_next hb11 hb12
            have HC12 : Hid (Blk W12 g12 29 #[.bool nn, .slice Q (digs 65536 qq).length cq, .int .i64 0]) := (by show Blk _ _ _ _; rw [hW12, hg12]; exact (Blk.new _ _ _).alloc _)
            have HC8 := hide (HC8.out.below hb1012)
            have HC10 := hide (HC10.out.below hb1012)
            have HQ12 := hide (hrQ.below hb12)
            have HS := hide (HS.out.next hb1012.os hb1012.tape hb1012.output hb1012.size hb1012.block)
            have HZ10 := hide (HZ10.out.below hb1012)
            have ConG : Hid (∀ W, Below W12.heap.size W12 W → Calls Tryz.prog 24 #[.slice Q (digs 65536 qq).length cq] W (fun e w' => e = .returned (.int .i64 (fg : Int)) ∧ Below W.heap.size W w')) := fun W hW => by
              have h := sfigs_any Q (digs 65536 qq).length cq qq W (HQ12.out.below hW) (by have := HLQ.out.2; omega)
              rwa [← HFG.out] at h
            clear hrQ hb11 hb12 hb1012 ConD
            go_upto_region 9 with fail
            rw [← hW12, ← hg12]
            clear hW12 hg12
            go_region_held3 (fun W => W.cell? ⟨g12, 1, none⟩ = some (.slice Q (digs 65536 qq).length cq) ∧ W.cell? ⟨g8, 0, none⟩ = some (.int .u64 (q : Int))) (first | exact ⟨HC12.out.cell 1, HC8.out.cell 0⟩ | go_keep)
              ((go_at_call 24; refine (ConG.out _ ?_).mono ?_; exact Below.mk rfl rfl rfl (Nat.le_refl _) (fun _ _ => rfl); go_loud (rintro e w13 ⟨rfl, hb13⟩; have Hb13 : Hid (Below W12.heap.size W12 w13) := Below.mk hb13.os hb13.tape hb13.output hb13.size hb13.block; have HC8 := hide (HC8.out.below Hb13.out); have HC12 := hide (HC12.out.below Hb13.out); clear hb13)))
            have HC10 := hide (HC10.out.below Hb13.out)
            have hx13 := HZ10.out.below Hb13.out
            have hv13 := HQ12.out.below Hb13.out
            have ConI := hide (isDec_yes nn nn AZ Q cz cq qq 0 w13 hx13 hv13 (by have := HLQ.out.1; omega) (.inl rfl))
            unfold BoolP at ConI
            have HB13 := hide (below_next HS.out.bel Hb13.out)
            obtain ⟨x0, x1, x2, x3⟩ := HC10.out.dec4
            obtain ⟨y0, y1, y2⟩ := HC12.out.val3
            clear HS HC8 HC10 HC12 HQ12 ConG Hb13 HZ10 hx13 hv13
            go_wp2_with fail
            refine (ConI.out).mono ?_
            rintro e w14 ⟨rfl, hb14⟩
            have F2 := hide (Fin.out _ (below_next HB13.out hb14))
            clear hb14 HB13 ConI x0 x1 x2 x3 y0 y1 y2
            go_wp2
            go_ret
            exact F2.out
end Go.Proofs.YtfkcobdkgjhfaaaGreatDoor

set_option linter.unusedVariables false
set_option linter.unusedSimpArgs false
namespace Go.Proofs.YtfkcobdkgjhfaaaGreatDoor
open Go Go.ChangeShapes Go.WideShapes Go.ChangeAt Go.RowKit Go.Joins

/-- The heap that the door's own run leaves meets the condition. -/
theorem fnQuoInteger_met (os : Os) (args : Array Value) : laidMetH Tryz.prog Rows.fnQuoIntegerRow.laid ((World.doorLaid Tryz.prog 400 os).forCall (fun _ _ => 0) ⟨#[], args, []⟩).memory :=
  laidMetH_of_parts3 (fuel := 8) (laidMet_of_run' 8 (by kernel_rfl) (by kernel_rfl)) (by kernel_rfl) (by kernel_rfl)

set_option maxRecDepth 100000 in
theorem fnQuoInteger_lifted (os : Os) (started : os.Started) (H : Type) (enc : TypeId × Value → H) :
    ReturnsInHanded {} Tryz.checked os 5 .any (fun w args => (Rows.fnQuoIntegerSpec.pre enc Tryz.prog Tryz.f5 [] false w args ∧ laidMetH Tryz.prog Rows.fnQuoIntegerRow.laid w) ∧ sizedMet enc Tryz.prog Tryz.f5 (OpenSpec.ofChange Rows.fnQuoIntegerSpec) false w args) (Rows.fnQuoIntegerSpec.post enc Tryz.prog Tryz.f5 false true false false) := by
  refine returnsInHanded_of_change_and (C := Tryz.checked) (X := fun w _ => laidMetH Tryz.prog Rows.fnQuoIntegerRow.laid w) (fun _ _ _ hh h => h.of_heap hh) own started (by kernel_rfl) Tryz.func5
    (ChangeSpec.witness_shaped (enc := enc) (C := Tryz.checked) (os := os) (X := fun w _ => laidMetH Tryz.prog Rows.fnQuoIntegerRow.laid w) false (World.doorLaid Tryz.prog 400 os) #[.int .u8 0, .int .u8 0, .agg #[.int .i64 0, .bool false, .slice none 0 0, .int .i64 0], .agg #[.int .i64 0, .bool false, .slice none 0 0, .int .i64 0]] 8 rfl (World.shaped_of_RefB (by kernel_rfl) (by kernel_rfl)) (by kernel_rfl) (by kernel_rfl) (by kernel_rfl) (fnQuoInteger_met os _)) ?_
  intro W base args ds gs before hval0 hW _ _ hL _
  have hval : ∀ (j : Nat) t v, Tryz.f5.params[j]? = some t → args[j]? = some v → Value.okWide Tryz.prog W .any base t v := hval0
  have hW' := hW
  obtain ⟨p, q, hA0, hV, rfl, _, _⟩ := hW
  have hA : DataW.TrodAll enc Tryz.prog W 0 (fun _ => true) true Tryz.f5.params.toList args.toList ds p := hA0
  rw [Tryz.params5] at hA hval
  obtain ⟨v0, vs0, d0, ds0, p0, q0, hargs, rfl, rfl, h0, r0⟩ := trodAll_cons hA
  obtain ⟨v1, vs1, d1, ds1, p1, q1, rfl, rfl, rfl, h1, r1⟩ := trodAll_cons r0
  obtain ⟨v2, vs2, d2, ds2, p2, q2, rfl, rfl, rfl, h2, r2⟩ := trodAll_cons r1
  obtain ⟨v3, vs3, d3, ds3, p3, q3, rfl, rfl, rfl, h3, r3⟩ := trodAll_cons r2
  obtain ⟨rfl, rfl, rfl⟩ := trodAll_nil r3
  obtain rfl : args = #[v0, v1, v2, v3] := by cases args; simp_all
  have hlen := trodVars_len hV
  obtain ⟨g1, g2, g3, g4, g5, rfl⟩ : ∃ g1 g2 g3 g4 g5, gs = [g1, g2, g3, g4, g5] := by
    match gs, hlen with
    | [g1, g2, g3, g4, g5], _ => exact ⟨_, _, _, _, _, rfl⟩
  obtain ⟨n0, rfl, rfl, rfl, wn0⟩ := open_int Tryz.underlying5 (hval 0 5 v0 rfl rfl) h0
  obtain ⟨n1, rfl, rfl, rfl, wn1⟩ := open_int Tryz.underlying5 (hval 1 5 v1 rfl rfl) h1
  have lt2 : ∀ x ∈ p2, x.block < W.heap.size := by obtain ⟨m, hm⟩ := h2; exact DataW.trod_lt m _ _ _ hm
  obtain ⟨form2, neg2, A2, c2, xs2, exp2, rfl, hv2, hd2, wf2, we2⟩ := dec_open (hval 2 24 v2 rfl rfl) h2
  have lt3 : ∀ x ∈ p3, x.block < W.heap.size := by obtain ⟨m, hm⟩ := h3; exact DataW.trod_lt m _ _ _ hm
  obtain ⟨form3, neg3, A3, c3, xs3, exp3, rfl, hv3, hd3, wf3, we3⟩ := dec_open (hval 3 24 v3 rfl rfl) h3
  clear hA0 hval0
  have hvars : VarsD W W.heap.size := varsD_of hL (by kernel_rfl) (by first | exact List.mem_of_getElem? (i := 0) rfl | exact List.mem_of_getElem? (i := 1) rfl | exact List.mem_of_getElem? (i := 2) rfl | exact List.mem_of_getElem? (i := 3) rfl | exact List.mem_of_getElem? (i := 4) rfl | exact List.mem_of_getElem? (i := 5) rfl | exact List.mem_of_getElem? (i := 6) rfl) (by first | exact List.mem_of_getElem? (i := 0) rfl | exact List.mem_of_getElem? (i := 1) rfl | exact List.mem_of_getElem? (i := 2) rfl | exact List.mem_of_getElem? (i := 3) rfl | exact List.mem_of_getElem? (i := 4) rfl | exact List.mem_of_getElem? (i := 5) rfl | exact List.mem_of_getElem? (i := 6) rfl) (by first | exact List.mem_of_getElem? (i := 0) rfl | exact List.mem_of_getElem? (i := 1) rfl | exact List.mem_of_getElem? (i := 2) rfl | exact List.mem_of_getElem? (i := 3) rfl | exact List.mem_of_getElem? (i := 4) rfl | exact List.mem_of_getElem? (i := 5) rfl | exact List.mem_of_getElem? (i := 6) rfl) (by first | exact List.mem_of_getElem? (i := 0) rfl | exact List.mem_of_getElem? (i := 1) rfl | exact List.mem_of_getElem? (i := 2) rfl | exact List.mem_of_getElem? (i := 3) rfl | exact List.mem_of_getElem? (i := 4) rfl | exact List.mem_of_getElem? (i := 5) rfl | exact List.mem_of_getElem? (i := 6) rfl) (by first | exact List.mem_of_getElem? (i := 0) rfl | exact List.mem_of_getElem? (i := 1) rfl | exact List.mem_of_getElem? (i := 2) rfl | exact List.mem_of_getElem? (i := 3) rfl | exact List.mem_of_getElem? (i := 4) rfl | exact List.mem_of_getElem? (i := 5) rfl | exact List.mem_of_getElem? (i := 6) rfl)
  refine (fnQuoInteger_walk n0 n1 form2 neg2 A2 c2 xs2 exp2 form3 neg3 A3 c3 xs3 exp3 W hvars wn0 wn1 hv2 hd2 wf2 we2 hv3 hd3 wf3 we3).mono fun e W' ⟨he, bel⟩ => ?_
  subst he
  exact ⟨_, rfl, _, _, _, [], _, q, hW', trodAll_mk1 (shut_bool Tryz.underlying4 _), (trodAll_cons_mk (shut_int Tryz.underlying5 wn0) (trodAll_cons_mk (shut_int Tryz.underlying5 wn1) (trodAll_cons_mk (Below.trod laidOut (by kernel_rfl) (of_decide_eq_true (by kernel_rfl)) h2 bel lt2) (trodAll_cons_mk (Below.trod laidOut (by kernel_rfl) (of_decide_eq_true (by kernel_rfl)) h3 bel lt3) trodAll_mk0)))), bel.trodVars laidOut (by kernel_rfl) hV, bel.frame _, fun h => by cases h⟩

/-! The row's closed facts, each a declaration of its own (in one they want more memory than there is). -/
theorem fnQuoInteger_c0 : (Rows.fnQuoIntegerRow.wf (OpenSpec.ofChange Rows.fnQuoIntegerSpec)) = true := by kernel_rfl
theorem fnQuoInteger_c1 : (laidOutB Tryz.prog) = true := by kernel_rfl
theorem fnQuoInteger_c2 : (mapsRowed Tryz.prog) = true := by kernel_rfl
theorem fnQuoInteger_c3 : (Tryz.f5.params.all (Tryz.prog.readableRec ·)) = true := by kernel_rfl
theorem fnQuoInteger_c4 : (namedTie Tryz.prog Rows.fnQuoIntegerRow.named Rows.fnQuoIntegerSpec.vars) = true := by kernel_rfl
theorem fnQuoInteger_c5 : ((Rows.fnQuoIntegerRow.stops == [])) = true := by kernel_rfl
theorem fnQuoInteger_c6 : ((Tryz.prog.stops == [])) = true := by kernel_rfl
theorem fnQuoInteger_c7 : ((Rows.fnQuoIntegerRow.knobs == [])) = true := by kernel_rfl
theorem fnQuoInteger_c8 : ((Tryz.prog.stopKnobs == [])) = true := by kernel_rfl
theorem fnQuoInteger_c9 : ((Rows.fnQuoIntegerRow.inPlace == Tryz.prog.inPlace 5)) = true := by kernel_rfl
theorem fnQuoInteger_c10 : ((Rows.fnQuoIntegerRow.unfollowed == Tryz.prog.unfollowed 5)) = true := by kernel_rfl
theorem fnQuoInteger_c11 : ((Rows.fnQuoIntegerRow.recurses == Tryz.prog.recurses 5)) = true := by kernel_rfl
theorem fnQuoInteger_c12 : ((Rows.fnQuoIntegerRow.named == Tryz.prog.varsNamed 5)) = true := by kernel_rfl
theorem fnQuoInteger_c13 : ((Rows.fnQuoIntegerRow.maps == (Tryz.f5.params.toList ++ Rows.fnQuoIntegerSpec.plain.varTypes Tryz.prog).any (Tryz.prog.mapsRec ·))) = true := by kernel_rfl
theorem fnQuoInteger_c14 : ((Rows.fnQuoIntegerRow.ifaces == (Tryz.f5.params.toList ++ Rows.fnQuoIntegerSpec.plain.varTypes Tryz.prog).any (Tryz.prog.ifacesRec ·))) = true := by kernel_rfl
theorem fnQuoInteger_c15 : ((Rows.fnQuoIntegerRow.mapsOut == Tryz.prog.mapsAmong Tryz.f5.resultTypes.toList)) = true := by kernel_rfl
theorem fnQuoInteger_c16 : ((Rows.fnQuoIntegerRow.loops == (Tryz.f5.params.toList ++ Rows.fnQuoIntegerSpec.plain.varTypes Tryz.prog).any (Tryz.prog.loopsFrom ·))) = true := by kernel_rfl
theorem fnQuoInteger_c17 : ((Rows.fnQuoIntegerRow.wideKeys == (Tryz.f5.params.toList ++ Rows.fnQuoIntegerSpec.plain.varTypes Tryz.prog ++ Tryz.f5.resultTypes.toList).any (Tryz.prog.wideKeysFrom ·))) = true := by kernel_rfl
theorem fnQuoInteger_c18 : (Rows.fnQuoIntegerSpec.vars.all (Tryz.prog.varReadable ·)) = true := by kernel_rfl
theorem fnQuoInteger_c19 : (Tryz.f5.resultTypes.all (fun t => Tryz.prog.readableRec t && decide (t < Tryz.prog.types.size))) = true := by kernel_rfl
theorem fnQuoInteger_c20 : ((Rows.fnQuoIntegerRow.ifacesOut == Tryz.f5.resultTypes.toList.any (Tryz.prog.ifacesRec ·))) = true := by kernel_rfl
theorem fnQuoInteger_c21 : ((Rows.fnQuoIntegerRow.loopsOut == Tryz.f5.resultTypes.toList.any (Tryz.prog.loopsFrom ·))) = true := by kernel_rfl
theorem fnQuoInteger_c22 : ((Rows.fnQuoIntegerRow.plainKeys == Tryz.prog.plainKeys)) = true := by kernel_rfl
theorem fnQuoInteger_c23 : (Rows.fnQuoIntegerRow.shortTexts.isNone) = true := by kernel_rfl
theorem fnQuoInteger_c24 : (Tryz.prog.stopsHeard) = true := by kernel_rfl
theorem fnQuoInteger_c25 : (Tryz.prog.mayEnter) = true := by kernel_rfl
theorem fnQuoInteger_c26 : ((Rows.fnQuoIntegerRow.lifted == Tryz.prog.liftsFinal)) = true := by kernel_rfl
theorem fnQuoInteger_c27 : ((Tryz.prog.make == some Rows.fnQuoIntegerRow.make)) = true := by kernel_rfl
theorem fnQuoInteger_c28 : ((Rows.fnQuoIntegerRow.kinds == (if Rows.fnQuoIntegerRow.domain.isEmpty then [] else Tryz.f5.params.toList.map fun t => match Tryz.prog.underlying t with | some (.int k) => some k | _ => none))) = true := by kernel_rfl
theorem fnQuoInteger_c29 : ((Rows.fnQuoIntegerRow.pinned == Rows.fnQuoIntegerRow.pinnedBy)) = true := by kernel_rfl
theorem fnQuoInteger_c30 : ((Rows.fnQuoIntegerRow.veiled == (Tryz.f5.params.toList ++ Rows.fnQuoIntegerSpec.plain.varTypes Tryz.prog ++ Tryz.f5.resultTypes.toList).any (Tryz.prog.veiledRec ·))) = true := by kernel_rfl
theorem fnQuoInteger_c31 : (Rows.fnQuoIntegerRow.veiledFits Tryz.prog Tryz.f5.params.toList (Tryz.f5.params.toList ++ Rows.fnQuoIntegerSpec.plain.varTypes Tryz.prog ++ Tryz.f5.resultTypes.toList)) = true := by kernel_rfl
theorem fnQuoInteger_both {a b : Bool} (h : a = true) (k : b = true) : (a && b) = true := by subst h; exact k
set_option maxRecDepth 100000 in
theorem fnQuoInteger_closed : joinedFacts Tryz.prog 5 Tryz.f5 Rows.fnQuoIntegerSpec Rows.fnQuoIntegerRow = true := by
  unfold joinedFacts
  exact (fnQuoInteger_both (fnQuoInteger_both (fnQuoInteger_both (fnQuoInteger_both (fnQuoInteger_both (fnQuoInteger_both (fnQuoInteger_both (fnQuoInteger_both (fnQuoInteger_both (fnQuoInteger_both (fnQuoInteger_both (fnQuoInteger_both (fnQuoInteger_both (fnQuoInteger_both (fnQuoInteger_both (fnQuoInteger_both (fnQuoInteger_both (fnQuoInteger_both (fnQuoInteger_both (fnQuoInteger_both (fnQuoInteger_both (fnQuoInteger_both (fnQuoInteger_both (fnQuoInteger_both (fnQuoInteger_both (fnQuoInteger_both (fnQuoInteger_both (fnQuoInteger_both (fnQuoInteger_both (fnQuoInteger_both (fnQuoInteger_both fnQuoInteger_c0 fnQuoInteger_c1) fnQuoInteger_c2) fnQuoInteger_c3) fnQuoInteger_c4) fnQuoInteger_c5) fnQuoInteger_c6) fnQuoInteger_c7) fnQuoInteger_c8) fnQuoInteger_c9) fnQuoInteger_c10) fnQuoInteger_c11) fnQuoInteger_c12) fnQuoInteger_c13) fnQuoInteger_c14) fnQuoInteger_c15) fnQuoInteger_c16) fnQuoInteger_c17) fnQuoInteger_c18) fnQuoInteger_c19) fnQuoInteger_c20) fnQuoInteger_c21) fnQuoInteger_c22) fnQuoInteger_c23) fnQuoInteger_c24) fnQuoInteger_c25) fnQuoInteger_c26) fnQuoInteger_c27) fnQuoInteger_c28) fnQuoInteger_c29) fnQuoInteger_c30) fnQuoInteger_c31)

theorem fnQuoInteger_over : Rows.fnQuoIntegerRow.holds Tryz.pinned (OpenSpec.ofChange Rows.fnQuoIntegerSpec) :=
  OpenClaim.holds_of_wide 5 Tryz.f5 rfl rfl rfl rfl rfl rfl rfl ⟨rfl, rfl, rfl, rfl, rfl⟩ rfl rfl rfl rfl rfl (by kernel_rfl) Tryz.func5 fnQuoInteger_closed
    (of_decide_eq_true (by kernel_rfl)) (by unfold Func.isWrapper; first | (rw [if_pos (by decide +kernel)]; kernel_rfl) | (rw [if_neg (by decide +kernel)]; exact ⟨rfl, rfl⟩))
    (fun os started H enc _ => fnQuoInteger_lifted os started H enc)

/-- The tied card. -/
theorem fnQuoInteger_holds : Rows.FnQuoIntegerCardSaid :=
  Claim7.holds_tied_plain_at .later [] [.data, .data, .data, .data, .data, .data, .data] true Rows.fnQuoIntegerCard.stood.harness Rows.fnQuoIntegerCard.stood.looks
    fnQuoInteger_over (fun _ h => by cases h) (by kernel_rfl) (fun _ h => by cases h) fnQuoInteger_row_tie rfl ⟨rfl, rfl⟩ (by kernel_rfl) (by kernel_rfl)
    (fun f fn hf hfn => by
      obtain rfl : f = 5 := Option.some.inj ((show Tryz.prog.funcNamed "loop.example/pub-g03241/laws.FnQuoInteger" = some 5 by kernel_rfl).symm.trans hf) |>.symm
      obtain rfl : fn = Tryz.f5 := (Option.some.inj (Tryz.func5.symm.trans hfn)).symm
      have hall : Tryz.f5.params.all (fun t => !(Tryz.prog.wantsStandIn t)) = true := by kernel_rfl
      exact ⟨by kernel_rfl, fun j t ht => by
        obtain ⟨hj, rfl⟩ := Array.getElem?_eq_some_iff.1 ht
        have h1 := Array.all_eq_true.1 hall j hj
        have h2 : Tryz.prog.wantsStandIn (Tryz.f5.params[j]) = false := by simpa using h1
        exact h2⟩)
    (by kernel_rfl)
#print axioms fnQuoInteger_holds
end Go.Proofs.YtfkcobdkgjhfaaaGreatDoor
