/- 'laws.FnCmp': FOR EVERY INPUT THE LAW RETURNS TRUE, AND ITS ARGUMENTS READ BEHIND THE CALL AS THEY READ BEFORE. No condition is set on the input; the listed package variables start as the program's text lays them (tied by the card). -/
import Derived.Test.YtlepebogjpcfoaaGreatDoorTie
import Derived.Test.YtlepebogjpcfoaaGreatDoorCards
import Derived.LaidMore
import Derived.OpenVars
import Derived.SevenTiedAt
import Derived.Test.YtlepebogjpcfoaaGreatDoorG2
import Derived.Test.YtlepebogjpcfoaaGreatDoorG28
import Derived.Test.YtlepebogjpcfoaaGreatDoorG29
import Derived.Test.YtlepebogjpcfoaaGreatDoorG40
import Derived.Test.YtlepebogjpcfoaaGreatDoorG47
/- The law FnCmp: its walk. -/
set_option linter.unusedVariables false
set_option linter.unusedSimpArgs false
namespace Go.Proofs.YtlepebogjpcfoaaGreatDoor
open Go.RowKit

theorem ordV_small (n1 : Bool) (a : Nat) (n2 : Bool) (b : Nat) : -1 ≤ ordV n1 a n2 b ∧ ordV n1 a n2 b ≤ 1 := by
  rw [ordV_eq]
  unfold sgnV
  split
  · omega
  · split <;> omega

/-- What the law holds behind its finites. -/
structure CmL (w w5 : World) (g1 g2 g5 g6 : Nat) (X1 X2 V1 V2 : Array Value) (W : World) : Prop where
  bel : Below w.heap.size w W
  bel5 : Below w5.heap.size w5 W
  x1 : Blk W g1 24 X1
  x2 : Blk W g2 24 X2
  v1 : Blk W g5 29 V1
  v2 : Blk W g6 29 V2
theorem CmL.next {w w5 : World} {g1 g2 g5 g6 : Nat} {X1 X2 V1 V2 : Array Value} {W W' : World} (h : CmL w w5 g1 g2 g5 g6 X1 X2 V1 V2 W) (h1 : W'.os = W.os) (h2 : W'.tape = W.tape) (h3 : W'.output = W.output) (h4 : W.heap.size ≤ W'.heap.size) (h5 : ∀ k, k < W.heap.size → W'.heap[k]? = W.heap[k]?) : CmL w w5 g1 g2 g5 g6 X1 X2 V1 V2 W' :=
  ⟨below_next h.bel ⟨h1, h2, h3, h4, h5⟩, below_next h.bel5 ⟨h1, h2, h3, h4, h5⟩, h.x1.below ⟨h1, h2, h3, h4, h5⟩, h.x2.below ⟨h1, h2, h3, h4, h5⟩, h.v1.below ⟨h1, h2, h3, h4, h5⟩, h.v2.below ⟨h1, h2, h3, h4, h5⟩⟩

theorem CmL.aldr {w w5 : World} {g1 g2 g5 g6 : Nat} {X1 X2 V1 V2 : Array Value} {W W' : World} {o : Obj} (h : CmL w w5 g1 g2 g5 g6 X1 X2 V1 V2 W) (hb : Below (W.alloc o).drew.heap.size (W.alloc o).drew W') : CmL w w5 g1 g2 g5 g6 X1 X2 V1 V2 W' :=
  have k := below_next (below_dr (below_al (Below.refl W.heap.size W) o)) hb
  h.next k.os k.tape k.output k.size k.block

theorem CmL.set4 {w w5 : World} {g1 g2 g5 g6 : Nat} {X1 X2 V1 V2 : Array Value} {W : World} (h : CmL w w5 g1 g2 g5 g6 X1 X2 V1 V2 W) (z : Nat) (a b c d : Value) (hz : g1 < z ∧ g2 < z ∧ g5 < z ∧ g6 < z ∧ w.heap.size ≤ z ∧ w5.heap.size ≤ z) :
    CmL w w5 g1 g2 g5 g6 X1 X2 V1 V2 ((((W.setCell ⟨z, 0, none⟩ a).setCell ⟨z, 1, none⟩ b).setCell ⟨z, 2, none⟩ c).setCell ⟨z, 3, none⟩ d) := by
  have hF : Fr W ((((W.setCell ⟨z, 0, none⟩ a).setCell ⟨z, 1, none⟩ b).setCell ⟨z, 2, none⟩ c).setCell ⟨z, 3, none⟩ d) (fun k => k = z) := ((((Fr.refl W (fun k => k = z)).setCell (p := ⟨z, 0, none⟩) (fun _ => rfl) _).setCell (p := ⟨z, 1, none⟩) (fun _ => rfl) _).setCell (p := ⟨z, 2, none⟩) (fun _ => rfl) _).setCell (p := ⟨z, 3, none⟩) (fun _ => rfl) _
  refine ⟨?_, ?_, h.x1.fr hF (by omega), h.x2.fr hF (by omega), h.v1.fr hF (by omega), h.v2.fr hF (by omega)⟩
  · exact (Fr.step (Fr.of_below h.bel (fun k => w.heap.size ≤ k)) hF (fun i _ hi => by subst hi; exact hz.2.2.2.2.1)).below (Nat.le_refl _) (fun _ h => h)
  · exact (Fr.step (Fr.of_below h.bel5 (fun k => w5.heap.size ≤ k)) hF (fun i _ hi => by subst hi; exact hz.2.2.2.2.2)).below (Nat.le_refl _) (fun _ h => h)
theorem CmL.lt {w w5 : World} {g1 g2 g5 g6 : Nat} {X1 X2 V1 V2 : Array Value} {W : World} (h : CmL w w5 g1 g2 g5 g6 X1 X2 V1 V2 W) : g1 < W.heap.size ∧ g2 < W.heap.size ∧ g5 < W.heap.size ∧ g6 < W.heap.size ∧ w.heap.size ≤ W.heap.size ∧ w5.heap.size ≤ W.heap.size :=
  ⟨h.x1.lt, h.x2.lt, h.v1.lt, h.v2.lt, h.bel.size, h.bel5.size⟩

set_option maxHeartbeats 2000000 in
set_option maxRecDepth 20000 in
theorem fnCmp_walk (pp mm : Int) (form1 : Int) (neg1 : Bool) (A1 : Option Addr) (c1 : Nat) (xs1 : List Nat) (exp1 : Int) (form2 : Int) (neg2 : Bool) (A2 : Option Addr) (c2 : Nat) (xs2 : List Nat) (exp2 : Int) (w : World) (hvars : VarsL w w.heap.size) (hwp : (Lit.int .u8 pp).wf = true) (hwm : (Lit.int .u8 mm).wf = true)
    (hv1 : RdG .u64 w (.slice A1 xs1.length c1) xs1) (hd1 : Dig 18446744073709551616 xs1) (_ : (Lit.int .i64 form1).wf = true) (_ : (Lit.int .i64 exp1).wf = true) (hv2 : RdG .u64 w (.slice A2 xs2.length c2) xs2) (hd2 : Dig 18446744073709551616 xs2) (_ : (Lit.int .i64 form2).wf = true) (_ : (Lit.int .i64 exp2).wf = true) :
    Calls Tryz.prog 9 #[.int .u8 pp, .int .u8 mm, .agg #[.int .i64 form1, .bool neg1, .slice A1 xs1.length c1, .int .i64 exp1], .agg #[.int .i64 form2, .bool neg2, .slice A2 xs2.length c2, .int .i64 exp2]] w (BoolP w true) := by
  have Fin := hide (show ∀ W : World, Below w.heap.size w W → BoolP w true (.returned (.bool true)) W from fun W h => ⟨rfl, h⟩)
  obtain ⟨g1, hg1⟩ : ∃ g, g = w.heap.size := ⟨_, rfl⟩
  obtain ⟨g2, hg2⟩ : ∃ g, g = w.heap.size + 1 := ⟨_, rfl⟩
  obtain ⟨W0, hW0⟩ : ∃ W0, W0 = (w.alloc (.cells #[.int .i64 form1, .bool neg1, .slice A1 xs1.length c1, .int .i64 exp1] 24)).alloc (.cells #[.int .i64 form2, .bool neg2, .slice A2 xs2.length c2, .int .i64 exp2] 24) := ⟨_, rfl⟩
  have hb0 : Below w.heap.size w W0 := by rw [hW0]; exact below_al (below_al (Below.refl _ _) _) _
  have hx1 : Blk W0 g1 24 #[.int .i64 form1, .bool neg1, .slice A1 xs1.length c1, .int .i64 exp1] := by rw [hW0, hg1]; exact (Blk.new w _ _).alloc _
  have hx2 : Blk W0 g2 24 #[.int .i64 form2, .bool neg2, .slice A2 xs2.length c2, .int .i64 exp2] := by
    rw [hW0, hg2]
    have := Blk.new (w.alloc (.cells #[.int .i64 form1, .bool neg1, .slice A1 xs1.length c1, .int .i64 exp1] 24)) 24 #[.int .i64 form2, .bool neg2, .slice A2 xs2.length c2, .int .i64 exp2]
    simpa using this
  have HH := hide (And.intro hb0 (And.intro hx1 (And.intro hx2 (And.intro hv1 (And.intro hv2 (And.intro hd1 (And.intro hd2 hvars)))))))
  have HG : Hid (w.heap.size ≤ g1 ∧ g1 ≠ g2 ∧ g2 ≠ g1) := ⟨by omega, by omega, by omega⟩
  clear hb0 hx1 hx2 hv1 hv2 hd1 hd2 hvars
  go_enter Tryz.func9, Tryz.ntmps9
  go_wp2_with fail
  rw [← hW0, ← hg2, ← hg1]
  clear hW0 hg2 hg1
  by_cases hbig1 : 2147483647 < xs1.length
  · refine (fits_no form1 neg1 A1 xs1.length c1 exp1 _ hbig1).mono ?_
    rintro e w1 ⟨rfl, hb⟩
    have F2 := hide (Fin.out _ (below_next HH.out.1 hb))
    clear hb HH
    go_wp2
    go_ret
    exact F2.out
  · refine (fits_yes form1 neg1 A1 xs1.length c1 exp1 _ (by omega)).mono ?_
    rintro e w1 ⟨rfl, hb⟩
    obtain ⟨y0, y1, y2, y3⟩ := (HH.out.2.2.1.below hb).dec4
    have Hb1 := hide hb
    clear hb
    go_wp2_with fail
    by_cases hbig2 : 2147483647 < xs2.length
    · refine (fits_no form2 neg2 A2 xs2.length c2 exp2 _ hbig2).mono ?_
      rintro e w2 ⟨rfl, hb⟩
      have F2 := hide (Fin.out _ (below_next HH.out.1 (below_next Hb1.out hb)))
      clear hb HH Hb1 y0 y1 y2 y3
      go_wp2
      go_ret
      exact F2.out
    · refine (fits_yes form2 neg2 A2 xs2.length c2 exp2 _ (by omega)).mono ?_
      rintro e w2 ⟨rfl, hb⟩
      have hb2 := below_next Hb1.out hb
      obtain ⟨x0, x1, x2, x3⟩ := (HH.out.2.1.below hb2).dec4
      clear y0 y1 y2 y3
      obtain ⟨y0, y1, y2, y3⟩ := (HH.out.2.2.1.below hb2).dec4
      have hbw := below_next HH.out.1 hb2
      have Con := hide (both_any form1 neg1 A1 c1 xs1 exp1 form2 neg2 A2 c2 xs2 exp2 w2 (HH.out.2.2.2.1.below hbw) HH.out.2.2.2.2.2.1 (HH.out.2.2.2.2.1.below hbw) HH.out.2.2.2.2.2.2.1)
      have Hb2 := hide hb2
      clear hb hb2 hbw Hb1
      go_wp2_with fail
      refine (Con.out).mono ?_
      rintro e w3 ⟨s1, B1, l1, d1, ex1, s2, B2, l2, d2, ex2, ok1, ok2, rfl, hb3, hok1, hok2⟩
      have hbe3 : Below w.heap.size w w3 := below_next HH.out.1 (below_next Hb2.out hb3)
      clear x0 x1 x2 x3 y0 y1 y2 y3
      cases hok : (ok1 && ok2) with
      | false =>
        have F2 := hide (Fin.out _ (below_al (below_al hbe3 (.cells #[.bool s1, .slice B1 l1 d1, .int .i64 ex1] 29)) (.cells #[.bool s2, .slice B2 l2 d2, .int .i64 ex2] 29)))
        clear hb3 hok1 hok2 hbe3 hok Con HH Hb2
        go_wp2
        go_ret
        exact F2.out
      | true =>
        obtain ⟨o1, o2⟩ : ok1 = true ∧ ok2 = true := by simpa using hok
        have V1 := hok1 o1
        have V2 := hok2 o2
        clear hok hok1 hok2 o1 o2
        obtain ⟨m, sa, sb, he1, he2, hz, hsa, hsb, hm1, hm2⟩ := split_exp exp1 exp2 V1.lo V1.hi V2.lo V2.hi
        obtain rfl := V1.sgn
        obtain rfl := V2.sgn
        obtain rfl := V1.exq
        obtain rfl := V2.exq
        obtain rfl := V1.frm
        obtain rfl := V2.frm
        obtain ⟨a, hxa⟩ : ∃ a, a = numW xs1 := ⟨_, rfl⟩
        obtain ⟨b, hxb⟩ : ∃ b, b = numW xs2 := ⟨_, rfl⟩
        have hca := V1.can
        have hcb := V2.can
        have hl1 := V1.len
        have hl2 := V2.len
        have ho1 := V1.own
        have ho2 := V2.own
        rw [← hxa] at hca ho1
        rw [← hxb] at hcb ho2
        clear V1 V2 hxa hxb
        subst hca hcb
        subst he1 he2
        obtain ⟨w5, hw5⟩ : ∃ w5, w5 = (w3.alloc (.cells #[.bool s1, .slice B1 l1 d1, .int .i64 (m + sa)] 29)).alloc (.cells #[.bool s2, .slice B2 l2 d2, .int .i64 (m + sb)] 29) := ⟨_, rfl⟩
        obtain ⟨g5, hg5⟩ : ∃ g, g = w3.heap.size := ⟨_, rfl⟩
        obtain ⟨g6, hg6⟩ : ∃ g, g = w3.heap.size + 1 := ⟨_, rfl⟩
        have h35 : Below w3.heap.size w3 w5 := by rw [hw5]; exact below_al (below_al (Below.refl _ _) _) _
        have ha5 : Blk w5 g5 29 #[.bool s1, .slice B1 l1 d1, .int .i64 (m + sa)] := by rw [hw5, hg5]; exact (Blk.new w3 _ _).alloc _
        have ha6 : Blk w5 g6 29 #[.bool s2, .slice B2 l2 d2, .int .i64 (m + sb)] := by
          rw [hw5, hg6]
          have := Blk.new (w3.alloc (.cells #[.bool s1, .slice B1 l1 d1, .int .i64 (m + sa)] 29)) 29 #[.bool s2, .slice B2 l2 d2, .int .i64 (m + sb)]
          simpa using this
        have hbe5 := below_next hbe3 h35
        have h05 := below_next (below_next Hb2.out hb3) h35
        have hgw : w.heap.size ≤ g1 ∧ g1 ≠ g2 ∧ g2 ≠ g1 := HG.out
        obtain ⟨x0, x1, x2, x3⟩ := (HH.out.2.1.below h05).dec4
        obtain ⟨y0, y1, y2, y3⟩ := (HH.out.2.2.1.below h05).dec4
        obtain ⟨wa1, wa2, wa3⟩ := wide_len hl1 hsa
        obtain ⟨wb1, wb2, wb3⟩ := wide_len hl2 hsb
        have H5 := hide (And.intro hbe5 (And.intro ha5 (And.intro ha6 (And.intro (ho1.below h35).rd (ho2.below h35).rd))))
        have HR := hide (And.intro hbe5 (And.intro HH.out.2.2.2.1 (And.intro HH.out.2.2.2.2.1 HH.out.2.2.2.2.2.2.2)))
        have HX := hide (And.intro (HH.out.2.1.below h05) (And.intro (HH.out.2.2.1.below h05) (And.intro (HH.out.2.2.2.1.below hbe5) (And.intro (HH.out.2.2.2.2.1.below hbe5) ((HH.out.2.2.2.2.2.2.2.below hbe5).raise hbe5.size)))))
        have HZ := hide (And.intro hz (And.intro (And.intro wa1 (And.intro wa2 wa3)) (And.intro (And.intro wb1 (And.intro wb2 wb3)) (And.intro hl1 hl2))))
        rw [hw5] at x0 x1 x2 x3 y0 y1 y2 y3
        clear hb3 hbe3 Con Hb2 HH ha5 ha6 hbe5 h05 ho1 ho2 hz wa1 wa2 wa3 wb1 wb2 wb3 h35
        have con : ∀ W, Below w.heap.size w W → ∀ (q : Int) (k : Nat), k < 8 → Calls Tryz.prog 28 #[.agg #[.int .u64 q, .int .i64 100000, .int .i64 (-100000), .int .i64 (k : Int)], .agg #[.int .i64 0, .bool s1, .slice A1 (digs 18446744073709551616 a).length c1, .int .i64 (m + (sa : Int))], .agg #[.int .i64 0, .bool s2, .slice A2 (digs 18446744073709551616 b).length c2, .int .i64 (m + (sb : Int))]] W (IcmpP W (ordV s1 (a * 10 ^ sa) s2 (b * 10 ^ sb))) := fun W h q k hk =>
          iccmp_gen q k hk s1 s2 A1 A2 _ _ c1 c2 _ _ (FinD s1 (m + (sa : Int)) a) (FinD s2 (m + (sb : Int)) b) _ W (ordV_small _ _ _ _).1 (ordV_small _ _ _ _).2 (finD_kept _ _ _) (finD_kept _ _ _)
            (fun W g hD => by obtain ⟨A, c, h, _⟩ := hD; exact h.blk.cell 0) (fun W g hD => by obtain ⟨A, c, h, _⟩ := hD; exact h.blk.cell 0)
            (fun W2 h2 => finD_made s1 _ a A1 c1 W2 (RdG.below (k := .u64) HR.out.2.1 (below_next h h2)) hl1 (by omega) (by omega))
            (fun W2 h2 => finD_made s2 _ b A2 c2 W2 (RdG.below (k := .u64) HR.out.2.2.1 (below_next h h2)) hl2 (by omega) (by omega))
            (by
              rintro W2 ga gb hne h2 ⟨A, ca, hA, hka⟩ ⟨B, cb, hB, hkb⟩
              exact dcmp_any ga gb s1 s2 _ _ m A B ca cb a b sa sb W2 hA hB hne hl1 hl2 hka hkb rfl rfl HZ.out.1 hsa hsb (by omega) (by omega) ((HR.out.2.2.2.below (below_next h h2)).raise (Nat.le_trans h.size h2.size)))
        have ConC := hide con
        have ConO : Hid (∀ W, Below w5.heap.size w5 W → Calls Tryz.prog 22 #[.agg #[.bool s1, .slice B1 l1 d1, .int .i64 (m + (sa : Int))], .agg #[.bool s2, .slice B2 l2 d2, .int .i64 (m + (sb : Int))]] W (fun e w' => e = .returned (.int .i64 (ordV s1 (a * 10 ^ sa) s2 (b * 10 ^ sb))) ∧ Below W.heap.size W w')) := fun W h => by
          have r1 := H5.out.2.2.2.1
          have r2 := H5.out.2.2.2.2
          exact sorder_any s1 s2 B1 B2 l1 l2 d1 d2 a b sa sb m _ _ W rfl rfl (r1.below h) (r2.below h) (by rw [RdG.len (k := .i64) r1]; exact HZ.out.2.1.2.2) (by rw [RdG.len (k := .i64) r2]; exact HZ.out.2.2.1.2.2) HZ.out.1 hsa hsb (by omega) (by omega)
        have HS : Hid (CmL w w5 g1 g2 g5 g6 #[.int .i64 0, .bool s1, .slice A1 (digs 18446744073709551616 a).length c1, .int .i64 (m + (sa : Int))] #[.int .i64 0, .bool s2, .slice A2 (digs 18446744073709551616 b).length c2, .int .i64 (m + (sb : Int))] #[.bool s1, .slice B1 l1 d1, .int .i64 (m + (sa : Int))] #[.bool s2, .slice B2 l2 d2, .int .i64 (m + (sb : Int))] w5) := ⟨HR.out.1, Below.refl _ _, HX.out.1, HX.out.2.1, H5.out.2.1, H5.out.2.2.1⟩
        have ConW := hide (fun W => wide_any pp mm W hwp hwm)
        obtain ⟨r, hr⟩ : ∃ r, r = ordV s1 (a * 10 ^ sa) s2 (b * 10 ^ sb) := ⟨_, rfl⟩
        have hrs := ordV_small s1 (a * 10 ^ sa) s2 (b * 10 ^ sb)
        rw [← hr] at ConC ConO hrs
        have HRs := hide hrs
        unfold IcmpP at ConC
        unfold WideP at ConW
        clear hr con hrs hwp hwm
        generalize m + (sa : Int) = x1e at *
        generalize m + (sb : Int) = x2e at *
        generalize (digs 18446744073709551616 a).length = la at *
        generalize (digs 18446744073709551616 b).length = lb at *
        go_wp2_with fail
        rw [← hw5]
        clear hw5 x0 x1 x2 x3 y0 y1 y2 y3 HX HR H5 HZ HG hgw
        subst hg6 hg5
        obtain ⟨CmLP, hCP⟩ : ∃ P : World → Prop, P = CmL w w5 g1 g2 w3.heap.size (w3.heap.size + 1) #[.int .i64 0, .bool s1, .slice A1 la c1, .int .i64 x1e] #[.int .i64 0, .bool s2, .slice A2 lb c2, .int .i64 x2e] #[.bool s1, .slice B1 l1 d1, .int .i64 x1e] #[.bool s2, .slice B2 l2 d2, .int .i64 x2e] := ⟨_, rfl⟩
        have HPn : Hid (∀ W W', CmLP W → Below W.heap.size W W' → CmLP W') := fun W W' h k => by rw [hCP] at h ⊢; exact h.next k.os k.tape k.output k.size k.block
        have HPb : Hid (∀ W, CmLP W → Below w.heap.size w W) := fun W h => by rw [hCP] at h; exact h.bel
        have HPc : Hid (∀ W, CmLP W → (W.cell? ⟨g1, 0, none⟩ = some (.int .i64 0) ∧ W.cell? ⟨g1, 1, none⟩ = some (.bool s1) ∧ W.cell? ⟨g1, 2, none⟩ = some (.slice A1 la c1) ∧ W.cell? ⟨g1, 3, none⟩ = some (.int .i64 x1e)) ∧ (W.cell? ⟨g2, 0, none⟩ = some (.int .i64 0) ∧ W.cell? ⟨g2, 1, none⟩ = some (.bool s2) ∧ W.cell? ⟨g2, 2, none⟩ = some (.slice A2 lb c2) ∧ W.cell? ⟨g2, 3, none⟩ = some (.int .i64 x2e))) := fun W h => by rw [hCP] at h; exact ⟨h.x1.dec4, h.x2.dec4⟩
        have HPs : Hid (∀ W zz a b c d, (g1 < zz ∧ g2 < zz ∧ w3.heap.size < zz ∧ w3.heap.size + 1 < zz ∧ w.heap.size ≤ zz ∧ w5.heap.size ≤ zz) → CmLP W → CmLP ((((W.setCell ⟨zz, 0, none⟩ a).setCell ⟨zz, 1, none⟩ b).setCell ⟨zz, 2, none⟩ c).setCell ⟨zz, 3, none⟩ d)) := fun W zz a b c d hz h => by rw [hCP] at h ⊢; exact h.set4 zz a b c d hz
        have HPl : Hid (∀ W zz, CmLP W → zz = W.heap.size → (g1 < zz ∧ g2 < zz ∧ w3.heap.size < zz ∧ w3.heap.size + 1 < zz ∧ w.heap.size ≤ zz ∧ w5.heap.size ≤ zz)) := fun W zz h e => by rw [hCP] at h; subst e; exact h.lt
        have HCP := hide hCP
        rw [← hCP] at HS
        clear hCP
        go_region_held3 (fun W => (W.cell? ⟨g1, 0, none⟩ = some (.int .i64 0) ∧ W.cell? ⟨g1, 1, none⟩ = some (.bool s1) ∧ W.cell? ⟨g1, 2, none⟩ = some (.slice A1 la c1) ∧ W.cell? ⟨g1, 3, none⟩ = some (.int .i64 x1e)) ∧ (W.cell? ⟨g2, 0, none⟩ = some (.int .i64 0) ∧ W.cell? ⟨g2, 1, none⟩ = some (.bool s2) ∧ W.cell? ⟨g2, 2, none⟩ = some (.slice A2 lb c2) ∧ W.cell? ⟨g2, 3, none⟩ = some (.int .i64 x2e))) (first | (have hh := HPc.out _ HS.out; exact hh) | exact HPc.out _ (HPn.out _ _ HS.out (below_al (Below.refl _ _) _)) | exact HPc.out _ (HPn.out _ _ HS.out (below_dr (below_al (Below.refl _ _) _))) | exact HPc.out _ (HPs.out _ _ _ _ _ _ HNz.out HS.out) | go_keep)
          (first
            | (go_at_call 29; go_loud (refine (ConW.out _).mono ?_; rintro e6 w6 ⟨⟨q, k, hk8, rfl⟩, hb6⟩; (first | have HS6 : Hid (CmLP w6) := HPn.out _ _ HS.out (Below.mk hb6.os hb6.tape hb6.output hb6.size hb6.block) | (have HS6 : Hid (CmLP w6) := HPn.out _ _ HS.out (below_next (below_al (Below.refl _ _) _) hb6); have HNz := hide (HPl.out w5 _ HS.out rfl); have hzb : Blk w6 w5.heap.size 24 #[.int .i64 0, .bool false, .slice none 0 0, .int .i64 0] := (Blk.new w5 _ _).below (Below.mk hb6.os hb6.tape hb6.output hb6.size hb6.block); have HZb := hide hzb) | (have HS6 : Hid (CmLP w6) := HPn.out _ _ HS.out (below_next (below_dr (below_al (Below.refl _ _) _)) hb6); have HNz := hide (HPl.out w5 _ HS.out rfl); have hzb : Blk w6 w5.heap.size 24 #[.int .i64 0, .bool false, .slice none 0 0, .int .i64 0] := (Blk.new w5 _ _).below (Below.mk hb6.os hb6.tape hb6.output hb6.size hb6.block); have HZb := hide hzb)); have HS := HS6; clear hb6 HS6))
            | (go_at_call 28; go_loud (refine (ConC.out _ ?_ _ k hk8).mono ?_; (first | (have hh := HPb.out _ HS.out; exact Below.mk hh.os hh.tape hh.output hh.size hh.block) | exact below_al (HPb.out _ HS.out) _ | exact below_dr (below_al (HPb.out _ HS.out) _)); rintro e7 w7 ⟨AZ, cz, rfl, hz7, hb7⟩; (first | (have HS7 : Hid (CmLP w7) := HPn.out _ _ HS.out (Below.mk hb7.os hb7.tape hb7.output hb7.size hb7.block); try (have hzb := HZb.out.below (Below.mk hb7.os hb7.tape hb7.output hb7.size hb7.block); have HZb := hide hzb; obtain ⟨f0, f1, f2, f3⟩ := frz4c hzb; obtain ⟨z0, z1, z2, z3⟩ := hzb.dec4; clear hzb)) | (have HS7 : Hid (CmLP w7) := HPn.out _ _ HS.out (below_next (below_al (Below.refl _ _) _) hb7); have HNz := hide (HPl.out w6 _ HS.out rfl); have hzb : Blk w7 w6.heap.size 24 #[.int .i64 0, .bool false, .slice none 0 0, .int .i64 0] := (Blk.new w6 _ _).below (Below.mk hb7.os hb7.tape hb7.output hb7.size hb7.block); have HZb := hide hzb; obtain ⟨f0, f1, f2, f3⟩ := frz4c hzb; obtain ⟨z0, z1, z2, z3⟩ := hzb.dec4; clear hzb) | (have HS7 : Hid (CmLP w7) := HPn.out _ _ HS.out (below_next (below_dr (below_al (Below.refl _ _) _)) hb7); have HNz := hide (HPl.out w6 _ HS.out rfl); have hzb : Blk w7 w6.heap.size 24 #[.int .i64 0, .bool false, .slice none 0 0, .int .i64 0] := (Blk.new w6 _ _).below (Below.mk hb7.os hb7.tape hb7.output hb7.size hb7.block); have HZb := hide hzb; obtain ⟨f0, f1, f2, f3⟩ := frz4c hzb; obtain ⟨z0, z1, z2, z3⟩ := hzb.dec4; clear hzb)); have HZ7 := hide hz7; have HS := HS7; clear hb7 hz7 HS7)))
        · have HE : Hid (CmLP (w7.alloc (.cells #[.int .i64 0, .bool (decide (r < 0)), .slice AZ (digs 18446744073709551616 r.natAbs).length cz, .int .i64 0] 24)) ∧ Blk (w7.alloc (.cells #[.int .i64 0, .bool (decide (r < 0)), .slice AZ (digs 18446744073709551616 r.natAbs).length cz, .int .i64 0] 24)) w7.heap.size 24 #[.int .i64 0, .bool (decide (r < 0)), .slice AZ (digs 18446744073709551616 r.natAbs).length cz, .int .i64 0] ∧ OwnU (w7.alloc (.cells #[.int .i64 0, .bool (decide (r < 0)), .slice AZ (digs 18446744073709551616 r.natAbs).length cz, .int .i64 0] 24)) 0 (.slice AZ (digs 18446744073709551616 r.natAbs).length cz) (digs 18446744073709551616 r.natAbs)) := ⟨HPn.out _ _ HS.out (below_al (Below.refl _ _) _), Blk.new _ _ _, (HZ7.out.fr ((Fr.refl w7 (fun _ => False)).alloc _) (fun _ _ h => h)).lower (Nat.zero_le _)⟩
          have hF : True := trivial
          generalize w7.alloc (.cells #[.int .i64 0, .bool (decide (r < 0)), .slice AZ (digs 18446744073709551616 r.natAbs).length cz, .int .i64 0] 24) = WZ at HE ⊢
          generalize w7.heap.size = zz at HE ⊢
          clear HZ7 HS
          obtain ⟨x0, x1, x2, x3⟩ := HE.out.2.1.dec4
          rw [HCP.out] at HE
          obtain ⟨v0, v1, v2⟩ := HE.out.1.v1.val3
          obtain ⟨u0, u1, u2⟩ := HE.out.1.v2.val3
          have HS := hide (And.intro HE.out.1 HE.out.2.1)
          have HOw := hide HE.out.2.2.rd
          have hwl := digs_word_len (x := r.natAbs) (by have := HRs.out; omega)
          have HF := hide hF
          clear hF x0 x1 x2 x3 v0 v1 v2 u0 u1 u2 HE
          clear HPn HPb HPc HPs HPl HCP ConC ConW
          go_wp2_with fail
          go_region_held3 (fun W => (W.cell? ⟨zz, 0, none⟩ = some (.int .i64 0) ∧ W.cell? ⟨zz, 1, none⟩ = some (.bool (decide (r < 0))) ∧ W.cell? ⟨zz, 2, none⟩ = some (.slice AZ (digs 18446744073709551616 r.natAbs).length cz) ∧ W.cell? ⟨zz, 3, none⟩ = some (.int .i64 0)) ∧ ((W.cell? ⟨w3.heap.size, 0, none⟩ = some (.bool s1) ∧ W.cell? ⟨w3.heap.size, 1, none⟩ = some (.slice B1 l1 d1) ∧ W.cell? ⟨w3.heap.size, 2, none⟩ = some (.int .i64 x1e)) ∧ (W.cell? ⟨w3.heap.size + 1, 0, none⟩ = some (.bool s2) ∧ W.cell? ⟨w3.heap.size + 1, 1, none⟩ = some (.slice B2 l2 d2) ∧ W.cell? ⟨w3.heap.size + 1, 2, none⟩ = some (.int .i64 x2e)))) (first | exact ⟨HS.out.2.dec4, HS.out.1.v1.val3, HS.out.1.v2.val3⟩ | go_keep)
            (first
              | (go_at_call 22; go_loud (refine (ConO.out _ ?_).mono ?_; exact Below.mk HS.out.1.bel5.os HS.out.1.bel5.tape HS.out.1.bel5.output HS.out.1.bel5.size HS.out.1.bel5.block; rintro e8 w8 ⟨rfl, hb8⟩; have HOw := hide (RdG.below (k := .u64) HOw.out (Below.mk (w := WZ) hb8.os hb8.tape hb8.output hb8.size hb8.block)); have HS := hide (And.intro (HS.out.1.next hb8.os hb8.tape hb8.output hb8.size hb8.block) (HS.out.2.below (Below.mk (w := WZ) hb8.os hb8.tape hb8.output hb8.size hb8.block))); clear hb8))
              | (go_at_call 30; go_loud (refine (of64_any r _ (by have := HRs.out; omega) (by have := HRs.out; omega)).mono ?_; rintro e9 w9 ⟨A9, c9, rfl, ho9, hb9⟩; have HOw := hide (RdG.below (k := .u64) HOw.out (Below.mk (w := w8) hb9.os hb9.tape hb9.output hb9.size hb9.block)); have HS := hide (And.intro (HS.out.1.next hb9.os hb9.tape hb9.output hb9.size hb9.block) (HS.out.2.below (Below.mk (w := w8) hb9.os hb9.tape hb9.output hb9.size hb9.block))); have HV := hide ho9.rd; clear hb9 ho9))
              | (go_at_call 25; go_loud (refine (isDec_yes (decide (r < 0)) (decide (r < 0)) AZ A9 cz c9 r.natAbs _ _ ?_ ?_ (by omega) (.inl rfl)).mono ?_; exact HOw.out; exact HV.out; rintro e10 w10 ⟨rfl, hb10⟩; have HS := hide (And.intro (HS.out.1.next hb10.os hb10.tape hb10.output hb10.size hb10.block) (HS.out.2.below (Below.mk (w := w9) hb10.os hb10.tape hb10.output hb10.size hb10.block))); clear hb10 HOw)))
          all_goals have F9 := hide (Fin.out _ HS.out.1.bel)
          all_goals clear ConO HS
          all_goals go_wp2
          all_goals go_ret
          all_goals exact F9.out
        · have hFz : Fr w7 ((((w7.setCell ⟨w6.heap.size, 0, none⟩ (.int .i64 0)).setCell ⟨w6.heap.size, 1, none⟩ (.bool (decide (r < 0)))).setCell ⟨w6.heap.size, 2, none⟩ (.slice AZ (digs 18446744073709551616 r.natAbs).length cz)).setCell ⟨w6.heap.size, 3, none⟩ (.int .i64 0)) (fun k => k = w6.heap.size) := ((((Fr.refl w7 (fun k => k = w6.heap.size)).setCell (p := ⟨w6.heap.size, 0, none⟩) (fun _ => rfl) _).setCell (p := ⟨w6.heap.size, 1, none⟩) (fun _ => rfl) _).setCell (p := ⟨w6.heap.size, 2, none⟩) (fun _ => rfl) _).setCell (p := ⟨w6.heap.size, 3, none⟩) (fun _ => rfl) _
          have HE : Hid (CmLP ((((w7.setCell ⟨w6.heap.size, 0, none⟩ (.int .i64 0)).setCell ⟨w6.heap.size, 1, none⟩ (.bool (decide (r < 0)))).setCell ⟨w6.heap.size, 2, none⟩ (.slice AZ (digs 18446744073709551616 r.natAbs).length cz)).setCell ⟨w6.heap.size, 3, none⟩ (.int .i64 0)) ∧ Blk ((((w7.setCell ⟨w6.heap.size, 0, none⟩ (.int .i64 0)).setCell ⟨w6.heap.size, 1, none⟩ (.bool (decide (r < 0)))).setCell ⟨w6.heap.size, 2, none⟩ (.slice AZ (digs 18446744073709551616 r.natAbs).length cz)).setCell ⟨w6.heap.size, 3, none⟩ (.int .i64 0)) w6.heap.size 24 #[.int .i64 0, .bool (decide (r < 0)), .slice AZ (digs 18446744073709551616 r.natAbs).length cz, .int .i64 0] ∧ OwnU ((((w7.setCell ⟨w6.heap.size, 0, none⟩ (.int .i64 0)).setCell ⟨w6.heap.size, 1, none⟩ (.bool (decide (r < 0)))).setCell ⟨w6.heap.size, 2, none⟩ (.slice AZ (digs 18446744073709551616 r.natAbs).length cz)).setCell ⟨w6.heap.size, 3, none⟩ (.int .i64 0)) 0 (.slice AZ (digs 18446744073709551616 r.natAbs).length cz) (digs 18446744073709551616 r.natAbs)) := ⟨HPs.out _ _ _ _ _ _ HNz.out HS.out, (((HZb.out.set 0 _).set 1 _).set 2 _).set 3 _, (HZ7.out.fr hFz (HZ7.out.ne_blk HZb.out (by decide))).lower (Nat.zero_le _)⟩
          have hF : True := trivial
          clear hFz f0 f1 f2 f3 z0 z1 z2 z3
          generalize ((((w7.setCell ⟨w6.heap.size, 0, none⟩ (.int .i64 0)).setCell ⟨w6.heap.size, 1, none⟩ (.bool (decide (r < 0)))).setCell ⟨w6.heap.size, 2, none⟩ (.slice AZ (digs 18446744073709551616 r.natAbs).length cz)).setCell ⟨w6.heap.size, 3, none⟩ (.int .i64 0)) = WZ at HE ⊢
          clear HZ7 HS HZb HNz
          generalize w6.heap.size = zz at HE ⊢
          obtain ⟨x0, x1, x2, x3⟩ := HE.out.2.1.dec4
          rw [HCP.out] at HE
          obtain ⟨v0, v1, v2⟩ := HE.out.1.v1.val3
          obtain ⟨u0, u1, u2⟩ := HE.out.1.v2.val3
          have HS := hide (And.intro HE.out.1 HE.out.2.1)
          have HOw := hide HE.out.2.2.rd
          have hwl := digs_word_len (x := r.natAbs) (by have := HRs.out; omega)
          have HF := hide hF
          clear hF x0 x1 x2 x3 v0 v1 v2 u0 u1 u2 HE
          clear HPn HPb HPc HPs HPl HCP ConC ConW
          go_wp2_with fail
          go_region_held3 (fun W => (W.cell? ⟨zz, 0, none⟩ = some (.int .i64 0) ∧ W.cell? ⟨zz, 1, none⟩ = some (.bool (decide (r < 0))) ∧ W.cell? ⟨zz, 2, none⟩ = some (.slice AZ (digs 18446744073709551616 r.natAbs).length cz) ∧ W.cell? ⟨zz, 3, none⟩ = some (.int .i64 0)) ∧ ((W.cell? ⟨w3.heap.size, 0, none⟩ = some (.bool s1) ∧ W.cell? ⟨w3.heap.size, 1, none⟩ = some (.slice B1 l1 d1) ∧ W.cell? ⟨w3.heap.size, 2, none⟩ = some (.int .i64 x1e)) ∧ (W.cell? ⟨w3.heap.size + 1, 0, none⟩ = some (.bool s2) ∧ W.cell? ⟨w3.heap.size + 1, 1, none⟩ = some (.slice B2 l2 d2) ∧ W.cell? ⟨w3.heap.size + 1, 2, none⟩ = some (.int .i64 x2e)))) (first | exact ⟨HS.out.2.dec4, HS.out.1.v1.val3, HS.out.1.v2.val3⟩ | go_keep)
            (first
              | (go_at_call 22; go_loud (refine (ConO.out _ ?_).mono ?_; exact Below.mk HS.out.1.bel5.os HS.out.1.bel5.tape HS.out.1.bel5.output HS.out.1.bel5.size HS.out.1.bel5.block; rintro e8 w8 ⟨rfl, hb8⟩; have HOw := hide (RdG.below (k := .u64) HOw.out (Below.mk (w := WZ) hb8.os hb8.tape hb8.output hb8.size hb8.block)); have HS := hide (And.intro (HS.out.1.next hb8.os hb8.tape hb8.output hb8.size hb8.block) (HS.out.2.below (Below.mk (w := WZ) hb8.os hb8.tape hb8.output hb8.size hb8.block))); clear hb8))
              | (go_at_call 30; go_loud (refine (of64_any r _ (by have := HRs.out; omega) (by have := HRs.out; omega)).mono ?_; rintro e9 w9 ⟨A9, c9, rfl, ho9, hb9⟩; have HOw := hide (RdG.below (k := .u64) HOw.out (Below.mk (w := w8) hb9.os hb9.tape hb9.output hb9.size hb9.block)); have HS := hide (And.intro (HS.out.1.next hb9.os hb9.tape hb9.output hb9.size hb9.block) (HS.out.2.below (Below.mk (w := w8) hb9.os hb9.tape hb9.output hb9.size hb9.block))); have HV := hide ho9.rd; clear hb9 ho9))
              | (go_at_call 25; go_loud (refine (isDec_yes (decide (r < 0)) (decide (r < 0)) AZ A9 cz c9 r.natAbs _ _ ?_ ?_ (by omega) (.inl rfl)).mono ?_; exact HOw.out; exact HV.out; rintro e10 w10 ⟨rfl, hb10⟩; have HS := hide (And.intro (HS.out.1.next hb10.os hb10.tape hb10.output hb10.size hb10.block) (HS.out.2.below (Below.mk (w := w9) hb10.os hb10.tape hb10.output hb10.size hb10.block))); clear hb10 HOw)))
          all_goals have F9 := hide (Fin.out _ HS.out.1.bel)
          all_goals clear ConO HS
          all_goals go_wp2
          all_goals go_ret
          all_goals exact F9.out
        · have hFz : Fr w7 ((((w7.setCell ⟨w5.heap.size, 0, none⟩ (.int .i64 0)).setCell ⟨w5.heap.size, 1, none⟩ (.bool (decide (r < 0)))).setCell ⟨w5.heap.size, 2, none⟩ (.slice AZ (digs 18446744073709551616 r.natAbs).length cz)).setCell ⟨w5.heap.size, 3, none⟩ (.int .i64 0)) (fun k => k = w5.heap.size) := ((((Fr.refl w7 (fun k => k = w5.heap.size)).setCell (p := ⟨w5.heap.size, 0, none⟩) (fun _ => rfl) _).setCell (p := ⟨w5.heap.size, 1, none⟩) (fun _ => rfl) _).setCell (p := ⟨w5.heap.size, 2, none⟩) (fun _ => rfl) _).setCell (p := ⟨w5.heap.size, 3, none⟩) (fun _ => rfl) _
          have HE : Hid (CmLP ((((w7.setCell ⟨w5.heap.size, 0, none⟩ (.int .i64 0)).setCell ⟨w5.heap.size, 1, none⟩ (.bool (decide (r < 0)))).setCell ⟨w5.heap.size, 2, none⟩ (.slice AZ (digs 18446744073709551616 r.natAbs).length cz)).setCell ⟨w5.heap.size, 3, none⟩ (.int .i64 0)) ∧ Blk ((((w7.setCell ⟨w5.heap.size, 0, none⟩ (.int .i64 0)).setCell ⟨w5.heap.size, 1, none⟩ (.bool (decide (r < 0)))).setCell ⟨w5.heap.size, 2, none⟩ (.slice AZ (digs 18446744073709551616 r.natAbs).length cz)).setCell ⟨w5.heap.size, 3, none⟩ (.int .i64 0)) w5.heap.size 24 #[.int .i64 0, .bool (decide (r < 0)), .slice AZ (digs 18446744073709551616 r.natAbs).length cz, .int .i64 0] ∧ OwnU ((((w7.setCell ⟨w5.heap.size, 0, none⟩ (.int .i64 0)).setCell ⟨w5.heap.size, 1, none⟩ (.bool (decide (r < 0)))).setCell ⟨w5.heap.size, 2, none⟩ (.slice AZ (digs 18446744073709551616 r.natAbs).length cz)).setCell ⟨w5.heap.size, 3, none⟩ (.int .i64 0)) 0 (.slice AZ (digs 18446744073709551616 r.natAbs).length cz) (digs 18446744073709551616 r.natAbs)) := ⟨HPs.out _ _ _ _ _ _ HNz.out HS.out, (((HZb.out.set 0 _).set 1 _).set 2 _).set 3 _, (HZ7.out.fr hFz (HZ7.out.ne_blk HZb.out (by decide))).lower (Nat.zero_le _)⟩
          have hF : True := trivial
          clear hFz f0 f1 f2 f3 z0 z1 z2 z3
          generalize ((((w7.setCell ⟨w5.heap.size, 0, none⟩ (.int .i64 0)).setCell ⟨w5.heap.size, 1, none⟩ (.bool (decide (r < 0)))).setCell ⟨w5.heap.size, 2, none⟩ (.slice AZ (digs 18446744073709551616 r.natAbs).length cz)).setCell ⟨w5.heap.size, 3, none⟩ (.int .i64 0)) = WZ at HE ⊢
          clear HZ7 HS HZb HNz
          generalize w5.heap.size = zz at HE ⊢
          obtain ⟨x0, x1, x2, x3⟩ := HE.out.2.1.dec4
          rw [HCP.out] at HE
          obtain ⟨v0, v1, v2⟩ := HE.out.1.v1.val3
          obtain ⟨u0, u1, u2⟩ := HE.out.1.v2.val3
          have HS := hide (And.intro HE.out.1 HE.out.2.1)
          have HOw := hide HE.out.2.2.rd
          have hwl := digs_word_len (x := r.natAbs) (by have := HRs.out; omega)
          have HF := hide hF
          clear hF x0 x1 x2 x3 v0 v1 v2 u0 u1 u2 HE
          clear HPn HPb HPc HPs HPl HCP ConC ConW
          go_wp2_with fail
          go_region_held3 (fun W => (W.cell? ⟨zz, 0, none⟩ = some (.int .i64 0) ∧ W.cell? ⟨zz, 1, none⟩ = some (.bool (decide (r < 0))) ∧ W.cell? ⟨zz, 2, none⟩ = some (.slice AZ (digs 18446744073709551616 r.natAbs).length cz) ∧ W.cell? ⟨zz, 3, none⟩ = some (.int .i64 0)) ∧ ((W.cell? ⟨w3.heap.size, 0, none⟩ = some (.bool s1) ∧ W.cell? ⟨w3.heap.size, 1, none⟩ = some (.slice B1 l1 d1) ∧ W.cell? ⟨w3.heap.size, 2, none⟩ = some (.int .i64 x1e)) ∧ (W.cell? ⟨w3.heap.size + 1, 0, none⟩ = some (.bool s2) ∧ W.cell? ⟨w3.heap.size + 1, 1, none⟩ = some (.slice B2 l2 d2) ∧ W.cell? ⟨w3.heap.size + 1, 2, none⟩ = some (.int .i64 x2e)))) (first | exact ⟨HS.out.2.dec4, HS.out.1.v1.val3, HS.out.1.v2.val3⟩ | go_keep)
            (first
              | (go_at_call 22; go_loud (refine (ConO.out _ ?_).mono ?_; exact Below.mk HS.out.1.bel5.os HS.out.1.bel5.tape HS.out.1.bel5.output HS.out.1.bel5.size HS.out.1.bel5.block; rintro e8 w8 ⟨rfl, hb8⟩; have HOw := hide (RdG.below (k := .u64) HOw.out (Below.mk (w := WZ) hb8.os hb8.tape hb8.output hb8.size hb8.block)); have HS := hide (And.intro (HS.out.1.next hb8.os hb8.tape hb8.output hb8.size hb8.block) (HS.out.2.below (Below.mk (w := WZ) hb8.os hb8.tape hb8.output hb8.size hb8.block))); clear hb8))
              | (go_at_call 30; go_loud (refine (of64_any r _ (by have := HRs.out; omega) (by have := HRs.out; omega)).mono ?_; rintro e9 w9 ⟨A9, c9, rfl, ho9, hb9⟩; have HOw := hide (RdG.below (k := .u64) HOw.out (Below.mk (w := w8) hb9.os hb9.tape hb9.output hb9.size hb9.block)); have HS := hide (And.intro (HS.out.1.next hb9.os hb9.tape hb9.output hb9.size hb9.block) (HS.out.2.below (Below.mk (w := w8) hb9.os hb9.tape hb9.output hb9.size hb9.block))); have HV := hide ho9.rd; clear hb9 ho9))
              | (go_at_call 25; go_loud (refine (isDec_yes (decide (r < 0)) (decide (r < 0)) AZ A9 cz c9 r.natAbs _ _ ?_ ?_ (by omega) (.inl rfl)).mono ?_; exact HOw.out; exact HV.out; rintro e10 w10 ⟨rfl, hb10⟩; have HS := hide (And.intro (HS.out.1.next hb10.os hb10.tape hb10.output hb10.size hb10.block) (HS.out.2.below (Below.mk (w := w9) hb10.os hb10.tape hb10.output hb10.size hb10.block))); clear hb10 HOw)))
          all_goals have F9 := hide (Fin.out _ HS.out.1.bel)
          all_goals clear ConO HS
          all_goals go_wp2
          all_goals go_ret
          all_goals exact F9.out
end Go.Proofs.YtlepebogjpcfoaaGreatDoor

set_option linter.unusedVariables false
set_option linter.unusedSimpArgs false
namespace Go.Proofs.YtlepebogjpcfoaaGreatDoor
open Go Go.ChangeShapes Go.WideShapes Go.ChangeAt Go.RowKit Go.Joins

/-- The heap that the door's own run leaves meets the condition. -/
theorem fnCmp_met (os : Os) (args : Array Value) : laidMetH Tryz.prog Rows.fnCmpRow.laid ((World.doorLaid Tryz.prog 400 os).forCall (fun _ _ => 0) ⟨#[], args, []⟩).memory :=
  laidMetH_of_parts3 (fuel := 8) (laidMet_of_run' 8 (by kernel_rfl) (by kernel_rfl)) (by kernel_rfl) (by kernel_rfl)

set_option maxRecDepth 100000 in
theorem fnCmp_lifted (os : Os) (started : os.Started) (H : Type) (enc : TypeId × Value → H) :
    ReturnsInHanded {} Tryz.checked os 9 .any (fun w args => (Rows.fnCmpSpec.pre enc Tryz.prog Tryz.f9 [] false w args ∧ laidMetH Tryz.prog Rows.fnCmpRow.laid w) ∧ sizedMet enc Tryz.prog Tryz.f9 (OpenSpec.ofChange Rows.fnCmpSpec) false w args) (Rows.fnCmpSpec.post enc Tryz.prog Tryz.f9 false true false false) := by
  refine returnsInHanded_of_change_and (C := Tryz.checked) (X := fun w _ => laidMetH Tryz.prog Rows.fnCmpRow.laid w) (fun _ _ _ hh h => h.of_heap hh) own started (by kernel_rfl) Tryz.func9
    (ChangeSpec.witness_shaped (enc := enc) (C := Tryz.checked) (os := os) (X := fun w _ => laidMetH Tryz.prog Rows.fnCmpRow.laid w) false (World.doorLaid Tryz.prog 400 os) #[.int .u8 0, .int .u8 0, .agg #[.int .i64 0, .bool false, .slice none 0 0, .int .i64 0], .agg #[.int .i64 0, .bool false, .slice none 0 0, .int .i64 0]] 8 rfl (World.shaped_of_RefB (by kernel_rfl) (by kernel_rfl)) (by kernel_rfl) (by kernel_rfl) (by kernel_rfl) (fnCmp_met os _)) ?_
  intro W base args ds gs before hval0 hW _ _ hL _
  have hval : ∀ (j : Nat) t v, Tryz.f9.params[j]? = some t → args[j]? = some v → Value.okWide Tryz.prog W .any base t v := hval0
  have hW' := hW
  obtain ⟨p, q, hA0, hV, rfl, _, _⟩ := hW
  have hA : DataW.TrodAll enc Tryz.prog W 0 (fun _ => true) true Tryz.f9.params.toList args.toList ds p := hA0
  rw [Tryz.params9] at hA hval
  obtain ⟨v0, vs0, d0, ds0, p0, q0, hargs, rfl, rfl, h0, r0⟩ := trodAll_cons hA
  obtain ⟨v1, vs1, d1, ds1, p1, q1, rfl, rfl, rfl, h1, r1⟩ := trodAll_cons r0
  obtain ⟨v2, vs2, d2, ds2, p2, q2, rfl, rfl, rfl, h2, r2⟩ := trodAll_cons r1
  obtain ⟨v3, vs3, d3, ds3, p3, q3, rfl, rfl, rfl, h3, r3⟩ := trodAll_cons r2
  obtain ⟨rfl, rfl, rfl⟩ := trodAll_nil r3
  obtain rfl : args = #[v0, v1, v2, v3] := by cases args; simp_all
  have hlen := trodVars_len hV
  obtain ⟨g1, g2, g3, g4, g5, rfl⟩ : ∃ g1 g2 g3 g4 g5, gs = [g1, g2, g3, g4, g5] := by
    match gs, hlen with
    | [g1, g2, g3, g4, g5], _ => exact ⟨_, _, _, _, _, rfl⟩
  obtain ⟨n0, rfl, rfl, rfl, wn0⟩ := open_int Tryz.underlying5 (hval 0 5 v0 rfl rfl) h0
  obtain ⟨n1, rfl, rfl, rfl, wn1⟩ := open_int Tryz.underlying5 (hval 1 5 v1 rfl rfl) h1
  have lt2 : ∀ x ∈ p2, x.block < W.heap.size := by obtain ⟨m, hm⟩ := h2; exact DataW.trod_lt m _ _ _ hm
  obtain ⟨form2, neg2, A2, c2, xs2, exp2, rfl, hv2, hd2, wf2, we2⟩ := dec_open (hval 2 24 v2 rfl rfl) h2
  have lt3 : ∀ x ∈ p3, x.block < W.heap.size := by obtain ⟨m, hm⟩ := h3; exact DataW.trod_lt m _ _ _ hm
  obtain ⟨form3, neg3, A3, c3, xs3, exp3, rfl, hv3, hd3, wf3, we3⟩ := dec_open (hval 3 24 v3 rfl rfl) h3
  clear hA0 hval0
  have hvars : VarsL W W.heap.size := varsL_of hL (by kernel_rfl) (by first | exact List.mem_of_getElem? (i := 0) rfl | exact List.mem_of_getElem? (i := 1) rfl | exact List.mem_of_getElem? (i := 2) rfl | exact List.mem_of_getElem? (i := 3) rfl | exact List.mem_of_getElem? (i := 4) rfl | exact List.mem_of_getElem? (i := 5) rfl | exact List.mem_of_getElem? (i := 6) rfl) (by first | exact List.mem_of_getElem? (i := 0) rfl | exact List.mem_of_getElem? (i := 1) rfl | exact List.mem_of_getElem? (i := 2) rfl | exact List.mem_of_getElem? (i := 3) rfl | exact List.mem_of_getElem? (i := 4) rfl | exact List.mem_of_getElem? (i := 5) rfl | exact List.mem_of_getElem? (i := 6) rfl) (by first | exact List.mem_of_getElem? (i := 0) rfl | exact List.mem_of_getElem? (i := 1) rfl | exact List.mem_of_getElem? (i := 2) rfl | exact List.mem_of_getElem? (i := 3) rfl | exact List.mem_of_getElem? (i := 4) rfl | exact List.mem_of_getElem? (i := 5) rfl | exact List.mem_of_getElem? (i := 6) rfl) (by first | exact List.mem_of_getElem? (i := 0) rfl | exact List.mem_of_getElem? (i := 1) rfl | exact List.mem_of_getElem? (i := 2) rfl | exact List.mem_of_getElem? (i := 3) rfl | exact List.mem_of_getElem? (i := 4) rfl | exact List.mem_of_getElem? (i := 5) rfl | exact List.mem_of_getElem? (i := 6) rfl)
  refine (fnCmp_walk n0 n1 form2 neg2 A2 c2 xs2 exp2 form3 neg3 A3 c3 xs3 exp3 W hvars wn0 wn1 hv2 hd2 wf2 we2 hv3 hd3 wf3 we3).mono fun e W' ⟨he, bel⟩ => ?_
  subst he
  exact ⟨_, rfl, _, _, _, [], _, q, hW', trodAll_mk1 (shut_bool Tryz.underlying4 _), (trodAll_cons_mk (shut_int Tryz.underlying5 wn0) (trodAll_cons_mk (shut_int Tryz.underlying5 wn1) (trodAll_cons_mk (Below.trod laidOut (by kernel_rfl) (of_decide_eq_true (by kernel_rfl)) h2 bel lt2) (trodAll_cons_mk (Below.trod laidOut (by kernel_rfl) (of_decide_eq_true (by kernel_rfl)) h3 bel lt3) trodAll_mk0)))), bel.trodVars laidOut (by kernel_rfl) hV, bel.frame _, fun h => by cases h⟩

/-! The row's closed facts, each a declaration of its own (in one they want more memory than there is). -/
theorem fnCmp_c0 : (Rows.fnCmpRow.wf (OpenSpec.ofChange Rows.fnCmpSpec)) = true := by kernel_rfl
theorem fnCmp_c1 : (laidOutB Tryz.prog) = true := by kernel_rfl
theorem fnCmp_c2 : (mapsRowed Tryz.prog) = true := by kernel_rfl
theorem fnCmp_c3 : (Tryz.f9.params.all (Tryz.prog.readableRec ·)) = true := by kernel_rfl
theorem fnCmp_c4 : (namedTie Tryz.prog Rows.fnCmpRow.named Rows.fnCmpSpec.vars) = true := by kernel_rfl
theorem fnCmp_c5 : ((Rows.fnCmpRow.stops == [])) = true := by kernel_rfl
theorem fnCmp_c6 : ((Tryz.prog.stops == [])) = true := by kernel_rfl
theorem fnCmp_c7 : ((Rows.fnCmpRow.knobs == [])) = true := by kernel_rfl
theorem fnCmp_c8 : ((Tryz.prog.stopKnobs == [])) = true := by kernel_rfl
theorem fnCmp_c9 : ((Rows.fnCmpRow.inPlace == Tryz.prog.inPlace 9)) = true := by kernel_rfl
theorem fnCmp_c10 : ((Rows.fnCmpRow.unfollowed == Tryz.prog.unfollowed 9)) = true := by kernel_rfl
theorem fnCmp_c11 : ((Rows.fnCmpRow.recurses == Tryz.prog.recurses 9)) = true := by kernel_rfl
theorem fnCmp_c12 : ((Rows.fnCmpRow.named == Tryz.prog.varsNamed 9)) = true := by kernel_rfl
theorem fnCmp_c13 : ((Rows.fnCmpRow.maps == (Tryz.f9.params.toList ++ Rows.fnCmpSpec.plain.varTypes Tryz.prog).any (Tryz.prog.mapsRec ·))) = true := by kernel_rfl
theorem fnCmp_c14 : ((Rows.fnCmpRow.ifaces == (Tryz.f9.params.toList ++ Rows.fnCmpSpec.plain.varTypes Tryz.prog).any (Tryz.prog.ifacesRec ·))) = true := by kernel_rfl
theorem fnCmp_c15 : ((Rows.fnCmpRow.mapsOut == Tryz.prog.mapsAmong Tryz.f9.resultTypes.toList)) = true := by kernel_rfl
theorem fnCmp_c16 : ((Rows.fnCmpRow.loops == (Tryz.f9.params.toList ++ Rows.fnCmpSpec.plain.varTypes Tryz.prog).any (Tryz.prog.loopsFrom ·))) = true := by kernel_rfl
theorem fnCmp_c17 : ((Rows.fnCmpRow.wideKeys == (Tryz.f9.params.toList ++ Rows.fnCmpSpec.plain.varTypes Tryz.prog ++ Tryz.f9.resultTypes.toList).any (Tryz.prog.wideKeysFrom ·))) = true := by kernel_rfl
theorem fnCmp_c18 : (Rows.fnCmpSpec.vars.all (Tryz.prog.varReadable ·)) = true := by kernel_rfl
theorem fnCmp_c19 : (Tryz.f9.resultTypes.all (fun t => Tryz.prog.readableRec t && decide (t < Tryz.prog.types.size))) = true := by kernel_rfl
theorem fnCmp_c20 : ((Rows.fnCmpRow.ifacesOut == Tryz.f9.resultTypes.toList.any (Tryz.prog.ifacesRec ·))) = true := by kernel_rfl
theorem fnCmp_c21 : ((Rows.fnCmpRow.loopsOut == Tryz.f9.resultTypes.toList.any (Tryz.prog.loopsFrom ·))) = true := by kernel_rfl
theorem fnCmp_c22 : ((Rows.fnCmpRow.plainKeys == Tryz.prog.plainKeys)) = true := by kernel_rfl
theorem fnCmp_c23 : (Rows.fnCmpRow.shortTexts.isNone) = true := by kernel_rfl
theorem fnCmp_c24 : (Tryz.prog.stopsHeard) = true := by kernel_rfl
theorem fnCmp_c25 : (Tryz.prog.mayEnter) = true := by kernel_rfl
theorem fnCmp_c26 : ((Rows.fnCmpRow.lifted == Tryz.prog.liftsFinal)) = true := by kernel_rfl
theorem fnCmp_c27 : ((Tryz.prog.make == some Rows.fnCmpRow.make)) = true := by kernel_rfl
theorem fnCmp_c28 : ((Rows.fnCmpRow.kinds == (if Rows.fnCmpRow.domain.isEmpty then [] else Tryz.f9.params.toList.map fun t => match Tryz.prog.underlying t with | some (.int k) => some k | _ => none))) = true := by kernel_rfl
theorem fnCmp_c29 : ((Rows.fnCmpRow.pinned == Rows.fnCmpRow.pinnedBy)) = true := by kernel_rfl
theorem fnCmp_c30 : ((Rows.fnCmpRow.veiled == (Tryz.f9.params.toList ++ Rows.fnCmpSpec.plain.varTypes Tryz.prog ++ Tryz.f9.resultTypes.toList).any (Tryz.prog.veiledRec ·))) = true := by kernel_rfl
theorem fnCmp_c31 : (Rows.fnCmpRow.veiledFits Tryz.prog Tryz.f9.params.toList (Tryz.f9.params.toList ++ Rows.fnCmpSpec.plain.varTypes Tryz.prog ++ Tryz.f9.resultTypes.toList)) = true := by kernel_rfl
theorem fnCmp_both {a b : Bool} (h : a = true) (k : b = true) : (a && b) = true := by subst h; exact k
set_option maxRecDepth 100000 in
theorem fnCmp_closed : joinedFacts Tryz.prog 9 Tryz.f9 Rows.fnCmpSpec Rows.fnCmpRow = true := by
  unfold joinedFacts
  exact (fnCmp_both (fnCmp_both (fnCmp_both (fnCmp_both (fnCmp_both (fnCmp_both (fnCmp_both (fnCmp_both (fnCmp_both (fnCmp_both (fnCmp_both (fnCmp_both (fnCmp_both (fnCmp_both (fnCmp_both (fnCmp_both (fnCmp_both (fnCmp_both (fnCmp_both (fnCmp_both (fnCmp_both (fnCmp_both (fnCmp_both (fnCmp_both (fnCmp_both (fnCmp_both (fnCmp_both (fnCmp_both (fnCmp_both (fnCmp_both (fnCmp_both fnCmp_c0 fnCmp_c1) fnCmp_c2) fnCmp_c3) fnCmp_c4) fnCmp_c5) fnCmp_c6) fnCmp_c7) fnCmp_c8) fnCmp_c9) fnCmp_c10) fnCmp_c11) fnCmp_c12) fnCmp_c13) fnCmp_c14) fnCmp_c15) fnCmp_c16) fnCmp_c17) fnCmp_c18) fnCmp_c19) fnCmp_c20) fnCmp_c21) fnCmp_c22) fnCmp_c23) fnCmp_c24) fnCmp_c25) fnCmp_c26) fnCmp_c27) fnCmp_c28) fnCmp_c29) fnCmp_c30) fnCmp_c31)

theorem fnCmp_over : Rows.fnCmpRow.holds Tryz.pinned (OpenSpec.ofChange Rows.fnCmpSpec) :=
  OpenClaim.holds_of_wide 9 Tryz.f9 rfl rfl rfl rfl rfl rfl rfl ⟨rfl, rfl, rfl, rfl, rfl⟩ rfl rfl rfl rfl rfl (by kernel_rfl) Tryz.func9 fnCmp_closed
    (of_decide_eq_true (by kernel_rfl)) (by unfold Func.isWrapper; first | (rw [if_pos (by decide +kernel)]; kernel_rfl) | (rw [if_neg (by decide +kernel)]; exact ⟨rfl, rfl⟩))
    (fun os started H enc _ => fnCmp_lifted os started H enc)

/-- The tied card. -/
theorem fnCmp_holds : Rows.FnCmpCardSaid :=
  Claim7.holds_tied_plain_at .later [] [.data, .data, .data, .data, .data, .data, .data] true Rows.fnCmpCard.stood.harness Rows.fnCmpCard.stood.looks
    fnCmp_over (fun _ h => by cases h) (by kernel_rfl) (fun _ h => by cases h) fnCmp_row_tie rfl ⟨rfl, rfl⟩ (by kernel_rfl) (by kernel_rfl)
    (fun f fn hf hfn => by
      obtain rfl : f = 9 := Option.some.inj ((show Tryz.prog.funcNamed "loop.example/pub-g03241/laws.FnCmp" = some 9 by kernel_rfl).symm.trans hf) |>.symm
      obtain rfl : fn = Tryz.f9 := (Option.some.inj (Tryz.func9.symm.trans hfn)).symm
      have hall : Tryz.f9.params.all (fun t => !(Tryz.prog.wantsStandIn t)) = true := by kernel_rfl
      exact ⟨by kernel_rfl, fun j t ht => by
        obtain ⟨hj, rfl⟩ := Array.getElem?_eq_some_iff.1 ht
        have h1 := Array.all_eq_true.1 hall j hj
        have h2 : Tryz.prog.wantsStandIn (Tryz.f9.params[j]) = false := by simpa using h1
        exact h2⟩)
    (by kernel_rfl)
#print axioms fnCmp_holds
end Go.Proofs.YtlepebogjpcfoaaGreatDoor
