/- The law FnUpscale: its walk. -/
import Derived.Test.YtamjfjomehcikaaGreatDoorUp3
import Derived.Test.YtamjfjomehcikaaGreatDoorBoth
import Derived.Test.YtamjfjomehcikaaGreatDoorSpPow
set_option linter.unusedVariables false
set_option linter.unusedSimpArgs false
namespace Go.Proofs.YtamjfjomehcikaaGreatDoor
open Go.RowKit

/-- What the law holds while it calls. -/
structure UpL (w : World) (g5 g6 : Nat) (s1 s2 : Bool) (B1 B2 : Option Addr) (l1 l2 c1 c2 a b sa sb : Nat) (m : Int) (P Q : Option Addr) (cp cq : Nat) (W : World) : Prop where
  bel : Below w.heap.size w W
  ba : Blk W g5 34 #[.bool s1, .slice B1 l1 c1, .int .i64 (m + sa)]
  bb : Blk W g6 34 #[.bool s2, .slice B2 l2 c2, .int .i64 (m + sb)]
  ra : RdG .i64 W (.slice B1 l1 c1) (digs 65536 a)
  rb : RdG .i64 W (.slice B2 l2 c2) (digs 65536 b)
  rp : RdG .u64 W (.slice P (digs 18446744073709551616 (a * 10 ^ sa)).length cp) (digs 18446744073709551616 (a * 10 ^ sa))
  rq : RdG .u64 W (.slice Q (digs 18446744073709551616 (b * 10 ^ sb)).length cq) (digs 18446744073709551616 (b * 10 ^ sb))
theorem UpL.below {w : World} {g5 g6 : Nat} {s1 s2 : Bool} {B1 B2 : Option Addr} {l1 l2 c1 c2 a b sa sb : Nat} {m : Int} {P Q : Option Addr} {cp cq : Nat} {W W' : World} (h : UpL w g5 g6 s1 s2 B1 B2 l1 l2 c1 c2 a b sa sb m P Q cp cq W) (hb : Below W.heap.size W W') : UpL w g5 g6 s1 s2 B1 B2 l1 l2 c1 c2 a b sa sb m P Q cp cq W' :=
  ⟨below_next h.bel hb, h.ba.below hb, h.bb.below hb, h.ra.below hb, h.rb.below hb, h.rp.below hb, h.rq.below hb⟩
theorem UpL.next {w : World} {g5 g6 : Nat} {s1 s2 : Bool} {B1 B2 : Option Addr} {l1 l2 c1 c2 a b sa sb : Nat} {m : Int} {P Q : Option Addr} {cp cq : Nat} {W W' : World} (h : UpL w g5 g6 s1 s2 B1 B2 l1 l2 c1 c2 a b sa sb m P Q cp cq W) (h1 : W'.os = W.os) (h2 : W'.tape = W.tape) (h3 : W'.output = W.output) (h4 : W.heap.size ≤ W'.heap.size) (h5 : ∀ k, k < W.heap.size → W'.heap[k]? = W.heap[k]?) : UpL w g5 g6 s1 s2 B1 B2 l1 l2 c1 c2 a b sa sb m P Q cp cq W' :=
  h.below ⟨h1, h2, h3, h4, h5⟩

theorem split_exp (ea eb : Int) (h1 : -100 ≤ ea) (h2 : ea ≤ 100) (h3 : -100 ≤ eb) (h4 : eb ≤ 100) : ∃ (m : Int) (sa sb : Nat), ea = m + sa ∧ eb = m + sb ∧ (sa = 0 ∨ sb = 0) ∧ sa ≤ 200 ∧ sb ≤ 200 ∧ -100 ≤ m ∧ m ≤ 100 := by
  rcases Int.le_total ea eb with h | h
  · exact ⟨ea, 0, (eb - ea).toNat, by omega, by omega, .inl rfl, by omega, by omega, by omega, by omega⟩
  · exact ⟨eb, (ea - eb).toNat, 0, by omega, by omega, .inr rfl, by omega, by omega, by omega, by omega⟩

theorem wide_len {a s : Nat} (ha : (digs 18446744073709551616 a).length ≤ 3) (hs : s ≤ 200) : (digs 18446744073709551616 (a * 10 ^ s)).length ≤ 16 ∧ (digs 65536 (10 ^ s)).length ≤ 64 ∧ (digs 65536 a).length ≤ 12 := by
  have h1 : a < 18446744073709551616 ^ 3 := lt_of_digs_length (by omega) ha
  have h2 : 10 ^ s < 18446744073709551616 ^ 13 := pow10_lt (n := 200) hs (by decide)
  refine ⟨digs_length_le (by omega) ?_, digs_length_le (by omega) (pow10_lt (n := 200) hs (by decide)), digs_length_le (by omega) (Nat.lt_of_lt_of_le h1 (by decide))⟩
  exact Nat.lt_of_lt_of_eq (Nat.mul_lt_mul'' h1 h2) (by rw [← Nat.pow_add])

set_option maxHeartbeats 1000000 in
set_option maxRecDepth 20000 in
theorem fnUpscale_walk (form1 : Int) (neg1 : Bool) (A1 : Option Addr) (c1 : Nat) (xs1 : List Nat) (exp1 : Int) (form2 : Int) (neg2 : Bool) (A2 : Option Addr) (c2 : Nat) (xs2 : List Nat) (exp2 : Int) (w : World) (hvars : Vars w w.heap.size)
    (hv1 : RdG .u64 w (.slice A1 xs1.length c1) xs1) (hd1 : Dig 18446744073709551616 xs1) (_ : (Lit.int .i64 form1).wf = true) (_ : (Lit.int .i64 exp1).wf = true) (hv2 : RdG .u64 w (.slice A2 xs2.length c2) xs2) (hd2 : Dig 18446744073709551616 xs2) (_ : (Lit.int .i64 form2).wf = true) (_ : (Lit.int .i64 exp2).wf = true) :
    Calls Tryz.prog 4 #[.agg #[.int .i64 form1, .bool neg1, .slice A1 xs1.length c1, .int .i64 exp1], .agg #[.int .i64 form2, .bool neg2, .slice A2 xs2.length c2, .int .i64 exp2]] w (BoolP w true) := by
  have Fin := hide (show ∀ W : World, Below w.heap.size w W → BoolP w true (.returned (.bool true)) W from fun W h => ⟨rfl, h⟩)
  obtain ⟨g1, hg1⟩ : ∃ g, g = w.heap.size := ⟨_, rfl⟩
  obtain ⟨g2, hg2⟩ : ∃ g, g = w.heap.size + 1 := ⟨_, rfl⟩
  obtain ⟨W0, hW0⟩ : ∃ W0, W0 = (w.alloc (.cells #[.int .i64 form1, .bool neg1, .slice A1 xs1.length c1, .int .i64 exp1] 31)).alloc (.cells #[.int .i64 form2, .bool neg2, .slice A2 xs2.length c2, .int .i64 exp2] 31) := ⟨_, rfl⟩
  have hb0 : Below w.heap.size w W0 := by rw [hW0]; exact below_al (below_al (Below.refl _ _) _) _
  have hx1 : Blk W0 g1 31 #[.int .i64 form1, .bool neg1, .slice A1 xs1.length c1, .int .i64 exp1] := by rw [hW0, hg1]; exact (Blk.new w _ _).alloc _
  have hx2 : Blk W0 g2 31 #[.int .i64 form2, .bool neg2, .slice A2 xs2.length c2, .int .i64 exp2] := by
    rw [hW0, hg2]
    have := Blk.new (w.alloc (.cells #[.int .i64 form1, .bool neg1, .slice A1 xs1.length c1, .int .i64 exp1] 31)) 31 #[.int .i64 form2, .bool neg2, .slice A2 xs2.length c2, .int .i64 exp2]
    simpa using this
  have HH := hide (And.intro hb0 (And.intro hx1 (And.intro hx2 (And.intro hv1 (And.intro hv2 (And.intro hd1 (And.intro hd2 hvars)))))))
  clear hb0 hx1 hx2 hv1 hv2 hd1 hd2 hvars
  go_enter Tryz.func4, Tryz.ntmps4
  go_wp2_with fail
  rw [← hW0, ← hg2, ← hg1]
  clear hW0 hg2 hg1
  by_cases hbig1 : 2147483647 < xs1.length
  · refine (fits_no form1 neg1 A1 xs1.length c1 exp1 _ hbig1).mono ?_
    rintro e w1 ⟨rfl, hb⟩
    have F2 := hide (Fin.out _ (below_next HH.out.1 hb))
    clear hb HH
    go_wp2
    go_ret
    exact F2.out
  · refine (fits_yes form1 neg1 A1 xs1.length c1 exp1 _ (by omega)).mono ?_
    rintro e w1 ⟨rfl, hb⟩
    obtain ⟨y0, y1, y2, y3⟩ := (HH.out.2.2.1.below hb).dec4
    have Hb1 := hide hb
    clear hb
    go_wp2_with fail
    by_cases hbig2 : 2147483647 < xs2.length
    · refine (fits_no form2 neg2 A2 xs2.length c2 exp2 _ hbig2).mono ?_
      rintro e w2 ⟨rfl, hb⟩
      have F2 := hide (Fin.out _ (below_next HH.out.1 (below_next Hb1.out hb)))
      clear hb HH Hb1 y0 y1 y2 y3
      go_wp2
      go_ret
      exact F2.out
    · refine (fits_yes form2 neg2 A2 xs2.length c2 exp2 _ (by omega)).mono ?_
      rintro e w2 ⟨rfl, hb⟩
      have hb2 := below_next Hb1.out hb
      obtain ⟨x0, x1, x2, x3⟩ := (HH.out.2.1.below hb2).dec4
      clear y0 y1 y2 y3
      obtain ⟨y0, y1, y2, y3⟩ := (HH.out.2.2.1.below hb2).dec4
      have hbw := below_next HH.out.1 hb2
      have Con := hide (both_any form1 neg1 A1 c1 xs1 exp1 form2 neg2 A2 c2 xs2 exp2 w2 (HH.out.2.2.2.1.below hbw) HH.out.2.2.2.2.2.1 (HH.out.2.2.2.2.1.below hbw) HH.out.2.2.2.2.2.2.1)
      have Hb2 := hide hb2
      clear hb hb2 hbw Hb1
      go_wp2_with fail
      refine (Con.out).mono ?_
      rintro e w3 ⟨s1, B1, l1, d1, ex1, s2, B2, l2, d2, ex2, ok1, ok2, rfl, hb3, hok1, hok2⟩
      have hbe3 : Below w.heap.size w w3 := below_next HH.out.1 (below_next Hb2.out hb3)
      clear x0 x1 x2 x3 y0 y1 y2 y3
      cases hok : (ok1 && ok2) with
      | false =>
        have F2 := hide (Fin.out _ (below_al (below_al hbe3 (.cells #[.bool s1, .slice B1 l1 d1, .int .i64 ex1] 34)) (.cells #[.bool s2, .slice B2 l2 d2, .int .i64 ex2] 34)))
        clear hb3 hok1 hok2 hbe3 hok Con HH Hb2
        go_wp2
        go_ret
        exact F2.out
      | true =>
        obtain ⟨o1, o2⟩ : ok1 = true ∧ ok2 = true := by simpa using hok
        have V1 := hok1 o1
        have V2 := hok2 o2
        clear hok hok1 hok2 o1 o2
        obtain ⟨m, sa, sb, he1, he2, hz, hsa, hsb, hm1, hm2⟩ := split_exp exp1 exp2 V1.lo V1.hi V2.lo V2.hi
        obtain rfl := V1.sgn
        obtain rfl := V2.sgn
        obtain rfl := V1.exq
        obtain rfl := V2.exq
        obtain rfl := V1.frm
        obtain rfl := V2.frm
        obtain ⟨a, hxa⟩ : ∃ a, a = numW xs1 := ⟨_, rfl⟩
        obtain ⟨b, hxb⟩ : ∃ b, b = numW xs2 := ⟨_, rfl⟩
        have hca := V1.can
        have hcb := V2.can
        have hl1 := V1.len
        have hl2 := V2.len
        have ho1 := V1.own
        have ho2 := V2.own
        rw [← hxa] at hca ho1
        rw [← hxb] at hcb ho2
        clear V1 V2 hxa hxb
        subst hca hcb
        subst he1 he2
        obtain ⟨w5, hw5⟩ : ∃ w5, w5 = (w3.alloc (.cells #[.bool s1, .slice B1 l1 d1, .int .i64 (m + sa)] 34)).alloc (.cells #[.bool s2, .slice B2 l2 d2, .int .i64 (m + sb)] 34) := ⟨_, rfl⟩
        obtain ⟨g5, hg5⟩ : ∃ g, g = w3.heap.size := ⟨_, rfl⟩
        obtain ⟨g6, hg6⟩ : ∃ g, g = w3.heap.size + 1 := ⟨_, rfl⟩
        have h35 : Below w3.heap.size w3 w5 := by rw [hw5]; exact below_al (below_al (Below.refl _ _) _) _
        have ha5 : Blk w5 g5 34 #[.bool s1, .slice B1 l1 d1, .int .i64 (m + sa)] := by rw [hw5, hg5]; exact (Blk.new w3 _ _).alloc _
        have ha6 : Blk w5 g6 34 #[.bool s2, .slice B2 l2 d2, .int .i64 (m + sb)] := by
          rw [hw5, hg6]
          have := Blk.new (w3.alloc (.cells #[.bool s1, .slice B1 l1 d1, .int .i64 (m + sa)] 34)) 34 #[.bool s2, .slice B2 l2 d2, .int .i64 (m + sb)]
          simpa using this
        have hbe5 := below_next hbe3 h35
        have h05 := below_next (below_next Hb2.out hb3) h35
        obtain ⟨x0, x1, x2, x3⟩ := (HH.out.2.1.below h05).dec4
        obtain ⟨y0, y1, y2, y3⟩ := (HH.out.2.2.1.below h05).dec4
        obtain ⟨wa1, wa2, wa3⟩ := wide_len hl1 hsa
        obtain ⟨wb1, wb2, wb3⟩ := wide_len hl2 hsb
        have con := iup_any s1 s2 A1 A2 c1 c2 a b sa sb m w5 (HH.out.2.2.2.1.below hbe5) (HH.out.2.2.2.2.1.below hbe5) ((HH.out.2.2.2.2.2.2.2.below hbe5).raise hbe5.size) hz (by omega) (by omega) (by omega) hl1 hl2 (by omega) (by omega)
        have Con5 := hide con
        have H5 := hide (And.intro hbe5 (And.intro ha5 (And.intro ha6 (And.intro (ho1.below h35).rd (ho2.below h35).rd))))
        have HZ := hide (And.intro hz (And.intro (And.intro wa1 (And.intro wa2 wa3)) (And.intro wb1 (And.intro wb2 wb3))))
        rw [hw5] at x0 x1 x2 x3 y0 y1 y2 y3
        clear hb3 hbe3 Con Hb2 HH con ha5 ha6 hbe5 h05 ho1 ho2 hz wa1 wa2 wa3 wb1 wb2 wb3 h35
        go_wp2_with fail
        rw [← hw5, ← hg6, ← hg5]
        clear hw5 hg6 hg5 x0 x1 x2 x3 y0 y1 y2 y3
        refine (Con5.out).mono ?_
        rintro e w6 ⟨P, Q, cp, cq, rfl, hrp, hrq, hb6⟩
        have hL : UpL w g5 g6 s1 s2 B1 B2 l1 l2 d1 d2 a b sa sb m P Q cp cq w6 :=
          ⟨below_next H5.out.1 hb6, H5.out.2.1.below hb6, H5.out.2.2.1.below hb6, H5.out.2.2.2.1.below hb6, H5.out.2.2.2.2.below hb6, hrp, hrq⟩
        obtain ⟨a0, a1, a2⟩ := hL.ba.val3
        obtain ⟨b0, b1, b2⟩ := hL.bb.val3
        have HS := hide hL
        clear hrp hrq hb6 hL H5 Con5
        have hmin : min (sa : Int) (sb : Int) = 0 := by have := HZ.out.1; omega
        have hmm : (m == m) = true := by simp
        have hwa : IntKind.i64.wrap (m + (sa : Int) - m) = (sa : Int) := by simp [IntKind.wrap, IntKind.signed, IntKind.bits]; omega
        have hwb : IntKind.i64.wrap (m + (sb : Int) - m) = (sb : Int) := by simp [IntKind.wrap, IntKind.signed, IntKind.bits]; omega
        have hwa2 : IntKind.i64.wrap (sa : Int) = (sa : Int) := by simp [IntKind.wrap, IntKind.signed, IntKind.bits]; omega
        have hwb2 : IntKind.i64.wrap (sb : Int) = (sb : Int) := by simp [IntKind.wrap, IntKind.signed, IntKind.bits]; omega
        have ConP1 : Hid (∀ W, Calls Tryz.prog 9 #[.int .i64 10, .int .i64 (sa : Int)] W (NewI W (digs 65536 (10 ^ sa)))) := fun W => spower_any 10 sa W (by omega) (by omega) (by omega) (by have := HZ.out.2.1.2.1; omega)
        have ConP2 : Hid (∀ W, Calls Tryz.prog 9 #[.int .i64 10, .int .i64 (sb : Int)] W (NewI W (digs 65536 (10 ^ sb)))) := fun W => spower_any 10 sb W (by omega) (by omega) (by omega) (by have := HZ.out.2.2.2.1; omega)
        have ConM : Hid (∀ (B : Option Addr) (l d x s : Nat) (R : Option Addr) (cr : Nat) W, RdG .i64 W (.slice B l d) (digs 65536 x) → RdG .i64 W (.slice R (digs 65536 (10 ^ s)).length cr) (digs 65536 (10 ^ s)) → (digs 65536 x).length ≤ 12 → (digs 65536 (10 ^ s)).length ≤ 64 →
            Calls Tryz.prog 13 #[.slice B l d, .slice R (digs 65536 (10 ^ s)).length cr] W (NewI W (digs 65536 (x * 10 ^ s)))) := fun B l d x s R cr W h1 h2 h3 h4 => by
          have := smul_any B R l _ d cr (digs 65536 x) (digs 65536 (10 ^ s)) W h1 h2 (RdG.len (k := .i64) h1) rfl (by rw [RdG.len (k := .i64) h1]; omega) (by omega) (dig_digs (by omega) _) (dig_digs (by omega) _)
          rwa [dval_digs (by omega), dval_digs (by omega)] at this
        have ConH : Hid (∀ (P : Option Addr) (cp x : Nat) (R : Option Addr) (cr : Nat) W, RdG .u64 W (.slice P (digs 18446744073709551616 x).length cp) (digs 18446744073709551616 x) → RdG .i64 W (.slice R (digs 65536 x).length cr) (digs 65536 x) → (digs 18446744073709551616 x).length ≤ 16 →
            Calls Tryz.prog 7 #[.slice P (digs 18446744073709551616 x).length cp, .slice R (digs 65536 x).length cr] W (BoolP W true)) := fun P cp x R cr W h1 h2 h3 => by
          have hl : (digs 65536 x).length ≤ 64 := digs_length_le (by omega) (Nat.lt_of_lt_of_le (lt_of_digs_length (by omega) h3) (by decide))
          have := hasWords_any P R cp cr (digs 18446744073709551616 x) (digs 65536 x) W h1 h2 (by omega) (by omega) (dig_digs (by omega) _)
          rwa [pk_digs, eqB_self] at this
        go_wp2_with fail
        go_region_held3 (fun W => (W.cell? ⟨g5, 0, none⟩ = some (.bool s1) ∧ W.cell? ⟨g5, 1, none⟩ = some (.slice B1 l1 d1) ∧ W.cell? ⟨g5, 2, none⟩ = some (.int .i64 (m + sa))) ∧ (W.cell? ⟨g6, 0, none⟩ = some (.bool s2) ∧ W.cell? ⟨g6, 1, none⟩ = some (.slice B2 l2 d2) ∧ W.cell? ⟨g6, 2, none⟩ = some (.int .i64 (m + sb)))) (first | exact ⟨HS.out.ba.val3, HS.out.bb.val3⟩ | go_keep)
          (first
            | (go_at_call_of 9 (Value.int IntKind.i64 (sa : Int)); go_loud (refine (ConP1.out _).mono ?_; rintro e7 w7 ⟨R7, c7, rfl, ho7, hb7⟩; have HS := hide (HS.out.next hb7.os hb7.tape hb7.output hb7.size hb7.block); have HP := hide ho7.rd; clear ho7 hb7))
            | (go_at_call_of 9 (Value.int IntKind.i64 (sb : Int)); go_loud (refine (ConP2.out _).mono ?_; rintro e8 w8 ⟨R8, c8, rfl, ho8, hb8⟩; have HS := hide (HS.out.next hb8.os hb8.tape hb8.output hb8.size hb8.block); have HP := hide ho8.rd; clear ho8 hb8))
            | (go_at_call_of 13 (Value.slice B1 l1 d1); go_loud (refine (ConM.out B1 l1 d1 a sa R7 c7 w7 HS.out.ra HP.out HZ.out.2.1.2.2 HZ.out.2.1.2.1).mono ?_; rintro e9 w9 ⟨R9, c9, rfl, ho9, hb9⟩; have HS := hide (HS.out.next hb9.os hb9.tape hb9.output hb9.size hb9.block); have HM := hide ho9.rd; clear ho9 hb9))
            | (go_at_call_of 13 (Value.slice B2 l2 d2); go_loud (refine (ConM.out B2 l2 d2 b sb R8 c8 w8 HS.out.rb HP.out HZ.out.2.2.2.2 HZ.out.2.2.2.1).mono ?_; rintro e9 w9 ⟨R9, c9, rfl, ho9, hb9⟩; have HS := hide (HS.out.next hb9.os hb9.tape hb9.output hb9.size hb9.block); have HM := hide ho9.rd; clear ho9 hb9))
            | (go_at_call_of 7 P; go_loud (refine (ConH.out P cp (a * 10 ^ sa) R9 c9 w9 HS.out.rp HM.out HZ.out.2.1.1).mono ?_; rintro e10 w10 ⟨rfl, hb10⟩; have HS := hide (HS.out.next hb10.os hb10.tape hb10.output hb10.size hb10.block); clear hb10))
            | (go_at_call_of 7 Q; go_loud (refine (ConH.out Q cq (b * 10 ^ sb) R9 c9 w9 HS.out.rq HM.out HZ.out.2.2.1).mono ?_; rintro e10 w10 ⟨rfl, hb10⟩; have HS := hide (HS.out.next hb10.os hb10.tape hb10.output hb10.size hb10.block); clear hb10)))
        have F9 := hide (Fin.out _ HS.out.bel)
        clear ConP1 ConP2 ConM ConH HP HM HZ HS a0 a1 a2 b0 b1 b2 hwa hwb hwa2 hwb2
        go_wp2
        go_ret
        exact F9.out
end Go.Proofs.YtamjfjomehcikaaGreatDoor
