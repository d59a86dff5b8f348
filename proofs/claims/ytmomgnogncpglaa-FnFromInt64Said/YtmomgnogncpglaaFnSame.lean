/- The law FnSame: its walk. -/
import Derived.Test.YtmomgnogncpglaaLaw3
set_option linter.unusedVariables false
set_option linter.unusedSimpArgs false
namespace Go.Proofs.Ytmomgnogncpglaa
open Go.RowKit

theorem trimz_digs (m : Nat) : trimz (digs 18446744073709551616 m) = digs 18446744073709551616 m := trimz_of_canon (canon_digs (by omega) m)

/-- 'finite' says no, in whichever way. -/
theorem finite_out (form : Int) (neg : Bool) (A : Option Addr) (n c : Nat) (exp : Int) (w : World) (h : ¬ (n ≤ 3 ∧ ¬ exp < -100 ∧ ¬ 100 < exp)) :
    Calls Try.prog 9 #[.agg #[.int .i64 form, .bool neg, .slice A n c, .int .i64 exp]] w (OutP w) := by
  by_cases h1 : 3 < n
  · exact finite_out1 form neg A n c exp w h1
  by_cases h2 : exp < -100
  · exact finite_out2 form neg A n c exp w (by omega) h2
  · exact finite_out3 form neg A n c exp w (by omega) h2 (by omega)

theorem okB_split {form : Int} {xs : List Nat} (h : okB form xs = true) : form = 0 ∧ xs = digs 18446744073709551616 (numW xs) := by
  simp [okB, eqB] at h; exact h

theorem Blk.dec4 {w : World} {g : Nat} {t : TypeId} {a b c d : Value} (h : Blk w g t #[a, b, c, d]) : w.cell? ⟨g, 0, none⟩ = some a ∧ w.cell? ⟨g, 1, none⟩ = some b ∧ w.cell? ⟨g, 2, none⟩ = some c ∧ w.cell? ⟨g, 3, none⟩ = some d :=
  ⟨h.cell 0, h.cell 1, h.cell 2, h.cell 3⟩
theorem Blk.val3 {w : World} {g : Nat} {t : TypeId} {a b c : Value} (h : Blk w g t #[a, b, c]) : w.cell? ⟨g, 0, none⟩ = some a ∧ w.cell? ⟨g, 1, none⟩ = some b ∧ w.cell? ⟨g, 2, none⟩ = some c :=
  ⟨h.cell 0, h.cell 1, h.cell 2⟩

set_option maxHeartbeats 2000000 in
theorem fnSame_walk (form : Int) (neg : Bool) (A : Option Addr) (c : Nat) (xs : List Nat) (exp : Int) (w : World) (hv : RdG .u64 w (.slice A xs.length c) xs) (hd : Dig 18446744073709551616 xs) (_ : (Lit.int .i64 form).wf = true) (_ : (Lit.int .i64 exp).wf = true) :
    Calls Try.prog 3 #[.agg #[.int .i64 form, .bool neg, .slice A xs.length c, .int .i64 exp]] w (BoolP w true) := by
  have hP : ∀ W : World, Below w.heap.size w W → BoolP w true (.returned (.bool true)) W := fun W h => ⟨rfl, h⟩
  have Fin := hide hP
  clear hP
  by_cases hbig : 2147483647 < xs.length
  · clear hv hd
    go_enter Try.func3, Try.ntmps3
    go_wp2_with fail
    refine (fits_no form neg A xs.length c exp _ hbig).mono ?_
    rintro e w1 ⟨rfl, hb⟩
    have F2 := hide (Fin.out w1 (((Below.refl _ _).alloc (Nat.le_refl _) _).trans (hb.mono (by simp))))
    clear hb
    go_wp2
    go_ret
    exact F2.out
  -- the box, and the first call
  have hb0 : Blk (w.alloc (.cells #[.int .i64 form, .bool neg, .slice A xs.length c, .int .i64 exp] 24)) w.heap.size 24 #[.int .i64 form, .bool neg, .slice A xs.length c, .int .i64 exp] := Blk.new w _ _
  have hbe0 : Below w.heap.size w (w.alloc (.cells #[.int .i64 form, .bool neg, .slice A xs.length c, .int .i64 exp] 24)) := below_al (Below.refl _ _) _
  have hv0 : RdG .u64 (w.alloc (.cells #[.int .i64 form, .bool neg, .slice A xs.length c, .int .i64 exp] 24)) (.slice A xs.length c) xs := hv.below hbe0
  have HH := hide (And.intro hb0 (And.intro hbe0 (And.intro hv0 hd)))
  clear hv hd hb0 hbe0 hv0
  go_enter Try.func3, Try.ntmps3
  go_wp2_with fail
  generalize w.alloc (.cells #[.int .i64 form, .bool neg, .slice A xs.length c, .int .i64 exp] 24) = W at HH ⊢
  refine (fits_yes form neg A xs.length c exp _ (by omega)).mono ?_
  rintro e w1 ⟨rfl, hb⟩
  have hb1 := HH.out.1.below hb
  have hbe1 := below_next HH.out.2.1 hb
  have hv1 := HH.out.2.2.1.below hb
  obtain ⟨c0, c1, c2, c3⟩ := hb1.dec4
  have HD := hide HH.out.2.2.2
  have H1 := hide (And.intro hb1 (And.intro hbe1 hv1))
  clear hb hb1 hbe1 hv1 HH
  by_cases hout : xs.length ≤ 3 ∧ ¬ exp < -100 ∧ ¬ 100 < exp
  · obtain ⟨h3, h4, h5⟩ := hout
    have con := finite_in form neg A c xs exp w1 H1.out.2.2 h3 h4 h5 HD.out
    have Con := hide con
    clear con
    go_wp2_with fail
    refine (Con.out).mono ?_
    rintro e w2 ⟨B, cB, rfl, hown, hbel⟩
    have hbe2 := below_next H1.out.2.1 hbel
    cases hok : okB form xs with
    | false =>
      have F2 := hide (Fin.out _ (below_al hbe2 (.cells #[.bool neg, .slice B (digs 65536 (numW xs)).length cB, .int .i64 exp] 29)))
      clear hown hbel hbe2 hok Con H1
      go_wp2
      go_ret
      exact F2.out
    | true =>
      obtain ⟨rfl, hxs⟩ := okB_split hok
      obtain ⟨m, hm⟩ : ∃ m, m = numW xs := ⟨_, rfl⟩
      rw [← hm] at hown hxs ⊢
      subst hxs
      have hb3 : Below w.heap.size w (w2.alloc (.cells #[.bool neg, .slice B (digs 65536 m).length cB, .int .i64 exp] 29)) := below_al hbe2 _
      have hba : Blk (w2.alloc (.cells #[.bool neg, .slice B (digs 65536 m).length cB, .int .i64 exp] 29)) w2.heap.size 29 #[.bool neg, .slice B (digs 65536 m).length cB, .int .i64 exp] := Blk.new _ _ _
      have hbx : Blk (w2.alloc (.cells #[.bool neg, .slice B (digs 65536 m).length cB, .int .i64 exp] 29)) w.heap.size 24 #[.int .i64 0, .bool neg, .slice A (digs 18446744073709551616 m).length c, .int .i64 exp] := (H1.out.1.below hbel).alloc _
      have hvx : RdG .u64 (w2.alloc (.cells #[.bool neg, .slice B (digs 65536 m).length cB, .int .i64 exp] 29)) (.slice A (digs 18446744073709551616 m).length c) (digs 18446744073709551616 m) := (H1.out.2.2.below hbel).below (below_al (Below.refl _ _) _)
      have hoa : OwnI (w2.alloc (.cells #[.bool neg, .slice B (digs 65536 m).length cB, .int .i64 exp] 29)) w1.heap.size (.slice B (digs 65536 m).length cB) (digs 65536 m) := hown.below (below_al (Below.refl _ _) _)
      have H3 := hide (And.intro hb3 (And.intro hba (And.intro hbx (And.intro hvx hoa))))
      clear hown hbel hbe2 hok Con H1 hm hb3 hba hbx hvx hoa
      obtain ⟨a0, a1, a2, a3⟩ := H3.out.2.2.1.dec4
      go_wp2_with fail
      generalize w2.alloc (.cells #[.bool neg, .slice B (digs 65536 m).length cB, .int .i64 exp] 29) = W3 at H3 a0 a1 a2 a3 ⊢
      refine (same_fin neg A c (digs 18446744073709551616 m) exp W3 H3.out.2.2.2.1 (by omega) (by omega) (by omega) (trimz_digs m)).mono ?_
      rintro e w4 ⟨D, cD, rfl, hown4, hbel4⟩
      have hbz : Blk (w4.alloc (.cells #[.int .i64 0, .bool neg, .slice D (digs 18446744073709551616 m).length cD, .int .i64 exp] 24)) w4.heap.size 24 #[.int .i64 0, .bool neg, .slice D (digs 18446744073709551616 m).length cD, .int .i64 exp] := Blk.new _ _ _
      have hba4 : Blk (w4.alloc (.cells #[.int .i64 0, .bool neg, .slice D (digs 18446744073709551616 m).length cD, .int .i64 exp] 24)) w2.heap.size 29 #[.bool neg, .slice B (digs 65536 m).length cB, .int .i64 exp] := (H3.out.2.1.below hbel4).alloc _
      have hbe4 : Below w.heap.size w (w4.alloc (.cells #[.int .i64 0, .bool neg, .slice D (digs 18446744073709551616 m).length cD, .int .i64 exp] 24)) := below_al (below_next H3.out.1 hbel4) _
      have hov : RdG .i64 (w4.alloc (.cells #[.int .i64 0, .bool neg, .slice D (digs 18446744073709551616 m).length cD, .int .i64 exp] 24)) (.slice B (digs 65536 m).length cB) (digs 65536 m) := (H3.out.2.2.2.2.rd.below hbel4).below (below_al (Below.refl _ _) _)
      have hoz : RdG .u64 (w4.alloc (.cells #[.int .i64 0, .bool neg, .slice D (digs 18446744073709551616 m).length cD, .int .i64 exp] 24)) (.slice D (digs 18446744073709551616 m).length cD) (digs 18446744073709551616 m) := RdG.below (k := .u64) hown4.rd (below_al (Below.refl _ _) _)
      obtain ⟨d0, d1, d2⟩ := hba4.val3
      have H4 := hide (And.intro hbz (And.intro hba4 (And.intro hbe4 (And.intro hov hoz))))
      clear hbz hba4 hbe4 hov hoz hown4 hbel4 H3 a0 a1 a2 a3
      go_wp2_with fail
      refine (isDec_yes neg neg D B cD cB m exp _ H4.out.2.2.2.2 H4.out.2.2.2.1 (by omega) (.inl rfl)).mono ?_
      rintro e w5 ⟨rfl, hb5⟩
      have e0 := (H4.out.1.below hb5).cell 1
      have e1 := (H4.out.2.1.below hb5).cell 0
      have F2 := hide (Fin.out _ (below_next H4.out.2.2.1 hb5))
      clear H4 hb5 d0 d1 d2
      have e0' : w5.cell? ⟨w4.heap.size, 1, none⟩ = some (.bool neg) := e0
      have e1' : w5.cell? ⟨w2.heap.size, 0, none⟩ = some (.bool neg) := e1
      clear e0 e1
      cases neg
      all_goals go_wp2
      all_goals go_ret
      all_goals exact F2.out
  · have con := finite_out form neg A xs.length c exp w1 hout
    have Con := hide con
    clear con hout
    go_wp2_with fail
    refine (Con.out).mono ?_
    rintro e w2 ⟨rfl, hb⟩
    have F2 := hide (Fin.out _ (below_al (below_next H1.out.2.1 hb) (.cells #[.bool false, .slice none 0 0, .int .i64 0] 29)))
    clear hb Con H1
    go_wp2
    go_ret
    exact F2.out
end Go.Proofs.Ytmomgnogncpglaa
