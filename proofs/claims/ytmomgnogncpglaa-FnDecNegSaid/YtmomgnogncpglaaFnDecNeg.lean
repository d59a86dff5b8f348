/- The law FnDecNeg: its walk. -/
import Derived.Test.YtmomgnogncpglaaHeld
import Derived.Test.YtmomgnogncpglaaNeg
set_option linter.unusedVariables false
set_option linter.unusedSimpArgs false
namespace Go.Proofs.Ytmomgnogncpglaa
open Go.RowKit

set_option maxHeartbeats 2000000 in
theorem fnDecNeg_walk (form : Int) (neg : Bool) (A : Option Addr) (c : Nat) (xs : List Nat) (exp : Int) (w : World) (hv : RdG .u64 w (.slice A xs.length c) xs) (hd : Dig 18446744073709551616 xs) (_ : (Lit.int .i64 form).wf = true) (_ : (Lit.int .i64 exp).wf = true) :
    Calls Try.prog 7 #[.agg #[.int .i64 form, .bool neg, .slice A xs.length c, .int .i64 exp]] w (BoolP w true) := by
  have hP : ∀ W : World, Below w.heap.size w W → BoolP w true (.returned (.bool true)) W := fun W h => ⟨rfl, h⟩
  have Fin := hide hP
  clear hP
  by_cases hbig : 2147483647 < xs.length
  · clear hv hd
    go_enter Try.func7, Try.ntmps7
    go_wp2_with fail
    refine (fits_no form neg A xs.length c exp _ hbig).mono ?_
    rintro e w1 ⟨rfl, hb⟩
    have F2 := hide (Fin.out w1 (((Below.refl _ _).alloc (Nat.le_refl _) _).trans (hb.mono (by simp))))
    clear hb
    go_wp2
    go_ret
    exact F2.out
  -- the box, and the first call
  have hb0 : Blk (w.alloc (.cells #[.int .i64 form, .bool neg, .slice A xs.length c, .int .i64 exp] 24)) w.heap.size 24 #[.int .i64 form, .bool neg, .slice A xs.length c, .int .i64 exp] := Blk.new w _ _
  have hbe0 : Below w.heap.size w (w.alloc (.cells #[.int .i64 form, .bool neg, .slice A xs.length c, .int .i64 exp] 24)) := below_al (Below.refl _ _) _
  have hv0 : RdG .u64 (w.alloc (.cells #[.int .i64 form, .bool neg, .slice A xs.length c, .int .i64 exp] 24)) (.slice A xs.length c) xs := hv.below hbe0
  have HH := hide (And.intro hb0 (And.intro hbe0 (And.intro hv0 hd)))
  clear hv hd hb0 hbe0 hv0
  go_enter Try.func7, Try.ntmps7
  go_wp2_with fail
  generalize w.alloc (.cells #[.int .i64 form, .bool neg, .slice A xs.length c, .int .i64 exp] 24) = W at HH ⊢
  refine (fits_yes form neg A xs.length c exp _ (by omega)).mono ?_
  rintro e w1 ⟨rfl, hb⟩
  have hb1 := HH.out.1.below hb
  have hbe1 := below_next HH.out.2.1 hb
  have hv1 := HH.out.2.2.1.below hb
  obtain ⟨c0, c1, c2, c3⟩ := hb1.dec4
  have HD := hide HH.out.2.2.2
  have H1 := hide (And.intro hb1 (And.intro hbe1 hv1))
  clear hb hb1 hbe1 hv1 HH
  by_cases hout : xs.length ≤ 3 ∧ ¬ exp < -100 ∧ ¬ 100 < exp
  · obtain ⟨h3, h4, h5⟩ := hout
    have con := finite_in form neg A c xs exp w1 H1.out.2.2 h3 h4 h5 HD.out
    have Con := hide con
    clear con
    go_wp2_with fail
    refine (Con.out).mono ?_
    rintro e w2 ⟨B, cB, rfl, hown, hbel⟩
    have hbe2 := below_next H1.out.2.1 hbel
    cases hok : okB form xs with
    | false =>
      have F2 := hide (Fin.out _ (below_al hbe2 (.cells #[.bool neg, .slice B (digs 65536 (numW xs)).length cB, .int .i64 exp] 29)).drew)
      clear hown hbel hbe2 hok Con H1
      go_wp2_with fail
      go_region
      all_goals go_wp2
      all_goals go_ret
      all_goals exact F2.out
    | true =>
      obtain ⟨rfl, hxs⟩ := okB_split hok
      obtain ⟨m, hm⟩ : ∃ m, m = numW xs := ⟨_, rfl⟩
      rw [← hm] at hown hxs ⊢
      subst hxs
      have hS : HeldV w w.heap.size w2.heap.size neg A c (digs 18446744073709551616 m) exp neg B cB (digs 65536 m) (w2.alloc (.cells #[.bool neg, .slice B (digs 65536 m).length cB, .int .i64 exp] 29)) :=
        ⟨below_al hbe2 _, (H1.out.1.below hbel).alloc _, Blk.new _ _ _, (H1.out.2.2.below hbel).below (below_al (Below.refl _ _) _), RdG.below (k := .i64) hown.rd (below_al (Below.refl _ _) _)⟩
      have HS := hide hS
      clear hS hown hbel hbe2 hok Con H1 hm
      obtain ⟨⟨a0, a1, a2, a3⟩, b0, b1, b2⟩ := HS.out.cells
      go_wp2_with fail
      generalize w2.alloc (.cells #[.bool neg, .slice B (digs 65536 m).length cB, .int .i64 exp] 29) = W3 at HS a0 a1 a2 a3 b0 b1 b2 ⊢
      by_cases hm0 : m = 0
      · subst hm0
        have hl : (digs 65536 0).length = 0 := by rw [digs_zero]; rfl
        have hsg : sgnI neg (digs 65536 0).length = 0 := by rw [hl]; rfl
        have HG := hide hsg
        clear hl hsg
        go_region_with (go_at_call 14; go_loud (refine (ssign_any neg B (digs 65536 0).length cB exp _).mono ?_; rintro e w4 ⟨rfl, hb4⟩; rw [HG.out]; have S4 := hide (HS.out.next hb4.os hb4.tape hb4.output hb4.size hb4.block); clear hb4))
        all_goals go_wp2
        all_goals go_ret
        all_goals exact Fin.out _ S4.out.bel
      · have hl : (digs 65536 m).length ≠ 0 := fun h => digs_ne_nil (by omega) (Nat.pos_of_ne_zero hm0) (List.eq_nil_of_length_eq_zero h)
        have hlx : (digs 18446744073709551616 m).length ≠ 0 := fun h => digs_ne_nil (by omega) (Nat.pos_of_ne_zero hm0) (List.eq_nil_of_length_eq_zero h)
        have hsg : (sgnI neg (digs 65536 m).length == 0) = false := by rw [sgnI_beq]; simp [hl]
        have HG := hide (negT_pos neg hlx)
        clear hl hlx hm0
        go_region_with (first | (go_at_call 14; go_loud (refine (ssign_any neg B (digs 65536 m).length cB exp _).mono ?_; rintro e w4 ⟨rfl, hb4⟩; have S4 := hide (HS.out.next hb4.os hb4.tape hb4.output hb4.size hb4.block); obtain ⟨⟨a0, a1, a2, a3⟩, b0, b1, b2⟩ := S4.out.cells; clear hb4)) | (go_at_call 19; go_loud (refine (decNeg_fin neg A c (digs 18446744073709551616 m) exp _ ?_ (by omega) (by omega) (by omega) (trimz_digs m)).mono ?_; exact S4.out.rx; rintro e w5 ⟨D, cD, rfl, hown5, hb5⟩; rw [HG.out]; have S5 := hide (S4.out.next hb5.os hb5.tape hb5.output hb5.size hb5.block); have O5 := hide hown5; obtain ⟨_, b0, b1, b2⟩ := S5.out.cells; clear hb5 hown5)) | (go_at_call 20; go_loud (refine (opposite_any neg B (digs 65536 m).length cB exp _).mono ?_; rintro e w6 ⟨rfl, hb6⟩; have S6 := hide (S5.out.next hb6.os hb6.tape hb6.output hb6.size hb6.block); have O6 := hide (RdG.below (k := .u64) O5.out.rd ⟨hb6.os, hb6.tape, hb6.output, hb6.size, hb6.block⟩); clear hb6)) | (go_at_call 11; go_loud (refine (isDec_yes (!neg) (!neg) D B cD cB m exp _ ?_ ?_ (by omega) (.inl rfl)).mono ?_; exact O6.out; exact S6.out.rv; rintro e w7 ⟨rfl, hb7⟩; have S7 := hide (S6.out.next hb7.os hb7.tape hb7.output hb7.size hb7.block); clear hb7)))
        all_goals go_wp2
        all_goals go_ret
        all_goals exact Fin.out _ S7.out.bel
  · have con := finite_out form neg A xs.length c exp w1 hout
    have Con := hide con
    clear con hout
    go_wp2_with fail
    refine (Con.out).mono ?_
    rintro e w2 ⟨rfl, hb⟩
    have F2 := hide (Fin.out _ (below_al (below_next H1.out.2.1 hb) (.cells #[.bool false, .slice none 0 0, .int .i64 0] 29)).drew)
    clear hb Con H1
    go_wp2_with fail
    go_region
    all_goals go_wp2
    all_goals go_ret
    all_goals exact F2.out
end Go.Proofs.Ytmomgnogncpglaa
