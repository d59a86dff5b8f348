/- The law FnSign: its walk. -/
import Derived.Test.YtmomgnogncpglaaHeld
import Derived.Test.YtmomgnogncpglaaSign2
set_option linter.unusedVariables false
set_option linter.unusedSimpArgs false
namespace Go.Proofs.Ytmomgnogncpglaa
open Go.RowKit

set_option maxHeartbeats 2000000 in
theorem fnSign_walk (form : Int) (neg : Bool) (A : Option Addr) (c : Nat) (xs : List Nat) (exp n : Int) (w : World) (hv : RdG .u64 w (.slice A xs.length c) xs) (hd : Dig 18446744073709551616 xs) (_ : (Lit.int .i64 form).wf = true) (_ : (Lit.int .i64 exp).wf = true) (hwn : (Lit.int .u8 n).wf = true) :
    Calls Try.prog 4 #[.agg #[.int .i64 form, .bool neg, .slice A xs.length c, .int .i64 exp], .int .u8 n] w (BoolP w true) := by
  have hP : ∀ W : World, Below w.heap.size w W → BoolP w true (.returned (.bool true)) W := fun W h => ⟨rfl, h⟩
  have Fin := hide hP
  clear hP
  have hn0 : 0 ≤ n := (bounds_u8 hwn).1
  clear hwn
  by_cases hbig : 2147483647 < xs.length
  · clear hv hd
    go_enter Try.func4, Try.ntmps4
    go_wp2_with fail
    refine (fits_no form neg A xs.length c exp _ hbig).mono ?_
    rintro e w1 ⟨rfl, hb⟩
    have F2 := hide (Fin.out w1 (((Below.refl _ _).alloc (Nat.le_refl _) _).trans (hb.mono (by simp))))
    clear hb
    go_wp2
    go_ret
    exact F2.out
  -- the box, and the first call
  have hb0 : Blk (w.alloc (.cells #[.int .i64 form, .bool neg, .slice A xs.length c, .int .i64 exp] 24)) w.heap.size 24 #[.int .i64 form, .bool neg, .slice A xs.length c, .int .i64 exp] := Blk.new w _ _
  have hbe0 : Below w.heap.size w (w.alloc (.cells #[.int .i64 form, .bool neg, .slice A xs.length c, .int .i64 exp] 24)) := below_al (Below.refl _ _) _
  have hv0 : RdG .u64 (w.alloc (.cells #[.int .i64 form, .bool neg, .slice A xs.length c, .int .i64 exp] 24)) (.slice A xs.length c) xs := hv.below hbe0
  have HH := hide (And.intro hb0 (And.intro hbe0 (And.intro hv0 hd)))
  clear hv hd hb0 hbe0 hv0
  go_enter Try.func4, Try.ntmps4
  go_wp2_with fail
  generalize w.alloc (.cells #[.int .i64 form, .bool neg, .slice A xs.length c, .int .i64 exp] 24) = W at HH ⊢
  refine (fits_yes form neg A xs.length c exp _ (by omega)).mono ?_
  rintro e w1 ⟨rfl, hb⟩
  have hb1 := HH.out.1.below hb
  have hbe1 := below_next HH.out.2.1 hb
  have hv1 := HH.out.2.2.1.below hb
  obtain ⟨c0, c1, c2, c3⟩ := hb1.dec4
  have HD := hide HH.out.2.2.2
  have H1 := hide (And.intro hb1 (And.intro hbe1 hv1))
  clear hb hb1 hbe1 hv1 HH
  by_cases hout : xs.length ≤ 3 ∧ ¬ exp < -100 ∧ ¬ 100 < exp
  · obtain ⟨h3, h4, h5⟩ := hout
    have con := finite_in form neg A c xs exp w1 H1.out.2.2 h3 h4 h5 HD.out
    have Con := hide con
    clear con
    go_wp2_with fail
    refine (Con.out).mono ?_
    rintro e w2 ⟨B, cB, rfl, hown, hbel⟩
    have hbe2 := below_next H1.out.2.1 hbel
    cases hok : okB form xs with
    | false =>
      have F2 := hide (Fin.out _ (below_al hbe2 (.cells #[.bool neg, .slice B (digs 65536 (numW xs)).length cB, .int .i64 exp] 29)))
      clear hown hbel hbe2 hok Con H1
      go_wp2
      go_ret
      exact F2.out
    | true =>
      obtain ⟨rfl, hxs⟩ := okB_split hok
      obtain ⟨m, hm⟩ : ∃ m, m = numW xs := ⟨_, rfl⟩
      rw [← hm] at hown hxs ⊢
      subst hxs
      have hS : HeldV w w.heap.size w2.heap.size neg A c (digs 18446744073709551616 m) exp neg B cB (digs 65536 m) (w2.alloc (.cells #[.bool neg, .slice B (digs 65536 m).length cB, .int .i64 exp] 29)) :=
        ⟨below_al hbe2 _, (H1.out.1.below hbel).alloc _, Blk.new _ _ _, (H1.out.2.2.below hbel).below (below_al (Below.refl _ _) _), RdG.below (k := .i64) hown.rd (below_al (Below.refl _ _) _)⟩
      have HS := hide hS
      clear hS hown hbel hbe2 hok Con H1 hm
      obtain ⟨⟨a0, a1, a2, a3⟩, b0, b1, b2⟩ := HS.out.cells
      by_cases hk : n.tmod 4 = 0
      · obtain ⟨s, z, HG, hcase⟩ : ∃ s z, Hid (sgnI neg (digs 18446744073709551616 m).length = s ∧ sgnI neg (digs 65536 m).length = s ∧ decide ((digs 18446744073709551616 m).length = 0) = z) ∧ ((s = 0 ∧ z = true) ∨ (s = 1 ∧ z = false) ∨ (s = -1 ∧ z = false)) := by
          by_cases hm0 : m = 0
          · subst hm0
            exact ⟨0, true, ⟨by rw [digs_zero]; rfl, by rw [digs_zero]; rfl, by rw [digs_zero]; rfl⟩, .inl ⟨rfl, rfl⟩⟩
          · have hl : (digs 65536 m).length ≠ 0 := fun h => digs_ne_nil (by omega) (Nat.pos_of_ne_zero hm0) (List.eq_nil_of_length_eq_zero h)
            have hlx : (digs 18446744073709551616 m).length ≠ 0 := fun h => digs_ne_nil (by omega) (Nat.pos_of_ne_zero hm0) (List.eq_nil_of_length_eq_zero h)
            cases neg
            · exact ⟨1, false, ⟨sgnI_pos hlx, sgnI_pos hl, decide_eq_false hlx⟩, .inr (.inl ⟨rfl, rfl⟩)⟩
            · exact ⟨-1, false, ⟨sgnI_neg hlx, sgnI_neg hl, decide_eq_false hlx⟩, .inr (.inr ⟨rfl, rfl⟩)⟩
        go_wp2_with fail
        generalize w2.alloc (.cells #[.bool neg, .slice B (digs 65536 m).length cB, .int .i64 exp] 29) = W3 at HS a0 a1 a2 a3 b0 b1 b2 ⊢
        rcases hcase with ⟨rfl, rfl⟩ | ⟨rfl, rfl⟩ | ⟨rfl, rfl⟩
        all_goals clear a0 a1 a2 a3 b0 b1 b2
        all_goals go_region_held3 (fun W => (W.cell? ⟨w.heap.size, 0, none⟩ = some (.int .i64 0) ∧ W.cell? ⟨w.heap.size, 1, none⟩ = some (.bool neg) ∧ W.cell? ⟨w.heap.size, 2, none⟩ = some (.slice A (digs 18446744073709551616 m).length c) ∧ W.cell? ⟨w.heap.size, 3, none⟩ = some (.int .i64 exp)) ∧ (W.cell? ⟨w2.heap.size, 0, none⟩ = some (.bool neg) ∧ W.cell? ⟨w2.heap.size, 1, none⟩ = some (.slice B (digs 65536 m).length cB) ∧ W.cell? ⟨w2.heap.size, 2, none⟩ = some (.int .i64 exp))) (first | exact HS.out.cells | go_keep) (first | (go_at_call 12; go_loud (refine (sign_fin neg A c (digs 18446744073709551616 m) exp _ ?_ (by omega) (by omega) (by omega) (trimz_digs m)).mono ?_; exact HS.out.rx; rintro e w4 ⟨rfl, hb4⟩; rw [HG.out.1]; have HS := hide (HS.out.next hb4.os hb4.tape hb4.output hb4.size hb4.block); clear hb4)) | (go_at_call 14; go_loud (refine (ssign_any neg B (digs 65536 m).length cB exp _).mono ?_; rintro e w5 ⟨rfl, hb5⟩; rw [HG.out.2.1]; have HS := hide (HS.out.next hb5.os hb5.tape hb5.output hb5.size hb5.block); clear hb5)) | (go_at_call 13; go_loud (refine (zero_fin neg A c (digs 18446744073709551616 m) exp _ ?_ (by omega) (by omega) (by omega) (trimz_digs m)).mono ?_; exact HS.out.rx; rintro e w6 ⟨rfl, hb6⟩; rw [HG.out.2.2]; have HS := hide (HS.out.next hb6.os hb6.tape hb6.output hb6.size hb6.block); clear hb6)))
        all_goals go_wp2
        all_goals go_ret
        all_goals exact Fin.out _ HS.out.bel
      · have hkk : n.tmod 4 = 1 ∨ n.tmod 4 = 2 ∨ n.tmod 4 = 3 := by rw [Int.tmod_eq_emod_of_nonneg hn0] at hk ⊢; omega
        obtain ⟨k, hkv, hk3⟩ : ∃ k : Int, n.tmod 4 = k ∧ (k = 1 ∨ k = 2 ∨ k = 3) := ⟨_, rfl, hkk⟩
        have hbe4 : Below w.heap.size w ((w2.alloc (.cells #[.bool neg, .slice B (digs 65536 m).length cB, .int .i64 exp] 29)).alloc (.cells #[.int .i64 k, .bool neg, .slice none 0 0, .int .i64 0] 24)) := below_al HS.out.bel _
        have hbx4 := HS.out.box.alloc (.cells #[.int .i64 k, .bool neg, .slice none 0 0, .int .i64 0] 24)
        have hob4 : Blk ((w2.alloc (.cells #[.bool neg, .slice B (digs 65536 m).length cB, .int .i64 exp] 29)).alloc (.cells #[.int .i64 k, .bool neg, .slice none 0 0, .int .i64 0] 24)) (w2.heap.size + 1) 24 #[.int .i64 k, .bool neg, .slice none 0 0, .int .i64 0] := by
          have := Blk.new (w2.alloc (.cells #[.bool neg, .slice B (digs 65536 m).length cB, .int .i64 exp] 29)) 24 #[.int .i64 k, .bool neg, .slice none 0 0, .int .i64 0]
          simpa using this
        have e1 : ((w2.alloc (.cells #[.bool neg, .slice B (digs 65536 m).length cB, .int .i64 exp] 29)).alloc (.cells #[.int .i64 k, .bool neg, .slice none 0 0, .int .i64 0] 24)).cell? ⟨w.heap.size, 1, none⟩ = some (.bool neg) := hbx4.cell 1
        obtain ⟨o0, o1, o2, o3⟩ := hob4.dec4
        have H4 := hide (And.intro hbe4 hob4)
        clear hbe4 hbx4 hob4 hk hkk HS
        rcases hk3 with rfl | rfl | rfl
        all_goals (cases neg)
        all_goals go_wp2_with fail
        all_goals refine (sign_other _ _ _ _ _ (by decide)).mono ?_
        all_goals rintro e w5 ⟨rfl, hb5⟩
        all_goals have hb5' := (H4.out.2.below hb5)
        all_goals obtain ⟨q0, q1, q2, q3⟩ := hb5'.dec4
        all_goals have H5 := hide (below_next H4.out.1 hb5)
        all_goals clear hb5 hb5'
        all_goals go_wp2_with fail
        all_goals refine (zero_other _ _ _ _ _ (by decide)).mono ?_
        all_goals rintro e w6 ⟨rfl, hb6⟩
        all_goals have F6 := hide (Fin.out _ (below_next H5.out hb6))
        all_goals clear hb6
        all_goals go_wp2
        all_goals go_ret
        all_goals exact F6.out
  · have con := finite_out form neg A xs.length c exp w1 hout
    have Con := hide con
    clear con hout
    go_wp2_with fail
    refine (Con.out).mono ?_
    rintro e w2 ⟨rfl, hb⟩
    have F2 := hide (Fin.out _ (below_al (below_next H1.out.2.1 hb) (.cells #[.bool false, .slice none 0 0, .int .i64 0] 29)))
    clear hb Con H1
    go_wp2
    go_ret
    exact F2.out
end Go.Proofs.Ytmomgnogncpglaa
