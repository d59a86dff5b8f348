/- 'laws.FnText': FOR EVERY INPUT THE LAW RETURNS TRUE, AND ITS ARGUMENTS READ BEHIND THE CALL AS THEY READ BEFORE. No condition is set on the input; the listed package variables start as the program's text lays them (tied by the card). -/
import Derived.Test.YtlepebogjpcfoaaGreatDoorTie
import Derived.Test.YtlepebogjpcfoaaGreatDoorCards
import Derived.LaidMore
import Derived.OpenVars
import Derived.SevenTiedAt
import Derived.Test.YtlepebogjpcfoaaGreatDoorG2
import Derived.Test.YtlepebogjpcfoaaGreatDoorG30
import Derived.Test.YtlepebogjpcfoaaGreatDoorG52
import Derived.Test.YtlepebogjpcfoaaGreatDoorG53
/- The law FnText: its walk. -/
set_option linter.unusedVariables false
set_option linter.unusedSimpArgs false
namespace Go.Proofs.YtlepebogjpcfoaaGreatDoor
open Go.RowKit

set_option maxHeartbeats 4000000 in
set_option maxRecDepth 20000 in
theorem fnText_walk (form : Int) (neg : Bool) (A : Option Addr) (c : Nat) (xs : List Nat) (exp : Int) (k : Int) (w : World) (hvars : VarsT w) (hv : RdG .u64 w (.slice A xs.length c) xs) (hd : Dig 18446744073709551616 xs) (_ : (Lit.int .i64 form).wf = true) (_ : (Lit.int .i64 exp).wf = true) (hk : (Lit.int .u8 k).wf = true) :
    Calls Tryz.prog 3 #[.agg #[.int .i64 form, .bool neg, .slice A xs.length c, .int .i64 exp], .int .u8 k] w (BoolP w true) := by
  have hP : ∀ W : World, Below w.heap.size w W → BoolP w true (.returned (.bool true)) W := fun W h => ⟨rfl, h⟩
  have Fin := hide hP
  clear hP
  by_cases hbig : 2147483647 < xs.length
  · clear hv hd hvars
    go_enter Tryz.func3, Tryz.ntmps3
    go_wp2_with fail
    refine (fits_no form neg A xs.length c exp _ hbig).mono ?_
    rintro e w1 ⟨rfl, hb⟩
    have F2 := hide (Fin.out w1 (((Below.refl _ _).alloc (Nat.le_refl _) _).trans (hb.mono (by simp))))
    clear hb
    go_wp2
    go_ret
    exact F2.out
  -- the box, and the first call
  have hb0 : Blk (w.alloc (.cells #[.int .i64 form, .bool neg, .slice A xs.length c, .int .i64 exp] 24)) w.heap.size 24 #[.int .i64 form, .bool neg, .slice A xs.length c, .int .i64 exp] := Blk.new w _ _
  have hbe0 : Below w.heap.size w (w.alloc (.cells #[.int .i64 form, .bool neg, .slice A xs.length c, .int .i64 exp] 24)) := below_al (Below.refl _ _) _
  have hv0 : RdG .u64 (w.alloc (.cells #[.int .i64 form, .bool neg, .slice A xs.length c, .int .i64 exp] 24)) (.slice A xs.length c) xs := hv.below hbe0
  have HH := hide (And.intro hb0 (And.intro hbe0 (And.intro hv0 hd)))
  have HVA := hide hvars
  have HR0 := hide hv
  clear hv hd hb0 hbe0 hv0 hvars
  go_enter Tryz.func3, Tryz.ntmps3
  go_wp2_with fail
  generalize w.alloc (.cells #[.int .i64 form, .bool neg, .slice A xs.length c, .int .i64 exp] 24) = W at HH ⊢
  refine (fits_yes form neg A xs.length c exp _ (by omega)).mono ?_
  rintro e w1 ⟨rfl, hb⟩
  have hb1 := HH.out.1.below hb
  have hbe1 := below_next HH.out.2.1 hb
  have hv1 := HH.out.2.2.1.below hb
  obtain ⟨c0, c1, c2, c3⟩ := hb1.dec4
  have HD := hide HH.out.2.2.2
  have H1 := hide (And.intro hb1 (And.intro hbe1 hv1))
  clear hb hb1 hbe1 hv1 HH
  by_cases hout : xs.length ≤ 3 ∧ ¬ exp < -100 ∧ ¬ 100 < exp
  · obtain ⟨h3, h4, h5⟩ := hout
    have con := finite_in form neg A c xs exp w1 H1.out.2.2 h3 h4 h5 HD.out
    have Con := hide con
    clear con
    go_wp2_with fail
    refine (Con.out).mono ?_
    rintro e w2 ⟨B, cB, rfl, hown, hbel⟩
    have hbe2 := below_next H1.out.2.1 hbel
    cases hok : okB form xs with
    | false =>
      have F2 := hide (Fin.out _ (below_al hbe2 (.cells #[.bool neg, .slice B (digs 65536 (numW xs)).length cB, .int .i64 exp] 29)))
      clear hown hbel hbe2 hok Con H1
      go_wp2
      go_ret
      exact F2.out
    | true =>
      obtain ⟨rfl, hxs⟩ := okB_split hok
      obtain ⟨m, hm⟩ : ∃ m, m = numW xs := ⟨_, rfl⟩
      rw [← hm] at hown hxs ⊢
      subst hxs
      have hS : HeldV w w.heap.size w2.heap.size neg A c (digs 18446744073709551616 m) exp neg B cB (digs 65536 m) (w2.alloc (.cells #[.bool neg, .slice B (digs 65536 m).length cB, .int .i64 exp] 29)) :=
        ⟨below_al hbe2 _, (H1.out.1.below hbel).alloc _, Blk.new _ _ _, (H1.out.2.2.below hbel).below (below_al (Below.refl _ _) _), RdG.below (k := .i64) hown.rd (below_al (Below.refl _ _) _)⟩
      have HS := hide hS
      clear hS hown hbel hbe2 hok Con H1 hm
      obtain ⟨⟨a0, a1, a2, a3⟩, b0, b1, b2⟩ := HS.out.cells
      have HR : Hid (RdG .u64 w (.slice A (digs 18446744073709551616 m).length c) (digs 18446744073709551616 m)) := HR0
      have hl12 : (digs 65536 m).length ≤ 12 := digs_length_le (by omega) (Nat.lt_of_lt_of_le (lt_of_digs_length (b := 18446744073709551616) (by omega) h3) (by decide))
      have hk5 : ∃ q : Nat, k % 5 = (q : Int) ∧ k.tmod 5 = (q : Int) ∧ q < 5 := by
        have h0 : 0 ≤ k ∧ k ≤ 255 := by simpa [Lit.wf, IntKind.min, IntKind.max, IntKind.signed, IntKind.bits] using hk
        exact ⟨(k % 5).toNat, by omega, by rw [Int.tmod_eq_emod_of_nonneg h0.1]; omega, by omega⟩
      obtain ⟨q, hq1, hq2, hq3⟩ := hk5
      have hq4 : q = 0 ∨ q = 1 ∨ q = 2 ∨ q = 3 ∨ q = 4 := by omega
      clear hq3
      rcases hq4 with rfl | rfl | rfl | rfl | rfl
      · have wq : IntKind.u8.wrap 0 = 0 := by decide
        have ConT : Hid (∀ W, Below w.heap.size w W → Calls Tryz.prog 12 #[.agg #[.int .i64 0, .bool neg, .slice A (digs 18446744073709551616 m).length c, .int .i64 exp], .int .u8 101] W (TextP W (sgnT neg (sciT m exp 101)))) := fun W h => itext_ok neg A c m exp 101 _ W (HR.out.below h) h3 (by omega) (by omega) (HVA.out.below h) (by rw [← codeE_eq]; exact appOK_e neg m exp h3 ⟨by omega, by omega⟩)
        have ConV : Hid (∀ W, RdG .i64 W (.slice B (digs 65536 m).length cB) (digs 65536 m) → Calls Tryz.prog 13 #[.agg #[.bool neg, .slice B (digs 65536 m).length cB, .int .i64 exp], .string ⟨#[101]⟩] W (StrP W (sgnT neg (sciT m exp 101)))) := fun W h => ssci_any neg B _ cB m 101 exp W h hl12 ⟨by omega, by omega⟩
        unfold TextP at ConT
        unfold StrP at ConV
        generalize bstr (sgnT neg (sciT m exp 101)) = R at *
        go_wp2_with fail
        generalize w2.alloc (.cells #[.bool neg, .slice B (digs 65536 m).length cB, .int .i64 exp] 29) = W3 at HS a0 a1 a2 a3 b0 b1 b2 ⊢
        clear a0 a1 a2 a3 b0 b1 b2
        go_region_held3 (fun W => (W.cell? ⟨w.heap.size, 0, none⟩ = some (.int .i64 0) ∧ W.cell? ⟨w.heap.size, 1, none⟩ = some (.bool neg) ∧ W.cell? ⟨w.heap.size, 2, none⟩ = some (.slice A (digs 18446744073709551616 m).length c) ∧ W.cell? ⟨w.heap.size, 3, none⟩ = some (.int .i64 exp)) ∧ (W.cell? ⟨w2.heap.size, 0, none⟩ = some (.bool neg) ∧ W.cell? ⟨w2.heap.size, 1, none⟩ = some (.slice B (digs 65536 m).length cB) ∧ W.cell? ⟨w2.heap.size, 2, none⟩ = some (.int .i64 exp))) (first | exact HS.out.cells | go_keep)
          (first
            | (go_at_call 12; go_loud (refine (ConT.out _ ?_).mono ?_; exact Below.mk HS.out.bel.os HS.out.bel.tape HS.out.bel.output HS.out.bel.size HS.out.bel.block; rintro e5 w5 ⟨rfl, hb⟩; have HS := hide (HS.out.next hb.os hb.tape hb.output hb.size hb.block); clear hb))
            | (go_at_call 13; go_loud (refine (ConV.out _ ?_).mono ?_; exact HS.out.rv; rintro e6 w6 ⟨rfl, hb⟩; have HS := hide (HS.out.next hb.os hb.tape hb.output hb.size hb.block); clear hb)))
        all_goals have F9 := hide (Fin.out _ HS.out.bel)
        all_goals clear HS
        all_goals go_wp2
        all_goals go_ret
        all_goals exact F9.out
      · have wq : IntKind.u8.wrap 1 = 1 := by decide
        have ConT : Hid (∀ W, Below w.heap.size w W → Calls Tryz.prog 12 #[.agg #[.int .i64 0, .bool neg, .slice A (digs 18446744073709551616 m).length c, .int .i64 exp], .int .u8 69] W (TextP W (sgnT neg (sciT m exp 69)))) := fun W h => itext_ok neg A c m exp 69 _ W (HR.out.below h) h3 (by omega) (by omega) (HVA.out.below h) (by rw [← codeE_eq]; exact appOK_E neg m exp h3 ⟨by omega, by omega⟩)
        have ConV : Hid (∀ W, RdG .i64 W (.slice B (digs 65536 m).length cB) (digs 65536 m) → Calls Tryz.prog 13 #[.agg #[.bool neg, .slice B (digs 65536 m).length cB, .int .i64 exp], .string ⟨#[69]⟩] W (StrP W (sgnT neg (sciT m exp 69)))) := fun W h => ssci_any neg B _ cB m 69 exp W h hl12 ⟨by omega, by omega⟩
        unfold TextP at ConT
        unfold StrP at ConV
        generalize bstr (sgnT neg (sciT m exp 69)) = R at *
        go_wp2_with fail
        generalize w2.alloc (.cells #[.bool neg, .slice B (digs 65536 m).length cB, .int .i64 exp] 29) = W3 at HS a0 a1 a2 a3 b0 b1 b2 ⊢
        clear a0 a1 a2 a3 b0 b1 b2
        go_region_held3 (fun W => (W.cell? ⟨w.heap.size, 0, none⟩ = some (.int .i64 0) ∧ W.cell? ⟨w.heap.size, 1, none⟩ = some (.bool neg) ∧ W.cell? ⟨w.heap.size, 2, none⟩ = some (.slice A (digs 18446744073709551616 m).length c) ∧ W.cell? ⟨w.heap.size, 3, none⟩ = some (.int .i64 exp)) ∧ (W.cell? ⟨w2.heap.size, 0, none⟩ = some (.bool neg) ∧ W.cell? ⟨w2.heap.size, 1, none⟩ = some (.slice B (digs 65536 m).length cB) ∧ W.cell? ⟨w2.heap.size, 2, none⟩ = some (.int .i64 exp))) (first | exact HS.out.cells | go_keep)
          (first
            | (go_at_call 12; go_loud (refine (ConT.out _ ?_).mono ?_; exact Below.mk HS.out.bel.os HS.out.bel.tape HS.out.bel.output HS.out.bel.size HS.out.bel.block; rintro e5 w5 ⟨rfl, hb⟩; have HS := hide (HS.out.next hb.os hb.tape hb.output hb.size hb.block); clear hb))
            | (go_at_call 13; go_loud (refine (ConV.out _ ?_).mono ?_; exact HS.out.rv; rintro e6 w6 ⟨rfl, hb⟩; have HS := hide (HS.out.next hb.os hb.tape hb.output hb.size hb.block); clear hb)))
        all_goals have F9 := hide (Fin.out _ HS.out.bel)
        all_goals clear HS
        all_goals go_wp2
        all_goals go_ret
        all_goals exact F9.out
      · have wq : IntKind.u8.wrap 2 = 2 := by decide
        by_cases hm0 : m = 0
        · have ConH : Hid (∀ W, Calls Tryz.prog 14 #[.agg #[.bool neg, .slice B (digs 65536 m).length cB, .int .i64 exp]] W (fun e' w' => e' = .returned (.int .i64 0) ∧ Below W.heap.size W w')) := fun W => by
            have h := ssign_any neg B (digs 65536 m).length cB exp W
            have hs : sgnI neg (digs 65536 m).length = 0 := by rw [hm0, digs_zero]; rfl
            rw [hs] at h
            exact h
          clear hm0
          go_wp2_with fail
          generalize w2.alloc (.cells #[.bool neg, .slice B (digs 65536 m).length cB, .int .i64 exp] 29) = W3 at HS a0 a1 a2 a3 b0 b1 b2 ⊢
          go_region_with (go_at_call 14; go_loud (refine (ConH.out _).mono ?_; rintro e w4 ⟨rfl, hb4⟩; have S4 := hide (HS.out.next hb4.os hb4.tape hb4.output hb4.size hb4.block); clear hb4))
          all_goals go_wp2
          all_goals go_ret
          all_goals exact Fin.out _ S4.out.bel
        · have hsg : (sgnI neg (digs 65536 m).length == 0) = false := by
            have : (digs 65536 m).length ≠ 0 := fun h => digs_ne_nil (by omega) (Nat.pos_of_ne_zero hm0) (List.eq_nil_of_length_eq_zero h)
            rw [sgnI_beq]; simp [this]
          have ConH : Hid (∀ W, Calls Tryz.prog 14 #[.agg #[.bool neg, .slice B (digs 65536 m).length cB, .int .i64 exp]] W (fun e' w' => e' = .returned (.int .i64 (sgnI neg (digs 65536 m).length)) ∧ Below W.heap.size W w')) := fun W => ssign_any neg B (digs 65536 m).length cB exp W
          have hm0' : 0 < m := Nat.pos_of_ne_zero hm0
          clear hm0
          generalize sgnI neg (digs 65536 m).length = sg at *
          have ConT : Hid (∀ W, Below w.heap.size w W → Calls Tryz.prog 12 #[.agg #[.int .i64 0, .bool neg, .slice A (digs 18446744073709551616 m).length c, .int .i64 exp], .int .u8 102] W (TextP W (sgnT neg (fixT m exp)))) := fun W h => itext_ok neg A c m exp 102 _ W (HR.out.below h) h3 (by omega) (by omega) (HVA.out.below h) (by rw [← codeF_eq m exp (.inr hm0')]; exact appOK_f neg m exp h3 ⟨by omega, by omega⟩)
          have ConV : Hid (∀ W, RdG .i64 W (.slice B (digs 65536 m).length cB) (digs 65536 m) → Calls Tryz.prog 15 #[.agg #[.bool neg, .slice B (digs 65536 m).length cB, .int .i64 exp]] W (StrP W (sgnT neg (fixT m exp)))) := fun W h => sfixed_any neg B _ cB m exp W h hl12 ⟨by omega, by omega⟩
          unfold TextP at ConT
          unfold StrP at ConV
          generalize bstr (sgnT neg (fixT m exp)) = R at *
          go_wp2_with fail
          generalize w2.alloc (.cells #[.bool neg, .slice B (digs 65536 m).length cB, .int .i64 exp] 29) = W3 at HS a0 a1 a2 a3 b0 b1 b2 ⊢
          clear a0 a1 a2 a3 b0 b1 b2
          go_region_held3 (fun W => (W.cell? ⟨w.heap.size, 0, none⟩ = some (.int .i64 0) ∧ W.cell? ⟨w.heap.size, 1, none⟩ = some (.bool neg) ∧ W.cell? ⟨w.heap.size, 2, none⟩ = some (.slice A (digs 18446744073709551616 m).length c) ∧ W.cell? ⟨w.heap.size, 3, none⟩ = some (.int .i64 exp)) ∧ (W.cell? ⟨w2.heap.size, 0, none⟩ = some (.bool neg) ∧ W.cell? ⟨w2.heap.size, 1, none⟩ = some (.slice B (digs 65536 m).length cB) ∧ W.cell? ⟨w2.heap.size, 2, none⟩ = some (.int .i64 exp))) (first | exact HS.out.cells | go_keep)
            (first
              | (go_at_call 14; go_loud (refine (ConH.out _).mono ?_; rintro e4 w4 ⟨rfl, hb⟩; have HS := hide (HS.out.next hb.os hb.tape hb.output hb.size hb.block); clear hb))
              | (go_at_call 12; go_loud (refine (ConT.out _ ?_).mono ?_; exact Below.mk HS.out.bel.os HS.out.bel.tape HS.out.bel.output HS.out.bel.size HS.out.bel.block; rintro e5 w5 ⟨rfl, hb⟩; have HS := hide (HS.out.next hb.os hb.tape hb.output hb.size hb.block); clear hb))
              | (go_at_call 15; go_loud (refine (ConV.out _ ?_).mono ?_; exact HS.out.rv; rintro e6 w6 ⟨rfl, hb⟩; have HS := hide (HS.out.next hb.os hb.tape hb.output hb.size hb.block); clear hb)))
          all_goals have F9 := hide (Fin.out _ HS.out.bel)
          all_goals clear HS
          all_goals go_wp2
          all_goals go_ret
          all_goals exact F9.out
      · have wq : IntKind.u8.wrap 3 = 3 := by decide
        by_cases hth : m = 0 ∧ exp < -6
        · have ConH : Hid (∀ W, Calls Tryz.prog 16 #[.agg #[.bool neg, .slice B (digs 65536 m).length cB, .int .i64 exp]] W (fun e' w' => e' = .returned (.bool true) ∧ Below W.heap.size W w')) := fun W => by
            have h := thin_any neg B (digs 65536 m).length cB exp W
            rw [hth.1, digs_zero, List.length_nil, decide_eq_true rfl, decide_eq_true hth.2] at h
            rw [hth.1, digs_zero, List.length_nil]
            exact h
          clear hth
          go_wp2_with fail
          generalize w2.alloc (.cells #[.bool neg, .slice B (digs 65536 m).length cB, .int .i64 exp] 29) = W3 at HS a0 a1 a2 a3 b0 b1 b2 ⊢
          go_region_with (go_at_call 16; go_loud (refine (ConH.out _).mono ?_; rintro e w4 ⟨rfl, hb4⟩; have S4 := hide (HS.out.next hb4.os hb4.tape hb4.output hb4.size hb4.block); clear hb4))
          all_goals go_wp2
          all_goals go_ret
          all_goals exact Fin.out _ S4.out.bel
        · have hthin : m = 0 → -6 ≤ exp := fun h => by
            have : ¬ exp < -6 := fun h2 => hth ⟨h, h2⟩
            omega
          have ConH : Hid (∀ W, Calls Tryz.prog 16 #[.agg #[.bool neg, .slice B (digs 65536 m).length cB, .int .i64 exp]] W (fun e' w' => e' = .returned (.bool false) ∧ Below W.heap.size W w')) := fun W => by
            have h := thin_any neg B (digs 65536 m).length cB exp W
            have hd : (decide ((digs 65536 m).length = 0) && decide (exp < -6)) = false := by
              by_cases h0 : m = 0
              · have : ¬ exp < -6 := fun h2 => hth ⟨h0, h2⟩
                simp [this]
              · have : (digs 65536 m).length ≠ 0 := fun h => digs_ne_nil (by omega) (Nat.pos_of_ne_zero h0) (List.eq_nil_of_length_eq_zero h)
                simp [this]
            rw [hd] at h
            exact h
          clear hth
          have ConT : Hid (∀ W, Below w.heap.size w W → Calls Tryz.prog 12 #[.agg #[.int .i64 0, .bool neg, .slice A (digs 18446744073709551616 m).length c, .int .i64 exp], .int .u8 103] W (TextP W (sgnT neg (natT m exp 101)))) := fun W h => itext_ok neg A c m exp 103 _ W (HR.out.below h) h3 (by omega) (by omega) (HVA.out.below h) (appOK_g neg m exp h3 ⟨by omega, by omega⟩ hthin)
          have ConV : Hid (∀ W, RdG .i64 W (.slice B (digs 65536 m).length cB) (digs 65536 m) → Calls Tryz.prog 17 #[.agg #[.bool neg, .slice B (digs 65536 m).length cB, .int .i64 exp], .string ⟨#[101]⟩] W (StrP W (sgnT neg (natT m exp 101)))) := fun W h => snat_any neg B _ cB m 101 exp W h hl12 ⟨by omega, by omega⟩
          unfold TextP at ConT
          unfold StrP at ConV
          generalize bstr (sgnT neg (natT m exp 101)) = R at *
          go_wp2_with fail
          generalize w2.alloc (.cells #[.bool neg, .slice B (digs 65536 m).length cB, .int .i64 exp] 29) = W3 at HS a0 a1 a2 a3 b0 b1 b2 ⊢
          clear a0 a1 a2 a3 b0 b1 b2
          go_region_held3 (fun W => (W.cell? ⟨w.heap.size, 0, none⟩ = some (.int .i64 0) ∧ W.cell? ⟨w.heap.size, 1, none⟩ = some (.bool neg) ∧ W.cell? ⟨w.heap.size, 2, none⟩ = some (.slice A (digs 18446744073709551616 m).length c) ∧ W.cell? ⟨w.heap.size, 3, none⟩ = some (.int .i64 exp)) ∧ (W.cell? ⟨w2.heap.size, 0, none⟩ = some (.bool neg) ∧ W.cell? ⟨w2.heap.size, 1, none⟩ = some (.slice B (digs 65536 m).length cB) ∧ W.cell? ⟨w2.heap.size, 2, none⟩ = some (.int .i64 exp))) (first | exact HS.out.cells | go_keep)
            (first
              | (go_at_call 16; go_loud (refine (ConH.out _).mono ?_; rintro e4 w4 ⟨rfl, hb⟩; have HS := hide (HS.out.next hb.os hb.tape hb.output hb.size hb.block); clear hb))
              | (go_at_call 12; go_loud (refine (ConT.out _ ?_).mono ?_; exact Below.mk HS.out.bel.os HS.out.bel.tape HS.out.bel.output HS.out.bel.size HS.out.bel.block; rintro e5 w5 ⟨rfl, hb⟩; have HS := hide (HS.out.next hb.os hb.tape hb.output hb.size hb.block); clear hb))
              | (go_at_call 17; go_loud (refine (ConV.out _ ?_).mono ?_; exact HS.out.rv; rintro e6 w6 ⟨rfl, hb⟩; have HS := hide (HS.out.next hb.os hb.tape hb.output hb.size hb.block); clear hb)))
          all_goals have F9 := hide (Fin.out _ HS.out.bel)
          all_goals clear HS
          all_goals go_wp2
          all_goals go_ret
          all_goals exact F9.out
      · have wq : IntKind.u8.wrap 4 = 4 := by decide
        by_cases hth : m = 0 ∧ exp < -6
        · have ConH : Hid (∀ W, Calls Tryz.prog 16 #[.agg #[.bool neg, .slice B (digs 65536 m).length cB, .int .i64 exp]] W (fun e' w' => e' = .returned (.bool true) ∧ Below W.heap.size W w')) := fun W => by
            have h := thin_any neg B (digs 65536 m).length cB exp W
            rw [hth.1, digs_zero, List.length_nil, decide_eq_true rfl, decide_eq_true hth.2] at h
            rw [hth.1, digs_zero, List.length_nil]
            exact h
          clear hth
          go_wp2_with fail
          generalize w2.alloc (.cells #[.bool neg, .slice B (digs 65536 m).length cB, .int .i64 exp] 29) = W3 at HS a0 a1 a2 a3 b0 b1 b2 ⊢
          go_region_with (go_at_call 16; go_loud (refine (ConH.out _).mono ?_; rintro e w4 ⟨rfl, hb4⟩; have S4 := hide (HS.out.next hb4.os hb4.tape hb4.output hb4.size hb4.block); clear hb4))
          all_goals go_wp2
          all_goals go_ret
          all_goals exact Fin.out _ S4.out.bel
        · have hthin : m = 0 → -6 ≤ exp := fun h => by
            have : ¬ exp < -6 := fun h2 => hth ⟨h, h2⟩
            omega
          have ConH : Hid (∀ W, Calls Tryz.prog 16 #[.agg #[.bool neg, .slice B (digs 65536 m).length cB, .int .i64 exp]] W (fun e' w' => e' = .returned (.bool false) ∧ Below W.heap.size W w')) := fun W => by
            have h := thin_any neg B (digs 65536 m).length cB exp W
            have hd : (decide ((digs 65536 m).length = 0) && decide (exp < -6)) = false := by
              by_cases h0 : m = 0
              · have : ¬ exp < -6 := fun h2 => hth ⟨h0, h2⟩
                simp [this]
              · have : (digs 65536 m).length ≠ 0 := fun h => digs_ne_nil (by omega) (Nat.pos_of_ne_zero h0) (List.eq_nil_of_length_eq_zero h)
                simp [this]
            rw [hd] at h
            exact h
          clear hth
          have ConT : Hid (∀ W, Below w.heap.size w W → Calls Tryz.prog 12 #[.agg #[.int .i64 0, .bool neg, .slice A (digs 18446744073709551616 m).length c, .int .i64 exp], .int .u8 71] W (TextP W (sgnT neg (natT m exp 69)))) := fun W h => itext_ok neg A c m exp 71 _ W (HR.out.below h) h3 (by omega) (by omega) (HVA.out.below h) (appOK_G neg m exp h3 ⟨by omega, by omega⟩ hthin)
          have ConV : Hid (∀ W, RdG .i64 W (.slice B (digs 65536 m).length cB) (digs 65536 m) → Calls Tryz.prog 17 #[.agg #[.bool neg, .slice B (digs 65536 m).length cB, .int .i64 exp], .string ⟨#[69]⟩] W (StrP W (sgnT neg (natT m exp 69)))) := fun W h => snat_any neg B _ cB m 69 exp W h hl12 ⟨by omega, by omega⟩
          unfold TextP at ConT
          unfold StrP at ConV
          generalize bstr (sgnT neg (natT m exp 69)) = R at *
          go_wp2_with fail
          generalize w2.alloc (.cells #[.bool neg, .slice B (digs 65536 m).length cB, .int .i64 exp] 29) = W3 at HS a0 a1 a2 a3 b0 b1 b2 ⊢
          clear a0 a1 a2 a3 b0 b1 b2
          go_region_held3 (fun W => (W.cell? ⟨w.heap.size, 0, none⟩ = some (.int .i64 0) ∧ W.cell? ⟨w.heap.size, 1, none⟩ = some (.bool neg) ∧ W.cell? ⟨w.heap.size, 2, none⟩ = some (.slice A (digs 18446744073709551616 m).length c) ∧ W.cell? ⟨w.heap.size, 3, none⟩ = some (.int .i64 exp)) ∧ (W.cell? ⟨w2.heap.size, 0, none⟩ = some (.bool neg) ∧ W.cell? ⟨w2.heap.size, 1, none⟩ = some (.slice B (digs 65536 m).length cB) ∧ W.cell? ⟨w2.heap.size, 2, none⟩ = some (.int .i64 exp))) (first | exact HS.out.cells | go_keep)
            (first
              | (go_at_call 16; go_loud (refine (ConH.out _).mono ?_; rintro e4 w4 ⟨rfl, hb⟩; have HS := hide (HS.out.next hb.os hb.tape hb.output hb.size hb.block); clear hb))
              | (go_at_call 12; go_loud (refine (ConT.out _ ?_).mono ?_; exact Below.mk HS.out.bel.os HS.out.bel.tape HS.out.bel.output HS.out.bel.size HS.out.bel.block; rintro e5 w5 ⟨rfl, hb⟩; have HS := hide (HS.out.next hb.os hb.tape hb.output hb.size hb.block); clear hb))
              | (go_at_call 17; go_loud (refine (ConV.out _ ?_).mono ?_; exact HS.out.rv; rintro e6 w6 ⟨rfl, hb⟩; have HS := hide (HS.out.next hb.os hb.tape hb.output hb.size hb.block); clear hb)))
          all_goals have F9 := hide (Fin.out _ HS.out.bel)
          all_goals clear HS
          all_goals go_wp2
          all_goals go_ret
          all_goals exact F9.out
  · have con := finite_out form neg A xs.length c exp w1 hout
    have Con := hide con
    clear con hout
    go_wp2_with fail
    refine (Con.out).mono ?_
    rintro e w2 ⟨rfl, hb⟩
    have F2 := hide (Fin.out _ (below_al (below_next H1.out.2.1 hb) (.cells #[.bool false, .slice none 0 0, .int .i64 0] 29)))
    clear hb Con H1
    go_wp2
    go_ret
    exact F2.out
end Go.Proofs.YtlepebogjpcfoaaGreatDoor

set_option linter.unusedVariables false
set_option linter.unusedSimpArgs false
namespace Go.Proofs.YtlepebogjpcfoaaGreatDoor
open Go Go.ChangeShapes Go.WideShapes Go.ChangeAt Go.RowKit Go.Joins

/-- The heap that the door's own run leaves meets the condition. -/
theorem fnText_met (os : Os) (args : Array Value) : laidMetH Tryz.prog Rows.fnTextRow.laid ((World.doorLaid Tryz.prog 400 os).forCall (fun _ _ => 0) ⟨#[], args, []⟩).memory :=
  laidMetH_of_parts3 (fuel := 8) (laidMet_of_run' 8 (by kernel_rfl) (by kernel_rfl)) (by kernel_rfl) (by kernel_rfl)

set_option maxRecDepth 100000 in
theorem fnText_lifted (os : Os) (started : os.Started) (H : Type) (enc : TypeId × Value → H) :
    ReturnsInHanded {} Tryz.checked os 3 .any (fun w args => (Rows.fnTextSpec.pre enc Tryz.prog Tryz.f3 [] false w args ∧ laidMetH Tryz.prog Rows.fnTextRow.laid w) ∧ sizedMet enc Tryz.prog Tryz.f3 (OpenSpec.ofChange Rows.fnTextSpec) false w args) (Rows.fnTextSpec.post enc Tryz.prog Tryz.f3 false true false false) := by
  refine returnsInHanded_of_change_and (C := Tryz.checked) (X := fun w _ => laidMetH Tryz.prog Rows.fnTextRow.laid w) (fun _ _ _ hh h => h.of_heap hh) own started (by kernel_rfl) Tryz.func3
    (ChangeSpec.witness_shaped (enc := enc) (C := Tryz.checked) (os := os) (X := fun w _ => laidMetH Tryz.prog Rows.fnTextRow.laid w) false (World.doorLaid Tryz.prog 400 os) #[.agg #[.int .i64 0, .bool false, .slice none 0 0, .int .i64 0], .int .u8 0] 8 rfl (World.shaped_of_RefB (by kernel_rfl) (by kernel_rfl)) (by kernel_rfl) (by kernel_rfl) (by kernel_rfl) (fnText_met os _)) ?_
  intro W base args ds gs before hval0 hW _ _ hL _
  have hval : ∀ (j : Nat) t v, Tryz.f3.params[j]? = some t → args[j]? = some v → Value.okWide Tryz.prog W .any base t v := hval0
  have hW' := hW
  obtain ⟨p, q, hA0, hV, rfl, _, _⟩ := hW
  have hA : DataW.TrodAll enc Tryz.prog W 0 (fun _ => true) true Tryz.f3.params.toList args.toList ds p := hA0
  rw [Tryz.params3] at hA hval
  obtain ⟨v0, vs0, d0, ds0, p0, q0, hargs, rfl, rfl, h0, r0⟩ := trodAll_cons hA
  obtain ⟨v1, vs1, d1, ds1, p1, q1, rfl, rfl, rfl, h1, r1⟩ := trodAll_cons r0
  obtain ⟨rfl, rfl, rfl⟩ := trodAll_nil r1
  obtain rfl : args = #[v0, v1] := by cases args; simp_all
  have hlen := trodVars_len hV
  obtain ⟨g1, g2, g3, g4, g5, rfl⟩ : ∃ g1 g2 g3 g4 g5, gs = [g1, g2, g3, g4, g5] := by
    match gs, hlen with
    | [g1, g2, g3, g4, g5], _ => exact ⟨_, _, _, _, _, rfl⟩
  have lt0 : ∀ x ∈ p0, x.block < W.heap.size := by obtain ⟨m, hm⟩ := h0; exact DataW.trod_lt m _ _ _ hm
  obtain ⟨form0, neg0, A0, c0, xs0, exp0, rfl, hv0, hd0, wf0, we0⟩ := dec_open (hval 0 24 v0 rfl rfl) h0
  obtain ⟨n1, rfl, rfl, rfl, wn1⟩ := open_int Tryz.underlying5 (hval 1 5 v1 rfl rfl) h1
  clear hA0 hval0
  have hvars : VarsT W := ⟨varsL_of hL (by kernel_rfl) (by first | exact List.mem_of_getElem? (i := 0) rfl | exact List.mem_of_getElem? (i := 1) rfl | exact List.mem_of_getElem? (i := 2) rfl | exact List.mem_of_getElem? (i := 3) rfl | exact List.mem_of_getElem? (i := 4) rfl | exact List.mem_of_getElem? (i := 5) rfl | exact List.mem_of_getElem? (i := 6) rfl | exact List.mem_of_getElem? (i := 7) rfl) (by first | exact List.mem_of_getElem? (i := 0) rfl | exact List.mem_of_getElem? (i := 1) rfl | exact List.mem_of_getElem? (i := 2) rfl | exact List.mem_of_getElem? (i := 3) rfl | exact List.mem_of_getElem? (i := 4) rfl | exact List.mem_of_getElem? (i := 5) rfl | exact List.mem_of_getElem? (i := 6) rfl | exact List.mem_of_getElem? (i := 7) rfl) (by first | exact List.mem_of_getElem? (i := 0) rfl | exact List.mem_of_getElem? (i := 1) rfl | exact List.mem_of_getElem? (i := 2) rfl | exact List.mem_of_getElem? (i := 3) rfl | exact List.mem_of_getElem? (i := 4) rfl | exact List.mem_of_getElem? (i := 5) rfl | exact List.mem_of_getElem? (i := 6) rfl | exact List.mem_of_getElem? (i := 7) rfl) (by first | exact List.mem_of_getElem? (i := 0) rfl | exact List.mem_of_getElem? (i := 1) rfl | exact List.mem_of_getElem? (i := 2) rfl | exact List.mem_of_getElem? (i := 3) rfl | exact List.mem_of_getElem? (i := 4) rfl | exact List.mem_of_getElem? (i := 5) rfl | exact List.mem_of_getElem? (i := 6) rfl | exact List.mem_of_getElem? (i := 7) rfl), tabT_of hL (by kernel_rfl) (by first | exact List.mem_of_getElem? (i := 0) rfl | exact List.mem_of_getElem? (i := 1) rfl | exact List.mem_of_getElem? (i := 2) rfl | exact List.mem_of_getElem? (i := 3) rfl | exact List.mem_of_getElem? (i := 4) rfl | exact List.mem_of_getElem? (i := 5) rfl | exact List.mem_of_getElem? (i := 6) rfl | exact List.mem_of_getElem? (i := 7) rfl)⟩
  refine (fnText_walk form0 neg0 A0 c0 xs0 exp0 n1 W hvars hv0 hd0 wf0 we0 wn1).mono fun e W' ⟨he, bel⟩ => ?_
  subst he
  exact ⟨_, rfl, _, _, _, [], _, q, hW', trodAll_mk1 (shut_bool Tryz.underlying4 _), (trodAll_cons_mk (Below.trod laidOut (by kernel_rfl) (of_decide_eq_true (by kernel_rfl)) h0 bel lt0) (trodAll_cons_mk (shut_int Tryz.underlying5 wn1) trodAll_mk0)), bel.trodVars laidOut (by kernel_rfl) hV, bel.frame _, fun h => by cases h⟩

/-! The row's closed facts, each a declaration of its own (in one they want more memory than there is). -/
theorem fnText_c0 : (Rows.fnTextRow.wf (OpenSpec.ofChange Rows.fnTextSpec)) = true := by kernel_rfl
theorem fnText_c1 : (laidOutB Tryz.prog) = true := by kernel_rfl
theorem fnText_c2 : (mapsRowed Tryz.prog) = true := by kernel_rfl
theorem fnText_c3 : (Tryz.f3.params.all (Tryz.prog.readableRec ·)) = true := by kernel_rfl
theorem fnText_c4 : (namedTie Tryz.prog Rows.fnTextRow.named Rows.fnTextSpec.vars) = true := by kernel_rfl
theorem fnText_c5 : ((Rows.fnTextRow.stops == [])) = true := by kernel_rfl
theorem fnText_c6 : ((Tryz.prog.stops == [])) = true := by kernel_rfl
theorem fnText_c7 : ((Rows.fnTextRow.knobs == [])) = true := by kernel_rfl
theorem fnText_c8 : ((Tryz.prog.stopKnobs == [])) = true := by kernel_rfl
theorem fnText_c9 : ((Rows.fnTextRow.inPlace == Tryz.prog.inPlace 3)) = true := by kernel_rfl
theorem fnText_c10 : ((Rows.fnTextRow.unfollowed == Tryz.prog.unfollowed 3)) = true := by kernel_rfl
theorem fnText_c11 : ((Rows.fnTextRow.recurses == Tryz.prog.recurses 3)) = true := by kernel_rfl
theorem fnText_c12 : ((Rows.fnTextRow.named == Tryz.prog.varsNamed 3)) = true := by kernel_rfl
theorem fnText_c13 : ((Rows.fnTextRow.maps == (Tryz.f3.params.toList ++ Rows.fnTextSpec.plain.varTypes Tryz.prog).any (Tryz.prog.mapsRec ·))) = true := by kernel_rfl
theorem fnText_c14 : ((Rows.fnTextRow.ifaces == (Tryz.f3.params.toList ++ Rows.fnTextSpec.plain.varTypes Tryz.prog).any (Tryz.prog.ifacesRec ·))) = true := by kernel_rfl
theorem fnText_c15 : ((Rows.fnTextRow.mapsOut == Tryz.prog.mapsAmong Tryz.f3.resultTypes.toList)) = true := by kernel_rfl
theorem fnText_c16 : ((Rows.fnTextRow.loops == (Tryz.f3.params.toList ++ Rows.fnTextSpec.plain.varTypes Tryz.prog).any (Tryz.prog.loopsFrom ·))) = true := by kernel_rfl
theorem fnText_c17 : ((Rows.fnTextRow.wideKeys == (Tryz.f3.params.toList ++ Rows.fnTextSpec.plain.varTypes Tryz.prog ++ Tryz.f3.resultTypes.toList).any (Tryz.prog.wideKeysFrom ·))) = true := by kernel_rfl
theorem fnText_c18 : (Rows.fnTextSpec.vars.all (Tryz.prog.varReadable ·)) = true := by kernel_rfl
theorem fnText_c19 : (Tryz.f3.resultTypes.all (fun t => Tryz.prog.readableRec t && decide (t < Tryz.prog.types.size))) = true := by kernel_rfl
theorem fnText_c20 : ((Rows.fnTextRow.ifacesOut == Tryz.f3.resultTypes.toList.any (Tryz.prog.ifacesRec ·))) = true := by kernel_rfl
theorem fnText_c21 : ((Rows.fnTextRow.loopsOut == Tryz.f3.resultTypes.toList.any (Tryz.prog.loopsFrom ·))) = true := by kernel_rfl
theorem fnText_c22 : ((Rows.fnTextRow.plainKeys == Tryz.prog.plainKeys)) = true := by kernel_rfl
theorem fnText_c23 : (Rows.fnTextRow.shortTexts.isNone) = true := by kernel_rfl
theorem fnText_c24 : (Tryz.prog.stopsHeard) = true := by kernel_rfl
theorem fnText_c25 : (Tryz.prog.mayEnter) = true := by kernel_rfl
theorem fnText_c26 : ((Rows.fnTextRow.lifted == Tryz.prog.liftsFinal)) = true := by kernel_rfl
theorem fnText_c27 : ((Tryz.prog.make == some Rows.fnTextRow.make)) = true := by kernel_rfl
theorem fnText_c28 : ((Rows.fnTextRow.kinds == (if Rows.fnTextRow.domain.isEmpty then [] else Tryz.f3.params.toList.map fun t => match Tryz.prog.underlying t with | some (.int k) => some k | _ => none))) = true := by kernel_rfl
theorem fnText_c29 : ((Rows.fnTextRow.pinned == Rows.fnTextRow.pinnedBy)) = true := by kernel_rfl
theorem fnText_c30 : ((Rows.fnTextRow.veiled == (Tryz.f3.params.toList ++ Rows.fnTextSpec.plain.varTypes Tryz.prog ++ Tryz.f3.resultTypes.toList).any (Tryz.prog.veiledRec ·))) = true := by kernel_rfl
theorem fnText_c31 : (Rows.fnTextRow.veiledFits Tryz.prog Tryz.f3.params.toList (Tryz.f3.params.toList ++ Rows.fnTextSpec.plain.varTypes Tryz.prog ++ Tryz.f3.resultTypes.toList)) = true := by kernel_rfl
theorem fnText_both {a b : Bool} (h : a = true) (k : b = true) : (a && b) = true := by subst h; exact k
set_option maxRecDepth 100000 in
theorem fnText_closed : joinedFacts Tryz.prog 3 Tryz.f3 Rows.fnTextSpec Rows.fnTextRow = true := by
  unfold joinedFacts
  exact (fnText_both (fnText_both (fnText_both (fnText_both (fnText_both (fnText_both (fnText_both (fnText_both (fnText_both (fnText_both (fnText_both (fnText_both (fnText_both (fnText_both (fnText_both (fnText_both (fnText_both (fnText_both (fnText_both (fnText_both (fnText_both (fnText_both (fnText_both (fnText_both (fnText_both (fnText_both (fnText_both (fnText_both (fnText_both (fnText_both (fnText_both fnText_c0 fnText_c1) fnText_c2) fnText_c3) fnText_c4) fnText_c5) fnText_c6) fnText_c7) fnText_c8) fnText_c9) fnText_c10) fnText_c11) fnText_c12) fnText_c13) fnText_c14) fnText_c15) fnText_c16) fnText_c17) fnText_c18) fnText_c19) fnText_c20) fnText_c21) fnText_c22) fnText_c23) fnText_c24) fnText_c25) fnText_c26) fnText_c27) fnText_c28) fnText_c29) fnText_c30) fnText_c31)

theorem fnText_over : Rows.fnTextRow.holds Tryz.pinned (OpenSpec.ofChange Rows.fnTextSpec) :=
  OpenClaim.holds_of_wide 3 Tryz.f3 rfl rfl rfl rfl rfl rfl rfl ⟨rfl, rfl, rfl, rfl, rfl⟩ rfl rfl rfl rfl rfl (by kernel_rfl) Tryz.func3 fnText_closed
    (of_decide_eq_true (by kernel_rfl)) (by unfold Func.isWrapper; first | (rw [if_pos (by decide +kernel)]; kernel_rfl) | (rw [if_neg (by decide +kernel)]; exact ⟨rfl, rfl⟩))
    (fun os started H enc _ => fnText_lifted os started H enc)

/-- The tied card. -/
theorem fnText_holds : Rows.FnTextCardSaid :=
  Claim7.holds_tied_plain_at .later [] [.data, .data, .data, .data, .data, .data, .data, .data] true Rows.fnTextCard.stood.harness Rows.fnTextCard.stood.looks
    fnText_over (fun _ h => by cases h) (by kernel_rfl) (fun _ h => by cases h) fnText_row_tie rfl ⟨rfl, rfl⟩ (by kernel_rfl) (by kernel_rfl)
    (fun f fn hf hfn => by
      obtain rfl : f = 3 := Option.some.inj ((show Tryz.prog.funcNamed "loop.example/pub-g03241/laws.FnText" = some 3 by kernel_rfl).symm.trans hf) |>.symm
      obtain rfl : fn = Tryz.f3 := (Option.some.inj (Tryz.func3.symm.trans hfn)).symm
      have hall : Tryz.f3.params.all (fun t => !(Tryz.prog.wantsStandIn t)) = true := by kernel_rfl
      exact ⟨by kernel_rfl, fun j t ht => by
        obtain ⟨hj, rfl⟩ := Array.getElem?_eq_some_iff.1 ht
        have h1 := Array.all_eq_true.1 hall j hj
        have h2 : Tryz.prog.wantsStandIn (Tryz.f3.params[j]) = false := by simpa using h1
        exact h2⟩)
    (by kernel_rfl)
#print axioms fnText_holds
end Go.Proofs.YtlepebogjpcfoaaGreatDoor
