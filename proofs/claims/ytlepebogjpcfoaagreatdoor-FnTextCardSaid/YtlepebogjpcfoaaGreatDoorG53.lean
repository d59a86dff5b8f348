/- Parts of the proofs: SpText2, Thin. -/
import Derived.Test.YtlepebogjpcfoaaGreatDoorG29
import Derived.Test.YtlepebogjpcfoaaGreatDoorG30
import Derived.Test.YtlepebogjpcfoaaGreatDoorG52
/- Walks: the reference's Fixed, Scientific, Natural. -/
set_option linter.unusedVariables false
set_option linter.unusedSimpArgs false
namespace Go.Proofs.YtlepebogjpcfoaaGreatDoor
open Go.RowKit

theorem dlz {b n : Nat} (hb : 1 < b) : (digs b n).length = 0 ↔ n = 0 := by
  constructor
  · intro h
    have := lt_of_digs_length (b := b) (k := 0) (n := n) hb (by omega)
    simpa using this
  · rintro rfl
    simp [digs]

/-- A value's box, beside what its slice leads to. -/
structure VbS (w : World) (g : Nat) (n : Bool) (B : Option Addr) (l c a : Nat) (e : Int) (W : World) : Prop where
  bel : Below w.heap.size w W
  b : Blk W g 29 #[.bool n, .slice B l c, .int .i64 e]
  r : RdG .i64 W (.slice B l c) (digs 65536 a)
theorem VbS.below {w : World} {g : Nat} {n : Bool} {B : Option Addr} {l c a : Nat} {e : Int} {W W' : World} (h : VbS w g n B l c a e W) (hb : Below W.heap.size W W') : VbS w g n B l c a e W' := ⟨below_next h.bel hb, h.b.below hb, h.r.below hb⟩
theorem VbS.start (w : World) (n : Bool) (B : Option Addr) (l c a : Nat) (e : Int) (hr : RdG .i64 w (.slice B l c) (digs 65536 a)) : VbS w w.heap.size n B l c a e (w.alloc (.cells #[.bool n, .slice B l c, .int .i64 e] 29)) :=
  ⟨below_al (Below.refl _ _) _, Blk.new _ _ _, hr.below (below_al (Below.refl _ _) _)⟩
theorem figs60 {l a : Nat} (h : (digs 65536 a).length = l) (hl : l ≤ 12) : figs a ≤ 60 := by
  unfold figs
  split
  · omega
  · have := figs_le (n := a) (k := 12) (by omega); omega

set_option maxHeartbeats 2000000 in
set_option maxRecDepth 20000 in
theorem sfixed_any (n : Bool) (B : Option Addr) (l c a : Nat) (e : Int) (w : World) (hr : RdG .i64 w (.slice B l c) (digs 65536 a)) (hl : l ≤ 12) (he : -200 ≤ e ∧ e ≤ 200) :
    Calls Tryz.prog 15 #[.agg #[.bool n, .slice B l c, .int .i64 e]] w (StrP w (sgnT n (fixT a e))) := by
  have hlen := RdG.len hr
  have hf := figs60 hlen.symm hl
  have H0 := hide (VbS.start w n B l c a e hr)
  have hdl : (decB a).length ≤ 60 := by rw [decB_length]; exact hf
  have ConD : Hid (∀ W, RdG .i64 W (.slice B l c) (digs 65536 a) → Calls Tryz.prog 34 #[.slice B l c] W (StrP W (decB a))) := fun W h => sdigits_any B l c a W h (by omega)
  have hl0 : (l = 0) ↔ a = 0 := by rw [hlen]; exact (by constructor <;> intro h; exact (dlz (by omega)).1 h; exact (dlz (by omega)).2 h)
  have HL := hide (And.intro hl0 (And.intro hdl he))
  have HF : Hid (∀ w', Below w.heap.size w w' → StrP w (sgnT n (fixT a e)) (.returned (.string (bstr (sgnT n (fixT a e))))) w') := fun w' h => ⟨rfl, h⟩
  unfold StrP at ConD
  obtain ⟨gx, hgx⟩ : ∃ g, g = w.heap.size := ⟨_, rfl⟩
  clear hr hlen hf hdl hl0 he
  go_enter Tryz.func15, Tryz.ntmps15
  go_wp2_with fail
  generalize w.alloc (.cells #[.bool n, .slice B l c, .int .i64 e] 29) = W0 at H0 ⊢
  rw [← hgx] at H0 ⊢
  clear hgx
  refine (ConD.out _ H0.out.r).mono ?_
  rintro e1 w1 ⟨rfl, hb1⟩
  have HS := hide (H0.out.below hb1)
  obtain ⟨c0, c1, c2⟩ := HS.out.b.val3
  clear hb1 H0 ConD
  by_cases h0 : e ≤ 0
  · obtain ⟨k, hk⟩ : ∃ k : Nat, -e = (k : Int) := ⟨(-e).toNat, by omega⟩
    have hks : k ≤ 1000 := by have := HL.out.2.2; omega
    have hfx : fixT a e = pointT (decB a) k := by unfold fixT; rw [if_pos h0, hk, Int.toNat_natCast]
    have hpl : (pointT (decB a) k).length ≤ 100000 := by
      have := HL.out.2.1
      unfold pointT padT; split <;> simp <;> omega
    have ConP : Hid (∀ W, Calls Tryz.prog 37 #[.string (bstr (decB a)), .int .i64 (k : Int)] W (StrP W (fixT a e))) := fun W => by rw [hfx]; exact spointed_any (decB a) k W (by have := HL.out.2.1; omega) hks
    have ConS : Hid (∀ W, Calls Tryz.prog 35 #[.bool n, .string (bstr (fixT a e))] W fun e' w' => e' = .returned (.string (bstr (sgnT n (fixT a e)))) ∧ W = w') := fun W => ssigned_any n (fixT a e) W (by rw [hfx]; exact hpl)
    have w1' : IntKind.i64.wrap (-e) = (k : Int) := i64_sm hk (by omega)
    have w2' : wrap64 (k : Int) = (k : Int) := by unfold wrap64; omega
    have w3' : IntKind.i64.wrap (k : Int) = (k : Int) := i64_sm rfl (by omega)
    unfold StrP at ConP
    clear hfx hpl hks HL
    generalize bstr (sgnT n (fixT a e)) = R at *
    generalize bstr (fixT a e) = R1 at *
    generalize bstr (decB a) = S at *
    go_wp2_with fail
    clear c0 c1 c2
    go_region_held3 (fun W => (W.cell? ⟨gx, 0, none⟩ = some (.bool n) ∧ W.cell? ⟨gx, 1, none⟩ = some (.slice B l c) ∧ W.cell? ⟨gx, 2, none⟩ = some (.int .i64 e))) (first | exact HS.out.b.val3 | go_keep)
      (first
        | (go_at_call 37; go_loud (refine (ConP.out _).mono ?_; rintro e2 w2 ⟨rfl, hb2⟩; have HS := hide (HS.out.below (Below.mk (w := w1) hb2.os hb2.tape hb2.output hb2.size hb2.block)); clear hb2))
        | (go_at_call 35; go_loud (refine (ConS.out _).mono ?_; rintro e3 w3 ⟨rfl, rfl⟩)))
    all_goals have HE := hide (HF.out _ HS.out.bel)
    all_goals clear HF HS ConP ConS
    all_goals go_wp2
    all_goals go_ret
    all_goals exact HE.out
  · obtain ⟨k, hk⟩ : ∃ k : Nat, e = (k : Int) := ⟨e.toNat, by omega⟩
    have hks : k ≤ 200 := by have := HL.out.2.2; omega
    by_cases ha : a = 0
    · have hl0 : l = 0 := HL.out.1.2 ha
      have hfx : fixT a e = decB a := by unfold fixT; rw [if_neg h0, if_neg (by omega)]
      have ConS : Hid (∀ W, Calls Tryz.prog 35 #[.bool n, .string (bstr (decB a))] W fun e' w' => e' = .returned (.string (bstr (sgnT n (fixT a e)))) ∧ W = w') := fun W => by rw [hfx]; exact ssigned_any n (decB a) W (by have := HL.out.2.1; omega)
      subst hl0
      have HE := hide (HF.out _ HS.out.bel)
      clear hfx HL HF HS ha hk hks
      generalize bstr (sgnT n (fixT a e)) = R at *
      generalize bstr (decB a) = S at *
      go_wp2_with fail
      refine (ConS.out _).mono ?_
      rintro e3 w3 ⟨rfl, rfl⟩
      go_wp2
      go_ret
      exact HE.out
    · have hl0 : (0 : Int) < (l : Int) := by have h := HL.out.1; have : l ≠ 0 := fun h' => ha (h.1 h'); omega
      have hfx : fixT a e = decB a ++ List.replicate k 48 := by unfold fixT; rw [if_neg h0, if_pos (by omega), hk, Int.toNat_natCast]
      have ConS : Hid (∀ W, Calls Tryz.prog 35 #[.bool n, .string (bstr (decB a ++ List.replicate k 48))] W fun e' w' => e' = .returned (.string (bstr (sgnT n (fixT a e)))) ∧ W = w') := fun W => by rw [hfx]; exact ssigned_any n _ W (by have := HL.out.2.1; simp; omega)
      have HKs := hide (And.intro hks (And.intro hk HL.out.2.1))
      clear hfx HL ha hks hk
      generalize bstr (sgnT n (fixT a e)) = R at *
      go_wp2_with fail
      go_loopw [3, 24] (fun vs vi wr => ∃ i : Nat, i ≤ k ∧ vi = .int .i64 (i : Int) ∧ vs = .string (bstr (decB a ++ List.replicate i 48)) ∧ wr = w1) (fun _ vi _ => match vi with | .int _ i => k - i.toNat | _ => 0)
      case atStart => exact ⟨0, by omega, rfl, by simp, rfl⟩
      case round =>
        obtain ⟨i, hi, rfl, rfl, rfl⟩ := hrel
        by_cases h : i = k
        · subst h
          have hge : ¬ (i : Int) < e := by have := HKs.out.2.1; omega
          have HE := hide (HF.out _ HS.out.bel)
          clear HKs HF HS
          generalize bstr (decB a ++ List.replicate i 48) = S at *
          go_wp2_with fail
          refine (ConS.out _).mono ?_
          rintro e3 w3 ⟨rfl, rfl⟩
          go_wp2
          go_ret
          exact HE.out
        · have hlt : (i : Int) < e := by have := HKs.out.2.1; omega
          have hw : IntKind.i64.wrap ((i : Int) + 1) = ((i + 1 : Nat) : Int) := i64_sm (by omega) (by have := HKs.out.1; omega)
          have ha1 : ∀ W, (Op.stringOp .add (bstr (decB a ++ List.replicate i 48)) ⟨#[48]⟩).run Tryz.prog W = .ok (.string (bstr (decB a ++ List.replicate (i + 1) 48))) W := fun W => add_text (b := bstr [48]) (by rw [← bstr_append, List.append_assoc, show List.replicate i 48 ++ [48] = List.replicate (i + 1) 48 from (List.replicate_succ' ..).symm]) (by rw [bstr_size, bstr_size]; have := HKs.out.1; have := HKs.out.2.2; simp; omega) W
          have HR : Hid (∃ i' : Nat, i' ≤ k ∧ ((i : Int) + 1) = (i' : Int) ∧ (bstr (decB a ++ List.replicate (i + 1) 48)) = (bstr (decB a ++ List.replicate i' 48))) := ⟨i + 1, by omega, rfl, rfl⟩
          have HM : Hid (k - ((i : Int) + 1).toNat < k - (i : Int).toNat) := by show _ < _; omega
          clear HKs hi
          generalize bstr (decB a ++ List.replicate i 48) = S at *
          go_wp2
          go_roundw
          case rel =>
            refine ⟨i + 1, ?_, rfl, rfl, trivial⟩
            obtain ⟨i', h1, h2, -⟩ := HR.out
            omega
          case measure => exact HM.out

/-- The figures with a point behind the first one. -/
def mantT (a : Nat) : List Nat := if 1 < figs a then (decB a).take 1 ++ 46 :: (decB a).drop 1 else decB a
set_option maxHeartbeats 2000000 in
set_option maxRecDepth 20000 in
theorem ssci_any (n : Bool) (B : Option Addr) (l c a ch : Nat) (e : Int) (w : World) (hr : RdG .i64 w (.slice B l c) (digs 65536 a)) (hl : l ≤ 12) (he : -200 ≤ e ∧ e ≤ 200) :
    Calls Tryz.prog 13 #[.agg #[.bool n, .slice B l c, .int .i64 e], .string (bstr [ch])] w (StrP w (sgnT n (sciT a e ch))) := by
  have hlen := RdG.len hr
  have hf := figs60 hlen.symm hl
  have H0 := hide (VbS.start w n B l c a e hr)
  have hdl : (decB a).length = figs a := decB_length a
  have hsz : (bstr (decB a)).size = figs a := by rw [bstr_size, hdl]
  have hml : (mantT a).length ≤ 70 := by
    unfold mantT
    split
    · simp; omega
    · omega
  obtain ⟨x, hx⟩ : ∃ x : Int, x = e + (figs a : Int) - 1 := ⟨_, rfl⟩
  have hfp := figs_pos a
  have hxs : -300 ≤ x ∧ x ≤ 300 := by omega
  have hsci : sciT a e ch = (mantT a ++ [ch]) ++ wholeT x := by unfold sciT mantT; rw [hx]
  have hwl : (wholeT x).length ≤ 1000 := by
    unfold wholeT
    rw [List.length_cons, decB_length]
    unfold figs
    split
    · omega
    · have := digs_length_le (b := 10) (n := x.natAbs) (k := 10) (by omega) (by omega); omega
  have ConD : Hid (∀ W, RdG .i64 W (.slice B l c) (digs 65536 a) → Calls Tryz.prog 34 #[.slice B l c] W (StrP W (decB a))) := fun W h => sdigits_any B l c a W h (by omega)
  have ConW : Hid (∀ W, Calls Tryz.prog 36 #[.int .i64 x] W (StrP W (wholeT x))) := fun W => swhole_any x W (by omega)
  have ConS : Hid (∀ W, Calls Tryz.prog 35 #[.bool n, .string (bstr ((mantT a ++ [ch]) ++ wholeT x))] W fun e' w' => e' = .returned (.string (bstr (sgnT n (sciT a e ch)))) ∧ W = w') := fun W => by rw [hsci]; exact ssigned_any n _ W (by simp; omega)
  have a1 : ∀ W, (Op.stringOp .add (bstr (mantT a)) (bstr [ch])).run Tryz.prog W = .ok (.string (bstr (mantT a ++ [ch]))) W := fun W => add_text (bstr_append _ _).symm (by rw [bstr_size, bstr_size]; simp; omega) W
  have a2 : ∀ W, (Op.stringOp .add (bstr (mantT a ++ [ch])) (bstr (wholeT x))).run Tryz.prog W = .ok (.string (bstr ((mantT a ++ [ch]) ++ wholeT x))) W := fun W => add_text (bstr_append _ _).symm (by rw [bstr_size, bstr_size]; simp; omega) W
  have a3 : ∀ W, (Op.stringOp .add (bstr ((decB a).take 1)) ⟨#[46]⟩).run Tryz.prog W = .ok (.string (bstr ((decB a).take 1 ++ [46]))) W := fun W => add_text (b := bstr [46]) (bstr_append _ _).symm (by rw [bstr_size, bstr_size]; simp; omega) W
  have a4 : 1 < figs a → ∀ W, (Op.stringOp .add (bstr ((decB a).take 1 ++ [46])) (bstr ((decB a).drop 1))).run Tryz.prog W = .ok (.string (bstr (mantT a))) W := fun h W => add_text (by unfold mantT; rw [if_pos h, ← bstr_append]; simp) (by rw [bstr_size, bstr_size]; simp; omega) W
  have s1 : 1 < figs a → ∀ W, (Instr.slice 9 (.string (bstr (decB a))) none (some (.int .i64 1)) none).run Tryz.prog W = .ok (.string (bstr ((decB a).take 1))) W := fun h W => by
    rw [run_slice_string_h W 9 (bstr (decB a)) (by kernel_rfl) .i64 1 (by omega) (by rw [hsz]; omega), bstr_extract]
    simp
  have s2 : 1 < figs a → ∀ W, (Instr.slice 9 (.string (bstr (decB a))) (some (.int .i64 1)) none none).run Tryz.prog W = .ok (.string (bstr ((decB a).drop 1))) W := fun h W => by
    rw [run_slice_string_l W 9 (bstr (decB a)) (by kernel_rfl) .i64 1 (by omega) (by rw [hsz]; omega), bstr_extract, bstr_size]
    rw [List.take_of_length_le (by simp)]
    simp
  have hmant : ¬ 1 < figs a → mantT a = decB a := fun h => by unfold mantT; rw [if_neg h]
  obtain ⟨x1, hx1⟩ : ∃ x1 : Int, x1 = e + (figs a : Int) := ⟨_, rfl⟩
  have w1' : IntKind.i64.wrap (e + (figs a : Int)) = x1 := i64_sm hx1.symm (by omega)
  have w2' : IntKind.i64.wrap (x1 - 1) = x := i64_sm (by omega) (by omega)
  have HF : Hid (∀ w', Below w.heap.size w w' → StrP w (sgnT n (sciT a e ch)) (.returned (.string (bstr (sgnT n (sciT a e ch))))) w') := fun w' h => ⟨rfl, h⟩
  unfold StrP at ConD ConW
  obtain ⟨gx, hgx⟩ : ∃ g, g = w.heap.size := ⟨_, rfl⟩
  clear hr hlen hf hdl hml hx hfp hxs hsci hwl hx1 he
  generalize bstr (sgnT n (sciT a e ch)) = R at *
  generalize bstr ((mantT a ++ [ch]) ++ wholeT x) = R1 at *
  generalize bstr (mantT a ++ [ch]) = R2 at *
  generalize bstr (wholeT x) = R3 at *
  generalize bstr ((decB a).take 1 ++ [46]) = R4 at *
  generalize bstr ((decB a).take 1) = R5 at *
  generalize bstr ((decB a).drop 1) = R6 at *
  go_enter Tryz.func13, Tryz.ntmps13
  go_wp2_with fail
  generalize w.alloc (.cells #[.bool n, .slice B l c, .int .i64 e] 29) = W0 at H0 ⊢
  rw [← hgx] at H0 ⊢
  clear hgx
  refine (ConD.out _ H0.out.r).mono ?_
  rintro e1 w1 ⟨rfl, hb1⟩
  have HS := hide (H0.out.below hb1)
  obtain ⟨c0, c1, c2⟩ := HS.out.b.val3
  clear hb1 H0 ConD
  by_cases h1 : 1 < figs a
  · have a4' := a4 h1
    have s1' := s1 h1
    have s2' := s2 h1
    have h1i : (1 : Int) < (figs a : Int) := by omega
    clear hmant a4 s1 s2
    generalize bstr (mantT a) = M at *
    generalize bstr (decB a) = S at *
    generalize figs a = N at *
    go_wp2_with fail
    go_quiet (fail)
    go_wp2_with fail
    clear c0 c1 c2
    go_region_held3 (fun W => (W.cell? ⟨gx, 0, none⟩ = some (.bool n) ∧ W.cell? ⟨gx, 1, none⟩ = some (.slice B l c) ∧ W.cell? ⟨gx, 2, none⟩ = some (.int .i64 e))) (first | exact HS.out.b.val3 | go_keep)
      (first
        | (go_at_call 36; go_loud (refine (ConW.out _).mono ?_; rintro e2 w2 ⟨rfl, hb2⟩; have HS := hide (HS.out.below (Below.mk (w := w1) hb2.os hb2.tape hb2.output hb2.size hb2.block)); clear hb2))
        | (go_at_call 35; go_loud (refine (ConS.out _).mono ?_; rintro e3 w3 ⟨rfl, rfl⟩)))
    all_goals have HE := hide (HF.out _ HS.out.bel)
    all_goals clear HF HS ConW ConS
    all_goals go_wp2
    all_goals go_ret
    all_goals exact HE.out
  · have hmt := hmant h1
    have h1i : ¬ (1 : Int) < (figs a : Int) := by omega
    rw [hmt] at a1
    clear hmant a4 s1 s2 hmt a3
    generalize bstr (decB a) = S at *
    generalize figs a = N at *
    go_wp2_with fail
    clear c0 c1 c2
    go_region_held3 (fun W => (W.cell? ⟨gx, 0, none⟩ = some (.bool n) ∧ W.cell? ⟨gx, 1, none⟩ = some (.slice B l c) ∧ W.cell? ⟨gx, 2, none⟩ = some (.int .i64 e))) (first | exact HS.out.b.val3 | go_keep)
      (first
        | (go_at_call 36; go_loud (refine (ConW.out _).mono ?_; rintro e2 w2 ⟨rfl, hb2⟩; have HS := hide (HS.out.below (Below.mk (w := w1) hb2.os hb2.tape hb2.output hb2.size hb2.block)); clear hb2))
        | (go_at_call 35; go_loud (refine (ConS.out _).mono ?_; rintro e3 w3 ⟨rfl, rfl⟩)))
    all_goals have HE := hide (HF.out _ HS.out.bel)
    all_goals clear HF HS ConW ConS
    all_goals go_wp2
    all_goals go_ret
    all_goals exact HE.out

set_option maxHeartbeats 2000000 in
set_option maxRecDepth 20000 in
theorem snat_any (n : Bool) (B : Option Addr) (l c a ch : Nat) (e : Int) (w : World) (hr : RdG .i64 w (.slice B l c) (digs 65536 a)) (hl : l ≤ 12) (he : -200 ≤ e ∧ e ≤ 200) :
    Calls Tryz.prog 17 #[.agg #[.bool n, .slice B l c, .int .i64 e], .string (bstr [ch])] w (StrP w (sgnT n (natT a e ch))) := by
  have hlen := RdG.len hr
  have hf := figs60 hlen.symm hl
  have H0 := hide (VbS.start w n B l c a e hr)
  have ConG : Hid (∀ W, RdG .i64 W (.slice B l c) (digs 65536 a) → Calls Tryz.prog 38 #[.slice B l c] W fun e' w' => e' = .returned (.int .i64 (figs a : Int)) ∧ Below W.heap.size W w') := fun W h => sfigs_any B l c a W h (by omega)
  have ConX : Hid (∀ W, RdG .i64 W (.slice B l c) (digs 65536 a) → Calls Tryz.prog 15 #[.agg #[.bool n, .slice B l c, .int .i64 e]] W (StrP W (sgnT n (fixT a e)))) := fun W h => sfixed_any n B l c a e W h hl he
  have ConY : Hid (∀ W, RdG .i64 W (.slice B l c) (digs 65536 a) → Calls Tryz.prog 13 #[.agg #[.bool n, .slice B l c, .int .i64 e], .string (bstr [ch])] W (StrP W (sgnT n (sciT a e ch)))) := fun W h => ssci_any n B l c a ch e W h hl he
  obtain ⟨x1, hx1⟩ : ∃ x1 : Int, x1 = e + (figs a : Int) := ⟨_, rfl⟩
  obtain ⟨x2, hx2⟩ : ∃ x2 : Int, x2 = x1 - 1 := ⟨_, rfl⟩
  have w1' : IntKind.i64.wrap (e + (figs a : Int)) = x1 := i64_sm hx1.symm (by omega)
  have w2' : IntKind.i64.wrap (x1 - 1) = x2 := i64_sm hx2.symm (by omega)
  have HXf : Hid (x2 = e + (figs a : Int) - 1) := by show x2 = _; omega
  unfold StrP at ConX ConY
  obtain ⟨gx, hgx⟩ : ∃ g, g = w.heap.size := ⟨_, rfl⟩
  have HF : Hid (∀ T w', natT a e ch = T → Below w.heap.size w w' → StrP w (sgnT n (natT a e ch)) (.returned (.string (bstr (sgnT n T)))) w') := fun T w' e h => by rw [e]; exact ⟨rfl, h⟩
  clear hr hlen hf he hx1 hx2
  generalize bstr [ch] = L at *
  by_cases h0 : e ≤ 0
  · go_enter Tryz.func17, Tryz.ntmps17
    go_wp2_with fail
    generalize w.alloc (.cells #[.bool n, .slice B l c, .int .i64 e] 29) = W0 at H0 ⊢
    rw [← hgx] at H0 ⊢
    clear hgx
    have HS := H0
    clear H0
    go_region_held3 (fun W => (W.cell? ⟨gx, 0, none⟩ = some (.bool n) ∧ W.cell? ⟨gx, 1, none⟩ = some (.slice B l c) ∧ W.cell? ⟨gx, 2, none⟩ = some (.int .i64 e))) (first | exact HS.out.b.val3 | go_keep)
      ((go_at_call 38; go_loud (refine (ConG.out _ ?_).mono ?_; exact HS.out.r; rintro e2 w2 ⟨rfl, hb2⟩; have HS := hide (HS.out.below (Below.mk (w := W0) hb2.os hb2.tape hb2.output hb2.size hb2.block)); clear hb2)))
    obtain ⟨c0, c1, c2⟩ := HS.out.b.val3
    by_cases h6 : -6 ≤ x2
    · have hT : natT a e ch = fixT a e := by unfold natT; rw [if_pos ⟨h0, by have := HXf.out; omega⟩]
      have HF2 := hide (fun w' h => HF.out _ w' hT h)
      clear hT HF ConG ConY
      generalize bstr (sgnT n (fixT a e)) = R at *
      go_wp2_with fail
      refine (ConX.out _ HS.out.r).mono ?_
      rintro e3 w3 ⟨rfl, hb3⟩
      have HE := hide (HF2.out w3 (below_next HS.out.bel (Below.mk hb3.os hb3.tape hb3.output hb3.size hb3.block)))
      clear hb3 HF2 HS ConX c0 c1 c2
      go_wp2
      go_ret
      exact HE.out
    · have hT : natT a e ch = sciT a e ch := by unfold natT; rw [if_neg (by have := HXf.out; omega)]
      have HF2 := hide (fun w' h => HF.out _ w' hT h)
      clear hT HF ConG ConX
      generalize bstr (sgnT n (sciT a e ch)) = R at *
      go_wp2_with fail
      refine (ConY.out _ HS.out.r).mono ?_
      rintro e3 w3 ⟨rfl, hb3⟩
      have HE := hide (HF2.out w3 (below_next HS.out.bel (Below.mk hb3.os hb3.tape hb3.output hb3.size hb3.block)))
      clear hb3 HF2 HS ConY c0 c1 c2
      go_wp2
      go_ret
      exact HE.out
  · have hT : natT a e ch = sciT a e ch := by unfold natT; rw [if_neg (by omega)]
    have HF2 := hide (fun w' h => HF.out _ w' hT h)
    obtain ⟨c0, c1, c2⟩ := H0.out.b.val3
    clear hT HF ConG ConX w1' w2' HXf
    generalize bstr (sgnT n (sciT a e ch)) = R at *
    go_enter Tryz.func17, Tryz.ntmps17
    go_wp2_with fail
    generalize w.alloc (.cells #[.bool n, .slice B l c, .int .i64 e] 29) = W0 at H0 c0 c1 c2 ⊢
    rw [← hgx] at H0 c0 c1 c2 ⊢
    clear hgx
    have hd0 : decide (e ≤ 0) = false := decide_eq_false (show ¬ e ≤ 0 by omega)
    go_region
    all_goals go_wp2_with fail
    all_goals refine (ConY.out _ ?_).mono ?_
    all_goals first | exact H0.out.r | skip
    all_goals rintro e3 w3 ⟨rfl, hb3⟩
    all_goals have HE := hide (HF2.out w3 (below_next H0.out.bel (Below.mk hb3.os hb3.tape hb3.output hb3.size hb3.block)))
    all_goals clear hb3 HF2 H0 ConY c0 c1 c2
    all_goals go_wp2
    all_goals go_ret
    all_goals exact HE.out
end Go.Proofs.YtlepebogjpcfoaaGreatDoor

/- Walk: the laws' thin. -/
set_option linter.unusedVariables false
set_option linter.unusedSimpArgs false
namespace Go.Proofs.YtlepebogjpcfoaaGreatDoor
open Go.RowKit

theorem thin_any (n : Bool) (B : Option Addr) (l c : Nat) (e : Int) (w : World) : Calls Tryz.prog 16 #[.agg #[.bool n, .slice B l c, .int .i64 e]] w fun e' w' => e' = .returned (.bool (decide (l = 0) && decide (e < -6))) ∧ Below w.heap.size w w' := by
  have HB : Hid (Below w.heap.size w (w.alloc (.cells #[.bool n, .slice B l c, .int .i64 e] 29)) ∧ Blk (w.alloc (.cells #[.bool n, .slice B l c, .int .i64 e] 29)) w.heap.size 29 #[.bool n, .slice B l c, .int .i64 e]) := ⟨below_al (Below.refl _ _) _, Blk.new _ _ _⟩
  have Con := hide (fun W => ssign_any n B l c e W)
  obtain ⟨sg, hsg⟩ : ∃ sg, sg = sgnI n l := ⟨_, rfl⟩
  have hb : (sg == 0) = decide (l = 0) := by rw [hsg, sgnI_beq]
  rw [← hsg] at Con
  obtain ⟨t, ht⟩ : ∃ t, t = (decide (l = 0) && decide (e < -6)) := ⟨_, rfl⟩
  rw [← ht]
  have HT := hide ht
  clear hsg ht
  go_enter Tryz.func16, Tryz.ntmps16
  go_wp2_with fail
  generalize w.alloc (.cells #[.bool n, .slice B l c, .int .i64 e] 29) = W at HB ⊢
  refine (Con.out _).mono ?_
  rintro e' w1 ⟨rfl, hb1⟩
  have hB := HB.out.2.below hb1
  obtain ⟨c0, c1, c2⟩ := hB.val3
  have HE := hide (below_next HB.out.1 hb1)
  clear hB hb1 HB Con
  by_cases hl : l = 0
  · have hsb : (sg == 0) = true := by rw [hb]; exact decide_eq_true hl
    by_cases he : e < -6
    · obtain rfl : t = true := by rw [HT.out, decide_eq_true hl, decide_eq_true he]; rfl
      have hde : decide (e < -6) = true := decide_eq_true he
      have HD := hide hde
      clear hb hl HT
      go_wp2
      go_ret
      exact ⟨by first | rfl | exact congrArg (fun b => Ending.returned (Value.bool b)) HD.out, HE.out⟩
    · obtain rfl : t = false := by rw [HT.out, decide_eq_true hl, decide_eq_false he]; rfl
      have hde : decide (e < -6) = false := decide_eq_false he
      have HD := hide hde
      clear hb hl HT
      go_wp2
      go_ret
      exact ⟨by first | rfl | exact congrArg (fun b => Ending.returned (Value.bool b)) HD.out, HE.out⟩
  · have hsb : (sg == 0) = false := by rw [hb]; exact decide_eq_false hl
    obtain rfl : t = false := by rw [HT.out, decide_eq_false hl]; rfl
    clear hb hl HT
    go_wp2
    go_ret
    exact ⟨rfl, HE.out⟩
end Go.Proofs.YtlepebogjpcfoaaGreatDoor
