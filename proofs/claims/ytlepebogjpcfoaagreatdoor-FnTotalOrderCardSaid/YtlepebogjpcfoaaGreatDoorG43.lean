/- Parts of the proofs: Tot1, Tot2, Tot3. -/
import Derived.Test.YtlepebogjpcfoaaGreatDoorG30
import Derived.Test.YtlepebogjpcfoaaGreatDoorG39
/- Decimal.CmpTotal: forms first, then values, then exponents. -/
set_option linter.unusedVariables false
set_option linter.unusedSimpArgs false
namespace Go.Proofs.YtlepebogjpcfoaaGreatDoor
open Go.RowKit

/-- The place among the forms. -/
def ordI (n : Bool) (f : Int) : Int := if n then -(f + 1) else f + 1
/-- Of equal forms and signs: by the values' order, then by the exponents. -/
def totR (n : Bool) (r ea eb : Int) : Int := if r ≠ 0 then r else if ea < eb then (if n then 1 else -1) else if eb < ea then (if n then -1 else 1) else 0

theorem cmporder_any (g : Nat) (f : Int) (n : Bool) (w : World) (c0 : w.cell? ⟨g, 0, none⟩ = some (.int .i8 f)) (c1 : w.cell? ⟨g, 1, none⟩ = some (.bool n)) (h0 : 0 ≤ f) (h3 : f ≤ 3) :
    Calls Tryz.prog 57 #[.pointer (some ⟨g, 0, none⟩)] w fun e w' => e = .returned (.int .i64 (ordI n f)) ∧ w = w' := by
  have hf : f = 0 ∨ f = 1 ∨ f = 2 ∨ f = 3 := by omega
  clear h0 h3
  cases n
  all_goals rcases hf with rfl | rfl | rfl | rfl
  all_goals go_enter Tryz.func57, Tryz.ntmps57
  all_goals go_wp2
  all_goals go_ret
  all_goals exact ⟨rfl, rfl⟩

theorem ctot_ne (ga gb : Nat) (fa fb : Int) (na nb : Bool) (r : Int) (w : World) (a0 : w.cell? ⟨ga, 0, none⟩ = some (.int .i8 fa)) (a1 : w.cell? ⟨ga, 1, none⟩ = some (.bool na)) (b0 : w.cell? ⟨gb, 0, none⟩ = some (.int .i8 fb)) (b1 : w.cell? ⟨gb, 1, none⟩ = some (.bool nb))
    (h0 : 0 ≤ fa) (h3 : fa ≤ 3) (k0 : 0 ≤ fb) (k3 : fb ≤ 3) (h : ordI na fa < ordI nb fb ∧ r = -1 ∨ ordI nb fb < ordI na fa ∧ r = 1) :
    Calls Tryz.prog 40 #[.pointer (some ⟨ga, 0, none⟩), .pointer (some ⟨gb, 0, none⟩)] w (DcmpP w r) := by
  have Con1 := hide (cmporder_any ga fa na w a0 a1 h0 h3)
  have Con2 := hide (cmporder_any gb fb nb w b0 b1 k0 k3)
  generalize ordI na fa = p at *
  generalize ordI nb fb = q at *
  clear a0 a1 b0 b1 h0 h3 k0 k3
  rcases h with ⟨h1, rfl⟩ | ⟨h1, rfl⟩
  · go_enter Tryz.func40, Tryz.ntmps40
    go_wp2_with fail
    refine (Con1.out).mono ?_
    rintro e w1 ⟨rfl, rfl⟩
    go_wp2_with fail
    refine (Con2.out).mono ?_
    rintro e w1 ⟨rfl, rfl⟩
    go_wp2
    go_ret
    exact ⟨rfl, Below.refl _ _⟩
  · have h2 : ¬ p < q := by omega
    go_enter Tryz.func40, Tryz.ntmps40
    go_wp2_with fail
    refine (Con1.out).mono ?_
    rintro e w1 ⟨rfl, rfl⟩
    go_wp2_with fail
    refine (Con2.out).mono ?_
    rintro e w1 ⟨rfl, rfl⟩
    go_wp2
    go_ret
    exact ⟨rfl, Below.refl _ _⟩

/-- Two infinities, or two that are no number, of one form and sign. -/
theorem ctot_other (ga gb : Nat) (f : Int) (n : Bool) (w : World) (hf : f = 1 ∨ f = 2 ∨ f = 3) (hne : ga ≠ gb) (ha : Blk w ga 86 (decC f n 0 false (.slice none 0 0) false)) (hb : Blk w gb 86 (decC f n 0 false (.slice none 0 0) false)) :
    Calls Tryz.prog 40 #[.pointer (some ⟨ga, 0, none⟩), .pointer (some ⟨gb, 0, none⟩)] w (DcmpP w 0) := by
  have a0 : w.cell? ⟨ga, 0, none⟩ = some (.int .i8 f) := ha.cell 0
  have b0 : w.cell? ⟨gb, 0, none⟩ = some (.int .i8 f) := hb.cell 0
  have Con1 := hide (cmporder_any ga f n w a0 (ha.cell 1) (by omega) (by omega))
  have Con2 := hide (cmporder_any gb f n w b0 (hb.cell 1) (by omega) (by omega))
  have Con3 : Hid (∀ W, Below w.heap.size w W → Calls Tryz.prog 59 #[.pointer (some ⟨ga, 3, none⟩), .pointer (some ⟨gb, 3, none⟩)] W (CmpP W 0 0)) := fun W hW => by
    have hr : RdW W (.slice none (digs 18446744073709551616 0).length 0) (digs 18446744073709551616 0) := by rw [digs_zero]; exact .inl ⟨none, 0, rfl, rfl, Nat.zero_le _⟩
    exact bcmp_any ga 3 gb 3 86 86 _ _ none none 0 0 0 0 W (ha.below hW) rfl (by rw [digs_zero]; rfl) rfl hr (hb.below hW) rfl (by rw [digs_zero]; rfl) rfl hr (by intro e; injection e with e1 e2; exact hne e1) (by rw [digs_zero]; decide) (by rw [digs_zero]; decide)
  generalize ordI n f = p at *
  have hlt : ¬ p < p := by omega
  have hz : cmpI 0 0 = 0 := rfl
  unfold CmpP at Con3
  rw [hz] at Con3
  clear ha hb hne hz
  rcases hf with rfl | rfl | rfl
  · go_enter Tryz.func40, Tryz.ntmps40
    go_wp2_with fail
    refine (Con1.out).mono ?_
    rintro e w1 ⟨rfl, rfl⟩
    go_wp2_with fail
    refine (Con2.out).mono ?_
    rintro e w1 ⟨rfl, rfl⟩
    go_wp2
    go_ret
    exact ⟨rfl, Below.refl _ _⟩
  all_goals go_enter Tryz.func40, Tryz.ntmps40
  all_goals go_wp2_with fail
  all_goals refine (Con1.out).mono ?_
  all_goals rintro e w1 ⟨rfl, rfl⟩
  all_goals go_wp2_with fail
  all_goals refine (Con2.out).mono ?_
  all_goals rintro e w1 ⟨rfl, rfl⟩
  all_goals go_wp2_with fail
  all_goals go_region_held3 (fun _ => True) (trivial)
      ((go_at_call 59; go_loud (refine (Con3.out _ ?_).mono ?_; exact Below.mk rfl rfl rfl (Nat.le_refl _) (fun _ _ => rfl); rintro e4 w4 ⟨rfl, hb4⟩; have HB := hide (Below.mk hb4.os hb4.tape hb4.output hb4.size hb4.block); clear hb4)))
  all_goals go_wp2
  all_goals go_ret
  all_goals exact ⟨rfl, Below.mk HB.out.os HB.out.tape HB.out.output HB.out.size HB.out.block⟩

/-- Two finite ones of one sign. -/
theorem ctot_fin (ga gb : Nat) (n : Bool) (ea eb r : Int) (A B : Option Addr) (ca cb a b : Nat) (w : World) (ha : DecAt w ga n ea A ca a) (hb : DecAt w gb n eb B cb b)
    (con : ∀ W, Below w.heap.size w W → Calls Tryz.prog 58 #[.pointer (some ⟨ga, 0, none⟩), .pointer (some ⟨gb, 0, none⟩)] W (DcmpP W r)) :
    Calls Tryz.prog 40 #[.pointer (some ⟨ga, 0, none⟩), .pointer (some ⟨gb, 0, none⟩)] w (DcmpP w (totR n r ea eb)) := by
  have a0 : w.cell? ⟨ga, 0, none⟩ = some (.int .i8 0) := ha.blk.cell 0
  have Con1 := hide (cmporder_any ga 0 n w a0 (ha.blk.cell 1) (by omega) (by omega))
  have Con2 := hide (cmporder_any gb 0 n w (hb.blk.cell 0) (hb.blk.cell 1) (by omega) (by omega))
  generalize ordI n 0 = p at *
  have hlt : ¬ p < p := by omega
  have Con3 := hide con
  unfold DcmpP at Con3
  have HC : Hid (∀ w3, Below w.heap.size w w3 → w3.cell? ⟨ga, 1, none⟩ = some (.bool n) ∧ w3.cell? ⟨ga, 2, none⟩ = some (.int .i32 ea) ∧ w3.cell? ⟨gb, 2, none⟩ = some (.int .i32 eb)) := fun w3 h => ⟨(ha.below h).blk.cell 1, (ha.below h).blk.cell 2, (hb.below h).blk.cell 2⟩
  obtain ⟨q, hq⟩ : ∃ q, q = totR n r ea eb := ⟨_, rfl⟩
  rw [← hq]
  clear ha hb con
  go_enter Tryz.func40, Tryz.ntmps40
  go_wp2_with fail
  refine (Con1.out).mono ?_
  rintro e w1 ⟨rfl, rfl⟩
  go_wp2_with fail
  refine (Con2.out).mono ?_
  rintro e w1 ⟨rfl, rfl⟩
  go_wp2_with fail
  refine (Con3.out _ (Below.mk rfl rfl rfl (Nat.le_refl _) (fun _ _ => rfl))).mono ?_
  rintro e w3 ⟨rfl, hb3⟩
  have hb4 : Below w.heap.size w w3 := Below.mk hb3.os hb3.tape hb3.output hb3.size hb3.block
  obtain ⟨k1, k2, k3⟩ := HC.out w3 hb4
  have HB := hide hb4
  clear hb3 hb4 Con1 Con2 Con3 HC hlt a0
  by_cases hr : r = 0
  · subst hr
    by_cases he : ea < eb
    · have e1 : q = (if n then 1 else -1) := by rw [hq]; unfold totR; simp [he]
      clear hq
      subst e1
      cases n
      all_goals go_wp2_with fail
      all_goals go_quiet (fail)
      all_goals go_wp2
      all_goals go_ret
      all_goals exact ⟨rfl, Below.mk HB.out.os HB.out.tape HB.out.output HB.out.size HB.out.block⟩
    · by_cases he2 : eb < ea
      · have e1 : q = (if n then -1 else 1) := by rw [hq]; unfold totR; simp [he, he2]
        clear hq
        subst e1
        cases n
        all_goals go_wp2_with fail
        all_goals go_quiet (fail)
        all_goals go_wp2_with fail
        all_goals go_quiet (fail)
        all_goals go_wp2
        all_goals go_ret
        all_goals exact ⟨rfl, Below.mk HB.out.os HB.out.tape HB.out.output HB.out.size HB.out.block⟩
      · have e1 : q = 0 := by rw [hq]; unfold totR; simp [he, he2]
        clear hq
        subst e1
        cases n
        all_goals go_wp2_with fail
        all_goals go_quiet (fail)
        all_goals go_wp2_with fail
        all_goals go_quiet (fail)
        all_goals go_wp2
        all_goals go_ret
        all_goals exact ⟨rfl, Below.mk HB.out.os HB.out.tape HB.out.output HB.out.size HB.out.block⟩
  · have e1 : q = r := by rw [hq]; unfold totR; rw [if_pos hr]
    have hrb : (r == 0) = false := beq_eq_false_iff_ne.2 hr
    clear hq hr
    subst e1
    go_wp2
    go_ret
    exact ⟨rfl, HB.out⟩
end Go.Proofs.YtlepebogjpcfoaaGreatDoor

/- Walk: the thin package's Total, at any two decimals that are made. -/
set_option linter.unusedVariables false
set_option linter.unusedSimpArgs false
namespace Go.Proofs.YtlepebogjpcfoaaGreatDoor
open Go.RowKit

set_option maxHeartbeats 2000000 in
theorem itot_gen (f1 f2 : Int) (n1 n2 : Bool) (s1 s2 : Value) (e1 e2 : Int) (D1 D2 : World → Nat → Prop) (r : Int) (w : World) (k1 : Kept D1) (k2 : Kept D2)
    (m1 : ∀ W, Below w.heap.size w W → MadeC D1 (.agg #[.int .i64 f1, .bool n1, s1, .int .i64 e1]) W) (m2 : ∀ W, Below w.heap.size w W → MadeC D2 (.agg #[.int .i64 f2, .bool n2, s2, .int .i64 e2]) W)
    (con : ∀ W ga gb, ga ≠ gb → Below w.heap.size w W → D1 W ga → D2 W gb → Calls Tryz.prog 40 #[.pointer (some ⟨ga, 0, none⟩), .pointer (some ⟨gb, 0, none⟩)] W (DcmpP W r)) :
    Calls Tryz.prog 19 #[.agg #[.int .i64 f1, .bool n1, s1, .int .i64 e1], .agg #[.int .i64 f2, .bool n2, s2, .int .i64 e2]] w (DcmpP w r) := by
  obtain ⟨g1, hg1⟩ : ∃ g, g = w.heap.size := ⟨_, rfl⟩
  obtain ⟨g2, hg2⟩ : ∃ g, g = w.heap.size + 1 := ⟨_, rfl⟩
  obtain ⟨W0, hW0⟩ : ∃ W0, W0 = (w.alloc (.cells #[.int .i64 f1, .bool n1, s1, .int .i64 e1] 24)).alloc (.cells #[.int .i64 f2, .bool n2, s2, .int .i64 e2] 24) := ⟨_, rfl⟩
  have hb0 : Below w.heap.size w W0 := by rw [hW0]; exact below_al (below_al (Below.refl _ _) _) _
  have hx1 : Blk W0 g1 24 #[.int .i64 f1, .bool n1, s1, .int .i64 e1] := by rw [hW0, hg1]; exact (Blk.new w _ _).alloc _
  have hx2 : Blk W0 g2 24 #[.int .i64 f2, .bool n2, s2, .int .i64 e2] := by
    rw [hW0, hg2]
    have := Blk.new (w.alloc (.cells #[.int .i64 f1, .bool n1, s1, .int .i64 e1] 24)) 24 #[.int .i64 f2, .bool n2, s2, .int .i64 e2]
    simpa using this
  have HS : Hid (CmpH w g1 g2 f1 f2 n1 n2 s1 s2 e1 e2 W0) := ⟨hb0, hx1, hx2⟩
  have ConA := hide m1
  have ConB := hide m2
  have ConC := hide con
  unfold MadeC at ConA ConB
  have K1 := hide k1
  have K2 := hide k2
  clear hb0 hx1 hx2 m1 m2 con k1 k2
  go_enter Tryz.func19, Tryz.ntmps19
  go_wp2_with fail
  rw [← hW0, ← hg2, ← hg1]
  clear hW0 hg2 hg1
  go_region_held3 (fun W => (W.cell? ⟨g1, 0, none⟩ = some (.int .i64 f1) ∧ W.cell? ⟨g1, 1, none⟩ = some (.bool n1) ∧ W.cell? ⟨g1, 2, none⟩ = some s1 ∧ W.cell? ⟨g1, 3, none⟩ = some (.int .i64 e1)) ∧ (W.cell? ⟨g2, 0, none⟩ = some (.int .i64 f2) ∧ W.cell? ⟨g2, 1, none⟩ = some (.bool n2) ∧ W.cell? ⟨g2, 2, none⟩ = some s2 ∧ W.cell? ⟨g2, 3, none⟩ = some (.int .i64 e2))) (first | exact HS.out.cells | go_keep)
    (first
      | (go_at_call_of 32 s1; refine (ConA.out _ ?_).mono ?_; exact Below.mk HS.out.bel.os HS.out.bel.tape HS.out.bel.output HS.out.bel.size HS.out.bel.block; go_loud (rintro e w1 ⟨ga, rfl, hga, hDa, hba⟩; have HS := hide (HS.out.next hba.os hba.tape hba.output hba.size hba.block); have HA := hide hDa; clear hga hDa hba))
      | (go_at_call_of 32 s2; refine (ConB.out _ ?_).mono ?_; exact Below.mk HS.out.bel.os HS.out.bel.tape HS.out.bel.output HS.out.bel.size HS.out.bel.block; go_loud (rintro e w2 ⟨gb, rfl, hgb, hDb, hbb⟩; have HN : Hid (ga ≠ gb) := (by have h1 := K1.out.lt _ _ HA.out; have h2 : w1.heap.size ≤ gb := hgb; intro e; omega); have HA := hide (K1.out.below _ _ _ HA.out (Below.mk hbb.os hbb.tape hbb.output hbb.size hbb.block)); have HS := hide (HS.out.next hbb.os hbb.tape hbb.output hbb.size hbb.block); have HB := hide hDb; clear hgb hDb hbb))
      | (go_at_call 40; go_loud (refine (ConC.out w2 ga gb HN.out HS.out.bel HA.out HB.out).mono ?_; rintro e w3 ⟨rfl, hb3⟩; have HS := hide (HS.out.below hb3); clear hb3)))
  all_goals go_wp2
  all_goals go_ret
  all_goals exact ⟨rfl, HS.out.bel⟩
end Go.Proofs.YtlepebogjpcfoaaGreatDoor

/- The thin package's Total: of finite decimals, and of other forms. -/
set_option linter.unusedVariables false
set_option linter.unusedSimpArgs false
namespace Go.Proofs.YtlepebogjpcfoaaGreatDoor
open Go.RowKit

/-- Total of two finite decimals with magnitudes at one exponent. -/
def totV (n1 : Bool) (a : Nat) (e1 : Int) (n2 : Bool) (b : Nat) (e2 : Int) : Int := if n1 = n2 then totR n1 (ordV n1 a n2 b) e1 e2 else if n1 then -1 else 1
/-- Total by the forms alone. -/
def totF (p q : Int) : Int := if p < q then -1 else if q < p then 1 else 0

/-- A block that made has made, of any form that is told apart. -/
def FormD (f : Int) (n : Bool) (W : World) (g : Nat) : Prop := W.cell? ⟨g, 0, none⟩ = some (.int .i8 f) ∧ W.cell? ⟨g, 1, none⟩ = some (.bool n) ∧ g < W.heap.size
theorem formD_kept (f : Int) (n : Bool) : Kept (FormD f n) where
  below := by
    rintro W W' g ⟨h0, h1, h2⟩ hb
    exact ⟨(World.cell?_of_block (a := ⟨g, 0, none⟩) (hb.block g h2)).trans h0, (World.cell?_of_block (a := ⟨g, 1, none⟩) (hb.block g h2)).trans h1, Nat.lt_of_lt_of_le h2 hb.size⟩
  lt := fun _ _ h => h.2.2
theorem MadeC.mono {D D' : World → Nat → Prop} {v : Value} {W : World} (h : MadeC D v W) (hd : ∀ W g, D W g → D' W g) : MadeC D' v W := by
  refine Calls.mono h ?_
  rintro e w1 ⟨g, rfl, hg, hD, hb⟩
  exact ⟨g, rfl, hg, hd _ _ hD, hb⟩
theorem finD_form {n : Bool} {e : Int} {a : Nat} {W : World} {g : Nat} (h : FinD n e a W g) : FormD 0 n W g := by
  obtain ⟨A, c, h, _⟩ := h
  exact ⟨h.blk.cell 0, h.blk.cell 1, h.blk.lt⟩
def OthD (f : Int) (n : Bool) (W : World) (g : Nat) : Prop := Blk W g 86 (decC f n 0 false (.slice none 0 0) false)
theorem othD_kept (f : Int) (n : Bool) : Kept (OthD f n) where
  below := fun _ _ _ h hb => Blk.below h hb
  lt := fun _ _ h => Blk.lt h
theorem othD_form {f : Int} {n : Bool} {W : World} {g : Nat} (h : OthD f n W g) : FormD f n W g := ⟨Blk.cell h 0, Blk.cell h 1, Blk.lt h⟩
theorem othD_made (f : Int) (n : Bool) (v : Value) (e : Int) (W : World) (hf : f = 1 ∨ f = 2 ∨ f = 3) : MadeC (OthD f n) (.agg #[.int .i64 f, .bool n, v, .int .i64 e]) W :=
  made_other f n v e W hf

/-- Of unlike places among the forms. -/
theorem itot_ne (f1 f2 : Int) (n1 n2 : Bool) (s1 s2 : Value) (e1 e2 : Int) (r : Int) (w : World)
    (m1 : ∀ W, Below w.heap.size w W → MadeC (FormD f1 n1) (.agg #[.int .i64 f1, .bool n1, s1, .int .i64 e1]) W) (m2 : ∀ W, Below w.heap.size w W → MadeC (FormD f2 n2) (.agg #[.int .i64 f2, .bool n2, s2, .int .i64 e2]) W)
    (h0 : 0 ≤ f1) (h3 : f1 ≤ 3) (k0 : 0 ≤ f2) (k3 : f2 ≤ 3) (h : ordI n1 f1 < ordI n2 f2 ∧ r = -1 ∨ ordI n2 f2 < ordI n1 f1 ∧ r = 1) :
    Calls Tryz.prog 19 #[.agg #[.int .i64 f1, .bool n1, s1, .int .i64 e1], .agg #[.int .i64 f2, .bool n2, s2, .int .i64 e2]] w (DcmpP w r) :=
  itot_gen f1 f2 n1 n2 _ _ e1 e2 (FormD f1 n1) (FormD f2 n2) r w (formD_kept _ _) (formD_kept _ _) m1 m2
    (fun W ga gb _ _ hA hB => ctot_ne ga gb f1 f2 n1 n2 r W hA.1 hA.2.1 hB.1 hB.2.1 h0 h3 k0 k3 h)
theorem itot_same (f : Int) (n : Bool) (s1 s2 : Value) (e1 e2 : Int) (w : World) (hf : f = 1 ∨ f = 2 ∨ f = 3) :
    Calls Tryz.prog 19 #[.agg #[.int .i64 f, .bool n, s1, .int .i64 e1], .agg #[.int .i64 f, .bool n, s2, .int .i64 e2]] w (DcmpP w 0) :=
  itot_gen f f n n _ _ e1 e2 (OthD f n) (OthD f n) 0 w (othD_kept _ _) (othD_kept _ _) (fun W _ => othD_made f n _ _ W hf) (fun W _ => othD_made f n _ _ W hf)
    (fun W ga gb hne _ hA hB => ctot_other ga gb f n W hf hne hA hB)

/-- By the forms, if one of the two is not finite. -/
theorem itot_forms (f1 f2 : Int) (n1 n2 : Bool) (s1 s2 : Value) (e1 e2 : Int) (w : World)
    (m1 : f1 = 0 → ∀ W, Below w.heap.size w W → MadeC (FormD 0 n1) (.agg #[.int .i64 0, .bool n1, s1, .int .i64 e1]) W) (m2 : f2 = 0 → ∀ W, Below w.heap.size w W → MadeC (FormD 0 n2) (.agg #[.int .i64 0, .bool n2, s2, .int .i64 e2]) W)
    (h0 : 0 ≤ f1) (h3 : f1 ≤ 3) (k0 : 0 ≤ f2) (k3 : f2 ≤ 3) (hz : ¬ (f1 = 0 ∧ f2 = 0)) :
    Calls Tryz.prog 19 #[.agg #[.int .i64 f1, .bool n1, s1, .int .i64 e1], .agg #[.int .i64 f2, .bool n2, s2, .int .i64 e2]] w (DcmpP w (totF (ordI n1 f1) (ordI n2 f2))) := by
  have m1' : ∀ W, Below w.heap.size w W → MadeC (FormD f1 n1) (.agg #[.int .i64 f1, .bool n1, s1, .int .i64 e1]) W := fun W hW => by
    by_cases h : f1 = 0
    · subst h; exact m1 rfl W hW
    · exact (othD_made f1 n1 s1 e1 W (by omega)).mono (fun _ _ h => othD_form h)
  have m2' : ∀ W, Below w.heap.size w W → MadeC (FormD f2 n2) (.agg #[.int .i64 f2, .bool n2, s2, .int .i64 e2]) W := fun W hW => by
    by_cases h : f2 = 0
    · subst h; exact m2 rfl W hW
    · exact (othD_made f2 n2 s2 e2 W (by omega)).mono (fun _ _ h => othD_form h)
  unfold totF
  by_cases hlt : ordI n1 f1 < ordI n2 f2
  · rw [if_pos hlt]
    exact itot_ne f1 f2 n1 n2 s1 s2 e1 e2 _ w m1' m2' h0 h3 k0 k3 (.inl ⟨hlt, rfl⟩)
  · rw [if_neg hlt]
    by_cases hgt : ordI n2 f2 < ordI n1 f1
    · rw [if_pos hgt]
      exact itot_ne f1 f2 n1 n2 s1 s2 e1 e2 _ w m1' m2' h0 h3 k0 k3 (.inr ⟨hgt, rfl⟩)
    · rw [if_neg hgt]
      have e : f1 = f2 ∧ n1 = n2 := by
        unfold ordI at hlt hgt
        cases n1 <;> cases n2 <;> simp at hlt hgt ⊢ <;> omega
      obtain ⟨rfl, rfl⟩ := e
      exact itot_same f1 n1 s1 s2 e1 e2 w (by omega)

theorem itot_fin (n1 n2 : Bool) (A1 A2 : Option Addr) (c1 c2 a b sa sb : Nat) (ea eb m : Int) (w : World) (hr1 : RdW w (.slice A1 (digs 18446744073709551616 a).length c1) (digs 18446744073709551616 a)) (hr2 : RdW w (.slice A2 (digs 18446744073709551616 b).length c2) (digs 18446744073709551616 b))
    (hla : (digs 18446744073709551616 a).length ≤ 3) (hlb : (digs 18446744073709551616 b).length ≤ 3) (hea : ea = m + (sa : Int)) (heb : eb = m + (sb : Int)) (hz : sa = 0 ∨ sb = 0) (hsa : sa ≤ 200) (hsb : sb ≤ 200) (hm : -500 ≤ m) (hm2 : m ≤ 500) (hv : VarsL w w.heap.size) :
    Calls Tryz.prog 19 #[.agg #[.int .i64 0, .bool n1, .slice A1 (digs 18446744073709551616 a).length c1, .int .i64 ea], .agg #[.int .i64 0, .bool n2, .slice A2 (digs 18446744073709551616 b).length c2, .int .i64 eb]] w (DcmpP w (totV n1 (a * 10 ^ sa) ea n2 (b * 10 ^ sb) eb)) := by
  have M1 : ∀ W, Below w.heap.size w W → MadeC (FinD n1 ea a) (.agg #[.int .i64 0, .bool n1, .slice A1 (digs 18446744073709551616 a).length c1, .int .i64 ea]) W := fun W hW => finD_made n1 ea a A1 c1 W (RdG.below (k := .u64) hr1 hW) hla (by omega) (by omega)
  have M2 : ∀ W, Below w.heap.size w W → MadeC (FinD n2 eb b) (.agg #[.int .i64 0, .bool n2, .slice A2 (digs 18446744073709551616 b).length c2, .int .i64 eb]) W := fun W hW => finD_made n2 eb b A2 c2 W (RdG.below (k := .u64) hr2 hW) hlb (by omega) (by omega)
  by_cases hn : n1 = n2
  · subst hn
    have e : totV n1 (a * 10 ^ sa) ea n1 (b * 10 ^ sb) eb = totR n1 (ordV n1 (a * 10 ^ sa) n1 (b * 10 ^ sb)) ea eb := by unfold totV; rw [if_pos rfl]
    rw [e]
    refine itot_gen 0 0 n1 n1 _ _ ea eb (FinD n1 ea a) (FinD n1 eb b) _ w (finD_kept _ _ _) (finD_kept _ _ _) M1 M2 ?_
    rintro W ga gb hne hW ⟨A, ca, hA, hka⟩ ⟨B, cb, hB, hkb⟩
    refine ctot_fin ga gb n1 ea eb _ A B ca cb a b W hA hB (fun W2 hW2 => ?_)
    exact dcmp_any ga gb n1 n1 ea eb m A B ca cb a b sa sb W2 (hA.below hW2) (hB.below hW2) hne hla hlb (fun k h => Nat.lt_of_lt_of_le (hka k h) hW2.size) (fun k h => Nat.lt_of_lt_of_le (hkb k h) hW2.size) hea heb hz hsa hsb hm hm2 ((hv.below (below_next hW hW2)).raise (Nat.le_trans hW.size hW2.size))
  · have e : totV n1 (a * 10 ^ sa) ea n2 (b * 10 ^ sb) eb = if n1 then -1 else 1 := by unfold totV; rw [if_neg hn]
    rw [e]
    refine itot_ne 0 0 n1 n2 _ _ ea eb _ w (fun W hW => (M1 W hW).mono (fun _ _ h => finD_form h)) (fun W hW => (M2 W hW).mono (fun _ _ h => finD_form h)) (by omega) (by omega) (by omega) (by omega) ?_
    cases n1 <;> cases n2 <;> simp_all [ordI]
end Go.Proofs.YtlepebogjpcfoaaGreatDoor
