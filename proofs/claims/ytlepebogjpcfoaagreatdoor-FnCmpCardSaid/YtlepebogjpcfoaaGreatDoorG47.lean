/- Parts of the proofs: Cmp2. -/
import Derived.Test.YtlepebogjpcfoaaGreatDoorG46
/- Walk: the thin package's Cmp: the order of two finite decimals, as a decimal. -/
set_option linter.unusedVariables false
set_option linter.unusedSimpArgs false
namespace Go.Proofs.YtlepebogjpcfoaaGreatDoor
open Go.RowKit

/-- What Cmp holds: its boxes, its result's cell, and d. -/
structure CcH (w : World) (g0 g1 g2 gr gd : Nat) (X0 X1 X2 Dd : Array Value) (W : World) : Prop where
  bel : Below w.heap.size w W
  b0 : Blk W g0 59 X0
  b1 : Blk W g1 24 X1
  b2 : Blk W g2 24 X2
  br : Blk W gr 24 #[.int .i64 0, .bool false, .slice none 0 0, .int .i64 0]
  bd : Blk W gd 86 Dd
theorem CcH.next {w : World} {g0 g1 g2 gr gd : Nat} {X0 X1 X2 Dd : Array Value} {W W' : World} (h : CcH w g0 g1 g2 gr gd X0 X1 X2 Dd W) (h1 : W'.os = W.os) (h2 : W'.tape = W.tape) (h3 : W'.output = W.output) (h4 : W.heap.size ≤ W'.heap.size) (h5 : ∀ k, k < W.heap.size → W'.heap[k]? = W.heap[k]?) : CcH w g0 g1 g2 gr gd X0 X1 X2 Dd W' :=
  ⟨below_next h.bel ⟨h1, h2, h3, h4, h5⟩, h.b0.below ⟨h1, h2, h3, h4, h5⟩, h.b1.below ⟨h1, h2, h3, h4, h5⟩, h.b2.below ⟨h1, h2, h3, h4, h5⟩, h.br.below ⟨h1, h2, h3, h4, h5⟩, h.bd.below ⟨h1, h2, h3, h4, h5⟩⟩
theorem CcH.setd {w : World} {g0 g1 g2 gr gd : Nat} {X0 X1 X2 Dd Dd' : Array Value} {W W' : World} (h : CcH w g0 g1 g2 gr gd X0 X1 X2 Dd W) (hn : g0 ≠ gd ∧ g1 ≠ gd ∧ g2 ≠ gd ∧ gr ≠ gd ∧ w.heap.size ≤ gd) (hF : Fr W W' (fun k => k = gd)) (hd : Blk W' gd 86 Dd') : CcH w g0 g1 g2 gr gd X0 X1 X2 Dd' W' :=
  ⟨(Fr.step (Fr.of_below h.bel (fun k => w.heap.size ≤ k)) hF (fun i _ hi => by subst hi; exact hn.2.2.2.2)).below (Nat.le_refl _) (fun _ h => h), h.b0.fr hF hn.1, h.b1.fr hF hn.2.1, h.b2.fr hF hn.2.2.1, h.br.fr hF hn.2.2.2.1, hd⟩

theorem frz4c {w : World} {g : Nat} {t : TypeId} {cs : Array Value} (h : Blk w g t cs) : w.frozen? ⟨g, 0, none⟩ = false ∧ w.frozen? ⟨g, 1, none⟩ = false ∧ w.frozen? ⟨g, 2, none⟩ = false ∧ w.frozen? ⟨g, 3, none⟩ = false := ⟨h.frozen 0, h.frozen 1, h.frozen 2, h.frozen 3⟩

theorem cmp_result (n : Nat) (v7 v8 : Value) (tmps : Array Value) (h : tmps.getD 6 undef = .pointer (some ⟨n, 0, none⟩)) (h7 : tmps.getD 7 undef = v7) (h8 : tmps.getD 8 undef = v8) (W : World) (a b c d : Value) (c0 : W.cell? ⟨n, 0, none⟩ = some a) (c1 : W.cell? ⟨n, 1, none⟩ = some b) (c2 : W.cell? ⟨n, 2, none⟩ = some c) (c3 : W.cell? ⟨n, 3, none⟩ = some d) :
    (results Tryz.f28 tmps).run Tryz.prog W = .ok (.tuple #[.agg #[a, b, c, d], v7, v8]) W := by
  have e6 : tmps[6]?.getD undef = .pointer (some ⟨n, 0, none⟩) := by simpa using h
  have e7 : tmps[7]?.getD undef = v7 := by simpa using h7
  have e8 : tmps[8]?.getD undef = v8 := by simpa using h8
  simp [results, Tryz.results28, go_sem, e6, e7, e8, c0, c1, c2, c3]

/-- Behind Cmp. -/
def IcmpP (w : World) (r : Int) (e : Ending) (w' : World) : Prop :=
  ∃ (A : Option Addr) (c : Nat), e = .returned (.tuple #[.agg #[.int .i64 0, .bool (decide (r < 0)), .slice A (digs 18446744073709551616 r.natAbs).length c, .int .i64 0], .int .i64 0, .bool true]) ∧ OwnU w' w.heap.size (.slice A (digs 18446744073709551616 r.natAbs).length c) (digs 18446744073709551616 r.natAbs) ∧ Below w.heap.size w w'

set_option maxHeartbeats 4000000 in
set_option maxRecDepth 20000 in
theorem iccmp_gen (p : Int) (k : Nat) (hk : k < 8) (n1 n2 : Bool) (A1 A2 : Option Addr) (l1 l2 c1 c2 : Nat) (e1 e2 : Int) (D1 D2 : World → Nat → Prop) (r : Int) (w : World) (hr1 : -1 ≤ r) (hr2 : r ≤ 1) (k1 : Kept D1) (k2 : Kept D2)
    (z1 : ∀ W g, D1 W g → W.cell? ⟨g, 0, none⟩ = some (.int .i8 0)) (z2 : ∀ W g, D2 W g → W.cell? ⟨g, 0, none⟩ = some (.int .i8 0))
    (m1 : ∀ W, Below w.heap.size w W → MadeC D1 (.agg #[.int .i64 0, .bool n1, .slice A1 l1 c1, .int .i64 e1]) W) (m2 : ∀ W, Below w.heap.size w W → MadeC D2 (.agg #[.int .i64 0, .bool n2, .slice A2 l2 c2, .int .i64 e2]) W)
    (con : ∀ W ga gb, ga ≠ gb → Below w.heap.size w W → D1 W ga → D2 W gb → Calls Tryz.prog 58 #[.pointer (some ⟨ga, 0, none⟩), .pointer (some ⟨gb, 0, none⟩)] W (DcmpP W r)) :
    Calls Tryz.prog 28 #[.agg #[.int .u64 p, .int .i64 100000, .int .i64 (-100000), .int .i64 (k : Int)], .agg #[.int .i64 0, .bool n1, .slice A1 l1 c1, .int .i64 e1], .agg #[.int .i64 0, .bool n2, .slice A2 l2 c2, .int .i64 e2]] w (IcmpP w r) := by
  obtain ⟨X0, hX0⟩ : ∃ X : Array Value, X = #[.int .u64 p, .int .i64 100000, .int .i64 (-100000), .int .i64 (k : Int)] := ⟨_, rfl⟩
  obtain ⟨g0, hg0⟩ : ∃ g, g = w.heap.size := ⟨_, rfl⟩
  obtain ⟨g1, hg1⟩ : ∃ g, g = w.heap.size + 1 := ⟨_, rfl⟩
  obtain ⟨g2, hg2⟩ : ∃ g, g = w.heap.size + 1 + 1 := ⟨_, rfl⟩
  obtain ⟨gr, hgr⟩ : ∃ g, g = w.heap.size + 1 + 1 + 1 := ⟨_, rfl⟩
  obtain ⟨gd, hgd⟩ : ∃ g, g = w.heap.size + 1 + 1 + 1 + 1 := ⟨_, rfl⟩
  obtain ⟨W0, hW0⟩ : ∃ W, W = ((((w.alloc (.cells #[.int .u64 p, .int .i64 100000, .int .i64 (-100000), .int .i64 (k : Int)] 59)).alloc (.cells #[.int .i64 0, .bool n1, .slice A1 l1 c1, .int .i64 e1] 24)).alloc (.cells #[.int .i64 0, .bool n2, .slice A2 l2 c2, .int .i64 e2] 24)).alloc (.cells #[.int .i64 0, .bool false, .slice none 0 0, .int .i64 0] 24)).alloc (.cells #[.int .i8 0, .bool false, .int .i32 0, .bool false, .slice none 0 0, .bool false] 86) := ⟨_, rfl⟩
  have HS : Hid (CcH w g0 g1 g2 gr gd X0 #[.int .i64 0, .bool n1, .slice A1 l1 c1, .int .i64 e1] #[.int .i64 0, .bool n2, .slice A2 l2 c2, .int .i64 e2] (decC 0 false 0 false (.slice none 0 0) false) W0) := by
    rw [hW0, hg0, hg1, hg2, hgr, hgd, hX0]
    refine ⟨below_al (below_al (below_al (below_al (below_al (Below.refl _ _) _) _) _) _) _, ?_, ?_, ?_, ?_, ?_⟩
    · exact ((((Blk.new w _ _).alloc _).alloc _).alloc _).alloc _
    · have := (((Blk.new (w.alloc (.cells #[.int .u64 p, .int .i64 100000, .int .i64 (-100000), .int .i64 (k : Int)] 59)) 24 #[.int .i64 0, .bool n1, .slice A1 l1 c1, .int .i64 e1]).alloc (.cells #[.int .i64 0, .bool n2, .slice A2 l2 c2, .int .i64 e2] 24)).alloc (.cells #[.int .i64 0, .bool false, .slice none 0 0, .int .i64 0] 24)).alloc (.cells #[.int .i8 0, .bool false, .int .i32 0, .bool false, .slice none 0 0, .bool false] 86)
      simpa using this
    · have := ((Blk.new ((w.alloc (.cells #[.int .u64 p, .int .i64 100000, .int .i64 (-100000), .int .i64 (k : Int)] 59)).alloc (.cells #[.int .i64 0, .bool n1, .slice A1 l1 c1, .int .i64 e1] 24)) 24 #[.int .i64 0, .bool n2, .slice A2 l2 c2, .int .i64 e2]).alloc (.cells #[.int .i64 0, .bool false, .slice none 0 0, .int .i64 0] 24)).alloc (.cells #[.int .i8 0, .bool false, .int .i32 0, .bool false, .slice none 0 0, .bool false] 86)
      simpa using this
    · have := (Blk.new (((w.alloc (.cells #[.int .u64 p, .int .i64 100000, .int .i64 (-100000), .int .i64 (k : Int)] 59)).alloc (.cells #[.int .i64 0, .bool n1, .slice A1 l1 c1, .int .i64 e1] 24)).alloc (.cells #[.int .i64 0, .bool n2, .slice A2 l2 c2, .int .i64 e2] 24)) 24 #[.int .i64 0, .bool false, .slice none 0 0, .int .i64 0]).alloc (.cells #[.int .i8 0, .bool false, .int .i32 0, .bool false, .slice none 0 0, .bool false] 86)
      simpa using this
    · have := Blk.new ((((w.alloc (.cells #[.int .u64 p, .int .i64 100000, .int .i64 (-100000), .int .i64 (k : Int)] 59)).alloc (.cells #[.int .i64 0, .bool n1, .slice A1 l1 c1, .int .i64 e1] 24)).alloc (.cells #[.int .i64 0, .bool n2, .slice A2 l2 c2, .int .i64 e2] 24)).alloc (.cells #[.int .i64 0, .bool false, .slice none 0 0, .int .i64 0] 24)) 86 (decC 0 false 0 false (.slice none 0 0) false)
      unfold decC at this ⊢
      simpa using this
  have HN : Hid (g0 ≠ gd ∧ g1 ≠ gd ∧ g2 ≠ gd ∧ gr ≠ gd ∧ w.heap.size ≤ gd) := ⟨by omega, by omega, by omega, by omega, by omega⟩
  have HGr : Hid (w.heap.size ≤ gr) := (by show w.heap.size ≤ gr; omega)
  have ConX := hide (fun W => context_any p 100000 (-100000) k hk W)
  have ConA := hide m1
  have ConB := hide m2
  have ConC : Hid (∀ W ga gb (pc : Nat), ga ≠ gb → Below w.heap.size w W → D1 W ga → D2 W gb → Blk W gd 86 (decC 0 false 0 false (.slice none 0 0) false) → Calls Tryz.prog 49 #[.pointer (some ⟨pc, 0, none⟩), .pointer (some ⟨gd, 0, none⟩), .pointer (some ⟨ga, 0, none⟩), .pointer (some ⟨gb, 0, none⟩)] W (CcmpP W gd r)) := fun W ga gb pc hne hW hA hB hd =>
    ccmp_any _ gd ga gb r W hd (z1 _ _ hA) (z2 _ _ hB) hr1 hr2 (fun W2 hW2 => con W2 ga gb hne (below_next hW hW2) (k1.below _ _ _ hA hW2) (k2.below _ _ _ hB hW2))
  unfold MadeC at ConA ConB
  have K1 := hide k1
  have K2 := hide k2
  have HRr := hide (And.intro hr1 hr2)
  rw [hX0] at HS
  clear m1 m2 con k1 k2 z1 z2 hX0 hr1 hr2
  go_enter Tryz.func28, Tryz.ntmps28
  go_wp2_with fail
  rw [← hW0, ← hgd, ← hgr, ← hg2, ← hg1, ← hg0]
  clear hW0 hgd hgr hg2 hg1 hg0
  go_region_held3 (fun W => (W.cell? ⟨g0, 0, none⟩ = some (.int .u64 p) ∧ W.cell? ⟨g0, 1, none⟩ = some (.int .i64 100000) ∧ W.cell? ⟨g0, 2, none⟩ = some (.int .i64 (-100000)) ∧ W.cell? ⟨g0, 3, none⟩ = some (.int .i64 (k : Int))) ∧ ((W.cell? ⟨g1, 0, none⟩ = some (.int .i64 0) ∧ W.cell? ⟨g1, 1, none⟩ = some (.bool n1) ∧ W.cell? ⟨g1, 2, none⟩ = some (.slice A1 l1 c1) ∧ W.cell? ⟨g1, 3, none⟩ = some (.int .i64 e1)) ∧ (W.cell? ⟨g2, 0, none⟩ = some (.int .i64 0) ∧ W.cell? ⟨g2, 1, none⟩ = some (.bool n2) ∧ W.cell? ⟨g2, 2, none⟩ = some (.slice A2 l2 c2) ∧ W.cell? ⟨g2, 3, none⟩ = some (.int .i64 e2)))) (first | exact ⟨HS.out.b0.dec4, HS.out.b1.dec4, HS.out.b2.dec4⟩ | go_keep)
    (first
      | (go_at_call 48; go_loud (refine (ConX.out _).mono ?_; rintro e w1 ⟨⟨pc, rfl⟩, hb1⟩; have HS := hide (HS.out.next hb1.os hb1.tape hb1.output hb1.size hb1.block); clear hb1))
      | (go_at_call_of 32 n1; refine (ConA.out _ ?_).mono ?_; exact Below.mk HS.out.bel.os HS.out.bel.tape HS.out.bel.output HS.out.bel.size HS.out.bel.block; go_loud (rintro e w2 ⟨ga, rfl, hga, hDa, hba⟩; have HS := hide (HS.out.next hba.os hba.tape hba.output hba.size hba.block); have HA := hide hDa; clear hga hDa hba))
      | (go_at_call_of 32 n2; refine (ConB.out _ ?_).mono ?_; exact Below.mk HS.out.bel.os HS.out.bel.tape HS.out.bel.output HS.out.bel.size HS.out.bel.block; go_loud (rintro e w3 ⟨gb, rfl, hgb, hDb, hbb⟩; have HNe : Hid (ga ≠ gb) := (by have h1 := K1.out.lt _ _ HA.out; have h2 : w2.heap.size ≤ gb := hgb; intro e; omega); have HA := hide (K1.out.below _ _ _ HA.out (Below.mk hbb.os hbb.tape hbb.output hbb.size hbb.block)); have HS := hide (HS.out.next hbb.os hbb.tape hbb.output hbb.size hbb.block); have HB := hide hDb; clear hgb hDb hbb))
      | (go_at_call 49; go_loud (refine (ConC.out w3 ga gb pc HNe.out HS.out.bel HA.out HB.out HS.out.bd).mono ?_; rintro e w4 ⟨rfl, A, c, ho, hB, hF⟩; have HS := hide (HS.out.setd HN.out (Fr.mk hF.os hF.tape hF.output hF.size hF.block) hB); have HO := hide ho.rd; clear ho hB hF)))
  have ConT : Hid (∀ W, Below w4.heap.size w4 W → Calls Tryz.prog 44 #[.pointer (some ⟨gd, 0, none⟩)] W (ToldFin W (decide (r < 0)) 0 (digs 18446744073709551616 r.natAbs))) := fun W hW =>
    told_fin gd (decide (r < 0)) 0 false false _ _ W (HS.out.bd.below hW) (RdG.below (k := .u64) HO.out hW) (by have := digs_word_len (x := r.natAbs) (by have := HRr.out; omega); omega) (by omega) (by omega)
  have ConE := hide (fun W => conditions_none W)
  unfold ToldFin at ConT
  have HX : Hid (w.heap.size ≤ gr ∧ gr < w4.heap.size) := ⟨HGr.out, HS.out.br.lt⟩
  clear ConX ConA ConB ConC K1 K2 HN HO HRr
  go_wp2_with fail
  go_region_with (first
    | (go_at_call 44; go_loud (refine (ConT.out _ ?_).mono ?_; exact Below.mk rfl rfl rfl (Nat.le_refl _) (fun _ _ => rfl); rintro e5 w5 ⟨A5, d5, rfl, ho5, hb5⟩; have HO5 : Hid (OwnU w5 w4.heap.size (.slice A5 (digs 18446744073709551616 r.natAbs).length d5) (digs 18446744073709551616 r.natAbs)) := ho5; have HS5 := hide (HS.out.next hb5.os hb5.tape hb5.output hb5.size hb5.block); obtain ⟨y0, y1, y2, y3⟩ := HS5.out.br.dec4; obtain ⟨f0, f1, f2, f3⟩ := frz4c HS5.out.br; clear ho5 hb5))
    | (go_at_call 50; go_loud (refine (ConE.out _).mono ?_; rintro e6 w6 ⟨rfl, rfl⟩)))
  all_goals (
    obtain ⟨W6, hW6⟩ : ∃ W6, W6 = (((w5.setCell ⟨gr, 0, none⟩ (.int .i64 0)).setCell ⟨gr, 1, none⟩ (.bool (decide (r < 0)))).setCell ⟨gr, 2, none⟩ (.slice A5 (digs 18446744073709551616 r.natAbs).length d5)).setCell ⟨gr, 3, none⟩ (.int .i64 0) := ⟨_, rfl⟩
    have hF6 : Fr w5 W6 (fun k => k = gr) := by rw [hW6]; exact ((((Fr.refl w5 (fun k => k = gr)).setCell (p := ⟨gr, 0, none⟩) (fun _ => rfl) _).setCell (p := ⟨gr, 1, none⟩) (fun _ => rfl) _).setCell (p := ⟨gr, 2, none⟩) (fun _ => rfl) _).setCell (p := ⟨gr, 3, none⟩) (fun _ => rfl) _
    have hB6 : Blk W6 gr 24 #[.int .i64 0, .bool (decide (r < 0)), .slice A5 (digs 18446744073709551616 r.natAbs).length d5, .int .i64 0] := by rw [hW6]; exact (((HS5.out.br.set 0 _).set 1 _).set 2 _).set 3 _
    have ho6 := HO5.out.fr hF6 (fun k hk hne => by have h1 := (HO5.out.lt hk).1; have h2 := HX.out.2; omega)
    have HP : Hid (IcmpP w r (.returned (.tuple #[.agg #[.int .i64 0, .bool (decide (r < 0)), .slice A5 (digs 18446744073709551616 r.natAbs).length d5, .int .i64 0], .int .i64 0, .bool true])) W6) :=
      ⟨A5, d5, rfl, ho6.lower (Nat.le_trans HX.out.1 (Nat.le_of_lt HX.out.2)), (Fr.step (Fr.of_below HS5.out.bel (fun k => w.heap.size ≤ k)) hF6 (fun i _ hi => by subst hi; exact HX.out.1)).below (Nat.le_refl _) (fun _ h => h)⟩
    have HC := hide hB6.dec4
    rw [← hW6]
    clear hF6 hB6 ho6 hW6 y0 y1 y2 y3 f0 f1 f2 f3 HS5 HO5 ConT ConE HS HA HB HNe HX)
  all_goals go_wp2
  all_goals exact bodyPost_ret (cmp_result gr (.int .i64 0) (.bool true) _ rfl rfl rfl _ _ _ _ _ HC.out.1 HC.out.2.1 HC.out.2.2.1 HC.out.2.2.2) rfl HP.out
end Go.Proofs.YtlepebogjpcfoaaGreatDoor
