/- Parts of the proofs: ModfI, ModfL, LaidD. -/
import Derived.Test.YtfkcobdkgjhfaaaGreatDoorG28
import Derived.Test.YtfkcobdkgjhfaaaGreatDoorG29
import Derived.Test.YtfkcobdkgjhfaaaGreatDoorG35
import Derived.Test.YtfkcobdkgjhfaaaGreatDoorG45
import Derived.Test.YtfkcobdkgjhfaaaGreatDoorG69
import Derived.Test.YtfkcobdkgjhfaaaGreatDoorG70
/- Walk: the thin package's Modf. -/
set_option linter.unusedVariables false
set_option linter.unusedSimpArgs false
namespace Go.Proofs.YtfkcobdkgjhfaaaGreatDoor
open Go.RowKit

theorem OwnU.below {w w' : World} {base : Nat} {v : Value} {xs : List Nat} (h : OwnU w base v xs) (hb : Below w.heap.size w w') : OwnU w' base v xs := h.fr (Fr.of_below hb (fun _ => False)) (fun _ _ h => h)
theorem imodf_result (n1 n2 : Nat) (tmps : Array Value) (h : tmps.getD 2 undef = .pointer (some ⟨n1, 0, none⟩)) (h3 : tmps.getD 3 undef = .pointer (some ⟨n2, 0, none⟩)) (W : World) (a b c d a' b' c' d' : Value) (c0 : W.cell? ⟨n1, 0, none⟩ = some a) (c1 : W.cell? ⟨n1, 1, none⟩ = some b) (c2 : W.cell? ⟨n1, 2, none⟩ = some c) (c3 : W.cell? ⟨n1, 3, none⟩ = some d) (e0 : W.cell? ⟨n2, 0, none⟩ = some a') (e1 : W.cell? ⟨n2, 1, none⟩ = some b') (e2 : W.cell? ⟨n2, 2, none⟩ = some c') (e3 : W.cell? ⟨n2, 3, none⟩ = some d') :
    (results Tryz.f10 tmps).run Tryz.prog W = .ok (.tuple #[.agg #[a, b, c, d], .agg #[a', b', c', d']]) W := by
  have x2 : tmps[2]?.getD undef = .pointer (some ⟨n1, 0, none⟩) := by simpa using h
  have x3 : tmps[3]?.getD undef = .pointer (some ⟨n2, 0, none⟩) := by simpa using h3
  simp [results, Tryz.results10, go_sem, x2, x3, c0, c1, c2, c3, e0, e1, e2, e3]
/-- Behind the thin Modf. -/
def IModP (w : World) (n : Bool) (a : Nat) (e : Int) (e' : Ending) (w' : World) : Prop :=
  ∃ (p q : Nat) (ep eq : Int) (P Q : Option Addr) (cp cq : Nat), e' = .returned (.tuple #[.agg #[.int .i64 0, .bool n, .slice P (digs 18446744073709551616 p).length cp, .int .i64 ep], .agg #[.int .i64 0, .bool n, .slice Q (digs 18446744073709551616 q).length cq, .int .i64 eq]]) ∧ ModN a e p ep q eq ∧
    OwnU w' w.heap.size (.slice P (digs 18446744073709551616 p).length cp) (digs 18446744073709551616 p) ∧ OwnU w' w.heap.size (.slice Q (digs 18446744073709551616 q).length cq) (digs 18446744073709551616 q) ∧ Below w.heap.size w w'

theorem ModN.le {a : Nat} {e : Int} {p : Nat} {ep : Int} {q : Nat} {eq : Int} (h : ModN a e p ep q eq) : p ≤ a ∧ q ≤ a := by
  rcases h with ⟨-, rfl, -, rfl, -⟩ | ⟨-, -, -, h, -⟩
  · exact ⟨Nat.le_refl _, Nat.zero_le _⟩
  · have h1 : p * 1 ≤ p * 10 ^ e.natAbs := Nat.mul_le_mul_left _ (Nat.pow_pos (by omega))
    omega
theorem ModN.exps {a : Nat} {e : Int} {p : Nat} {ep : Int} {q : Nat} {eq : Int} (h : ModN a e p ep q eq) (he : -1000 ≤ e ∧ e ≤ 1000) : (0 ≤ ep ∧ ep ≤ 1000) ∧ (-1000 ≤ eq ∧ eq ≤ 0) := by
  rcases h with ⟨h, -, rfl, -, rfl⟩ | ⟨h, rfl, rfl, -, -⟩ <;> omega

set_option maxHeartbeats 2000000 in
set_option maxRecDepth 20000 in
theorem imodf_any (n : Bool) (A : Option Addr) (c a : Nat) (e : Int) (w : World) (hv : RdW w (.slice A (digs 18446744073709551616 a).length c) (digs 18446744073709551616 a)) (hl : (digs 18446744073709551616 a).length ≤ 3) (he : -1000 ≤ e ∧ e ≤ 1000) (hvars : VarsD w w.heap.size) :
    Calls Tryz.prog 10 #[.agg #[.int .i64 0, .bool n, .slice A (digs 18446744073709551616 a).length c, .int .i64 e]] w (IModP w n a e) := by
  obtain ⟨g1, hg1⟩ : ∃ g, g = w.heap.size := ⟨_, rfl⟩
  obtain ⟨r1, hr1⟩ : ∃ g, g = w.heap.size + 1 := ⟨_, rfl⟩
  obtain ⟨r2, hr2⟩ : ∃ g, g = w.heap.size + 1 + 1 := ⟨_, rfl⟩
  obtain ⟨gi, hgi⟩ : ∃ g, g = w.heap.size + 1 + 1 + 1 := ⟨_, rfl⟩
  obtain ⟨gf, hgf⟩ : ∃ g, g = w.heap.size + 1 + 1 + 1 + 1 := ⟨_, rfl⟩
  obtain ⟨W0, hW0⟩ : ∃ W, W = ((((w.alloc (.cells #[.int .i64 0, .bool n, .slice A (digs 18446744073709551616 a).length c, .int .i64 e] 24)).alloc (.cells #[.int .i64 0, .bool false, .slice none 0 0, .int .i64 0] 24)).alloc (.cells #[.int .i64 0, .bool false, .slice none 0 0, .int .i64 0] 24)).alloc (.cells #[.int .i8 0, .bool false, .int .i32 0, .bool false, .slice none 0 0, .bool false] 71)).alloc (.cells #[.int .i8 0, .bool false, .int .i32 0, .bool false, .slice none 0 0, .bool false] 71) := ⟨_, rfl⟩
  have hb0 : Below w.heap.size w W0 := by rw [hW0]; exact below_al (below_al (below_al (below_al (below_al (Below.refl _ _) _) _) _) _) _
  have hB1 : Blk W0 g1 24 #[.int .i64 0, .bool n, .slice A (digs 18446744073709551616 a).length c, .int .i64 e] := by rw [hW0, hg1]; exact ((((Blk.new w _ _).alloc _).alloc _).alloc _).alloc _
  have hBr1 : Blk W0 r1 24 #[.int .i64 0, .bool false, .slice none 0 0, .int .i64 0] := by
    rw [hW0, hr1]
    have := Blk.new (w.alloc (.cells #[.int .i64 0, .bool n, .slice A (digs 18446744073709551616 a).length c, .int .i64 e] 24)) 24 #[.int .i64 0, .bool false, .slice none 0 0, .int .i64 0]
    exact (((by simpa using this : Blk _ (w.heap.size + 1) _ _).alloc _).alloc _).alloc _
  have hBr2 : Blk W0 r2 24 #[.int .i64 0, .bool false, .slice none 0 0, .int .i64 0] := by
    rw [hW0, hr2]
    have := Blk.new ((w.alloc (.cells #[.int .i64 0, .bool n, .slice A (digs 18446744073709551616 a).length c, .int .i64 e] 24)).alloc (.cells #[.int .i64 0, .bool false, .slice none 0 0, .int .i64 0] 24)) 24 #[.int .i64 0, .bool false, .slice none 0 0, .int .i64 0]
    exact ((by simpa using this : Blk _ (w.heap.size + 1 + 1) _ _).alloc _).alloc _
  have hBi : Blk W0 gi 71 (decC 0 false 0 false (.slice none 0 0) false) := by
    rw [hW0, hgi]
    have := Blk.new (((w.alloc (.cells #[.int .i64 0, .bool n, .slice A (digs 18446744073709551616 a).length c, .int .i64 e] 24)).alloc (.cells #[.int .i64 0, .bool false, .slice none 0 0, .int .i64 0] 24)).alloc (.cells #[.int .i64 0, .bool false, .slice none 0 0, .int .i64 0] 24)) 71 (decC 0 false 0 false (.slice none 0 0) false)
    unfold decC at this ⊢
    exact (by simpa using this : Blk _ (w.heap.size + 1 + 1 + 1) _ _).alloc _
  have hBf : Blk W0 gf 71 (decC 0 false 0 false (.slice none 0 0) false) := by
    rw [hW0, hgf]
    have := Blk.new ((((w.alloc (.cells #[.int .i64 0, .bool n, .slice A (digs 18446744073709551616 a).length c, .int .i64 e] 24)).alloc (.cells #[.int .i64 0, .bool false, .slice none 0 0, .int .i64 0] 24)).alloc (.cells #[.int .i64 0, .bool false, .slice none 0 0, .int .i64 0] 24)).alloc (.cells #[.int .i8 0, .bool false, .int .i32 0, .bool false, .slice none 0 0, .bool false] 71)) 71 (decC 0 false 0 false (.slice none 0 0) false)
    unfold decC at this ⊢
    simpa using this
  obtain ⟨x0, x1, x2, x3⟩ := hB1.dec4
  have con1 := made_fin 0 n (.slice A (digs 18446744073709551616 a).length c) (digs 18446744073709551616 a) e W0 (RdG.below (k := .u64) hv hb0) (by omega) (by decide) (by decide) (by decide) (by omega) (by omega)
  rw [trimz_of_canon (canon_digs (by omega) _)] at con1
  have Con1 := hide con1
  have H := hide (And.intro hb0 (And.intro hBr1 (And.intro hBr2 (And.intro hBi (And.intro hBf (And.intro hl (And.intro he hvars)))))))
  have HN : Hid (w.heap.size ≤ r1 ∧ w.heap.size ≤ r2 ∧ w.heap.size ≤ gi ∧ w.heap.size ≤ gf ∧ r1 ≠ r2 ∧ r1 ≠ gi ∧ r1 ≠ gf ∧ r2 ≠ gi ∧ r2 ≠ gf ∧ gi ≠ gf) := by refine ⟨?_, ?_, ?_, ?_, ?_, ?_, ?_, ?_, ?_, ?_⟩ <;> omega
  clear hv hl he con1 hb0 hB1 hBr1 hBr2 hBi hBf hvars
  go_enter Tryz.func10, Tryz.ntmps10
  rw [hW0] at x0 x1 x2 x3
  go_wp2_with fail
  rw [← hW0, ← hgf, ← hgi, ← hr2, ← hr1, ← hg1]
  clear hW0 hgf hgi hr1 hr2 hg1 x0 x1 x2 x3
  refine (Con1.out).mono ?_
  rintro e1 w1 ⟨gx, A1, c1, rfl, hgx, ho, hB, hbel⟩
  have hBi1 := H.out.2.2.2.1.below hbel
  have hBf1 := H.out.2.2.2.2.1.below hbel
  have hil := H.out.2.2.2.1.lt
  have hfl := H.out.2.2.2.2.1.lt
  have Con3 := hide (modf_any gx gi gf n e A1 c1 a w1 hB ho.rd hBi1 hBf1 ⟨HN.out.2.2.2.2.2.2.2.2.2, by omega, by omega⟩ (fun k hk => ⟨ho.room.ne_blk hBi1 (by decide) k hk, ho.room.ne_blk hBf1 (by decide) k hk⟩) H.out.2.2.2.2.2.1 w.heap.size (H.out.2.2.2.2.2.2.2.below (below_next H.out.1 hbel)) ⟨HN.out.2.2.1, HN.out.2.2.2.1⟩ H.out.2.2.2.2.2.2.1)
  have H1 := hide (And.intro (below_next H.out.1 hbel) (And.intro (H.out.2.1.below hbel) (H.out.2.2.1.below hbel)))
  clear hgx ho hB hbel hBi1 hBf1 hil hfl Con1
  go_wp2_with fail
  refine (Con3.out).mono ?_
  rintro e2 w2 ⟨rfl, p, q, ep, eq, P, Q, cp, cq, hN, hrp, hrq, hBp, hBq, hF⟩
  have hle := hN.le
  have hex := hN.exps H.out.2.2.2.2.2.2.1
  have hlp : (digs 18446744073709551616 p).length ≤ 3 := Nat.le_trans (digs_length_mono (by omega) hle.1) H.out.2.2.2.2.2.1
  have hlq : (digs 18446744073709551616 q).length ≤ 3 := Nat.le_trans (digs_length_mono (by omega) hle.2) H.out.2.2.2.2.2.1
  have con4 := told_fin gi n ep false false _ _ w2 hBp hrp (by omega) (by omega) (by omega)
  unfold ToldFin at con4
  have Con4 := hide con4
  have Con5 : Hid (∀ W, Below w2.heap.size w2 W → Calls Tryz.prog 30 #[.pointer (some ⟨gf, 0, none⟩)] W (ToldFin W n eq (digs 18446744073709551616 q))) := fun W hW => told_fin gf n eq false false _ _ W (hBq.below hW) (RdG.below (k := .u64) hrq hW) (by omega) (by omega) (by omega)
  have hb2 : Below w.heap.size w w2 := (Fr.step (Fr.of_below H1.out.1 (fun k => w.heap.size ≤ k)) hF (fun i _ hi => by have hi : i = gi ∨ i = gf := hi; have := HN.out; omega)).below (Nat.le_refl _) (fun _ h => h)
  have H2 := hide (And.intro hb2 (And.intro (H1.out.2.1.fr hF (fun h => h.elim HN.out.2.2.2.2.2.1 HN.out.2.2.2.2.2.2.1)) (And.intro (H1.out.2.2.fr hF (fun h => h.elim HN.out.2.2.2.2.2.2.2.1 HN.out.2.2.2.2.2.2.2.2.1)) hN)))
  clear con4 hrp hrq hBp hBq hF hlp hlq hle hex hN hb2 Con3 H1 H
  go_wp2_with fail
  refine (Con4.out).mono ?_
  rintro e3 w3 ⟨A3, c3, rfl, ho3, hb3⟩
  have con5 := Con5.out w3 hb3
  unfold ToldFin at con5
  have Con6 := hide con5
  have H3 := hide (And.intro ho3 hb3)
  clear con5 Con5 Con4 ho3 hb3
  go_wp2_with fail
  refine (Con6.out).mono ?_
  rintro e4 w4 ⟨A4, c4, rfl, ho4, hb4⟩
  have b1 := (H2.out.2.1.below H3.out.2).below hb4
  have b2 := (H2.out.2.2.1.below H3.out.2).below hb4
  obtain ⟨x0, x1, x2, x3⟩ := b1.dec4
  obtain ⟨y0, y1, y2, y3⟩ := b2.dec4
  have f0 := b1.frozen 0
  have f1 := b1.frozen 1
  have f2 := b1.frozen 2
  have f3 := b1.frozen 3
  have k0 := b2.frozen 0
  have k1 := b2.frozen 1
  have k2 := b2.frozen 2
  have k3 := b2.frozen 3
  have n12 : r1 ≠ r2 := HN.out.2.2.2.2.1
  have n21 : r2 ≠ r1 := fun h => n12 h.symm
  obtain ⟨W6, hW6⟩ : ∃ W6, W6 = (((w4.setCell ⟨r1, 0, none⟩ (.int .i64 0)).setCell ⟨r1, 1, none⟩ (.bool n)).setCell ⟨r1, 2, none⟩ (.slice A3 (digs 18446744073709551616 p).length c3)).setCell ⟨r1, 3, none⟩ (.int .i64 ep) := ⟨_, rfl⟩
  obtain ⟨W7, hW7⟩ : ∃ W7, W7 = (((W6.setCell ⟨r2, 0, none⟩ (.int .i64 0)).setCell ⟨r2, 1, none⟩ (.bool n)).setCell ⟨r2, 2, none⟩ (.slice A4 (digs 18446744073709551616 q).length c4)).setCell ⟨r2, 3, none⟩ (.int .i64 eq) := ⟨_, rfl⟩
  have hF6 : Fr w4 W6 (fun k => k = r1) := by rw [hW6]; exact ((((Fr.refl w4 (fun k => k = r1)).setCell (p := ⟨r1, 0, none⟩) (fun _ => rfl) _).setCell (p := ⟨r1, 1, none⟩) (fun _ => rfl) _).setCell (p := ⟨r1, 2, none⟩) (fun _ => rfl) _).setCell (p := ⟨r1, 3, none⟩) (fun _ => rfl) _
  have hF7 : Fr W6 W7 (fun k => k = r2) := by rw [hW7]; exact ((((Fr.refl W6 (fun k => k = r2)).setCell (p := ⟨r2, 0, none⟩) (fun _ => rfl) _).setCell (p := ⟨r2, 1, none⟩) (fun _ => rfl) _).setCell (p := ⟨r2, 2, none⟩) (fun _ => rfl) _).setCell (p := ⟨r2, 3, none⟩) (fun _ => rfl) _
  have hB6 : Blk W6 r1 24 #[.int .i64 0, .bool n, .slice A3 (digs 18446744073709551616 p).length c3, .int .i64 ep] := by rw [hW6]; exact (((b1.set 0 _).set 1 _).set 2 _).set 3 _
  have b26 := b2.fr hF6 (fun h => n21 h)
  have hB7 : Blk W7 r2 24 #[.int .i64 0, .bool n, .slice A4 (digs 18446744073709551616 q).length c4, .int .i64 eq] := by rw [hW7]; exact (((b26.set 0 _).set 1 _).set 2 _).set 3 _
  have hF8 : Fr w4 W7 (fun k => k = r1 ∨ k = r2) := Fr.step (hF6.mono (fun _ _ h => .inl h)) hF7 (fun _ _ h => .inr h)
  have ho3 := H3.out.1.below hb4
  have HP : Hid (IModP w n a e (.returned (.tuple #[.agg #[.int .i64 0, .bool n, .slice A3 (digs 18446744073709551616 p).length c3, .int .i64 ep], .agg #[.int .i64 0, .bool n, .slice A4 (digs 18446744073709551616 q).length c4, .int .i64 eq]])) W7) :=
    ⟨p, q, ep, eq, A3, A4, c3, c4, rfl, H2.out.2.2.2, (ho3.fr hF8 (fun k hk h => h.elim (ho3.ne_blk b1 (by decide) k hk) (ho3.ne_blk b2 (by decide) k hk))).lower H2.out.1.size, (ho4.fr hF8 (fun k hk h => h.elim (ho4.ne_blk b1 (by decide) k hk) (ho4.ne_blk b2 (by decide) k hk))).lower (Nat.le_trans H2.out.1.size H3.out.2.size),
      (Fr.step (Fr.of_below (below_next (below_next H2.out.1 H3.out.2) hb4) (fun k => w.heap.size ≤ k)) hF8 (fun i _ hi => by have hi : i = r1 ∨ i = r2 := hi; have := HN.out; omega)).below (Nat.le_refl _) (fun _ h => h)⟩
  have HC := hide (And.intro (hB6.fr hF7 (fun h => n12 h)).dec4 hB7.dec4)
  clear hF6 hF7 hB6 hB7 b1 b2 b26 hF8 ho3 ho4 hb4 H2 H3 HN Con6
  generalize (digs 18446744073709551616 p).length = np at *
  generalize (digs 18446744073709551616 q).length = nq at *
  go_wp2_with fail
  all_goals (try rw [← hW6])
  all_goals (try rw [← hW7])
  clear hW6 hW7
  go_wp2
  exact bodyPost_ret (imodf_result r1 r2 _ rfl rfl _ _ _ _ _ _ _ _ _ HC.out.1.1 HC.out.1.2.1 HC.out.1.2.2.1 HC.out.1.2.2.2 HC.out.2.1 HC.out.2.2.1 HC.out.2.2.2.1 HC.out.2.2.2.2) rfl HP.out
end Go.Proofs.YtfkcobdkgjhfaaaGreatDoor

/- What the law FnModf holds while it calls; its numbers; the reference's Same. -/
set_option linter.unusedVariables false
set_option linter.unusedSimpArgs false
namespace Go.Proofs.YtfkcobdkgjhfaaaGreatDoor
open Go.RowKit

theorem num_digs (m : Nat) : numW (digs 18446744073709551616 m) = m := by unfold numW; rw [dval_digs (by omega)]
theorem ok_digs (m : Nat) : okB 0 (digs 18446744073709551616 m) = true := by unfold okB; rw [num_digs]; simp [eqB]
theorem digs_one16 : digs 65536 1 = [1] := by rw [digs_pos (by omega) (by omega)]; rw [show 1 / 65536 = 0 from rfl, digs_zero]
theorem sgnI_zero_len (n : Bool) : sgnI n 0 = 0 := by cases n <;> rfl
theorem ordV_self (n : Bool) (a : Nat) : ordV n a n a = 0 := by
  have h : sumV n a (!n) a = (n, 0) := by
    unfold sumV
    rw [if_neg (by cases n <;> simp), if_pos (Nat.le_refl _), Nat.sub_self]
  unfold ordV
  rw [h, digs_zero]
  exact sgnI_zero_len n
theorem ordV_less {a b : Nat} (h : a < b) : ordV false a false b = -1 := by
  have h1 : sumV false a (!false) b = (true, b - a) := by
    unfold sumV
    rw [if_neg (by decide), if_neg (by omega)]
    rfl
  unfold ordV
  rw [h1]
  have h2 : (digs 65536 (b - a)).length ≠ 0 := fun h => digs_ne_nil (by omega) (by omega : 0 < b - a) (List.eq_nil_of_length_eq_zero h)
  obtain ⟨l, hl⟩ : ∃ l, (digs 65536 (b - a)).length = l + 1 := ⟨(digs 65536 (b - a)).length - 1, by omega⟩
  rw [hl]
  rfl

/-- The parts' sum, at one exponent; what is left is below 1. -/
structure ModU (a : Nat) (e : Int) (p : Nat) (ep : Int) (q : Nat) (eq M : Int) (sa sb st u : Nat) : Prop where
  e1 : ep = M + (sa : Int)
  e2 : eq = M + (sb : Int)
  e3 : e = M + (st : Int)
  z : sa = 0 ∨ sb = 0
  l1 : sa ≤ 100
  l2 : sb ≤ 100
  l3 : st ≤ 100
  m1 : -100 ≤ M
  m2 : M ≤ 0
  eu : eq + (u : Int) = 0
  lu : u ≤ 100
  sum : p * 10 ^ sa + q * 10 ^ sb = a * 10 ^ st
  lt : q < 10 ^ u
  p0 : 0 ≤ ep

theorem modN_sum {a : Nat} {e : Int} {p : Nat} {ep : Int} {q : Nat} {eq : Int} (h : ModN a e p ep q eq) (he : -100 ≤ e ∧ e ≤ 100) : ∃ M sa sb st u, ModU a e p ep q eq M sa sb st u := by
  rcases h with ⟨h, rfl, rfl, rfl, rfl⟩ | ⟨h, rfl, rfl, h1, h2⟩
  · obtain ⟨k, hk⟩ : ∃ k : Nat, ep = (k : Int) := ⟨ep.natAbs, by omega⟩
    subst hk
    exact ⟨0, k, 0, k, 0, by omega, by omega, by omega, .inr rfl, by omega, by omega, by omega, by omega, by omega, by omega, by omega, by simp, by simp, by omega⟩
  · obtain ⟨k, hk⟩ : ∃ k : Nat, eq = -(k : Int) := ⟨eq.natAbs, by omega⟩
    subst hk
    have e1 : (-(k : Int)).natAbs = k := by omega
    rw [e1] at h1 h2
    exact ⟨-(k : Int), k, 0, 0, k, by omega, by omega, by omega, .inr rfl, by omega, by omega, by omega, by omega, by omega, by omega, by omega, by simpa using h1, h2, by omega⟩
theorem wide_100 {a s : Nat} (ha : (digs 65536 a).length ≤ 12) (hs : s ≤ 100) : (digs 65536 (a * 10 ^ s)).length ≤ 33 := by
  have h1 := lt_of_digs_length (b := 65536) (by omega) ha
  have h2 : (10 : Nat) ^ s < 65536 ^ 21 := Nat.lt_of_le_of_lt (Nat.pow_le_pow_right (by omega) hs) (by decide)
  refine digs_length_le (by omega) ?_
  exact Nat.lt_of_lt_of_eq (Nat.mul_lt_mul'' h1 h2) (by rw [← Nat.pow_add])

set_option maxHeartbeats 1000000 in
theorem ssame_any (n1 n2 : Bool) (B1 B2 : Option Addr) (l1 l2 c1 c2 a b sa sb : Nat) (m x1 x2 : Int) (w : World) (hx1 : x1 = m + (sa : Int)) (hx2 : x2 = m + (sb : Int)) (hr1 : RdG .i64 w (.slice B1 l1 c1) (digs 65536 a)) (hr2 : RdG .i64 w (.slice B2 l2 c2) (digs 65536 b)) (h1 : l1 ≤ 120) (h2 : l2 ≤ 120) (hz : sa = 0 ∨ sb = 0) (hsa : sa ≤ 200) (hsb : sb ≤ 200) (hm : -1000 ≤ m) (hm2 : m ≤ 1000) :
    Calls Tryz.prog 12 #[.agg #[.bool n1, .slice B1 l1 c1, .int .i64 x1], .agg #[.bool n2, .slice B2 l2 c2, .int .i64 x2]] w (fun e w' => e = .returned (.bool (ordV n1 (a * 10 ^ sa) n2 (b * 10 ^ sb) == 0)) ∧ Below w.heap.size w w') := by
  obtain ⟨g1, hg1⟩ : ∃ g, g = w.heap.size := ⟨_, rfl⟩
  obtain ⟨g2, hg2⟩ : ∃ g, g = w.heap.size + 1 := ⟨_, rfl⟩
  obtain ⟨W0, hW0⟩ : ∃ W0, W0 = (w.alloc (.cells #[.bool n1, .slice B1 l1 c1, .int .i64 x1] 29)).alloc (.cells #[.bool n2, .slice B2 l2 c2, .int .i64 x2] 29) := ⟨_, rfl⟩
  have hb : Below w.heap.size w W0 := by rw [hW0]; exact below_al (below_al (Below.refl _ _) _) _
  have hB1 : Blk W0 g1 29 #[.bool n1, .slice B1 l1 c1, .int .i64 x1] := by rw [hW0, hg1]; exact (Blk.new w _ _).alloc _
  have hB2 : Blk W0 g2 29 #[.bool n2, .slice B2 l2 c2, .int .i64 x2] := by
    rw [hW0, hg2]
    have := Blk.new (w.alloc (.cells #[.bool n1, .slice B1 l1 c1, .int .i64 x1] 29)) 29 #[.bool n2, .slice B2 l2 c2, .int .i64 x2]
    simpa using this
  obtain ⟨q, hq⟩ : ∃ q, q = ordV n1 (a * 10 ^ sa) n2 (b * 10 ^ sb) := ⟨_, rfl⟩
  have con := sorder_any n1 n2 B1 B2 l1 l2 c1 c2 a b sa sb m x1 x2 W0 hx1 hx2 (hr1.below hb) (hr2.below hb) h1 h2 hz hsa hsb hm hm2
  rw [← hq] at con ⊢
  have Con := hide con
  have HB := hide hb
  have k1 := hB1.val3
  have k2 := hB2.val3
  clear con hb hB1 hB2 hr1 hr2 hx1 hx2 h1 h2 hz hsa hsb hm hm2 hq
  obtain ⟨k1, k3, k4⟩ := k1
  obtain ⟨k2, k5, k6⟩ := k2
  rw [hW0] at k1 k2 k3 k4 k5 k6
  go_enter Tryz.func12, Tryz.ntmps12
  go_wp2_with fail
  rw [← hW0]
  clear hW0 k1 k2 k3 k4 k5 k6
  refine (Con.out).mono ?_
  rintro e w1 ⟨rfl, hb1⟩
  have HF := hide (below_next HB.out hb1)
  clear Con HB hb1
  go_wp2
  go_ret
  exact ⟨rfl, HF.out⟩

/-- What the law holds: the value and its parts. -/
structure MfL (w : World) (gv gp gq : Nat) (n nq : Bool) (B P Q : Option Addr) (lb lp lq cb cp cq a p q : Nat) (e ep eq : Int) (W : World) : Prop where
  bel : Below w.heap.size w W
  ba : Blk W gv 29 #[.bool n, .slice B lb cb, .int .i64 e]
  bp : Blk W gp 29 #[.bool n, .slice P lp cp, .int .i64 ep]
  bq : Blk W gq 29 #[.bool nq, .slice Q lq cq, .int .i64 eq]
  ra : OwnI W w.heap.size (.slice B lb cb) (digs 65536 a)
  rp : OwnI W w.heap.size (.slice P lp cp) (digs 65536 p)
  rq : OwnI W w.heap.size (.slice Q lq cq) (digs 65536 q)
section
variable {w : World} {gv gp gq : Nat} {n nq : Bool} {B P Q : Option Addr} {lb lp lq cb cp cq a p q : Nat} {e ep eq : Int} {W W' : World}
theorem MfL.below (h : MfL w gv gp gq n nq B P Q lb lp lq cb cp cq a p q e ep eq W) (hb : Below W.heap.size W W') : MfL w gv gp gq n nq B P Q lb lp lq cb cp cq a p q e ep eq W' :=
  ⟨below_next h.bel hb, h.ba.below hb, h.bp.below hb, h.bq.below hb, h.ra.below hb, h.rp.below hb, h.rq.below hb⟩
theorem MfL.next (h : MfL w gv gp gq n nq B P Q lb lp lq cb cp cq a p q e ep eq W) (h1 : W'.os = W.os) (h2 : W'.tape = W.tape) (h3 : W'.output = W.output) (h4 : W.heap.size ≤ W'.heap.size) (h5 : ∀ k, k < W.heap.size → W'.heap[k]? = W.heap[k]?) : MfL w gv gp gq n nq B P Q lb lp lq cb cp cq a p q e ep eq W' :=
  h.below ⟨h1, h2, h3, h4, h5⟩
theorem MfL.cells (h : MfL w gv gp gq n nq B P Q lb lp lq cb cp cq a p q e ep eq W) :
    (W.cell? ⟨gv, 0, none⟩ = some (.bool n) ∧ W.cell? ⟨gv, 1, none⟩ = some (.slice B lb cb) ∧ W.cell? ⟨gv, 2, none⟩ = some (.int .i64 e)) ∧
    (W.cell? ⟨gp, 0, none⟩ = some (.bool n) ∧ W.cell? ⟨gp, 1, none⟩ = some (.slice P lp cp) ∧ W.cell? ⟨gp, 2, none⟩ = some (.int .i64 ep)) ∧
    (W.cell? ⟨gq, 0, none⟩ = some (.bool nq) ∧ W.cell? ⟨gq, 1, none⟩ = some (.slice Q lq cq) ∧ W.cell? ⟨gq, 2, none⟩ = some (.int .i64 eq)) := ⟨h.ba.val3, h.bp.val3, h.bq.val3⟩
theorem MfL.pos (h : MfL w gv gp gq n nq B P Q lb lp lq cb cp cq a p q e ep eq W) (h1 : gp ≠ gq) (h2 : gv ≠ gq) (hg : w.heap.size ≤ gq) : MfL w gv gp gq n false B P Q lb lp lq cb cp cq a p q e ep eq (W.setCell ⟨gq, 0, none⟩ (.bool false)) := by
  have fr := (Fr.refl W (fun k => k = gq)).setCell (p := ⟨gq, 0, none⟩) (fun _ => rfl) (.bool false)
  refine ⟨?_, h.ba.far (p := ⟨gq, 0, none⟩) h2 _, h.bp.far (p := ⟨gq, 0, none⟩) h1 _, h.bq.set 0 _, ?_, ?_, ?_⟩
  · exact (Fr.step (Fr.of_below h.bel (fun k => w.heap.size ≤ k)) fr (fun i _ hi => by have hi : i = gq := hi; omega)).below (Nat.le_refl _) (fun _ h => h)
  · exact h.ra.fr fr (h.ra.ne_blk h.bq (by decide))
  · exact h.rp.fr fr (h.rp.ne_blk h.bq (by decide))
  · exact h.rq.fr fr (h.rq.ne_blk h.bq (by decide))
end
end Go.Proofs.YtfkcobdkgjhfaaaGreatDoor

/- What the laid package variables give the walks that divide by several words. -/
set_option linter.unusedVariables false
set_option linter.unusedSimpArgs false
namespace Go.Proofs.YtfkcobdkgjhfaaaGreatDoor
open Go Go.RowKit

theorem varsD_of {w : World} {l : List (String × DataW Unit)} (h : laidMetH Tryz.prog l w) (hp : (l.filter fun x => x.2.handleName?.isSome) = [])
    (m0 : ("loop.example/pub-g03241/pub/bigall.basicSqrThreshold", DataW.lit (.int .i64 12)) ∈ l) (m1 : ("loop.example/pub-g03241/pub/bigall.karatsubaSqrThreshold", DataW.lit (.int .i64 80)) ∈ l) (m2 : ("loop.example/pub-g03241/pub/bigall.karatsubaThreshold", DataW.lit (.int .i64 40)) ∈ l) (m3 : ("loop.example/pub-g03241/pub/bigall.leafSize", DataW.lit (.int .i64 8)) ∈ l) (m4 : ("loop.example/pub-g03241/pub/bigall.divRecursiveThreshold", DataW.lit (.int .i64 40)) ∈ l) : VarsD w w.heap.size := by
  have hv := varsL_of h hp m0 m1 m2 m3
  unfold laidMetH at h
  rw [hp] at h
  obtain ⟨ps, hl, -⟩ := h
  have c := laid_int (g := 0) (by kernel_rfl) (by kernel_rfl) hl m4
  exact ⟨hv, c, World.block_lt_of_cell? _ _ c⟩
end Go.Proofs.YtfkcobdkgjhfaaaGreatDoor
