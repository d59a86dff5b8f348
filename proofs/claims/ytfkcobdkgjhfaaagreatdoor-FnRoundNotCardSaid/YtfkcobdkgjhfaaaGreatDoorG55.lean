/- Parts of the proofs: Rnd1, Rnd2. -/
import Derived.Test.YtfkcobdkgjhfaaaGreatDoorG9
import Derived.Test.YtfkcobdkgjhfaaaGreatDoorG30
import Derived.Test.YtfkcobdkgjhfaaaGreatDoorG46
import Derived.Test.YtfkcobdkgjhfaaaGreatDoorG48
/- Walks: a Context without precision; Decimal.setExponent at one exponent far from the limits; Context.Round where the precision is 0. -/
set_option linter.unusedVariables false
set_option linter.unusedSimpArgs false
namespace Go.Proofs.YtfkcobdkgjhfaaaGreatDoor
open Go.RowKit

/-- The cells of a Context without precision. -/
def ctxC (s : ByteArray) : Array Value := #[.int .u32 0, .int .i32 100000, .int .i32 (-100000), .int .u32 0, .string s]

set_option maxHeartbeats 2000000 in
theorem context_zero (k : Nat) (hk : k < 8) (w : World) : Calls Tryz.prog 40 #[.agg #[.int .u64 0, .int .i64 100000, .int .i64 (-100000), .int .i64 (k : Int)]] w fun e w' => (∃ g s, e = .returned (.pointer (some ⟨g, 0, none⟩)) ∧ w.heap.size ≤ g ∧ Blk w' g 125 (ctxC s)) ∧ Below w.heap.size w w' := by
  obtain ⟨g, hg⟩ : ∃ g, g = w.heap.size := ⟨_, rfl⟩
  obtain ⟨W0, hW0⟩ : ∃ W, W = w.alloc (.cells #[.int .u64 0, .int .i64 100000, .int .i64 (-100000), .int .i64 (k : Int)] 48) := ⟨_, rfl⟩
  have hb : Blk W0 g 48 #[.int .u64 0, .int .i64 100000, .int .i64 (-100000), .int .i64 (k : Int)] := by rw [hW0, hg]; exact Blk.new _ _ _
  obtain ⟨c0, c1, c2, c3⟩ := hb.dec4
  have HS : Hid (Below w.heap.size w W0 ∧ Blk W0 g 48 #[.int .u64 0, .int .i64 100000, .int .i64 (-100000), .int .i64 (k : Int)]) := ⟨by rw [hW0]; exact below_al (Below.refl _ _) _, hb⟩
  have Con := hide (fun W => rounder_some k hk W)
  clear hb c0 c1 c2 c3
  go_enter Tryz.func40, Tryz.ntmps40
  go_wp2_with fail
  rw [← hW0, ← hg]
  clear hW0 hg
  go_region_held3 (fun W => (W.cell? ⟨g, 0, none⟩ = some (.int .u64 0) ∧ W.cell? ⟨g, 1, none⟩ = some (.int .i64 100000) ∧ W.cell? ⟨g, 2, none⟩ = some (.int .i64 (-100000)) ∧ W.cell? ⟨g, 3, none⟩ = some (.int .i64 (k : Int)))) (first | exact HS.out.2.dec4 | exact (HS.out.2.alloc _).dec4 | go_keep)
    ((go_at_call 69; go_loud (refine (Con.out _).mono ?_; rintro e w1 ⟨⟨s, rfl⟩, rfl⟩)))
  all_goals go_wp2
  all_goals go_ret
  all_goals exact ⟨⟨_, s, rfl, HS.out.1.size, Blk.drew (Blk.new W0 _ _)⟩, below_dr (below_al HS.out.1 _)⟩

theorem cinex_zero (w : World) : Calls Tryz.prog 151 #[.int .u32 0] w fun e w' => e = .returned (.bool false) ∧ w = w' := by
  go_enter Tryz.func151, Tryz.ntmps151
  go_wp2
  go_ret
  exact ⟨rfl, rfl⟩

set_option maxHeartbeats 2000000 in
set_option maxRecDepth 20000 in
theorem setExp_one (gd gc gx : Nat) (n : Bool) (e nd : Int) (A : Option Addr) (l c : Nat) (s : ByteArray) (w : World) (hd : Blk w gd 71 (decC 0 n e false (.slice A l c) false)) (hc : Blk w gc 125 (ctxC s)) (hx : w.cell? ⟨gx, 0, none⟩ = some (.int .i64 e)) (he : -1000 ≤ e ∧ e ≤ 1000) (hn : 1 ≤ nd ∧ nd ≤ 10000) :
    Calls Tryz.prog 130 #[.pointer (some ⟨gd, 0, none⟩), .pointer (some ⟨gc, 0, none⟩), .int .i64 nd, .int .u32 0, .slice (some ⟨gx, 0, none⟩) 1 1] w fun e' w' => e' = .returned (.int .u32 0) ∧ Blk w' gd 71 (decC 0 n e false (.slice A l c) false) ∧ Fr w w' (fun k => k = gd) := by
  have m1 : w.cell? ⟨gc, 1, none⟩ = some (.int .i32 100000) := hc.cell 1
  have m2 : w.cell? ⟨gc, 2, none⟩ = some (.int .i32 (-100000)) := hc.cell 2
  have m3 : w.cell? ⟨gd, 2, none⟩ = some (.int .i32 e) := hd.cell 2
  have f2 := hd.frozen 2
  have Con := hide (fun W => cinex_zero W)
  have HP : Hid (Blk (w.setCell ⟨gd, 2, none⟩ (.int .i32 e)) gd 71 (decC 0 n e false (.slice A l c) false) ∧ Fr w (w.setCell ⟨gd, 2, none⟩ (.int .i32 e)) (fun k => k = gd)) :=
    ⟨hd.set 2 _, (Fr.refl w (fun k => k = gd)).setCell (p := ⟨gd, 2, none⟩) (fun _ => rfl) _⟩
  obtain ⟨x1, hx1⟩ : ∃ x : Int, x = e + nd := ⟨_, rfl⟩
  obtain ⟨x2, hx2⟩ : ∃ x : Int, x = x1 - 1 := ⟨_, rfl⟩
  have q1 : ¬ (100000 : Int) < e := by omega
  have q2 : ¬ e < -100000 := by omega
  have q3 : ¬ (100000 : Int) < x2 := by omega
  have q4 : ¬ x2 < -100000 := by omega
  have q5 : (nd == -1) = false := beq_eq_false_iff_ne.2 (by omega)
  have t1 : decide ((100000 : Int) < e) = false := decide_eq_false q1
  have t2 : decide (e < -100000) = false := decide_eq_false q2
  have t3 : decide ((100000 : Int) < x2) = false := decide_eq_false q3
  have t4 : decide (x2 < -100000) = false := decide_eq_false q4
  have r1 : IntKind.i64.wrap e = e := by simp [IntKind.wrap, IntKind.signed, IntKind.bits]; omega
  have r2 : IntKind.i32.wrap e = e := by simp [IntKind.wrap, IntKind.signed, IntKind.bits]; omega
  have r3 : IntKind.i64.wrap (e + nd) = x1 := by rw [hx1]; simp [IntKind.wrap, IntKind.signed, IntKind.bits]; omega
  have r4 : IntKind.i64.wrap (x1 - 1) = x2 := by rw [hx2]; simp [IntKind.wrap, IntKind.signed, IntKind.bits]; omega
  have r5 : IntKind.i32.wrap x2 = x2 := by simp [IntKind.wrap, IntKind.signed, IntKind.bits]; omega
  clear hd hc hx1 hx2 he hn
  go_enter Tryz.func130, Tryz.ntmps130
  go_wp2_with fail
  go_loopw [11, 23] (fun vs vi wr => w = wr ∧ ((vs = .int .i64 0 ∧ vi = .int .i64 0) ∨ (vs = .int .i64 e ∧ vi = .int .i64 1))) (fun _ vi _ => match vi with | .int _ i => 1 - i.toNat | _ => 0)
  case atStart => exact ⟨by first | rfl | trivial, .inl ⟨rfl, rfl⟩⟩
  case round =>
    obtain ⟨rfl, ⟨rfl, rfl⟩ | ⟨rfl, rfl⟩⟩ := hrel
    · go_wp2
      go_roundw
      case rel => exact ⟨by first | rfl | trivial, .inr ⟨rfl, rfl⟩⟩
      case measure => show _ < _; decide
    · go_wp2_with fail
      refine (Con.out _).mono ?_
      rintro e1 w1 ⟨rfl, rfl⟩
      go_wp2
      go_ret
      exact ⟨rfl, HP.out⟩

/-- Behind Round: d holds the number as it came. -/
def RndP (w : World) (gd : Nat) (n : Bool) (a : Nat) (e : Int) (v : Value) (e' : Ending) (w' : World) : Prop :=
  e' = .returned v ∧ ∃ A c, Own w' w.heap.size (.slice A (digs 18446744073709551616 a).length c) (digs 18446744073709551616 a) ∧ Blk w' gd 71 (decC 0 n e false (.slice A (digs 18446744073709551616 a).length c) false) ∧ Fr w w' (fun k => k = gd)

set_option maxHeartbeats 2000000 in
set_option maxRecDepth 20000 in
theorem rround_zero (b gc gd gx : Nat) (s s2 : ByteArray) (n : Bool) (e : Int) (A : Option Addr) (c a : Nat) (w : World) (hd : Blk w gd 71 (decC 0 false 0 false (.slice none 0 0) false)) (hx : Blk w gx 71 (decC 0 n e false (.slice A (digs 18446744073709551616 a).length c) false)) (hxr : RdW w (.slice A (digs 18446744073709551616 a).length c) (digs 18446744073709551616 a)) (hxb : ∀ k, (Value.slice A (digs 18446744073709551616 a).length c).ownBlock = some k → k ≠ gd)
    (hc : Blk w gc 125 (ctxC s2)) (hne : gd ≠ gx) (hgc : gd ≠ gc) (hl : (digs 18446744073709551616 a).length ≤ 3) (he : -1000 ≤ e ∧ e ≤ 1000) (hv : VarsL w b) (hbd : b ≤ gd) :
    Calls Tryz.prog 115 #[.string s, .pointer (some ⟨gc, 0, none⟩), .pointer (some ⟨gd, 0, none⟩), .pointer (some ⟨gx, 0, none⟩), .bool true] w (RndP w gd n a e (.int .u32 0)) := by
  have Con1 := hide (dset_any w.heap.size gd gx 0 false 0 false (.slice none 0 0) false 0 n e false (.slice A (digs 18446744073709551616 a).length c) false 0 (digs 18446744073709551616 a) w hd (Own.nil _ _).room hx hxr hxb hne (Nat.le_refl _) (by omega))
  have hblen : blen a ≤ 1280 := blen_words_le (k := 20) (lt_of_digs_length (b := 18446744073709551616) (by omega) (by omega))
  have hlt := hd.lt
  have H0 := hide (And.intro hx (And.intro hxr (And.intro hxb (And.intro hc (And.intro hne (And.intro hgc (And.intro hv (And.intro hbd (And.intro hblen (And.intro he (And.intro (figs_small hl) (And.intro (figs_pos a) hlt))))))))))))
  clear hd hx hxr hxb hc hne hgc hl he hv hbd hblen hlt
  go_enter Tryz.func115, Tryz.ntmps115
  go_wp2_with fail
  refine (Con1.out).mono ?_
  rintro e1 w1 ⟨rfl, A1, c1, ho, -, hB, hF⟩
  have hF1 : Fr w w1 (fun k => k = gd) := hF.mono (fun k _ h => h.elim id (fun h => by cases h))
  obtain ⟨hx, hxr, hxb, hc, hne, hgc, hv, hbd, hblen, he, hfs, hfp, hlt⟩ := H0.out
  have hx1 := hx.fr hF1 (fun h => hne h.symm)
  have hxr1 := hxr.fr hF1 hxb
  have hc1 := hc.fr hF1 (fun h => hgc h.symm)
  have hv1 : VarsL w1 w1.heap.size := (hv.fr hF1 (fun k hk => by subst hk; exact hbd)).raise (by have := hF1.size; omega)
  have Con2 := hide (dnumD_any gx _ _ A c a w1 (BigAt.dec hx1 hxr1) hblen hv1)
  have hB1 : Blk w1 gd 71 (decC 0 n e false (.slice A1 (digs 18446744073709551616 a).length c1) false) := hB
  have HO := hide (And.intro ho (And.intro hB1 (And.intro hF1 (And.intro hx1 (And.intro hc1 (And.intro he (And.intro hfs hfp)))))))
  clear ho hB hF hF1 hx hxr hxb hc hne hgc hv hbd hblen he hfs hfp hlt hx1 hxr1 hc1 hv1 hB1 Con1 H0
  go_wp2_with fail
  refine (Con2.out).mono ?_
  rintro e2 w2 ⟨rfl, hb2⟩
  obtain ⟨ho, hB, hF, hx, hc, he, hfs, hfp⟩ := HO.out
  have hB2 := hB.below hb2
  have hc2 := hc.below hb2
  have Con3 := hide (dsign_any gx n e A _ c w2 (hx.below hb2))
  have p0 : w2.cell? ⟨gc, 0, none⟩ = some (.int .u32 0) := hc2.cell 0
  have d2 : w2.cell? ⟨gd, 2, none⟩ = some (.int .i32 e) := hB2.cell 2
  have r1 : IntKind.i64.wrap e = e := by simp [IntKind.wrap, IntKind.signed, IntKind.bits]; omega
  obtain ⟨q, hq⟩ : ∃ q : Int, q = (figs a : Int) := ⟨_, rfl⟩
  rw [← hq]
  have Con4 : Hid (∀ W g, Below w2.heap.size w2 W → W.cell? ⟨g, 0, none⟩ = some (.int .i64 e) → Calls Tryz.prog 130 #[.pointer (some ⟨gd, 0, none⟩), .pointer (some ⟨gc, 0, none⟩), .int .i64 q, .int .u32 0, .slice (some ⟨g, 0, none⟩) 1 1] W fun e' w' => e' = .returned (.int .u32 0) ∧ Blk w' gd 71 (decC 0 n e false (.slice A1 (digs 18446744073709551616 a).length c1) false) ∧ Fr W w' (fun k => k = gd)) :=
    fun W g hW hg => setExp_one gd gc g n e q A1 _ c1 s2 W (hB2.below hW) (hc2.below hW) hg he (by omega)
  have HF : Hid (∀ W w', Below w2.heap.size w2 W → Blk w' gd 71 (decC 0 n e false (.slice A1 (digs 18446744073709551616 a).length c1) false) → Fr W w' (fun k => k = gd) → RndP w gd n a e (.int .u32 0) (.returned (.int .u32 0)) w') := fun W w' hW hb hf =>
    ⟨rfl, A1, c1, ((ho.below hb2).below hW).fr hf (((ho.below hb2).below hW).room.ne_blk (hB2.below hW) (by decide)), hb, Fr.step (Fr.step hF (Fr.of_below hb2 (fun _ => False)) (fun _ _ h => h.elim)) (Fr.step (Fr.of_below hW (fun k => k = gd)) hf (fun _ _ h => h)) (fun _ _ h => h)⟩
  have HW : Hid (Below w2.heap.size w2 (w2.alloc (.cells #[.int .i64 e] 2))) := below_al (Below.refl _ _) _
  clear hb2 ho hB hF hx hc he hfs hfp hB2 hc2 hq HO Con2
  go_wp2_with fail
  refine (Con3.out).mono ?_
  rintro e3 w3 ⟨rfl, rfl⟩
  clear Con3
  go_wp2_with fail
  refine (Con4.out _ _ HW.out (by simp)).mono ?_
  rintro e4 w4 ⟨rfl, hb4, hf4⟩
  have HE := hide (HF.out _ _ HW.out hb4 hf4)
  clear hb4 hf4 HF Con4
  go_wp2
  go_ret
  exact HE.out

theorem cround_zero (b gc gd gx : Nat) (s2 : ByteArray) (n : Bool) (e : Int) (A : Option Addr) (c a : Nat) (w : World) (hd : Blk w gd 71 (decC 0 false 0 false (.slice none 0 0) false)) (hx : Blk w gx 71 (decC 0 n e false (.slice A (digs 18446744073709551616 a).length c) false)) (hxr : RdW w (.slice A (digs 18446744073709551616 a).length c) (digs 18446744073709551616 a)) (hxb : ∀ k, (Value.slice A (digs 18446744073709551616 a).length c).ownBlock = some k → k ≠ gd)
    (hc : Blk w gc 125 (ctxC s2)) (hne : gd ≠ gx) (hgc : gd ≠ gc) (hl : (digs 18446744073709551616 a).length ≤ 3) (he : -1000 ≤ e ∧ e ≤ 1000) (hv : VarsL w b) (hbd : b ≤ gd) :
    Calls Tryz.prog 86 #[.pointer (some ⟨gc, 0, none⟩), .pointer (some ⟨gd, 0, none⟩), .pointer (some ⟨gx, 0, none⟩)] w (RndP w gd n a e (.int .u32 0)) := by
  have c4 : w.cell? ⟨gc, 4, none⟩ = some (.string s2) := hc.cell 4
  have Con := hide (rround_zero b gc gd gx s2 s2 n e A c a w hd hx hxr hxb hc hne hgc hl he hv hbd)
  clear hd hx hxr hxb hc hne hgc hl he hv hbd
  go_enter Tryz.func86, Tryz.ntmps86
  go_wp2_with fail
  refine (Con.out).mono ?_
  rintro e1 w1 h
  have HE := hide h
  obtain ⟨rfl, -⟩ := h
  clear Con
  go_wp2
  go_ret
  exact HE.out

theorem goerr_zero (gc : Nat) (w : World) : Calls Tryz.prog 74 #[.pointer (some ⟨gc, 0, none⟩), .int .u32 0] w fun e w' => e = .returned (.tuple #[.int .u32 0, .nilIface]) ∧ w = w' := by
  go_enter Tryz.func74, Tryz.ntmps74
  go_wp2
  go_ret2
  exact ⟨rfl, rfl⟩

theorem cRound_zero (b gc gd gx : Nat) (s2 : ByteArray) (n : Bool) (e : Int) (A : Option Addr) (c a : Nat) (w : World) (hd : Blk w gd 71 (decC 0 false 0 false (.slice none 0 0) false)) (hx : Blk w gx 71 (decC 0 n e false (.slice A (digs 18446744073709551616 a).length c) false)) (hxr : RdW w (.slice A (digs 18446744073709551616 a).length c) (digs 18446744073709551616 a)) (hxb : ∀ k, (Value.slice A (digs 18446744073709551616 a).length c).ownBlock = some k → k ≠ gd)
    (hc : Blk w gc 125 (ctxC s2)) (hne : gd ≠ gx) (hgc : gd ≠ gc) (hl : (digs 18446744073709551616 a).length ≤ 3) (he : -1000 ≤ e ∧ e ≤ 1000) (hv : VarsL w b) (hbd : b ≤ gd) :
    Calls Tryz.prog 47 #[.pointer (some ⟨gc, 0, none⟩), .pointer (some ⟨gd, 0, none⟩), .pointer (some ⟨gx, 0, none⟩)] w (RndP w gd n a e (.tuple #[.int .u32 0, .nilIface])) := by
  have Con := hide (cround_zero b gc gd gx s2 n e A c a w hd hx hxr hxb hc hne hgc hl he hv hbd)
  clear hd hx hxr hxb hc hne hgc hl he hv hbd
  go_enter Tryz.func47, Tryz.ntmps47
  go_wp2_with fail
  refine (Con.out).mono ?_
  rintro e1 w1 ⟨rfl, h⟩
  have HE : Hid (RndP w gd n a e (.tuple #[.int .u32 0, .nilIface]) (.returned (.tuple #[.int .u32 0, .nilIface])) w1) := ⟨rfl, h⟩
  clear h Con
  go_wp2_with fail
  refine (goerr_zero gc _).mono ?_
  rintro e2 w2 ⟨rfl, rfl⟩
  go_wp2
  go_ret2
  exact HE.out
end Go.Proofs.YtfkcobdkgjhfaaaGreatDoor

/- Walk: the thin package's Round with a precision of 0. -/
set_option linter.unusedVariables false
set_option linter.unusedSimpArgs false
namespace Go.Proofs.YtfkcobdkgjhfaaaGreatDoor
open Go.RowKit

/-- What Round holds: its boxes, its result's cell, and d. -/
structure RdH (w : World) (g0 g1 gr gd : Nat) (X0 X1 Dd : Array Value) (W : World) : Prop where
  bel : Below w.heap.size w W
  b0 : Blk W g0 48 X0
  b1 : Blk W g1 24 X1
  br : Blk W gr 24 #[.int .i64 0, .bool false, .slice none 0 0, .int .i64 0]
  bd : Blk W gd 71 Dd
theorem RdH.next {w : World} {g0 g1 gr gd : Nat} {X0 X1 Dd : Array Value} {W W' : World} (h : RdH w g0 g1 gr gd X0 X1 Dd W) (h1 : W'.os = W.os) (h2 : W'.tape = W.tape) (h3 : W'.output = W.output) (h4 : W.heap.size ≤ W'.heap.size) (h5 : ∀ k, k < W.heap.size → W'.heap[k]? = W.heap[k]?) : RdH w g0 g1 gr gd X0 X1 Dd W' :=
  ⟨below_next h.bel ⟨h1, h2, h3, h4, h5⟩, h.b0.below ⟨h1, h2, h3, h4, h5⟩, h.b1.below ⟨h1, h2, h3, h4, h5⟩, h.br.below ⟨h1, h2, h3, h4, h5⟩, h.bd.below ⟨h1, h2, h3, h4, h5⟩⟩
theorem RdH.setd {w : World} {g0 g1 gr gd : Nat} {X0 X1 Dd Dd' : Array Value} {W W' : World} (h : RdH w g0 g1 gr gd X0 X1 Dd W) (hn : g0 ≠ gd ∧ g1 ≠ gd ∧ gr ≠ gd ∧ w.heap.size ≤ gd) (hF : Fr W W' (fun k => k = gd)) (hd : Blk W' gd 71 Dd') : RdH w g0 g1 gr gd X0 X1 Dd' W' :=
  ⟨(Fr.step (Fr.of_below h.bel (fun k => w.heap.size ≤ k)) hF (fun i _ hi => by subst hi; exact hn.2.2.2)).below (Nat.le_refl _) (fun _ h => h), h.b0.fr hF hn.1, h.b1.fr hF hn.2.1, h.br.fr hF hn.2.2.1, hd⟩

theorem frz4r {w : World} {g : Nat} {t : TypeId} {cs : Array Value} (h : Blk w g t cs) : w.frozen? ⟨g, 0, none⟩ = false ∧ w.frozen? ⟨g, 1, none⟩ = false ∧ w.frozen? ⟨g, 2, none⟩ = false ∧ w.frozen? ⟨g, 3, none⟩ = false := ⟨h.frozen 0, h.frozen 1, h.frozen 2, h.frozen 3⟩

theorem rnd_result (n : Nat) (v5 v6 : Value) (tmps : Array Value) (h : tmps.getD 4 undef = .pointer (some ⟨n, 0, none⟩)) (h5 : tmps.getD 5 undef = v5) (h6 : tmps.getD 6 undef = v6) (W : World) (a b c d : Value) (c0 : W.cell? ⟨n, 0, none⟩ = some a) (c1 : W.cell? ⟨n, 1, none⟩ = some b) (c2 : W.cell? ⟨n, 2, none⟩ = some c) (c3 : W.cell? ⟨n, 3, none⟩ = some d) :
    (results Tryz.f27 tmps).run Tryz.prog W = .ok (.tuple #[.agg #[a, b, c, d], v5, v6]) W := by
  have e4 : tmps[4]?.getD undef = .pointer (some ⟨n, 0, none⟩) := by simpa using h
  have e5 : tmps[5]?.getD undef = v5 := by simpa using h5
  have e6 : tmps[6]?.getD undef = v6 := by simpa using h6
  simp [results, Tryz.results27, go_sem, e4, e5, e6, c0, c1, c2, c3]

/-- Behind Round: the number as it came. -/
def IrndP (w : World) (n : Bool) (a : Nat) (e : Int) (e' : Ending) (w' : World) : Prop :=
  ∃ (A : Option Addr) (c : Nat), e' = .returned (.tuple #[.agg #[.int .i64 0, .bool n, .slice A (digs 18446744073709551616 a).length c, .int .i64 e], .int .i64 0, .bool true]) ∧ OwnU w' w.heap.size (.slice A (digs 18446744073709551616 a).length c) (digs 18446744073709551616 a) ∧ Below w.heap.size w w'

set_option maxHeartbeats 4000000 in
set_option maxRecDepth 20000 in
theorem irnd_any (k : Nat) (hk : k < 8) (n : Bool) (A : Option Addr) (c a : Nat) (e : Int) (w : World) (hv : RdW w (.slice A (digs 18446744073709551616 a).length c) (digs 18446744073709551616 a)) (hl : (digs 18446744073709551616 a).length ≤ 3) (he : -1000 ≤ e ∧ e ≤ 1000) (hvars : VarsL w w.heap.size) :
    Calls Tryz.prog 27 #[.agg #[.int .u64 0, .int .i64 100000, .int .i64 (-100000), .int .i64 (k : Int)], .agg #[.int .i64 0, .bool n, .slice A (digs 18446744073709551616 a).length c, .int .i64 e]] w (IrndP w n a e) := by
  obtain ⟨X0, hX0⟩ : ∃ X : Array Value, X = #[.int .u64 0, .int .i64 100000, .int .i64 (-100000), .int .i64 (k : Int)] := ⟨_, rfl⟩
  obtain ⟨xs, hxs⟩ : ∃ xs, xs = digs 18446744073709551616 a := ⟨_, rfl⟩
  obtain ⟨l, hll⟩ : ∃ l, l = xs.length := ⟨_, rfl⟩
  obtain ⟨g0, hg0⟩ : ∃ g, g = w.heap.size := ⟨_, rfl⟩
  obtain ⟨g1, hg1⟩ : ∃ g, g = w.heap.size + 1 := ⟨_, rfl⟩
  obtain ⟨gr, hgr⟩ : ∃ g, g = w.heap.size + 1 + 1 := ⟨_, rfl⟩
  obtain ⟨gd, hgd⟩ : ∃ g, g = w.heap.size + 1 + 1 + 1 := ⟨_, rfl⟩
  rw [← hxs, ← hll] at hv
  rw [← hxs] at hl
  obtain ⟨W0, hW0⟩ : ∃ W, W = (((w.alloc (.cells #[.int .u64 0, .int .i64 100000, .int .i64 (-100000), .int .i64 (k : Int)] 48)).alloc (.cells #[.int .i64 0, .bool n, .slice A l c, .int .i64 e] 24)).alloc (.cells #[.int .i64 0, .bool false, .slice none 0 0, .int .i64 0] 24)).alloc (.cells #[.int .i8 0, .bool false, .int .i32 0, .bool false, .slice none 0 0, .bool false] 71) := ⟨_, rfl⟩
  have HS : Hid (RdH w g0 g1 gr gd X0 #[.int .i64 0, .bool n, .slice A l c, .int .i64 e] (decC 0 false 0 false (.slice none 0 0) false) W0) := by
    rw [hW0, hg0, hg1, hgr, hgd, hX0]
    refine ⟨below_al (below_al (below_al (below_al (Below.refl _ _) _) _) _) _, ?_, ?_, ?_, ?_⟩
    · exact (((Blk.new w _ _).alloc _).alloc _).alloc _
    · have := ((Blk.new (w.alloc (.cells #[.int .u64 0, .int .i64 100000, .int .i64 (-100000), .int .i64 (k : Int)] 48)) 24 #[.int .i64 0, .bool n, .slice A l c, .int .i64 e]).alloc (.cells #[.int .i64 0, .bool false, .slice none 0 0, .int .i64 0] 24)).alloc (.cells #[.int .i8 0, .bool false, .int .i32 0, .bool false, .slice none 0 0, .bool false] 71)
      simpa using this
    · have := (Blk.new ((w.alloc (.cells #[.int .u64 0, .int .i64 100000, .int .i64 (-100000), .int .i64 (k : Int)] 48)).alloc (.cells #[.int .i64 0, .bool n, .slice A l c, .int .i64 e] 24)) 24 #[.int .i64 0, .bool false, .slice none 0 0, .int .i64 0]).alloc (.cells #[.int .i8 0, .bool false, .int .i32 0, .bool false, .slice none 0 0, .bool false] 71)
      simpa using this
    · have := Blk.new (((w.alloc (.cells #[.int .u64 0, .int .i64 100000, .int .i64 (-100000), .int .i64 (k : Int)] 48)).alloc (.cells #[.int .i64 0, .bool n, .slice A l c, .int .i64 e] 24)).alloc (.cells #[.int .i64 0, .bool false, .slice none 0 0, .int .i64 0] 24)) 71 (decC 0 false 0 false (.slice none 0 0) false)
      unfold decC at this ⊢
      simpa using this
  have HN : Hid (g0 ≠ gd ∧ g1 ≠ gd ∧ gr ≠ gd ∧ w.heap.size ≤ gd) := ⟨by omega, by omega, by omega, by omega⟩
  have HGr : Hid (w.heap.size ≤ gr) := (by show w.heap.size ≤ gr; omega)
  have ConX := hide (fun W => context_zero k hk W)
  have ConA : Hid (∀ W, Below w.heap.size w W → Calls Tryz.prog 28 #[.agg #[.int .i64 0, .bool n, .slice A l c, .int .i64 e]] W (MadeDec W 0 n e xs)) := fun W hW => by
    have con1 := made_fin 0 n (.slice A l c) xs e W (RdG.below (k := .u64) hv hW) (by omega) (by decide) (by decide) (by decide) (by omega) (by omega)
    rwa [show trimz xs = xs by rw [hxs]; exact trimz_of_canon (canon_digs (by omega) _)] at con1
  unfold MadeDec at ConA
  have ConC : Hid (∀ W gc gx s A1 c1, Below w.heap.size w W → Blk W gx 71 (decC 0 n e false (.slice A1 xs.length c1) false) → RdW W (.slice A1 xs.length c1) xs → (∀ k, (Value.slice A1 xs.length c1).ownBlock = some k → k ≠ gd) → Blk W gc 125 (ctxC s) → gd ≠ gx → gd ≠ gc → Blk W gd 71 (decC 0 false 0 false (.slice none 0 0) false) → Calls Tryz.prog 47 #[.pointer (some ⟨gc, 0, none⟩), .pointer (some ⟨gd, 0, none⟩), .pointer (some ⟨gx, 0, none⟩)] W (RndP W gd n a e (.tuple #[.int .u32 0, .nilIface]))) := fun W gc gx s A1 c1 hW hx hxr hxb hc hne hgc hd => by
    subst hxs
    exact cRound_zero w.heap.size gc gd gx s n e A1 c1 a W hd hx hxr hxb hc hne hgc hl he (hvars.below hW) HN.out.2.2.2
  have HL := hide (And.intro hxs (And.intro hl he))
  rw [← hxs, ← hll]
  clear hv hl he hvars hxs hll
  go_enter Tryz.func27, Tryz.ntmps27
  go_wp2_with fail
  rw [← hW0, ← hgd, ← hgr, ← hg1, ← hg0]
  clear hW0 hgd hgr hg1 hg0
  rw [hX0] at HS
  clear hX0
  go_region_held3 (fun W => (W.cell? ⟨g0, 0, none⟩ = some (.int .u64 0) ∧ W.cell? ⟨g0, 1, none⟩ = some (.int .i64 100000) ∧ W.cell? ⟨g0, 2, none⟩ = some (.int .i64 (-100000)) ∧ W.cell? ⟨g0, 3, none⟩ = some (.int .i64 (k : Int))) ∧ (W.cell? ⟨g1, 0, none⟩ = some (.int .i64 0) ∧ W.cell? ⟨g1, 1, none⟩ = some (.bool n) ∧ W.cell? ⟨g1, 2, none⟩ = some (.slice A l c) ∧ W.cell? ⟨g1, 3, none⟩ = some (.int .i64 e))) (first | exact ⟨HS.out.b0.dec4, HS.out.b1.dec4⟩ | go_keep)
    (first
      | (go_at_call 40; go_loud (refine (ConX.out _).mono ?_; rintro e1 w1 ⟨⟨gc, s, rfl, hgc, hBc⟩, hb1⟩; have HG : Hid (gd ≠ gc) := (by have h1 := HS.out.bd.lt; have h2 : W0.heap.size ≤ gc := hgc; intro e; omega); have HC := hide hBc; have HS := hide (HS.out.next hb1.os hb1.tape hb1.output hb1.size hb1.block); clear hgc hBc hb1))
      | (go_at_call 28; refine (ConA.out _ ?_).mono ?_; exact Below.mk HS.out.bel.os HS.out.bel.tape HS.out.bel.output HS.out.bel.size HS.out.bel.block; go_loud (rintro e2 w2 ⟨gx, A1, c1, rfl, hgx, ho, hB, hb⟩; have HX : Hid (Blk w2 gx 71 (decC 0 n e false (.slice A1 xs.length c1) false) ∧ RdW w2 (.slice A1 xs.length c1) xs ∧ (∀ k, (Value.slice A1 xs.length c1).ownBlock = some k → k ≠ gd) ∧ gd ≠ gx) := (by have h1 := HS.out.bd.lt; have h2 : w1.heap.size ≤ gx := hgx; exact ⟨hB, ho.rd, fun k hk e => by have h3 : w1.heap.size ≤ k := (ho.lt hk).1; omega, by omega⟩); have HC := hide (HC.out.below (Below.mk hb.os hb.tape hb.output hb.size hb.block)); have HS := hide (HS.out.next hb.os hb.tape hb.output hb.size hb.block); clear hgx ho hB hb))
      | (go_at_call 47; go_loud (refine (ConC.out w2 gc gx s A1 c1 HS.out.bel HX.out.1 HX.out.2.1 HX.out.2.2.1 HC.out HX.out.2.2.2 HG.out HS.out.bd).mono ?_; rintro e3 w3 ⟨rfl, A2, c2, ho, hB, hF⟩; have HS := hide (HS.out.setd HN.out (Fr.mk hF.os hF.tape hF.output hF.size hF.block) hB); have HO := hide ho.rd; clear ho hB hF)))
  rw [← HL.out.1] at HS HO
  have ConT : Hid (∀ W, Below w3.heap.size w3 W → Calls Tryz.prog 30 #[.pointer (some ⟨gd, 0, none⟩)] W (ToldFin W n e xs)) := fun W hW =>
    told_fin gd n e false false _ _ W (HS.out.bd.below hW) (RdG.below (k := .u64) HO.out hW) (by have := HL.out.2.1; omega) (by have := HL.out.2.2; omega) (by have := HL.out.2.2; omega)
  have ConE := hide (fun W => conditions_none W)
  unfold ToldFin at ConT
  have HX : Hid (w.heap.size ≤ gr ∧ gr < w3.heap.size) := ⟨HGr.out, HS.out.br.lt⟩
  clear ConX ConA ConC HN HO
  go_wp2_with fail
  go_region_with (first
    | (go_at_call 30; go_loud (refine (ConT.out _ ?_).mono ?_; exact Below.mk rfl rfl rfl (Nat.le_refl _) (fun _ _ => rfl); rintro e5 w5 ⟨A5, d5, rfl, ho5, hb5⟩; have HO5 : Hid (OwnU w5 w3.heap.size (.slice A5 xs.length d5) xs) := ho5; have HS5 := hide (HS.out.next hb5.os hb5.tape hb5.output hb5.size hb5.block); obtain ⟨y0, y1, y2, y3⟩ := HS5.out.br.dec4; obtain ⟨f0, f1, f2, f3⟩ := frz4r HS5.out.br; clear ho5 hb5))
    | (go_at_call 42; go_loud (refine (ConE.out _).mono ?_; rintro e6 w6 ⟨rfl, rfl⟩)))
  all_goals (
    obtain ⟨W6, hW6⟩ : ∃ W6, W6 = (((w5.setCell ⟨gr, 0, none⟩ (.int .i64 0)).setCell ⟨gr, 1, none⟩ (.bool n)).setCell ⟨gr, 2, none⟩ (.slice A5 xs.length d5)).setCell ⟨gr, 3, none⟩ (.int .i64 e) := ⟨_, rfl⟩
    have hF6 : Fr w5 W6 (fun k => k = gr) := by rw [hW6]; exact ((((Fr.refl w5 (fun k => k = gr)).setCell (p := ⟨gr, 0, none⟩) (fun _ => rfl) _).setCell (p := ⟨gr, 1, none⟩) (fun _ => rfl) _).setCell (p := ⟨gr, 2, none⟩) (fun _ => rfl) _).setCell (p := ⟨gr, 3, none⟩) (fun _ => rfl) _
    have hB6 : Blk W6 gr 24 #[.int .i64 0, .bool n, .slice A5 xs.length d5, .int .i64 e] := by rw [hW6]; exact (((HS5.out.br.set 0 _).set 1 _).set 2 _).set 3 _
    have ho6 := HO5.out.fr hF6 (fun k hk hne => by have h1 := (HO5.out.lt hk).1; have h2 := HX.out.2; omega)
    have HP : Hid (IrndP w n a e (.returned (.tuple #[.agg #[.int .i64 0, .bool n, .slice A5 xs.length d5, .int .i64 e], .int .i64 0, .bool true])) W6) :=
      ⟨A5, d5, by rw [HL.out.1], by rw [← HL.out.1]; exact ho6.lower (Nat.le_trans HX.out.1 (Nat.le_of_lt HX.out.2)), (Fr.step (Fr.of_below HS5.out.bel (fun k => w.heap.size ≤ k)) hF6 (fun i _ hi => by subst hi; exact HX.out.1)).below (Nat.le_refl _) (fun _ h => h)⟩
    have HC := hide hB6.dec4
    rw [← hW6]
    clear hF6 hB6 ho6 hW6 y0 y1 y2 y3 f0 f1 f2 f3 HS5 HO5 ConT ConE HS HX HL)
  all_goals go_wp2
  all_goals exact bodyPost_ret (rnd_result gr (.int .i64 0) (.bool true) _ rfl rfl rfl _ _ _ _ _ HC.out.1 HC.out.2.1 HC.out.2.2.1 HC.out.2.2.2) rfl HP.out
end Go.Proofs.YtfkcobdkgjhfaaaGreatDoor
