/- Parts of the proofs: Modf1, Modf2. -/
import Derived.Deep.RegionWith
import Derived.BigRegion
import Derived.Test.YtfkcobdkgjhfaaaGreatDoorG27
import Derived.Test.YtfkcobdkgjhfaaaGreatDoorG57
import Derived.Test.YtfkcobdkgjhfaaaGreatDoorG62
import Derived.Test.YtfkcobdkgjhfaaaGreatDoorG69
/- Walk: Decimal.Modf, both places given. -/
set_option linter.unusedVariables false
set_option linter.unusedSimpArgs false
namespace Go.Proofs.YtfkcobdkgjhfaaaGreatDoor
open Go.RowKit

/-- Behind Modf. -/
def MdP (w : World) (gi gf : Nat) (n : Bool) (a : Nat) (e : Int) (e' : Ending) (w' : World) : Prop :=
  e' = .returned (.tuple #[]) ∧ ∃ (p q : Nat) (ep eq : Int) (P Q : Option Addr) (cp cq : Nat), ModN a e p ep q eq ∧ RdW w' (.slice P (digs 18446744073709551616 p).length cp) (digs 18446744073709551616 p) ∧ RdW w' (.slice Q (digs 18446744073709551616 q).length cq) (digs 18446744073709551616 q) ∧
    Blk w' gi 71 (decC 0 n ep false (.slice P (digs 18446744073709551616 p).length cp) false) ∧ Blk w' gf 71 (decC 0 n eq false (.slice Q (digs 18446744073709551616 q).length cq) false) ∧ Fr w w' (fun k => k = gi ∨ k = gf)

set_option maxHeartbeats 1000000 in
set_option maxRecDepth 20000 in
theorem modf_up (gd gi gf : Nat) (n : Bool) (e : Int) (A : Option Addr) (c a : Nat) (w : World) (hd : Blk w gd 71 (decC 0 n e false (.slice A (digs 18446744073709551616 a).length c) false)) (hr : RdW w (.slice A (digs 18446744073709551616 a).length c) (digs 18446744073709551616 a)) (hi : Blk w gi 71 (decC 0 false 0 false (.slice none 0 0) false)) (hf : Blk w gf 71 (decC 0 false 0 false (.slice none 0 0) false)) (hne : gi ≠ gf ∧ gd ≠ gi ∧ gd ≠ gf)
    (hab : ∀ k, (Value.slice A (digs 18446744073709551616 a).length c).ownBlock = some k → k ≠ gi ∧ k ≠ gf) (hl : (digs 18446744073709551616 a).length ≤ 3) (he : 0 < e) :
    Calls Tryz.prog 29 #[.pointer (some ⟨gd, 0, none⟩), .pointer (some ⟨gi, 0, none⟩), .pointer (some ⟨gf, 0, none⟩)] w (MdP w gi gf n a e) := by
  have x1 : w.cell? ⟨gd, 1, none⟩ = some (.bool n) := hd.cell 1
  have x2 : w.cell? ⟨gd, 2, none⟩ = some (.int .i32 e) := hd.cell 2
  have y1 : w.cell? ⟨gf, 1, none⟩ = some (.bool false) := hf.cell 1
  have y2 : w.cell? ⟨gf, 2, none⟩ = some (.int .i32 0) := hf.cell 2
  have z1 := hf.frozen 1
  have z2 := hf.frozen 2
  obtain ⟨W1, hW1⟩ : ∃ W, W = (w.setCell ⟨gf, 1, none⟩ (.bool n)).setCell ⟨gf, 2, none⟩ (.int .i32 0) := ⟨_, rfl⟩
  have hF1 : Fr w W1 (fun k => k = gf) := by rw [hW1]; exact ((Fr.refl w (fun k => k = gf)).setCell (p := ⟨gf, 1, none⟩) (fun _ => rfl) _).setCell (p := ⟨gf, 2, none⟩) (fun _ => rfl) _
  have hB1 : Blk W1 gf 71 (decC 0 n 0 false (.slice none 0 0) false) := by rw [hW1]; exact (hf.set 1 _).set 2 _
  have con1 := bsetInt64_any w.heap.size gf 3 71 _ false false (.slice none 0 0) 0 0 W1 hB1 rfl rfl rfl (Own.nil _ _).room (by decide) hF1.size (by decide) (by decide)
  have Con1 := hide con1
  have H0 := hide (And.intro hd (And.intro hr (And.intro hi (And.intro hne (And.intro hab (And.intro hl (And.intro he hF1)))))))
  clear hd hr hi hf hne hab hl hF1 hB1 con1
  go_enter Tryz.func29, Tryz.ntmps29
  go_wp2_with fail
  rw [← hW1]
  clear hW1
  refine (Con1.out).mono ?_
  rintro e1 w1 ⟨rfl, A1, c1, ho1, hb1, hB1, hF1⟩
  have hB1' : Blk w1 gf 71 (decC 0 n 0 false (.slice A1 (digs 18446744073709551616 0).length c1) false) := hB1
  have hF2 : Fr w w1 (fun k => k = gf) := Fr.step H0.out.2.2.2.2.2.2.2 hF1 (fun k _ h => h.elim id (fun h => by cases h))
  obtain ⟨n1, n2, n3⟩ := H0.out.2.2.2.1
  have hrn : ∀ k, (Value.slice A (digs 18446744073709551616 a).length c).ownBlock = some k → ¬ k = gf := fun k hk => (H0.out.2.2.2.2.1 k hk).2
  have con2 := dset_any w.heap.size gi gd 0 false 0 false (.slice none 0 0) false 0 n e false (.slice A (digs 18446744073709551616 a).length c) false 0 (digs 18446744073709551616 a) w1 (H0.out.2.2.1.fr hF2 (fun h => n1 h)) (Own.nil _ _).room (H0.out.1.fr hF2 (fun h => n3 h)) (H0.out.2.1.fr hF2 hrn) (fun k hk => (H0.out.2.2.2.2.1 k hk).1) (fun h => n2 h.symm) hF2.size (by have := H0.out.2.2.2.2.2.1; omega)
  have Con2 := hide con2
  have H1 := hide (And.intro hB1' (And.intro hF2 (show RdW w1 (.slice A1 (digs 18446744073709551616 0).length c1) (digs 18446744073709551616 0) from ho1.rd)))
  have HB1 := hide (And.intro hb1 (show ∀ k, (Value.slice A1 (digs 18446744073709551616 0).length c1).ownBlock = some k → w.heap.size ≤ k from fun k hk => (ho1.lt hk).1))
  clear ho1 hb1 hB1 hF1 hB1' hF2 hrn con2 Con1
  go_wp2_with fail
  refine (Con2.out).mono ?_
  rintro e2 w2 ⟨rfl, A2, c2, ho2, hb2, hB2, hF3⟩
  have hF4 : Fr w1 w2 (fun k => k = gi) := hF3.mono (fun k _ h => h.elim id (fun h => by cases h))
  have HP : Hid (MdP w gi gf n a e (.returned (.tuple #[])) w2) := by
    refine ⟨rfl, a, 0, e, 0, A2, A1, c2, c1, modN_up H0.out.2.2.2.2.2.2.1, ho2.rd, H1.out.2.2.fr hF4 (fun k hk h => ?_), hB2, H1.out.1.fr hF4 (fun h => n1 h.symm), Fr.step (H1.out.2.1.mono (fun _ _ h => .inr h)) hF4 (fun _ _ h => .inl h)⟩
    have h1 := HB1.out.2 k hk
    have h2 := H0.out.2.2.1.lt
    have h3 : k = gi := h
    omega
  clear ho2 hb2 hB2 hF3 hF4 H0 H1 HB1 Con2
  go_wp2
  go_end0
  exact HP.out

set_option maxHeartbeats 1000000 in
set_option maxRecDepth 20000 in
theorem modf_small (gd gi gf : Nat) (n : Bool) (e : Int) (A : Option Addr) (c a : Nat) (w : World) (hd : Blk w gd 71 (decC 0 n e false (.slice A (digs 18446744073709551616 a).length c) false)) (hr : RdW w (.slice A (digs 18446744073709551616 a).length c) (digs 18446744073709551616 a)) (hi : Blk w gi 71 (decC 0 false 0 false (.slice none 0 0) false)) (hf : Blk w gf 71 (decC 0 false 0 false (.slice none 0 0) false)) (hne : gi ≠ gf ∧ gd ≠ gi ∧ gd ≠ gf)
    (hab : ∀ k, (Value.slice A (digs 18446744073709551616 a).length c).ownBlock = some k → k ≠ gi ∧ k ≠ gf) (hl : (digs 18446744073709551616 a).length ≤ 3) (base : Nat) (hv : VarsD w base) (hbb : base ≤ w.heap.size) (k : Nat) (he : (k : Int) = -e) (hk : figs a < k) (hk2 : k ≤ 1000) :
    Calls Tryz.prog 29 #[.pointer (some ⟨gd, 0, none⟩), .pointer (some ⟨gi, 0, none⟩), .pointer (some ⟨gf, 0, none⟩)] w (MdP w gi gf n a e) := by
  have x1 : w.cell? ⟨gd, 1, none⟩ = some (.bool n) := hd.cell 1
  have x2 : w.cell? ⟨gd, 2, none⟩ = some (.int .i32 e) := hd.cell 2
  have con1 := dnumD_any gd _ _ A c a w (BigAt.dec hd hr) (blen_words_le (k := 20) (lt_of_digs_length (b := 18446744073709551616) (by omega) (by omega : (digs 18446744073709551616 a).length ≤ 20))) (hv.l.raise hbb)
  unfold FigP at con1
  obtain ⟨f, hfg⟩ : ∃ f, f = figs a := ⟨_, rfl⟩
  rw [← hfg] at con1
  have Con1 := hide con1
  have he0 : ¬ 0 < e := by omega
  have hgt : (f : Int) < (k : Int) := by omega
  have H0 := hide (And.intro hd (And.intro hr (And.intro hi (And.intro hf (And.intro hne (And.intro hab (And.intro hl (And.intro he hk))))))))
  have hkI : -1000000 ≤ (k : Int) ∧ (k : Int) ≤ 1000000 := by omega
  have i1 : -e = (k : Int) := by omega
  have b1 : -1000000 ≤ e ∧ e ≤ 1000000 := by omega
  clear hd hr hi hf hne hab hl hv hbb he hk hk2 con1 hfg
  have k1 : IntKind.i64.wrap (-e) = (k : Int) := kn_i64 i1 hkI
  have k1' : wrap64 (-e) = (k : Int) := kn_w64 i1 hkI
  have k2 : IntKind.i64.wrap e = e := kn_i64 rfl b1
  have k2' : wrap64 e = e := kn_w64 rfl b1
  clear i1 b1 hkI
  go_enter Tryz.func29, Tryz.ntmps29
  go_wp2_with fail
  refine (Con1.out).mono ?_
  rintro e1 w1 ⟨rfl, hb1⟩
  have hd1 := H0.out.1.below hb1
  have hi1 := H0.out.2.2.1.below hb1
  have x3 : w1.cell? ⟨gd, 2, none⟩ = some (.int .i32 e) := hd1.cell 2
  have y1 : w1.cell? ⟨gi, 1, none⟩ = some (.bool false) := hi1.cell 1
  have y2 : w1.cell? ⟨gi, 2, none⟩ = some (.int .i32 0) := hi1.cell 2
  have z1 := hi1.frozen 1
  have z2 := hi1.frozen 2
  obtain ⟨W1, hW1⟩ : ∃ W, W = (w1.setCell ⟨gi, 1, none⟩ (.bool n)).setCell ⟨gi, 2, none⟩ (.int .i32 0) := ⟨_, rfl⟩
  have hF1 : Fr w1 W1 (fun k => k = gi) := by rw [hW1]; exact ((Fr.refl w1 (fun k => k = gi)).setCell (p := ⟨gi, 1, none⟩) (fun _ => rfl) _).setCell (p := ⟨gi, 2, none⟩) (fun _ => rfl) _
  have hB1 : Blk W1 gi 71 (decC 0 n 0 false (.slice none 0 0) false) := by rw [hW1]; exact (hi1.set 1 _).set 2 _
  have con2 := bsetInt64_any w.heap.size gi 3 71 _ false false (.slice none 0 0) 0 0 W1 hB1 rfl rfl rfl (Own.nil _ _).room (by decide) (Nat.le_trans hb1.size hF1.size) (by decide) (by decide)
  have Con2 := hide con2
  have H1 := hide (And.intro hb1 hF1)
  clear hb1 hd1 hi1 hF1 hB1 con2 Con1
  go_wp2_with fail
  rw [← hW1]
  clear hW1
  refine (Con2.out).mono ?_
  rintro e2 w2 ⟨rfl, A1, c1, ho1, hb1, hB1, hF1⟩
  have hB1' : Blk w2 gi 71 (decC 0 n 0 false (.slice A1 (digs 18446744073709551616 0).length c1) false) := hB1
  have hF2 : Fr w w2 (fun k => k = gi) := Fr.step (Fr.step (Fr.of_below H1.out.1 (fun k => k = gi)) H1.out.2 (fun _ _ h => h)) hF1 (fun k _ h => h.elim id (fun h => by cases h))
  obtain ⟨n1, n2, n3⟩ := H0.out.2.2.2.2.1
  have hrn : ∀ k, (Value.slice A (digs 18446744073709551616 a).length c).ownBlock = some k → ¬ k = gi := fun k hk => (H0.out.2.2.2.2.2.1 k hk).1
  have con3 := dset_any w.heap.size gf gd 0 false 0 false (.slice none 0 0) false 0 n e false (.slice A (digs 18446744073709551616 a).length c) false 0 (digs 18446744073709551616 a) w2 (H0.out.2.2.2.1.fr hF2 (fun h => n1 h.symm)) (Own.nil _ _).room (H0.out.1.fr hF2 (fun h => n2 h)) (H0.out.2.1.fr hF2 hrn) (fun k hk => (H0.out.2.2.2.2.2.1 k hk).2) (fun h => n3 h.symm) hF2.size (by have := H0.out.2.2.2.2.2.2.1; omega)
  have Con3 := hide con3
  have H2 := hide (And.intro hB1' (And.intro hF2 (show RdW w2 (.slice A1 (digs 18446744073709551616 0).length c1) (digs 18446744073709551616 0) from ho1.rd)))
  have HB1 := hide (show ∀ k, (Value.slice A1 (digs 18446744073709551616 0).length c1).ownBlock = some k → w.heap.size ≤ k from fun k hk => (ho1.lt hk).1)
  clear ho1 hb1 hB1 hF1 hB1' hF2 hrn con3 Con2 H1
  go_wp2_with fail
  refine (Con3.out).mono ?_
  rintro e3 w3 ⟨rfl, A2, c2, ho2, hb2, hB2, hF3⟩
  have hF4 : Fr w2 w3 (fun k => k = gf) := hF3.mono (fun k _ h => h.elim id (fun h => by cases h))
  have HP : Hid (MdP w gi gf n a e (.returned (.tuple #[])) w3) := by
    refine ⟨rfl, 0, a, 0, e, A1, A2, c1, c2, modN_small H0.out.2.2.2.2.2.2.2.1 H0.out.2.2.2.2.2.2.2.2, H2.out.2.2.fr hF4 (fun k hk h => ?_), ho2.rd, H2.out.1.fr hF4 (fun h => n1 h), hB2, Fr.step (H2.out.2.1.mono (fun _ _ h => .inl h)) hF4 (fun _ _ h => .inr h)⟩
    have h1 := HB1.out k hk
    have h2 := H0.out.2.2.2.1.lt
    have h3 : k = gf := h
    omega
  clear ho2 hb2 hB2 hF3 hF4 H0 H2 HB1 Con3
  go_wp2
  go_end0
  exact HP.out
end Go.Proofs.YtfkcobdkgjhfaaaGreatDoor

/- Walk: Decimal.Modf of a decimal that has a whole part and a fraction. -/
set_option linter.unusedVariables false
set_option linter.unusedSimpArgs false
namespace Go.Proofs.YtfkcobdkgjhfaaaGreatDoor
open Go.RowKit

set_option maxHeartbeats 2000000 in
set_option maxRecDepth 20000 in
theorem modf_part (gd gi gf : Nat) (n : Bool) (e : Int) (A : Option Addr) (c a : Nat) (w : World) (hd : Blk w gd 71 (decC 0 n e false (.slice A (digs 18446744073709551616 a).length c) false)) (hr : RdW w (.slice A (digs 18446744073709551616 a).length c) (digs 18446744073709551616 a)) (hi : Blk w gi 71 (decC 0 false 0 false (.slice none 0 0) false)) (hf : Blk w gf 71 (decC 0 false 0 false (.slice none 0 0) false)) (hne : gi ≠ gf ∧ gd ≠ gi ∧ gd ≠ gf)
    (hab : ∀ k, (Value.slice A (digs 18446744073709551616 a).length c).ownBlock = some k → k ≠ gi ∧ k ≠ gf) (hl : (digs 18446744073709551616 a).length ≤ 3) (base : Nat) (hv : VarsD w base) (hbb : base ≤ gi ∧ base ≤ gf) (k : Nat) (he : (k : Int) = -e) (hk : k ≤ figs a) :
    Calls Tryz.prog 29 #[.pointer (some ⟨gd, 0, none⟩), .pointer (some ⟨gi, 0, none⟩), .pointer (some ⟨gf, 0, none⟩)] w (MdP w gi gf n a e) := by
  have x1 : w.cell? ⟨gd, 1, none⟩ = some (.bool n) := hd.cell 1
  have x2 : w.cell? ⟨gd, 2, none⟩ = some (.int .i32 e) := hd.cell 2
  have con1 := dnumD_any gd _ _ A c a w (BigAt.dec hd hr) (blen_words_le (k := 20) (lt_of_digs_length (b := 18446744073709551616) (by omega) (by omega : (digs 18446744073709551616 a).length ≤ 20))) (hv.l.raise (by have := hi.lt; omega))
  unfold FigP at con1
  have hk60 : k ≤ 60 := by have := figs_few hl; omega
  obtain ⟨f, hfg⟩ : ∃ f, f = figs a := ⟨_, rfl⟩
  rw [← hfg] at con1 hk
  have Con1 := hide con1
  have he0 : ¬ 0 < e := by omega
  have hgt : ¬ (f : Int) < (k : Int) := by omega
  have H0 := hide (And.intro hd (And.intro hr (And.intro hi (And.intro hf (And.intro hne (And.intro hab (And.intro hl (And.intro he (And.intro hk60 (And.intro hv hbb))))))))))
  have hkI : -1000000 ≤ (k : Int) ∧ (k : Int) ≤ 1000000 := by omega
  have i1 : -e = (k : Int) := by omega
  have b1 : -1000000 ≤ e ∧ e ≤ 1000000 := by omega
  clear hd hr hi hf hne hab hl hv hbb he hk hk60 con1 hfg
  have k1 : IntKind.i64.wrap (-e) = (k : Int) := kn_i64 i1 hkI
  have k1' : wrap64 (-e) = (k : Int) := kn_w64 i1 hkI
  have k2 : IntKind.i64.wrap e = e := kn_i64 rfl b1
  have k2' : wrap64 e = e := kn_w64 rfl b1
  clear i1 b1 hkI
  go_enter Tryz.func29, Tryz.ntmps29
  go_wp2_with fail
  refine (Con1.out).mono ?_
  rintro e1 w1 ⟨rfl, hb1⟩
  have x3 : w1.cell? ⟨gd, 2, none⟩ = some (.int .i32 e) := (H0.out.1.below hb1).cell 2
  obtain ⟨gt, hgt1⟩ : ∃ g, g = w1.heap.size := ⟨_, rfl⟩
  obtain ⟨W1, hW1⟩ : ∃ W, W = w1.alloc (.cells #[.bool false, .slice none 0 0, .bool false] 69) := ⟨_, rfl⟩
  have hbt : Below w.heap.size w W1 := by rw [hW1]; exact below_al hb1 _
  have hBt : Blk W1 gt 69 #[.bool false, .slice none 0 0, .bool false] := by rw [hW1, hgt1]; exact Blk.new w1 _ _
  have hsg : w.heap.size ≤ gt := by rw [hgt1]; exact hb1.size
  have conP := tabExp_any w.heap.size gt false false (.slice none 0 0) 0 k W1 hBt (Own.nil _ _).room hbt.size hsg (by have := H0.out.2.2.2.2.2.2.2.2.1; omega) (pow_half H0.out.2.2.2.2.2.2.2.2.1) ((H0.out.2.2.2.2.2.2.2.2.2.1.l.v.below hbt).raise (by have := H0.out.2.2.2.2.2.2.2.2.2.2.1; have := H0.out.2.2.1.lt; omega))
  have ConP := hide conP
  have H1 := hide (And.intro hbt hsg)
  clear hb1 hbt hBt hsg conP Con1
  go_wp2_with fail
  rw [← hgt1, ← hW1]
  clear hgt1 hW1
  refine (ConP.out).mono ?_
  rintro e2 w2 ⟨rfl, A3, c3, ho3, hk3, hB3, hF3⟩
  clear ConP k1 k1'
  have hbw : Below w.heap.size w w2 := (Fr.step (Fr.of_below H1.out.1 (fun k => k = gt)) hF3 (fun k _ h => h.elim id (fun h => by cases h))).below (Nat.le_refl _) (fun k h => by have h : k = gt := h; have := H1.out.2; omega)
  have hi1 := H0.out.2.2.1.below hbw
  have hd1 := H0.out.1.below hbw
  have y1 : w2.cell? ⟨gi, 1, none⟩ = some (.bool false) := hi1.cell 1
  have y2 : w2.cell? ⟨gi, 2, none⟩ = some (.int .i32 0) := hi1.cell 2
  have z1 := hi1.frozen 1
  have z2 := hi1.frozen 2
  obtain ⟨W2, hW2⟩ : ∃ W, W = (w2.setCell ⟨gi, 2, none⟩ (.int .i32 0)).setCell ⟨gi, 1, none⟩ (.bool n) := ⟨_, rfl⟩
  have hF2 : Fr w2 W2 (fun k => k = gi) := by rw [hW2]; exact ((Fr.refl w2 (fun k => k = gi)).setCell (p := ⟨gi, 2, none⟩) (fun _ => rfl) _).setCell (p := ⟨gi, 1, none⟩) (fun _ => rfl) _
  have hB2 : Blk W2 gi 71 (decC 0 n 0 false (.slice none 0 0) false) := by rw [hW2]; exact (hi1.set 2 _).set 1 _
  have hgil := H0.out.2.2.1.lt
  have hgfl := H0.out.2.2.2.1.lt
  have hgdl := H0.out.1.lt
  have hsg := H1.out.2
  obtain ⟨n1, n2, n3⟩ := H0.out.2.2.2.2.1
  have hfW := (H0.out.2.2.2.1.below hbw).fr hF2 (fun h => n1 h.symm)
  have hdW := hd1.fr hF2 (fun h => n2 h)
  have htW := hB3.fr hF2 (fun h => by have h : gt = gi := h; omega)
  have ho3l : ∀ k, (Value.slice A3 (digs 18446744073709551616 (10 ^ _)).length c3).ownBlock = some k → w.heap.size ≤ k := fun k hk => (ho3.lt hk).1
  have hrW : RdW W2 (.slice A (digs 18446744073709551616 a).length c) (digs 18446744073709551616 a) := (RdG.below (k := .u64) H0.out.2.1 hbw).fr hF2 (fun k hk h => (H0.out.2.2.2.2.2.1 k hk).1 h)
  have ho3W : RdW W2 (.slice A3 (digs 18446744073709551616 (10 ^ k)).length c3) (digs 18446744073709551616 (10 ^ k)) := ho3.rd.fr hF2 (fun k hk h => by have h : k = gi := h; have := ho3l k hk; omega)
  have hbb := H0.out.2.2.2.2.2.2.2.2.2.2
  have hvD : VarsD W2 base := (H0.out.2.2.2.2.2.2.2.2.2.1.below hbw).fr hF2 (fun j h => by have h : j = gi := h; omega)
  have conQ := bquorem_gen w.heap.size gi 3 gf 3 gd 3 gt 0 71 71 _ _ false false false false (.slice none 0 0) (.slice none 0 0) (.slice A (digs 18446744073709551616 a).length c) (.slice A3 (digs 18446744073709551616 (10 ^ k)).length c3) 0 0 a (10 ^ k) W2.drew
    hB2.drew rfl rfl rfl (Own.nil _ _).room (by decide) hfW.drew rfl rfl rfl (Own.nil _ _).room (by decide) n1 (hdW.drew.cell 3) (hdW.drew.cell 4) (htW.drew.cell 0) (htW.drew.cell 1)
    ⟨n2, n3, fun h => (by cases h), fun h => (by cases h)⟩ ⟨by omega, by omega, fun h => (by cases h), fun h => (by cases h)⟩
    (fun W hW' => have hW : Fr W2 W (fun k => k = gi ∨ k = gf) := ⟨hW'.os, hW'.tape, hW'.output, hW'.size, hW'.block⟩; div_few w.heap.size (.slice none 0 0) (.slice none 0 0) 0 0 (10 ^ k) A A3 c c3 a W (Own.nil _ _).room (Own.nil _ _).room (fun _ h => (by cases h)) (by have := hbw.size; have := hF2.size; have := hW.size; omega) (by have := H0.out.2.2.2.2.2.2.1; omega) (by have := pow_words H0.out.2.2.2.2.2.2.2.2.1; omega) (Nat.pow_pos (by omega)) (pow_few H0.out.2.2.2.2.2.2.1)
      (hrW.fr hW (fun j hj h => h.elim (H0.out.2.2.2.2.2.1 j hj).1 (H0.out.2.2.2.2.2.1 j hj).2)) (fun _ _ => ⟨fun h => (by cases h), fun h => (by cases h)⟩) (ho3W.fr hW (fun j hj h => by have := ho3l j hj; have h : j = gi ∨ j = gf := h; omega)) (fun _ _ => ⟨fun h => (by cases h), fun h => (by cases h)⟩) (hvD.fr hW (fun j h => by have h : j = gi ∨ j = gf := h; omega)).c (by have := hvD.b; omega))
  have ConQ := hide conQ
  have Fin : Hid (∀ e3 w3, QrB W2.drew w.heap.size gi 3 gf 3 71 71 (decC 0 n 0 false (.slice none 0 0) false) (decC 0 false 0 false (.slice none 0 0) false) (.slice none 0 0) (.slice none 0 0) a (10 ^ k) e3 w3 →
      w3.cell? ⟨gd, 2, none⟩ = some (.int .i32 e) ∧ w3.cell? ⟨gf, 2, none⟩ = some (.int .i32 0) ∧ w3.cell? ⟨gf, 1, none⟩ = some (.bool false) ∧ w3.frozen? ⟨gf, 1, none⟩ = false ∧ w3.frozen? ⟨gf, 2, none⟩ = false ∧
      Hid (MdP w gi gf n a e (.returned (.tuple #[])) ((w3.setCell ⟨gf, 2, none⟩ (.int .i32 e)).setCell ⟨gf, 1, none⟩ (.bool n)))) := by
    rintro e3 w3 ⟨-, Q, R, cq, cr, hoq, hor, hbq, hbr, hqr, hBq, hBr, hF3'⟩
    have hF3 : Fr W2 w3 (fun k => (k = gi ∨ k = gf) ∨ ((Value.slice none 0 0).ownBlock = some k ∨ (Value.slice none 0 0).ownBlock = some k)) := ⟨hF3'.os, hF3'.tape, hF3'.output, hF3'.size, hF3'.block⟩
    clear hF3'
    have hBq' : Blk w3 gi 71 (decC 0 n 0 false (.slice Q (digs 18446744073709551616 (a / 10 ^ k)).length cq) false) := hBq
    have hBr' : Blk w3 gf 71 (decC 0 false 0 false (.slice R (digs 18446744073709551616 (a % 10 ^ k)).length cr) false) := hBr
    have hF3' : Fr W2 w3 (fun k => k = gi ∨ k = gf) := hF3.mono (fun k _ h => h.elim id (fun h => h.elim (fun h => by cases h) (fun h => by cases h)))
    have hd3 := hdW.fr hF3' (fun h => h.elim n2 n3)
    refine ⟨hd3.cell 2, hBr'.cell 2, hBr'.cell 1, hBr'.frozen 1, hBr'.frozen 2, ?_⟩
    have fr := ((Fr.refl w3 (fun k => k = gf)).setCell (p := ⟨gf, 2, none⟩) (fun _ => rfl) (.int .i32 e)).setCell (p := ⟨gf, 1, none⟩) (fun _ => rfl) (.bool n)
    refine ⟨rfl, a / 10 ^ k, a % 10 ^ k, 0, e, Q, R, cq, cr, modN_part H0.out.2.2.2.2.2.2.2.1, hoq.rd.fr fr (fun j hj h => ?_), hor.rd.fr fr (fun j hj h => ?_), hBq'.fr fr (fun h => n1 h), (hBr'.set 2 _).set 1 _, ?_⟩
    · have h1 := (hoq.lt hj).1
      have h3 : j = gf := h
      omega
    · have h1 := (hor.lt hj).1
      have h3 : j = gf := h
      omega
    · exact Fr.step (Fr.step (Fr.step (Fr.of_below hbw (fun k => k = gi ∨ k = gf)) hF2 (fun _ _ h => .inl h)) hF3' (fun _ _ h => h)) fr (fun _ _ h => .inr h)
  clear hd1 hi1 hF2 hB2 hfW hdW htW ho3l hrW ho3W hvD conQ ho3 hk3 hB3 hF3 hbw H1 hbb hgil hgdl hsg n1 n2 n3 hgfl H0
  go_wp2_with fail
  rw [← hW2]
  clear hW2
  go_region_with (go_at_call 54; go_loud (refine (ConQ.out).mono ?_; rintro e3 w3 HI; obtain ⟨x4, y3, y4, z3, z4, HP⟩ := Fin.out _ _ HI; obtain ⟨rfl, _⟩ := HI; clear ConQ Fin))
  all_goals go_wp2
  all_goals go_end0
  all_goals exact HP.out

theorem modf_any (gd gi gf : Nat) (n : Bool) (e : Int) (A : Option Addr) (c a : Nat) (w : World) (hd : Blk w gd 71 (decC 0 n e false (.slice A (digs 18446744073709551616 a).length c) false)) (hr : RdW w (.slice A (digs 18446744073709551616 a).length c) (digs 18446744073709551616 a)) (hi : Blk w gi 71 (decC 0 false 0 false (.slice none 0 0) false)) (hf : Blk w gf 71 (decC 0 false 0 false (.slice none 0 0) false)) (hne : gi ≠ gf ∧ gd ≠ gi ∧ gd ≠ gf)
    (hab : ∀ k, (Value.slice A (digs 18446744073709551616 a).length c).ownBlock = some k → k ≠ gi ∧ k ≠ gf) (hl : (digs 18446744073709551616 a).length ≤ 3) (base : Nat) (hv : VarsD w base) (hbb : base ≤ gi ∧ base ≤ gf) (he : -1000 ≤ e ∧ e ≤ 1000) :
    Calls Tryz.prog 29 #[.pointer (some ⟨gd, 0, none⟩), .pointer (some ⟨gi, 0, none⟩), .pointer (some ⟨gf, 0, none⟩)] w (MdP w gi gf n a e) := by
  rcases Int.lt_or_le 0 e with h | h
  · exact modf_up gd gi gf n e A c a w hd hr hi hf hne hab hl h
  · obtain ⟨k, hk⟩ : ∃ k : Nat, (k : Int) = -e := ⟨e.natAbs, by omega⟩
    rcases Nat.lt_or_ge (figs a) k with h1 | h1
    · exact modf_small gd gi gf n e A c a w hd hr hi hf hne hab hl base hv (by have := hi.lt; omega) k hk h1 (by omega)
    · exact modf_part gd gi gf n e A c a w hd hr hi hf hne hab hl base hv hbb k hk h1
end Go.Proofs.YtfkcobdkgjhfaaaGreatDoor
