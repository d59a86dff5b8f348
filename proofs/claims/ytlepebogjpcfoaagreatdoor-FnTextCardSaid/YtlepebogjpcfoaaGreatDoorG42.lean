/- Parts of the proofs: DecApp, DecTxt. -/
import Derived.Deep.RegionHeld3
import Derived.Test.YtlepebogjpcfoaaGreatDoorG9
import Derived.Test.YtlepebogjpcfoaaGreatDoorG29
import Derived.Test.YtlepebogjpcfoaaGreatDoorG41
/- Walks: Decimal.Append at a letter that is no format; Decimal.Text. -/
set_option linter.unusedVariables false
set_option linter.unusedSimpArgs false
namespace Go.Proofs.YtlepebogjpcfoaaGreatDoor
open Go.RowKit

/-- An array of bytes, new: a buffer without a byte. -/
theorem buf_new (w : World) (n : Nat) (t : TypeId) (hn : n ≤ 1000) : Buf (w.alloc (.cells (Array.replicate n (.int .u8 0)) t)) w.heap.size (.slice (some ⟨w.heap.size, 0, none⟩) 0 n) [] :=
  ⟨_, n, rfl, .inr ⟨w.heap.size, rfl, Nat.le_refl _, by simp, Nat.zero_le _, by simp [maxLen]; omega, fun i d h => by simp at h, fun i hi => ⟨by rw [(Blk.new w t (Array.replicate n (.int .u8 0))).cell i]; simp [hi], (Blk.new w t _).frozen i⟩⟩⟩

/-- Bytes laid anew can be appended. -/
theorem src_new (w : World) (cs : Array Value) (ys : List Nat) (h : cs = (gv .u8 ys).toArray) (t : TypeId) : Src Tryz.prog 1 38 (.slice (some ⟨w.heap.size, 0, none⟩) ys.length ys.length) ys.length (gv .u8 ys) (w.alloc (.cells cs t)) := by
  refine Src.ofSlice _ Tryz.underlying38 _ _ _ _ (by simp [gv]) (fun j u hj => ?_) gv_one
  rw [Addr.add_lit, Nat.zero_add, (Blk.new w t cs).cell j, h, List.getElem?_toArray]
  exact hj

/-- What a dec's coefficient is, for Append. -/
structure CoefAt (w : World) (g : Nat) (neg : Bool) (exp : Int) (A : Option Addr) (c v bx : Nat) : Prop where
  blk : Blk w g 86 (decC 0 neg exp false (.slice A (digs 18446744073709551616 v).length c) false)
  own : Own w bx (.slice A (digs 18446744073709551616 v).length c) (digs 18446744073709551616 v)
theorem CoefAt.fr {w w' : World} {g : Nat} {neg : Bool} {exp : Int} {A : Option Addr} {c v bx : Nat} {S : Nat → Prop} (h : CoefAt w g neg exp A c v bx) (hf : Fr w w' S) (h1 : ¬ S g) (h2 : ∀ k, (Value.slice A (digs 18446744073709551616 v).length c).ownBlock = some k → ¬ S k) : CoefAt w' g neg exp A c v bx :=
  ⟨h.blk.fr hf h1, h.own.fr hf h2⟩

set_option maxHeartbeats 1000000 in
set_option maxRecDepth 20000 in
theorem dapp_other (g bx base c v : Nat) (neg : Bool) (exp ch : Int) (A : Option Addr) (buf : Value) (w : World) (hD : CoefAt w g neg exp A c v bx) (hl : (digs 18446744073709551616 v).length ≤ 3) (hv : VarsL w base)
    (hB : Buf w base buf []) (hb : base ≤ w.heap.size) (hgb : ∀ k, buf.ownBlock = some k → k ≠ g ∧ (Value.slice A (digs 18446744073709551616 v).length c).ownBlock ≠ some k ∧ base ≤ k) (hch : (ch == 101) = false ∧ (ch == 69) = false ∧ (ch == 102) = false ∧ (ch == 103) = false ∧ (ch == 71) = false) (hc0 : 0 ≤ ch) (hc1 : ch < 256) :
    Calls Tryz.prog 55 #[.pointer (some ⟨g, 0, none⟩), buf, .int .u8 ch] w (AppP w base buf [37, ch.toNat]) := by
  obtain ⟨i0, hi, hz0, hz1, hz2⟩ := u8_parts
  have HI := hide (And.intro hi (And.intro hz0 (And.intro hz1 hz2)))
  have a0 : w.cell? ⟨g, 0, none⟩ = some (.int .i8 0) := hD.blk.cell 0
  have a1 : w.cell? ⟨g, 1, none⟩ = some (.bool neg) := hD.blk.cell 1
  obtain ⟨k1, k2, k3, k4, k5⟩ := hch
  have HB := hide hB
  clear hi hz0 hz1 hz2
  cases neg
  · go_enter Tryz.func55, Tryz.ntmps55
    go_wp2_with fail
    obtain ⟨W1, hW1⟩ : ∃ W1, W1 = w.alloc (.cells (Array.replicate 16 (.int .u8 0)) 107) := ⟨_, rfl⟩
    have hW1' : W1 = w.alloc (.cells #[.int .u8 0, .int .u8 0, .int .u8 0, .int .u8 0, .int .u8 0, .int .u8 0, .int .u8 0, .int .u8 0, .int .u8 0, .int .u8 0, .int .u8 0, .int .u8 0, .int .u8 0, .int .u8 0, .int .u8 0, .int .u8 0] 107) := hW1
    rw [← hW1']
    have hf1 : Fr w W1 (fun _ => False) := by rw [hW1]; exact (Fr.refl w _).alloc _
    obtain ⟨g1, hg1⟩ : ∃ g1, g1 = w.heap.size := ⟨_, rfl⟩
    have hS1 : Buf W1 g1 (.slice (some ⟨g1, 0, none⟩) 0 16) [] := by rw [hW1, hg1]; exact buf_new w 16 107 (by omega)
    have hD1 := hD.fr hf1 (fun h => h) (fun _ _ h => h)
    have hs1 : W1.heap.size = g1 + 1 := by rw [hW1, hg1]; simp
    have Con : Hid (∀ W, Fr W1 W (fun _ => False) → W.heap.size = W1.heap.size → Calls Tryz.prog 83 #[.pointer (some ⟨g, 3, none⟩), .slice (some ⟨g1, 0, none⟩) 0 16, .int .i64 10] W (AppP W g1 (.slice (some ⟨g1, 0, none⟩) 0 16) (decB v))) := fun W hW hs => by
      have hDW := hD1.fr hW (fun h => h) (fun _ _ h => h)
      exact bapp_any bx g 3 _ c v g1 A _ [] W (hDW.blk.cell 3) (hDW.blk.cell 4) hDW.own (by omega) ((hv.fr (Fr.trans hf1 hW) (fun _ h => h.elim)).raise (by have := hf1.size; omega)) (hS1.fr hW (fun _ _ h => h)) (by omega) (by simp)
    have HG := hide (And.intro hf1 (And.intro hg1 (And.intro hb hD)))
    rw [← hg1]
    clear hf1 hS1 hD1 hs1 hD hv hb hB hW1 hW1' hg1
    go_region_held3 (fun _ => True) (trivial)
      ((go_at_call 83; go_loud (refine (Con.out _ ?_ ?_).mono ?_; exact Fr.mk rfl rfl rfl (Nat.le_refl _) (fun _ _ _ => rfl); rfl; rintro e w2 ⟨v2, rfl, hB2, hF2, -⟩; have H2 : Hid (Buf w2 g1 v2 (decB v) ∧ Fr W1 w2 (fun k => (Value.slice (some ⟨g1, 0, none⟩) 0 16).ownBlock = some k)) := ⟨hB2, Fr.mk hF2.os hF2.tape hF2.output hF2.size hF2.block⟩; clear hB2 hF2)))
    have hF2 : Fr w w2 (fun _ => False) := Fr.step HG.out.1 H2.out.2 (fun i hi h => by
      have e : g1 = i := by injection h
      have := HG.out.2.1
      omega)
    have hD2 := HG.out.2.2.2.fr hF2 (fun h => h) (fun _ _ h => h)
    have a1 : w2.cell? ⟨g, 1, none⟩ = some (.bool false) := hD2.blk.cell 1
    have HB2 := hide (And.intro (HB.out.fr hF2 (fun _ _ h => h)) (And.intro hF2 (Nat.le_trans HG.out.2.2.1 hF2.size)))
    clear hF2 hD2 Con
    have HC : Hid (ch = ((ch.toNat : Nat) : Int)) := (Int.toNat_of_nonneg hc0).symm
    go_wp2_with (at_builtin; go_loud (refine wp_append_buf _ rfl (.tmp 127) (.tmp 129) 38 rfl i0 HI.out.1 HI.out.2.1 HI.out.2.2.1 HI.out.2.2.2 (v := buf) (xs := []) (base := base) rfl (HB2.out.1.fr ((Fr.refl w2 (fun _ => False)).alloc _) (fun _ _ h => h)) (.slice (some ⟨w2.heap.size, 0, none⟩) 2 2) [37, ch.toNat] rfl (src_new w2 _ [37, ch.toNat] (by simp only [gv, List.map]; rw [← HC.out]; rfl) _) (Nat.le_trans HB2.out.2.2 (by simp)) (by simp) ?_; intro v3 w3 hB3 hF3 hO3; have HE : Hid (AppP w base buf [37, ch.toNat] (.returned v3) w3) := ⟨v3, rfl, hB3, Fr.step (Fr.mono (HB2.out.2.1.alloc _) (fun _ _ h => h.elim)) hF3 (fun _ _ h => h), fun k hk => (hO3 k hk).imp id (fun h => Nat.le_trans HB2.out.2.1.size (Nat.le_trans (by simp) h))⟩; clear hB3 hF3 hO3))
    go_wp2
    go_ret
    exact HE.out
  · go_enter Tryz.func55, Tryz.ntmps55
    go_wp2_with (at_builtin; go_loud (refine wp_append_buf _ rfl (.tmp 15) (.tmp 16) 38 rfl i0 HI.out.1 HI.out.2.1 HI.out.2.2.1 HI.out.2.2.2 (v := buf) (xs := []) (base := base) rfl (HB.out.fr ((Fr.refl w (fun _ => False)).alloc _) (fun _ _ h => h)) (.slice (some ⟨w.heap.size, 0, none⟩) 1 1) [45] rfl (src_new w _ [45] rfl _) (Nat.le_trans hb (by simp)) (by simp) ?_; intro v1 w1 hB1 hF1 hO1; obtain ⟨g0, cc, rfl, hcc, hBv⟩ := buf_one hB1; have HF1 : Hid (Fr w w1 (fun k => buf.ownBlock = some k)) := Fr.step ((Fr.refl w _).alloc _) hF1 (fun _ _ h => h); have HF0 : Hid (∀ i, (Value.slice (some ⟨g0, 0, none⟩) 0 cc).ownBlock = some i → buf.ownBlock = some i ∨ w.heap.size ≤ i) := fun i h => (hO1 i h).imp id (fun h => Nat.le_trans (by simp) h); have hD1 := hD.fr HF1.out (fun h => (hgb g h).1 rfl) (fun k h1 h2 => (hgb k h2).2.1 h1); have hv1 := hv.fr HF1.out (fun k h => (hgb k h).2.2); have hb1 := Nat.le_trans hb HF1.out.size; have HBv := hide hBv; have a0 : w1.cell? ⟨g, 0, none⟩ = some (.int .i8 0) := hD1.blk.cell 0; clear hB1 hF1 hO1 hBv hD hv hb hB hgb))
    go_wp2_with fail
    obtain ⟨W1, hW1⟩ : ∃ W1, W1 = w1.alloc (.cells (Array.replicate 16 (.int .u8 0)) 107) := ⟨_, rfl⟩
    have hW1' : W1 = w1.alloc (.cells #[.int .u8 0, .int .u8 0, .int .u8 0, .int .u8 0, .int .u8 0, .int .u8 0, .int .u8 0, .int .u8 0, .int .u8 0, .int .u8 0, .int .u8 0, .int .u8 0, .int .u8 0, .int .u8 0, .int .u8 0, .int .u8 0] 107) := hW1
    rw [← hW1']
    have hf1 : Fr w1 W1 (fun _ => False) := by rw [hW1]; exact (Fr.refl w1 _).alloc _
    obtain ⟨g1, hg1⟩ : ∃ g1, g1 = w1.heap.size := ⟨_, rfl⟩
    have hS1 : Buf W1 g1 (.slice (some ⟨g1, 0, none⟩) 0 16) [] := by rw [hW1, hg1]; exact buf_new w1 16 107 (by omega)
    have hD2 := hD1.fr hf1 (fun h => h) (fun _ _ h => h)
    have hs1 : W1.heap.size = g1 + 1 := by rw [hW1, hg1]; simp
    have Con : Hid (∀ W, Fr W1 W (fun _ => False) → W.heap.size = W1.heap.size → Calls Tryz.prog 83 #[.pointer (some ⟨g, 3, none⟩), .slice (some ⟨g1, 0, none⟩) 0 16, .int .i64 10] W (AppP W g1 (.slice (some ⟨g1, 0, none⟩) 0 16) (decB v))) := fun W hW hs => by
      have hDW := hD2.fr hW (fun h => h) (fun _ _ h => h)
      exact bapp_any bx g 3 _ c v g1 A _ [] W (hDW.blk.cell 3) (hDW.blk.cell 4) hDW.own (by omega) ((hv1.fr (Fr.trans hf1 hW) (fun _ h => h.elim)).raise (by have := hf1.size; omega)) (hS1.fr hW (fun _ _ h => h)) (by omega) (by simp)
    have HG := hide (And.intro hf1 (And.intro hg1 (And.intro hb1 hD1)))
    rw [← hg1]
    clear hf1 hS1 hD2 hs1 hD1 hv1 hb1 hW1 hW1' hg1
    go_region_held3 (fun _ => True) (trivial)
      ((go_at_call 83; go_loud (refine (Con.out _ ?_ ?_).mono ?_; exact Fr.mk rfl rfl rfl (Nat.le_refl _) (fun _ _ _ => rfl); rfl; rintro e w2 ⟨v2, rfl, hB2, hF2, -⟩; have H2 : Hid (Buf w2 g1 v2 (decB v) ∧ Fr W1 w2 (fun k => (Value.slice (some ⟨g1, 0, none⟩) 0 16).ownBlock = some k)) := ⟨hB2, Fr.mk hF2.os hF2.tape hF2.output hF2.size hF2.block⟩; clear hB2 hF2)))
    have hF2 : Fr w1 w2 (fun _ => False) := Fr.step HG.out.1 H2.out.2 (fun i hi h => by
      have e : g1 = i := by injection h
      have := HG.out.2.1
      omega)
    have hD2 := HG.out.2.2.2.fr hF2 (fun h => h) (fun _ _ h => h)
    have a1 : w2.cell? ⟨g, 1, none⟩ = some (.bool true) := hD2.blk.cell 1
    have HB2 := hide (And.intro (HBv.out.fr hF2 (fun _ _ h => h)) (And.intro hF2 (Nat.le_trans HG.out.2.2.1 hF2.size)))
    clear hF2 hD2 Con
    have HC : Hid (ch = ((ch.toNat : Nat) : Int)) := (Int.toNat_of_nonneg hc0).symm
    have hwl : IntKind.i64.wrap ((1 : Int) - 1) = 0 := by decide
    go_wp2_with (at_builtin; go_loud (refine wp_append_buf _ rfl (.tmp 127) (.tmp 129) 38 rfl i0 HI.out.1 HI.out.2.1 HI.out.2.2.1 HI.out.2.2.2 (v := .slice (some ⟨g0, 0, none⟩) 0 cc) (xs := []) (base := base) rfl (HB2.out.1.fr ((Fr.refl w2 (fun _ => False)).alloc _) (fun _ _ h => h)) (.slice (some ⟨w2.heap.size, 0, none⟩) 2 2) [37, ch.toNat] rfl (src_new w2 _ [37, ch.toNat] (by simp only [gv, List.map]; rw [← HC.out]; rfl) _) (Nat.le_trans HB2.out.2.2 (by simp)) (by simp) ?_; intro v3 w3 hB3 hF3 hO3; have HE : Hid (AppP w base buf [37, ch.toNat] (.returned v3) w3) := ⟨v3, rfl, hB3, Fr.step (Fr.step HF1.out (HB2.out.2.1.alloc _) (fun _ _ h => h.elim)) hF3 (fun i hi h => (HF0.out i h).elim id (fun h2 => absurd hi (by omega))), fun k hk => (hO3 k hk).elim (fun h => HF0.out k h) (fun h => .inr (Nat.le_trans HF1.out.size (Nat.le_trans HB2.out.2.1.size (Nat.le_trans (by simp) h))))⟩; clear hB3 hF3 hO3))
    go_wp2
    go_ret
    exact HE.out
end Go.Proofs.YtlepebogjpcfoaaGreatDoor

/- Walks: Decimal.Text, the thin package's Text, at a letter that is no format. -/
set_option linter.unusedVariables false
set_option linter.unusedSimpArgs false
namespace Go.Proofs.YtlepebogjpcfoaaGreatDoor
open Go.RowKit

def NoFmt (ch : Int) : Prop := (ch == 101) = false ∧ (ch == 69) = false ∧ (ch == 102) = false ∧ (ch == 103) = false ∧ (ch == 71) = false

set_option maxRecDepth 20000 in
theorem dtext_other (g bx c v : Nat) (neg : Bool) (exp ch : Int) (A : Option Addr) (w : World) (hD : CoefAt w g neg exp A c v bx) (hl : (digs 18446744073709551616 v).length ≤ 3) (hv : VarsL w w.heap.size) (hch : NoFmt ch) (hc0 : 0 ≤ ch) (hc1 : ch < 256) :
    Calls Tryz.prog 33 #[.pointer (some ⟨g, 0, none⟩), .int .u8 ch] w (TextP w [37, ch.toNat]) := by
  obtain ⟨W1, hW1⟩ : ∃ W1, W1 = w.alloc (.cells (Array.replicate 16 (.int .u8 0)) 107) := ⟨_, rfl⟩
  have hW1' : W1 = w.alloc (.cells #[.int .u8 0, .int .u8 0, .int .u8 0, .int .u8 0, .int .u8 0, .int .u8 0, .int .u8 0, .int .u8 0, .int .u8 0, .int .u8 0, .int .u8 0, .int .u8 0, .int .u8 0, .int .u8 0, .int .u8 0, .int .u8 0] 107) := hW1
  have hf1 : Fr w W1 (fun _ => False) := by rw [hW1]; exact (Fr.refl w _).alloc _
  obtain ⟨g1, hg1⟩ : ∃ g1, g1 = w.heap.size := ⟨_, rfl⟩
  have hS1 : Buf W1 g1 (.slice (some ⟨g1, 0, none⟩) 0 16) [] := by rw [hW1, hg1]; exact buf_new w 16 107 (by omega)
  have hD1 := hD.fr hf1 (fun h => h) (fun _ _ h => h)
  have hs1 : W1.heap.size = g1 + 1 := by rw [hW1, hg1]; simp
  have con := dapp_other g bx g1 c v neg exp ch A (.slice (some ⟨g1, 0, none⟩) 0 16) W1 hD1 hl ((hv.fr hf1 (fun _ h => h.elim)).raise (by omega)) hS1 (by omega)
    (fun k hk => by
      have e : g1 = k := by injection hk
      subst e
      refine ⟨?_, ?_, Nat.le_refl _⟩
      · have := hD.blk.lt; omega
      · intro h; have := (hD.own.lt h).2; omega) hch hc0 hc1
  have Con := hide con
  have HF := hide (And.intro hf1 hg1)
  clear hf1 hS1 hD1 hs1 con hD hv hW1
  go_enter Tryz.func33, Tryz.ntmps33
  go_wp2_with fail
  rw [← hW1', ← hg1]
  clear hW1' hg1
  refine (Con.out).mono ?_
  rintro e w2 ⟨v2, rfl, hB2, hF2, -⟩
  obtain ⟨A2, c2, hv2⟩ := hB2.slice
  have hv3 : v2 = .slice A2 2 c2 := hv2
  subst hv3
  have hcv : (convert 38 9 (.slice A2 2 c2)).run Tryz.prog w2 = .ok (.string (bstr [37, ch.toNat])) w2 := conv_text hB2.rd
  clear hv2
  have HE : Hid (TextP w [37, ch.toNat] (.returned (.string (bstr [37, ch.toNat]))) w2) := ⟨rfl, (Fr.step HF.out.1 (hF2.mono (S' := fun k => g1 = k) (fun k _ h => by injection h)) (fun i hi h => by have := HF.out.2; omega)).below (Nat.le_refl _) (fun _ h => h.elim)⟩
  clear hB2 hF2 Con
  generalize bstr [37, ch.toNat] = q at *
  go_wp2
  go_ret
  exact HE.out
theorem itext_other (neg : Bool) (A : Option Addr) (c m : Nat) (exp ch : Int) (w : World) (hv : RdW w (.slice A (digs 18446744073709551616 m).length c) (digs 18446744073709551616 m)) (hn : (digs 18446744073709551616 m).length ≤ 3) (he0 : -2147483648 ≤ exp) (he1 : exp ≤ 2147483647) (hvars : VarsL w w.heap.size) (hch : NoFmt ch) (hc0 : 0 ≤ ch) (hc1 : ch < 256) :
    Calls Tryz.prog 12 #[.agg #[.int .i64 0, .bool neg, .slice A (digs 18446744073709551616 m).length c, .int .i64 exp], .int .u8 ch] w (TextP w [37, ch.toNat]) := by
  have hb1 : Below w.heap.size w (w.alloc (.cells #[.int .i64 0, .bool neg, .slice A (digs 18446744073709551616 m).length c, .int .i64 exp] 24)) := below_al (Below.refl _ _) _
  have con := made_fin 0 neg (.slice A (digs 18446744073709551616 m).length c) (digs 18446744073709551616 m) exp _ (RdG.below (k := .u64) hv hb1) (by omega) (by decide) (by decide) (by decide) he0 he1
  rw [trimz_of_canon (canon_digs (by omega) _)] at con
  obtain ⟨x0, x1, x2, x3⟩ := (Blk.new w 24 #[.int .i64 0, .bool neg, .slice A (digs 18446744073709551616 m).length c, .int .i64 exp]).dec4
  have HV := hide (And.intro hb1 (And.intro hvars (And.intro hn (And.intro hch (And.intro hc0 hc1)))))
  have Con := hide con
  clear con hv hb1 hvars hch hc0 hc1 hn
  go_enter Tryz.func12, Tryz.ntmps12
  go_wp2_with fail
  refine (Con.out).mono ?_
  rintro e w1 ⟨g, A1, c1, rfl, hg, ho, hB, hbel⟩
  have hb2 := below_next HV.out.1 hbel
  have Con2 := hide (dtext_other g _ c1 m neg exp ch A1 w1 ⟨hB, ho⟩ HV.out.2.2.1 ((HV.out.2.1.below hb2).raise hb2.size) HV.out.2.2.2.1 HV.out.2.2.2.2.1 HV.out.2.2.2.2.2)
  have HB := hide hb2
  clear ho hB hbel hb2 Con hg x0 x1 x2 x3
  go_wp2_with fail
  refine (Con2.out).mono ?_
  rintro e w2 ⟨rfl, hb3⟩
  have HF : Hid (TextP w [37, ch.toNat] (.returned (.string (bstr [37, ch.toNat]))) w2) := ⟨rfl, below_next HB.out hb3⟩
  clear hb3 HB Con2
  generalize bstr [37, ch.toNat] = q at *
  go_wp2
  go_ret
  exact HF.out
end Go.Proofs.YtlepebogjpcfoaaGreatDoor
