/- Parts of the proofs: DecFmt1. -/
import Derived.Test.YtlepebogjpcfoaaGreatDoorG20
import Derived.Test.YtlepebogjpcfoaaGreatDoorG42
import Derived.Test.YtlepebogjpcfoaaGreatDoorG50
/- Walks: Decimal.Append at the letters that are formats. -/
set_option linter.unusedVariables false
set_option linter.unusedSimpArgs false
namespace Go.Proofs.YtlepebogjpcfoaaGreatDoor
open Go.RowKit

/-- fmtE of a number's digits. -/
theorem fmtE_call (g base bd v ch : Nat) (exp : Int) (buf dg : Value) (xs : List Nat) (w : World) (hB : Buf w base buf xs) (hD : Buf w bd dg (decB v)) (hap : BufApart w buf dg) (he : w.cell? ⟨g, 2, none⟩ = some (.int .i32 exp)) (hb : base ≤ w.heap.size)
    (hl : xs.length ≤ 10) (hdl : (decB v).length ≤ 100) (hx : -1000 ≤ exp ∧ exp ≤ 1000) (htab : Lib.TabBelow Tryz.prog base w "internal/strconv.uint64pow10" .u64 Lib.pow10Tab) :
    Calls Tryz.prog 84 #[buf, .int .u8 (ch : Int), .pointer (some ⟨g, 0, none⟩), dg] w (AppP w base buf (xs ++ codeE (decB v) exp ch)) := by
  have hbb : ∀ k, buf.ownBlock = some k → base ≤ k := fun k hk => (hB.lt hk).1
  have hpos : 0 < (decB v).length := by rw [decB_length]; exact figs_pos v
  obtain ⟨gd, cd, rfl, hcd, hcm, -, -⟩ := hD.split hpos
  cases hd : decB v with
  | nil => rw [hd] at hpos; simp at hpos
  | cons d0 ds =>
    rw [hd] at hD hap hcd hdl hpos
    obtain ⟨n, hn⟩ : ∃ n, n = (d0 :: ds).length := ⟨_, rfl⟩
    have hn1 : n = ds.length + 1 := by rw [hn]; rfl
    rw [← hn] at hD hap hcd hdl hpos ⊢
    by_cases hs : exp + (n : Int) - 1 < 0
    · obtain ⟨q, hq⟩ : ∃ q : Nat, exp + (n : Int) - 1 = -(q : Int) := ⟨(-(exp + (n : Int) - 1)).toNat, by omega⟩
      by_cases h1 : 1 < n
      · exact fmte_long_neg g gd base bd cd n q exp d0 ds ch buf xs w hB hD hn1 hcd hcm hap he hb hbb hl (by omega) h1 hq ⟨by omega, by omega⟩ ⟨by omega, by omega⟩ htab
      · exact fmte_one_neg g gd base bd cd n q exp d0 ds ch buf xs w hB hD hn1 hcd hcm hap he hb hbb hl (by omega) (by omega) hq ⟨by omega, by omega⟩ ⟨by omega, by omega⟩ htab
    · obtain ⟨q, hq⟩ : ∃ q : Nat, exp + (n : Int) - 1 = (q : Int) := ⟨(exp + (n : Int) - 1).toNat, by omega⟩
      by_cases h1 : 1 < n
      · exact fmte_long_pos g gd base bd cd n q exp d0 ds ch buf xs w hB hD hn1 hcd hcm hap he hb hbb hl (by omega) h1 hq ⟨by omega, by omega⟩ ⟨by omega, by omega⟩ htab
      · exact fmte_one_pos g gd base bd cd n q exp d0 ds ch buf xs w hB hD hn1 hcd hcm hap he hb hbb hl (by omega) (by omega) hq ⟨by omega, by omega⟩ ⟨by omega, by omega⟩ htab
/-- fmtF of a number's digits. -/
theorem fmtF_call (g base bd v : Nat) (exp : Int) (buf dg : Value) (xs : List Nat) (w : World) (hB : Buf w base buf xs) (hD : Buf w bd dg (decB v)) (hap : BufApart w buf dg) (he : w.cell? ⟨g, 2, none⟩ = some (.int .i32 exp)) (hg : g < w.heap.size ∧ buf.ownBlock ≠ some g) (hb : base ≤ w.heap.size)
    (hl : xs.length ≤ 10) (hdl : (decB v).length ≤ 100) (hx : -1000 ≤ exp ∧ exp ≤ 1000) :
    Calls Tryz.prog 85 #[buf, .pointer (some ⟨g, 0, none⟩), dg] w (AppP w base buf (xs ++ codeF (decB v) exp)) := by
  have hpos : 0 < (decB v).length := by rw [decB_length]; exact figs_pos v
  obtain ⟨gd, cd, rfl, hcd, hcm, -, -⟩ := hD.split hpos
  obtain ⟨n, hn⟩ : ∃ n, n = (decB v).length := ⟨_, rfl⟩
  rw [← hn] at hD hap hcd hpos hdl ⊢
  by_cases hs : exp < 0
  · obtain ⟨k, hk⟩ : ∃ k : Nat, -exp = (k : Int) := ⟨(-exp).toNat, by omega⟩
    by_cases h1 : (n : Int) ≤ (k : Int)
    · exact fmtf_ahead g gd base bd cd n k (k - n) exp (decB v) buf xs w hB hD hn hpos hcd hcm hap he hg hb hl (by omega) hk hs (by omega) (by omega)
    · exact fmtf_point g gd base bd cd n k (n - k) exp (decB v) buf xs w hB hD hn hpos hcd hcm hap he hg hb hl (by omega) hk hs (by omega) (by omega) (by omega)
  · obtain ⟨k, hk⟩ : ∃ k : Nat, exp = (k : Int) := ⟨exp.toNat, by omega⟩
    exact fmtf_behind g gd base bd cd n k exp (decB v) buf xs w hB hD hn hpos hcd hcm hap he hg hb hl (by omega) hk (by omega)
theorem natT_f {v : Nat} {exp : Int} {ch : Nat} (h : exp ≤ 0) (h2 : -6 ≤ exp + (figs v : Int) - 1) : codeF (decB v) exp = natT v exp ch := by
  rw [codeF_eq v exp (.inl h)]; unfold natT; rw [if_pos ⟨h, h2⟩]
theorem natT_e {v : Nat} {exp : Int} {ch : Nat} (h : ¬ (exp ≤ 0 ∧ -6 ≤ exp + (figs v : Int) - 1)) : codeE (decB v) exp ch = natT v exp ch := by
  rw [codeE_eq]; unfold natT; rw [if_neg h]

set_option maxHeartbeats 2000000 in
set_option maxRecDepth 20000 in
theorem dapp_ep (g bx base c v : Nat) (exp : Int) (A : Option Addr) (buf : Value) (w : World) (hD : CoefAt w g false exp A c v bx) (hl : (digs 18446744073709551616 v).length ≤ 3) (hv : VarsL w base)
    (hB : Buf w base buf []) (hb : base ≤ w.heap.size) (hgb : ∀ k, buf.ownBlock = some k → k ≠ g ∧ (Value.slice A (digs 18446744073709551616 v).length c).ownBlock ≠ some k ∧ base ≤ k) (hx : -1000 ≤ exp ∧ exp ≤ 1000) (hdl : (decB v).length ≤ 100) (htab : Lib.TabBelow Tryz.prog base w "internal/strconv.uint64pow10" .u64 Lib.pow10Tab) :
    Calls Tryz.prog 55 #[.pointer (some ⟨g, 0, none⟩), buf, .int .u8 101] w (AppP w base buf (sgnT false (codeE (decB v) exp 101))) := by
  obtain ⟨i0, hi, hz0, hz1, hz2⟩ := u8_parts
  have HI := hide (And.intro hi (And.intro hz0 (And.intro hz1 hz2)))
  have a0 : w.cell? ⟨g, 0, none⟩ = some (.int .i8 0) := hD.blk.cell 0
  have HB := hide hB
  have HTb := hide htab
  have hbb : ∀ k, buf.ownBlock = some k → base ≤ k := fun k hk => (hgb k hk).2.2
  have HX := hide (And.intro hx hdl)
  clear hi hz0 hz1 hz2 htab hx hdl
  have a1 : w.cell? ⟨g, 1, none⟩ = some (.bool false) := hD.blk.cell 1
  go_enter Tryz.func55, Tryz.ntmps55
  go_wp2_with fail
  have HBv : Hid (Buf w base buf []) := HB
  have HF1 : Hid (Fr w w (fun k => buf.ownBlock = some k)) := Fr.refl _ _
  have HF0 : Hid (∀ i, buf.ownBlock = some i → buf.ownBlock = some i ∨ w.heap.size ≤ i) := fun i h => .inl h
  have hgn : buf.ownBlock ≠ some g := fun h => (hgb g h).1 rfl
  have hb1 := hb
  have hv1 := hv
  have hD1 := hD
  clear hD hv hB hgb
  obtain ⟨W1, hW1⟩ : ∃ W1, W1 = w.alloc (.cells (Array.replicate 16 (.int .u8 0)) 107) := ⟨_, rfl⟩
  have hW1' : W1 = w.alloc (.cells #[.int .u8 0, .int .u8 0, .int .u8 0, .int .u8 0, .int .u8 0, .int .u8 0, .int .u8 0, .int .u8 0, .int .u8 0, .int .u8 0, .int .u8 0, .int .u8 0, .int .u8 0, .int .u8 0, .int .u8 0, .int .u8 0] 107) := hW1
  rw [← hW1']
  have hf1 : Fr w W1 (fun _ => False) := by rw [hW1]; exact (Fr.refl w _).alloc _
  obtain ⟨g1, hg1⟩ : ∃ g1, g1 = w.heap.size := ⟨_, rfl⟩
  have hS1 : Buf W1 g1 (.slice (some ⟨g1, 0, none⟩) 0 16) [] := by rw [hW1, hg1]; exact buf_new w 16 107 (by omega)
  have hD2 := hD1.fr hf1 (fun h => h) (fun _ _ h => h)
  have hs1 : W1.heap.size = g1 + 1 := by rw [hW1, hg1]; simp
  have Con : Hid (∀ W, Fr W1 W (fun _ => False) → W.heap.size = W1.heap.size → Calls Tryz.prog 83 #[.pointer (some ⟨g, 3, none⟩), .slice (some ⟨g1, 0, none⟩) 0 16, .int .i64 10] W (AppP W g1 (.slice (some ⟨g1, 0, none⟩) 0 16) (decB v))) := fun W hW hs => by
    have hDW := hD2.fr hW (fun h => h) (fun _ _ h => h)
    exact bapp_any bx g 3 _ c v g1 A _ [] W (hDW.blk.cell 3) (hDW.blk.cell 4) hDW.own (by omega) ((hv1.fr (Fr.trans hf1 hW) (fun _ h => h.elim)).raise (by have := hf1.size; omega)) (hS1.fr hW (fun _ _ h => h)) (by omega) (by simp)
  have HG := hide (And.intro hf1 (And.intro hg1 (And.intro hb1 hD1)))
  have HBs := hide hb
  have HGn := hide hgn
  rw [← hg1]
  clear hf1 hS1 hD2 hs1 hD1 hv1 hb1 hW1 hW1' hg1 hgn hb
  go_region_held3 (fun _ => True) (trivial)
    ((go_at_call 83; go_loud (refine (Con.out _ ?_ ?_).mono ?_; exact Fr.mk rfl rfl rfl (Nat.le_refl _) (fun _ _ _ => rfl); rfl; rintro e w2 ⟨v2, rfl, hB2, hF2, -⟩; have H2 : Hid (Buf w2 g1 v2 (decB v) ∧ Fr W1 w2 (fun k => (Value.slice (some ⟨g1, 0, none⟩) 0 16).ownBlock = some k)) := ⟨hB2, Fr.mk hF2.os hF2.tape hF2.output hF2.size hF2.block⟩; clear hB2 hF2)))
  have hF2 : Fr w w2 (fun _ => False) := Fr.step HG.out.1 H2.out.2 (fun i hi h => by
    have e : g1 = i := by injection h
    have := HG.out.2.1
    omega)
  have hD2 := HG.out.2.2.2.fr hF2 (fun h => h) (fun _ _ h => h)
  have hbw : base ≤ w2.heap.size := Nat.le_trans HG.out.2.2.1 hF2.size
  have hBv2 := HBv.out.fr hF2 (fun _ _ h => h)
  have hap : BufApart w2 buf v2 := fun k hk => ⟨(H2.out.1.lt hk).2, fun h => by have h1 := (H2.out.1.lt hk).1; have h2 := (HBv.out.lt h).2; have := HG.out.2.1; omega⟩
  have htw := HTb.out.on (hF2.below HG.out.2.2.1 (fun _ h => h.elim))
  have he2 : w2.cell? ⟨g, 2, none⟩ = some (.int .i32 exp) := hD2.blk.cell 2
  have hFin : ∀ T w3 v3, Buf w3 base v3 ([] ++ T) → Fr w2 w3 (fun k => buf.ownBlock = some k) → (∀ k, v3.ownBlock = some k → buf.ownBlock = some k ∨ w2.heap.size ≤ k) → AppP w base buf (sgnT false T) (.returned v3) w3 := fun T w3 v3 hB3 hF3 hO3 =>
    ⟨v3, rfl, hB3, Fr.step (Fr.step HF1.out hF2 (fun _ _ h => h.elim)) hF3 (fun i hi h => (HF0.out i h).elim id (fun h2 => absurd hi (by omega))), fun k hk => (hO3 k hk).elim (fun h => HF0.out k h) (fun h => .inr (Nat.le_trans HF1.out.size (Nat.le_trans hF2.size h)))⟩
  have ConX := hide (fmtE_call g base g1 v 101 exp buf v2 [] w2 hBv2 H2.out.1 hap he2 hbw (by simp) HX.out.2 HX.out.1 htw)
  have HFin := hide hFin
  have HE2 := hide hap
  clear hF2 hD2 hbw hBv2 hap htw hFin Con HB HBv HF1 HF0 HG HTb HX HBs HGn H2
  go_wp2_with fail
  refine (ConX.out).mono ?_
  rintro e w3 ⟨v3, rfl, hB3, hF3, hO3⟩
  have HE := hide (HFin.out (codeE (decB v) exp 101) w3 v3 hB3 hF3 hO3)
  clear hB3 hF3 hO3 HFin
  go_wp2
  go_ret
  exact HE.out

set_option maxHeartbeats 2000000 in
set_option maxRecDepth 20000 in
theorem dapp_Ep (g bx base c v : Nat) (exp : Int) (A : Option Addr) (buf : Value) (w : World) (hD : CoefAt w g false exp A c v bx) (hl : (digs 18446744073709551616 v).length ≤ 3) (hv : VarsL w base)
    (hB : Buf w base buf []) (hb : base ≤ w.heap.size) (hgb : ∀ k, buf.ownBlock = some k → k ≠ g ∧ (Value.slice A (digs 18446744073709551616 v).length c).ownBlock ≠ some k ∧ base ≤ k) (hx : -1000 ≤ exp ∧ exp ≤ 1000) (hdl : (decB v).length ≤ 100) (htab : Lib.TabBelow Tryz.prog base w "internal/strconv.uint64pow10" .u64 Lib.pow10Tab) :
    Calls Tryz.prog 55 #[.pointer (some ⟨g, 0, none⟩), buf, .int .u8 69] w (AppP w base buf (sgnT false (codeE (decB v) exp 69))) := by
  obtain ⟨i0, hi, hz0, hz1, hz2⟩ := u8_parts
  have HI := hide (And.intro hi (And.intro hz0 (And.intro hz1 hz2)))
  have a0 : w.cell? ⟨g, 0, none⟩ = some (.int .i8 0) := hD.blk.cell 0
  have HB := hide hB
  have HTb := hide htab
  have hbb : ∀ k, buf.ownBlock = some k → base ≤ k := fun k hk => (hgb k hk).2.2
  have HX := hide (And.intro hx hdl)
  clear hi hz0 hz1 hz2 htab hx hdl
  have a1 : w.cell? ⟨g, 1, none⟩ = some (.bool false) := hD.blk.cell 1
  go_enter Tryz.func55, Tryz.ntmps55
  go_wp2_with fail
  have HBv : Hid (Buf w base buf []) := HB
  have HF1 : Hid (Fr w w (fun k => buf.ownBlock = some k)) := Fr.refl _ _
  have HF0 : Hid (∀ i, buf.ownBlock = some i → buf.ownBlock = some i ∨ w.heap.size ≤ i) := fun i h => .inl h
  have hgn : buf.ownBlock ≠ some g := fun h => (hgb g h).1 rfl
  have hb1 := hb
  have hv1 := hv
  have hD1 := hD
  clear hD hv hB hgb
  obtain ⟨W1, hW1⟩ : ∃ W1, W1 = w.alloc (.cells (Array.replicate 16 (.int .u8 0)) 107) := ⟨_, rfl⟩
  have hW1' : W1 = w.alloc (.cells #[.int .u8 0, .int .u8 0, .int .u8 0, .int .u8 0, .int .u8 0, .int .u8 0, .int .u8 0, .int .u8 0, .int .u8 0, .int .u8 0, .int .u8 0, .int .u8 0, .int .u8 0, .int .u8 0, .int .u8 0, .int .u8 0] 107) := hW1
  rw [← hW1']
  have hf1 : Fr w W1 (fun _ => False) := by rw [hW1]; exact (Fr.refl w _).alloc _
  obtain ⟨g1, hg1⟩ : ∃ g1, g1 = w.heap.size := ⟨_, rfl⟩
  have hS1 : Buf W1 g1 (.slice (some ⟨g1, 0, none⟩) 0 16) [] := by rw [hW1, hg1]; exact buf_new w 16 107 (by omega)
  have hD2 := hD1.fr hf1 (fun h => h) (fun _ _ h => h)
  have hs1 : W1.heap.size = g1 + 1 := by rw [hW1, hg1]; simp
  have Con : Hid (∀ W, Fr W1 W (fun _ => False) → W.heap.size = W1.heap.size → Calls Tryz.prog 83 #[.pointer (some ⟨g, 3, none⟩), .slice (some ⟨g1, 0, none⟩) 0 16, .int .i64 10] W (AppP W g1 (.slice (some ⟨g1, 0, none⟩) 0 16) (decB v))) := fun W hW hs => by
    have hDW := hD2.fr hW (fun h => h) (fun _ _ h => h)
    exact bapp_any bx g 3 _ c v g1 A _ [] W (hDW.blk.cell 3) (hDW.blk.cell 4) hDW.own (by omega) ((hv1.fr (Fr.trans hf1 hW) (fun _ h => h.elim)).raise (by have := hf1.size; omega)) (hS1.fr hW (fun _ _ h => h)) (by omega) (by simp)
  have HG := hide (And.intro hf1 (And.intro hg1 (And.intro hb1 hD1)))
  have HBs := hide hb
  have HGn := hide hgn
  rw [← hg1]
  clear hf1 hS1 hD2 hs1 hD1 hv1 hb1 hW1 hW1' hg1 hgn hb
  go_region_held3 (fun _ => True) (trivial)
    ((go_at_call 83; go_loud (refine (Con.out _ ?_ ?_).mono ?_; exact Fr.mk rfl rfl rfl (Nat.le_refl _) (fun _ _ _ => rfl); rfl; rintro e w2 ⟨v2, rfl, hB2, hF2, -⟩; have H2 : Hid (Buf w2 g1 v2 (decB v) ∧ Fr W1 w2 (fun k => (Value.slice (some ⟨g1, 0, none⟩) 0 16).ownBlock = some k)) := ⟨hB2, Fr.mk hF2.os hF2.tape hF2.output hF2.size hF2.block⟩; clear hB2 hF2)))
  have hF2 : Fr w w2 (fun _ => False) := Fr.step HG.out.1 H2.out.2 (fun i hi h => by
    have e : g1 = i := by injection h
    have := HG.out.2.1
    omega)
  have hD2 := HG.out.2.2.2.fr hF2 (fun h => h) (fun _ _ h => h)
  have hbw : base ≤ w2.heap.size := Nat.le_trans HG.out.2.2.1 hF2.size
  have hBv2 := HBv.out.fr hF2 (fun _ _ h => h)
  have hap : BufApart w2 buf v2 := fun k hk => ⟨(H2.out.1.lt hk).2, fun h => by have h1 := (H2.out.1.lt hk).1; have h2 := (HBv.out.lt h).2; have := HG.out.2.1; omega⟩
  have htw := HTb.out.on (hF2.below HG.out.2.2.1 (fun _ h => h.elim))
  have he2 : w2.cell? ⟨g, 2, none⟩ = some (.int .i32 exp) := hD2.blk.cell 2
  have hFin : ∀ T w3 v3, Buf w3 base v3 ([] ++ T) → Fr w2 w3 (fun k => buf.ownBlock = some k) → (∀ k, v3.ownBlock = some k → buf.ownBlock = some k ∨ w2.heap.size ≤ k) → AppP w base buf (sgnT false T) (.returned v3) w3 := fun T w3 v3 hB3 hF3 hO3 =>
    ⟨v3, rfl, hB3, Fr.step (Fr.step HF1.out hF2 (fun _ _ h => h.elim)) hF3 (fun i hi h => (HF0.out i h).elim id (fun h2 => absurd hi (by omega))), fun k hk => (hO3 k hk).elim (fun h => HF0.out k h) (fun h => .inr (Nat.le_trans HF1.out.size (Nat.le_trans hF2.size h)))⟩
  have ConX := hide (fmtE_call g base g1 v 69 exp buf v2 [] w2 hBv2 H2.out.1 hap he2 hbw (by simp) HX.out.2 HX.out.1 htw)
  have HFin := hide hFin
  have HE2 := hide hap
  clear hF2 hD2 hbw hBv2 hap htw hFin Con HB HBv HF1 HF0 HG HTb HX HBs HGn H2
  go_wp2_with fail
  refine (ConX.out).mono ?_
  rintro e w3 ⟨v3, rfl, hB3, hF3, hO3⟩
  have HE := hide (HFin.out (codeE (decB v) exp 69) w3 v3 hB3 hF3 hO3)
  clear hB3 hF3 hO3 HFin
  go_wp2
  go_ret
  exact HE.out

set_option maxHeartbeats 2000000 in
set_option maxRecDepth 20000 in
theorem dapp_fp (g bx base c v : Nat) (exp : Int) (A : Option Addr) (buf : Value) (w : World) (hD : CoefAt w g false exp A c v bx) (hl : (digs 18446744073709551616 v).length ≤ 3) (hv : VarsL w base)
    (hB : Buf w base buf []) (hb : base ≤ w.heap.size) (hgb : ∀ k, buf.ownBlock = some k → k ≠ g ∧ (Value.slice A (digs 18446744073709551616 v).length c).ownBlock ≠ some k ∧ base ≤ k) (hx : -1000 ≤ exp ∧ exp ≤ 1000) (hdl : (decB v).length ≤ 100) (htab : Lib.TabBelow Tryz.prog base w "internal/strconv.uint64pow10" .u64 Lib.pow10Tab) :
    Calls Tryz.prog 55 #[.pointer (some ⟨g, 0, none⟩), buf, .int .u8 102] w (AppP w base buf (sgnT false (codeF (decB v) exp))) := by
  obtain ⟨i0, hi, hz0, hz1, hz2⟩ := u8_parts
  have HI := hide (And.intro hi (And.intro hz0 (And.intro hz1 hz2)))
  have a0 : w.cell? ⟨g, 0, none⟩ = some (.int .i8 0) := hD.blk.cell 0
  have HB := hide hB
  have HTb := hide htab
  have hbb : ∀ k, buf.ownBlock = some k → base ≤ k := fun k hk => (hgb k hk).2.2
  have HX := hide (And.intro hx hdl)
  clear hi hz0 hz1 hz2 htab hx hdl
  have a1 : w.cell? ⟨g, 1, none⟩ = some (.bool false) := hD.blk.cell 1
  go_enter Tryz.func55, Tryz.ntmps55
  go_wp2_with fail
  have HBv : Hid (Buf w base buf []) := HB
  have HF1 : Hid (Fr w w (fun k => buf.ownBlock = some k)) := Fr.refl _ _
  have HF0 : Hid (∀ i, buf.ownBlock = some i → buf.ownBlock = some i ∨ w.heap.size ≤ i) := fun i h => .inl h
  have hgn : buf.ownBlock ≠ some g := fun h => (hgb g h).1 rfl
  have hb1 := hb
  have hv1 := hv
  have hD1 := hD
  clear hD hv hB hgb
  obtain ⟨W1, hW1⟩ : ∃ W1, W1 = w.alloc (.cells (Array.replicate 16 (.int .u8 0)) 107) := ⟨_, rfl⟩
  have hW1' : W1 = w.alloc (.cells #[.int .u8 0, .int .u8 0, .int .u8 0, .int .u8 0, .int .u8 0, .int .u8 0, .int .u8 0, .int .u8 0, .int .u8 0, .int .u8 0, .int .u8 0, .int .u8 0, .int .u8 0, .int .u8 0, .int .u8 0, .int .u8 0] 107) := hW1
  rw [← hW1']
  have hf1 : Fr w W1 (fun _ => False) := by rw [hW1]; exact (Fr.refl w _).alloc _
  obtain ⟨g1, hg1⟩ : ∃ g1, g1 = w.heap.size := ⟨_, rfl⟩
  have hS1 : Buf W1 g1 (.slice (some ⟨g1, 0, none⟩) 0 16) [] := by rw [hW1, hg1]; exact buf_new w 16 107 (by omega)
  have hD2 := hD1.fr hf1 (fun h => h) (fun _ _ h => h)
  have hs1 : W1.heap.size = g1 + 1 := by rw [hW1, hg1]; simp
  have Con : Hid (∀ W, Fr W1 W (fun _ => False) → W.heap.size = W1.heap.size → Calls Tryz.prog 83 #[.pointer (some ⟨g, 3, none⟩), .slice (some ⟨g1, 0, none⟩) 0 16, .int .i64 10] W (AppP W g1 (.slice (some ⟨g1, 0, none⟩) 0 16) (decB v))) := fun W hW hs => by
    have hDW := hD2.fr hW (fun h => h) (fun _ _ h => h)
    exact bapp_any bx g 3 _ c v g1 A _ [] W (hDW.blk.cell 3) (hDW.blk.cell 4) hDW.own (by omega) ((hv1.fr (Fr.trans hf1 hW) (fun _ h => h.elim)).raise (by have := hf1.size; omega)) (hS1.fr hW (fun _ _ h => h)) (by omega) (by simp)
  have HG := hide (And.intro hf1 (And.intro hg1 (And.intro hb1 hD1)))
  have HBs := hide hb
  have HGn := hide hgn
  rw [← hg1]
  clear hf1 hS1 hD2 hs1 hD1 hv1 hb1 hW1 hW1' hg1 hgn hb
  go_region_held3 (fun _ => True) (trivial)
    ((go_at_call 83; go_loud (refine (Con.out _ ?_ ?_).mono ?_; exact Fr.mk rfl rfl rfl (Nat.le_refl _) (fun _ _ _ => rfl); rfl; rintro e w2 ⟨v2, rfl, hB2, hF2, -⟩; have H2 : Hid (Buf w2 g1 v2 (decB v) ∧ Fr W1 w2 (fun k => (Value.slice (some ⟨g1, 0, none⟩) 0 16).ownBlock = some k)) := ⟨hB2, Fr.mk hF2.os hF2.tape hF2.output hF2.size hF2.block⟩; clear hB2 hF2)))
  have hF2 : Fr w w2 (fun _ => False) := Fr.step HG.out.1 H2.out.2 (fun i hi h => by
    have e : g1 = i := by injection h
    have := HG.out.2.1
    omega)
  have hD2 := HG.out.2.2.2.fr hF2 (fun h => h) (fun _ _ h => h)
  have hbw : base ≤ w2.heap.size := Nat.le_trans HG.out.2.2.1 hF2.size
  have hBv2 := HBv.out.fr hF2 (fun _ _ h => h)
  have hap : BufApart w2 buf v2 := fun k hk => ⟨(H2.out.1.lt hk).2, fun h => by have h1 := (H2.out.1.lt hk).1; have h2 := (HBv.out.lt h).2; have := HG.out.2.1; omega⟩
  have htw := HTb.out.on (hF2.below HG.out.2.2.1 (fun _ h => h.elim))
  have he2 : w2.cell? ⟨g, 2, none⟩ = some (.int .i32 exp) := hD2.blk.cell 2
  have hFin : ∀ T w3 v3, Buf w3 base v3 ([] ++ T) → Fr w2 w3 (fun k => buf.ownBlock = some k) → (∀ k, v3.ownBlock = some k → buf.ownBlock = some k ∨ w2.heap.size ≤ k) → AppP w base buf (sgnT false T) (.returned v3) w3 := fun T w3 v3 hB3 hF3 hO3 =>
    ⟨v3, rfl, hB3, Fr.step (Fr.step HF1.out hF2 (fun _ _ h => h.elim)) hF3 (fun i hi h => (HF0.out i h).elim id (fun h2 => absurd hi (by omega))), fun k hk => (hO3 k hk).elim (fun h => HF0.out k h) (fun h => .inr (Nat.le_trans HF1.out.size (Nat.le_trans hF2.size h)))⟩
  have ConX := hide (fmtF_call g base g1 v exp buf v2 [] w2 hBv2 H2.out.1 hap he2 ⟨hD2.blk.lt, HGn.out⟩ hbw (by simp) HX.out.2 HX.out.1)
  have HFin := hide hFin
  have HE2 := hide hap
  clear hF2 hD2 hbw hBv2 hap htw hFin Con HB HBv HF1 HF0 HG HTb HX HBs HGn H2
  go_wp2_with fail
  refine (ConX.out).mono ?_
  rintro e w3 ⟨v3, rfl, hB3, hF3, hO3⟩
  have HE := hide (HFin.out (codeF (decB v) exp) w3 v3 hB3 hF3 hO3)
  clear hB3 hF3 hO3 HFin
  go_wp2
  go_ret
  exact HE.out

set_option maxHeartbeats 2000000 in
set_option maxRecDepth 20000 in
theorem dapp_gp (g bx base c v : Nat) (exp : Int) (A : Option Addr) (buf : Value) (w : World) (hD : CoefAt w g false exp A c v bx) (hl : (digs 18446744073709551616 v).length ≤ 3) (hv : VarsL w base)
    (hB : Buf w base buf []) (hb : base ≤ w.heap.size) (hgb : ∀ k, buf.ownBlock = some k → k ≠ g ∧ (Value.slice A (digs 18446744073709551616 v).length c).ownBlock ≠ some k ∧ base ≤ k) (hx : -1000 ≤ exp ∧ exp ≤ 1000) (hdl : (decB v).length ≤ 100) (htab : Lib.TabBelow Tryz.prog base w "internal/strconv.uint64pow10" .u64 Lib.pow10Tab) (hthin : v = 0 → -6 ≤ exp) :
    Calls Tryz.prog 55 #[.pointer (some ⟨g, 0, none⟩), buf, .int .u8 103] w (AppP w base buf (sgnT false (natT v exp 101))) := by
  obtain ⟨i0, hi, hz0, hz1, hz2⟩ := u8_parts
  have HI := hide (And.intro hi (And.intro hz0 (And.intro hz1 hz2)))
  have a0 : w.cell? ⟨g, 0, none⟩ = some (.int .i8 0) := hD.blk.cell 0
  have HB := hide hB
  have HTb := hide htab
  have hbb : ∀ k, buf.ownBlock = some k → base ≤ k := fun k hk => (hgb k hk).2.2
  have HX := hide (And.intro hx hdl)
  clear hi hz0 hz1 hz2 htab hx hdl
  have a1 : w.cell? ⟨g, 1, none⟩ = some (.bool false) := hD.blk.cell 1
  go_enter Tryz.func55, Tryz.ntmps55
  go_wp2_with fail
  have HBv : Hid (Buf w base buf []) := HB
  have HF1 : Hid (Fr w w (fun k => buf.ownBlock = some k)) := Fr.refl _ _
  have HF0 : Hid (∀ i, buf.ownBlock = some i → buf.ownBlock = some i ∨ w.heap.size ≤ i) := fun i h => .inl h
  have hgn : buf.ownBlock ≠ some g := fun h => (hgb g h).1 rfl
  have hb1 := hb
  have hv1 := hv
  have hD1 := hD
  clear hD hv hB hgb
  obtain ⟨W1, hW1⟩ : ∃ W1, W1 = w.alloc (.cells (Array.replicate 16 (.int .u8 0)) 107) := ⟨_, rfl⟩
  have hW1' : W1 = w.alloc (.cells #[.int .u8 0, .int .u8 0, .int .u8 0, .int .u8 0, .int .u8 0, .int .u8 0, .int .u8 0, .int .u8 0, .int .u8 0, .int .u8 0, .int .u8 0, .int .u8 0, .int .u8 0, .int .u8 0, .int .u8 0, .int .u8 0] 107) := hW1
  rw [← hW1']
  have hf1 : Fr w W1 (fun _ => False) := by rw [hW1]; exact (Fr.refl w _).alloc _
  obtain ⟨g1, hg1⟩ : ∃ g1, g1 = w.heap.size := ⟨_, rfl⟩
  have hS1 : Buf W1 g1 (.slice (some ⟨g1, 0, none⟩) 0 16) [] := by rw [hW1, hg1]; exact buf_new w 16 107 (by omega)
  have hD2 := hD1.fr hf1 (fun h => h) (fun _ _ h => h)
  have hs1 : W1.heap.size = g1 + 1 := by rw [hW1, hg1]; simp
  have Con : Hid (∀ W, Fr W1 W (fun _ => False) → W.heap.size = W1.heap.size → Calls Tryz.prog 83 #[.pointer (some ⟨g, 3, none⟩), .slice (some ⟨g1, 0, none⟩) 0 16, .int .i64 10] W (AppP W g1 (.slice (some ⟨g1, 0, none⟩) 0 16) (decB v))) := fun W hW hs => by
    have hDW := hD2.fr hW (fun h => h) (fun _ _ h => h)
    exact bapp_any bx g 3 _ c v g1 A _ [] W (hDW.blk.cell 3) (hDW.blk.cell 4) hDW.own (by omega) ((hv1.fr (Fr.trans hf1 hW) (fun _ h => h.elim)).raise (by have := hf1.size; omega)) (hS1.fr hW (fun _ _ h => h)) (by omega) (by simp)
  have HG := hide (And.intro hf1 (And.intro hg1 (And.intro hb1 hD1)))
  have HBs := hide hb
  have HGn := hide hgn
  rw [← hg1]
  clear hf1 hS1 hD2 hs1 hD1 hv1 hb1 hW1 hW1' hg1 hgn hb
  go_region_held3 (fun _ => True) (trivial)
    ((go_at_call 83; go_loud (refine (Con.out _ ?_ ?_).mono ?_; exact Fr.mk rfl rfl rfl (Nat.le_refl _) (fun _ _ _ => rfl); rfl; rintro e w2 ⟨v2, rfl, hB2, hF2, -⟩; have H2 : Hid (Buf w2 g1 v2 (decB v) ∧ Fr W1 w2 (fun k => (Value.slice (some ⟨g1, 0, none⟩) 0 16).ownBlock = some k)) := ⟨hB2, Fr.mk hF2.os hF2.tape hF2.output hF2.size hF2.block⟩; clear hB2 hF2)))
  have hF2 : Fr w w2 (fun _ => False) := Fr.step HG.out.1 H2.out.2 (fun i hi h => by
    have e : g1 = i := by injection h
    have := HG.out.2.1
    omega)
  have hD2 := HG.out.2.2.2.fr hF2 (fun h => h) (fun _ _ h => h)
  have hbw : base ≤ w2.heap.size := Nat.le_trans HG.out.2.2.1 hF2.size
  have hBv2 := HBv.out.fr hF2 (fun _ _ h => h)
  have hap : BufApart w2 buf v2 := fun k hk => ⟨(H2.out.1.lt hk).2, fun h => by have h1 := (H2.out.1.lt hk).1; have h2 := (HBv.out.lt h).2; have := HG.out.2.1; omega⟩
  have htw := HTb.out.on (hF2.below HG.out.2.2.1 (fun _ h => h.elim))
  have he2 : w2.cell? ⟨g, 2, none⟩ = some (.int .i32 exp) := hD2.blk.cell 2
  have hFin : ∀ T w3 v3, Buf w3 base v3 ([] ++ T) → Fr w2 w3 (fun k => buf.ownBlock = some k) → (∀ k, v3.ownBlock = some k → buf.ownBlock = some k ∨ w2.heap.size ≤ k) → AppP w base buf (sgnT false T) (.returned v3) w3 := fun T w3 v3 hB3 hF3 hO3 =>
    ⟨v3, rfl, hB3, Fr.step (Fr.step HF1.out hF2 (fun _ _ h => h.elim)) hF3 (fun i hi h => (HF0.out i h).elim id (fun h2 => absurd hi (by omega))), fun k hk => (hO3 k hk).elim (fun h => HF0.out k h) (fun h => .inr (Nat.le_trans HF1.out.size (Nat.le_trans hF2.size h)))⟩
  have hBl : ∀ W, Below w2.heap.size w2 W → Calls Tryz.prog 86 #[.pointer (some ⟨g, 3, none⟩)] W fun e w' => e = .returned (.int .i64 ((blen v : Nat) : Int)) ∧ w' = W := fun W hW => by
    have hd := hD2.blk.below hW
    have := bbitLen_any g 3 A _ c _ W (hd.cell 4) (RdG.below (k := .u64) hD2.own.rd hW) rfl (by omega) (dig_digs (by omega) _) (canon_digs (by omega) _)
    rwa [dval_digs (by omega)] at this
  have HBl := hide hBl
  obtain ⟨A2, c2, hv2⟩ := H2.out.1.slice
  have hfn : (decB v).length = figs v := decB_length v
  have hfs : figs v ≤ 100 := by rw [← hfn]; exact HX.out.2
  have hfp := figs_pos v
  have hexi := HX.out.1
  by_cases hF : exp ≤ 0 ∧ -6 ≤ exp + (figs v : Int) - 1
  · have ConX := hide (fmtF_call g base g1 v exp buf v2 [] w2 hBv2 H2.out.1 hap he2 ⟨hD2.blk.lt, HGn.out⟩ hbw (by simp) HX.out.2 HX.out.1)
    rw [natT_f (ch := 101) hF.1 hF.2] at ConX
    have HFin := hide hFin
    obtain ⟨fg, hfg⟩ : ∃ fg, fg = figs v := ⟨_, rfl⟩
    rw [← hfg] at hfn hfs hfp hF
    rw [hfn] at hv2
    subst hv2
    clear hF2 hD2 hbw hBv2 hap htw hFin Con HB HBv HF1 HF0 HG HTb HX HBs HGn H2 hBl
    by_cases hz : v = 0
    · subst hz
      have hfg1 : fg = 1 := by rw [hfg]; rfl
      have hbl0 : ((blen 0 : Nat) : Int) = 0 := by rw [show blen 0 = 0 by decide]; rfl
      have HBl0 : Hid (∀ W, Below w2.heap.size w2 W → Calls Tryz.prog 86 #[.pointer (some ⟨g, 3, none⟩)] W fun e w' => e = .returned (.int .i64 0) ∧ w' = W) := fun W h => by have := HBl.out W h; rwa [hbl0] at this
      have hthin0 := hthin rfl
      subst hfg1
      clear hfg hbl0 HBl hthin
      have q3 : -2000 ≤ exp := by omega
      have u2 : IntKind.i64.wrap exp = exp := i64_small rfl (by omega)
      by_cases he0 : exp < 0
      · obtain ⟨k, hk⟩ : ∃ k : Nat, -exp = (k : Int) := ⟨(-exp).toNat, by omega⟩
        have q1 : exp ≤ 0 := by omega
        have kb : -1000000 ≤ (k : Int) ∧ (k : Int) ≤ 1000000 := by omega
        have k1b : -1000000 ≤ 1 + (k : Int) ∧ 1 + (k : Int) ≤ 1000000 := by omega
        have ez : exp + (k : Int) = 0 := by omega
        have u4 : IntKind.i32.wrap (-exp) = (k : Int) := by rw [hk]; simp [IntKind.wrap, IntKind.signed, IntKind.bits]; omega
        have u4' : IntKind.i32.wrap (k : Int) = (k : Int) := by simp [IntKind.wrap, IntKind.signed, IntKind.bits]; omega
        have u5 : IntKind.i64.wrap (k : Int) = (k : Int) := i64_small rfl kb
        have u6 : IntKind.i64.wrap (1 + (k : Int)) = ((k + 1 : Nat) : Int) := i64_small (by omega) (by omega)
        have u7 : IntKind.i64.wrap (((k + 1 : Nat) : Int) - 1) = (k : Int) := i64_small (by omega) kb
        have u8 : IntKind.i64.wrap (exp + (k : Int)) = 0 := i64_small ez (by omega)
        have u9 : ((k + 1 : Nat) : Int) - 1 = (k : Int) := by omega
        obtain ⟨k1, hk1⟩ : ∃ k1 : Int, k1 = ((k + 1 : Nat) : Int) := ⟨_, rfl⟩
        rw [← hk1] at u6 u7 u9
        clear hF kb k1b hthin0 hfs hfp hexi hk1
        go_wp2_with (go_at_call 86; refine (HBl0.out _ (Below.refl _ _)).mono ?_; rintro e w' ⟨rfl, rfl⟩)
        go_wp2_with fail
        refine (ConX.out).mono ?_
        rintro e w3 ⟨v3, rfl, hB3, hF3, hO3⟩
        have HE := hide (HFin.out _ w3 v3 hB3 hF3 hO3)
        clear hB3 hF3 hO3 HFin
        go_wp2
        go_ret
        exact HE.out
      · obtain rfl : exp = 0 := by omega
        clear hF hthin0 hfs hfp hexi
        go_wp2_with (go_at_call 86; refine (HBl0.out _ (Below.refl _ _)).mono ?_; rintro e w' ⟨rfl, rfl⟩)
        go_wp2_with fail
        refine (ConX.out).mono ?_
        rintro e w3 ⟨v3, rfl, hB3, hF3, hO3⟩
        have HE := hide (HFin.out _ w3 v3 hB3 hF3 hO3)
        clear hB3 hF3 hO3 HFin
        go_wp2
        go_ret
        exact HE.out
    · have hbn : ((blen v : Nat) : Int) ≠ 0 := by rw [blen_pos (Nat.pos_of_ne_zero hz)]; omega
      have hbb0 : (((blen v : Nat) : Int) == 0) = false := beq_eq_false_iff_ne.2 hbn
      obtain ⟨a2, ha2⟩ : ∃ a2 : Int, a2 = exp + ((fg : Int) - 1) := ⟨_, rfl⟩
      have u1 : IntKind.i64.wrap ((fg : Int) - 1) = (fg : Int) - 1 := i64_small rfl (by omega)
      have u2 : IntKind.i64.wrap exp = exp := i64_small rfl (by omega)
      have u3 : IntKind.i64.wrap (exp + ((fg : Int) - 1)) = a2 := i64_small ha2.symm (by omega)
      have hF' := hF
      have q1 : exp ≤ 0 := hF.1
      have q2 : -6 ≤ a2 := by omega
      clear hF hF' ha2 hfg hthin hfs hfp hexi hbn hz
      generalize ((blen v : Nat) : Int) = bl at *
      go_wp2_with (go_at_call 86; refine (HBl.out _ (Below.refl _ _)).mono ?_; rintro e w' ⟨rfl, rfl⟩)
      go_wp2_with fail
      refine (ConX.out).mono ?_
      rintro e w3 ⟨v3, rfl, hB3, hF3, hO3⟩
      have HE := hide (HFin.out _ w3 v3 hB3 hF3 hO3)
      clear hB3 hF3 hO3 HFin
      go_wp2
      go_ret
      exact HE.out

  · have ConX := hide (fmtE_call g base g1 v 101 exp buf v2 [] w2 hBv2 H2.out.1 hap he2 hbw (by simp) HX.out.2 HX.out.1 htw)
    rw [natT_e hF] at ConX
    have HFin := hide hFin
    obtain ⟨fg, hfg⟩ : ∃ fg, fg = figs v := ⟨_, rfl⟩
    rw [← hfg] at hfn hfs hfp hF
    rw [hfn] at hv2
    subst hv2
    clear hF2 hD2 hbw hBv2 hap htw hFin Con HB HBv HF1 HF0 HG HTb HX HBs HGn H2 hBl
    by_cases hz : v = 0
    · subst hz
      have hfg1 : fg = 1 := by rw [hfg]; rfl
      have hbl0 : ((blen 0 : Nat) : Int) = 0 := by rw [show blen 0 = 0 by decide]; rfl
      have HBl0 : Hid (∀ W, Below w2.heap.size w2 W → Calls Tryz.prog 86 #[.pointer (some ⟨g, 3, none⟩)] W fun e w' => e = .returned (.int .i64 0) ∧ w' = W) := fun W h => by have := HBl.out W h; rwa [hbl0] at this
      have hthin0 := hthin rfl
      subst hfg1
      clear hfg hbl0 HBl hthin
      have q1 : ¬ exp ≤ 0 := by omega
      have q3 : -2000 ≤ exp := by omega
      have he0 : ¬ exp < 0 := by omega
      have u2 : IntKind.i64.wrap exp = exp := i64_small rfl (by omega)
      have u3 : IntKind.i64.wrap (exp + 0) = exp := i64_small (by omega) (by omega)
      clear hF hthin0 hfs hfp hexi
      go_wp2_with (go_at_call 86; refine (HBl0.out _ (Below.refl _ _)).mono ?_; rintro e w' ⟨rfl, rfl⟩)
      go_wp2_with fail
      refine (ConX.out).mono ?_
      rintro e w3 ⟨v3, rfl, hB3, hF3, hO3⟩
      have HE := hide (HFin.out _ w3 v3 hB3 hF3 hO3)
      clear hB3 hF3 hO3 HFin
      go_wp2
      go_ret
      exact HE.out
    · have hbn : ((blen v : Nat) : Int) ≠ 0 := by rw [blen_pos (Nat.pos_of_ne_zero hz)]; omega
      have hbb0 : (((blen v : Nat) : Int) == 0) = false := beq_eq_false_iff_ne.2 hbn
      obtain ⟨a2, ha2⟩ : ∃ a2 : Int, a2 = exp + ((fg : Int) - 1) := ⟨_, rfl⟩
      have u1 : IntKind.i64.wrap ((fg : Int) - 1) = (fg : Int) - 1 := i64_small rfl (by omega)
      have u2 : IntKind.i64.wrap exp = exp := i64_small rfl (by omega)
      have u3 : IntKind.i64.wrap (exp + ((fg : Int) - 1)) = a2 := i64_small ha2.symm (by omega)
      have hF' := hF
      have hq : ¬ exp ≤ 0 ∨ (exp ≤ 0 ∧ ¬ -6 ≤ a2) := by omega
      clear hF hF' ha2 hfg hthin hfs hfp hexi hbn hz
      generalize ((blen v : Nat) : Int) = bl at *
      rcases hq with q1 | ⟨q1, q2⟩
      · go_wp2_with (go_at_call 86; refine (HBl.out _ (Below.refl _ _)).mono ?_; rintro e w' ⟨rfl, rfl⟩)
        go_wp2_with fail
        refine (ConX.out).mono ?_
        rintro e w3 ⟨v3, rfl, hB3, hF3, hO3⟩
        have HE := hide (HFin.out _ w3 v3 hB3 hF3 hO3)
        clear hB3 hF3 hO3 HFin
        go_wp2
        go_ret
        exact HE.out
      · go_wp2_with (go_at_call 86; refine (HBl.out _ (Below.refl _ _)).mono ?_; rintro e w' ⟨rfl, rfl⟩)
        go_wp2_with fail
        refine (ConX.out).mono ?_
        rintro e w3 ⟨v3, rfl, hB3, hF3, hO3⟩
        have HE := hide (HFin.out _ w3 v3 hB3 hF3 hO3)
        clear hB3 hF3 hO3 HFin
        go_wp2
        go_ret
        exact HE.out


set_option maxHeartbeats 2000000 in
set_option maxRecDepth 20000 in
theorem dapp_Gp (g bx base c v : Nat) (exp : Int) (A : Option Addr) (buf : Value) (w : World) (hD : CoefAt w g false exp A c v bx) (hl : (digs 18446744073709551616 v).length ≤ 3) (hv : VarsL w base)
    (hB : Buf w base buf []) (hb : base ≤ w.heap.size) (hgb : ∀ k, buf.ownBlock = some k → k ≠ g ∧ (Value.slice A (digs 18446744073709551616 v).length c).ownBlock ≠ some k ∧ base ≤ k) (hx : -1000 ≤ exp ∧ exp ≤ 1000) (hdl : (decB v).length ≤ 100) (htab : Lib.TabBelow Tryz.prog base w "internal/strconv.uint64pow10" .u64 Lib.pow10Tab) (hthin : v = 0 → -6 ≤ exp) :
    Calls Tryz.prog 55 #[.pointer (some ⟨g, 0, none⟩), buf, .int .u8 71] w (AppP w base buf (sgnT false (natT v exp 69))) := by
  obtain ⟨i0, hi, hz0, hz1, hz2⟩ := u8_parts
  have HI := hide (And.intro hi (And.intro hz0 (And.intro hz1 hz2)))
  have a0 : w.cell? ⟨g, 0, none⟩ = some (.int .i8 0) := hD.blk.cell 0
  have HB := hide hB
  have HTb := hide htab
  have hbb : ∀ k, buf.ownBlock = some k → base ≤ k := fun k hk => (hgb k hk).2.2
  have HX := hide (And.intro hx hdl)
  clear hi hz0 hz1 hz2 htab hx hdl
  have a1 : w.cell? ⟨g, 1, none⟩ = some (.bool false) := hD.blk.cell 1
  go_enter Tryz.func55, Tryz.ntmps55
  go_wp2_with fail
  have HBv : Hid (Buf w base buf []) := HB
  have HF1 : Hid (Fr w w (fun k => buf.ownBlock = some k)) := Fr.refl _ _
  have HF0 : Hid (∀ i, buf.ownBlock = some i → buf.ownBlock = some i ∨ w.heap.size ≤ i) := fun i h => .inl h
  have hgn : buf.ownBlock ≠ some g := fun h => (hgb g h).1 rfl
  have hb1 := hb
  have hv1 := hv
  have hD1 := hD
  clear hD hv hB hgb
  obtain ⟨W1, hW1⟩ : ∃ W1, W1 = w.alloc (.cells (Array.replicate 16 (.int .u8 0)) 107) := ⟨_, rfl⟩
  have hW1' : W1 = w.alloc (.cells #[.int .u8 0, .int .u8 0, .int .u8 0, .int .u8 0, .int .u8 0, .int .u8 0, .int .u8 0, .int .u8 0, .int .u8 0, .int .u8 0, .int .u8 0, .int .u8 0, .int .u8 0, .int .u8 0, .int .u8 0, .int .u8 0] 107) := hW1
  rw [← hW1']
  have hf1 : Fr w W1 (fun _ => False) := by rw [hW1]; exact (Fr.refl w _).alloc _
  obtain ⟨g1, hg1⟩ : ∃ g1, g1 = w.heap.size := ⟨_, rfl⟩
  have hS1 : Buf W1 g1 (.slice (some ⟨g1, 0, none⟩) 0 16) [] := by rw [hW1, hg1]; exact buf_new w 16 107 (by omega)
  have hD2 := hD1.fr hf1 (fun h => h) (fun _ _ h => h)
  have hs1 : W1.heap.size = g1 + 1 := by rw [hW1, hg1]; simp
  have Con : Hid (∀ W, Fr W1 W (fun _ => False) → W.heap.size = W1.heap.size → Calls Tryz.prog 83 #[.pointer (some ⟨g, 3, none⟩), .slice (some ⟨g1, 0, none⟩) 0 16, .int .i64 10] W (AppP W g1 (.slice (some ⟨g1, 0, none⟩) 0 16) (decB v))) := fun W hW hs => by
    have hDW := hD2.fr hW (fun h => h) (fun _ _ h => h)
    exact bapp_any bx g 3 _ c v g1 A _ [] W (hDW.blk.cell 3) (hDW.blk.cell 4) hDW.own (by omega) ((hv1.fr (Fr.trans hf1 hW) (fun _ h => h.elim)).raise (by have := hf1.size; omega)) (hS1.fr hW (fun _ _ h => h)) (by omega) (by simp)
  have HG := hide (And.intro hf1 (And.intro hg1 (And.intro hb1 hD1)))
  have HBs := hide hb
  have HGn := hide hgn
  rw [← hg1]
  clear hf1 hS1 hD2 hs1 hD1 hv1 hb1 hW1 hW1' hg1 hgn hb
  go_region_held3 (fun _ => True) (trivial)
    ((go_at_call 83; go_loud (refine (Con.out _ ?_ ?_).mono ?_; exact Fr.mk rfl rfl rfl (Nat.le_refl _) (fun _ _ _ => rfl); rfl; rintro e w2 ⟨v2, rfl, hB2, hF2, -⟩; have H2 : Hid (Buf w2 g1 v2 (decB v) ∧ Fr W1 w2 (fun k => (Value.slice (some ⟨g1, 0, none⟩) 0 16).ownBlock = some k)) := ⟨hB2, Fr.mk hF2.os hF2.tape hF2.output hF2.size hF2.block⟩; clear hB2 hF2)))
  have hF2 : Fr w w2 (fun _ => False) := Fr.step HG.out.1 H2.out.2 (fun i hi h => by
    have e : g1 = i := by injection h
    have := HG.out.2.1
    omega)
  have hD2 := HG.out.2.2.2.fr hF2 (fun h => h) (fun _ _ h => h)
  have hbw : base ≤ w2.heap.size := Nat.le_trans HG.out.2.2.1 hF2.size
  have hBv2 := HBv.out.fr hF2 (fun _ _ h => h)
  have hap : BufApart w2 buf v2 := fun k hk => ⟨(H2.out.1.lt hk).2, fun h => by have h1 := (H2.out.1.lt hk).1; have h2 := (HBv.out.lt h).2; have := HG.out.2.1; omega⟩
  have htw := HTb.out.on (hF2.below HG.out.2.2.1 (fun _ h => h.elim))
  have he2 : w2.cell? ⟨g, 2, none⟩ = some (.int .i32 exp) := hD2.blk.cell 2
  have hFin : ∀ T w3 v3, Buf w3 base v3 ([] ++ T) → Fr w2 w3 (fun k => buf.ownBlock = some k) → (∀ k, v3.ownBlock = some k → buf.ownBlock = some k ∨ w2.heap.size ≤ k) → AppP w base buf (sgnT false T) (.returned v3) w3 := fun T w3 v3 hB3 hF3 hO3 =>
    ⟨v3, rfl, hB3, Fr.step (Fr.step HF1.out hF2 (fun _ _ h => h.elim)) hF3 (fun i hi h => (HF0.out i h).elim id (fun h2 => absurd hi (by omega))), fun k hk => (hO3 k hk).elim (fun h => HF0.out k h) (fun h => .inr (Nat.le_trans HF1.out.size (Nat.le_trans hF2.size h)))⟩
  have hBl : ∀ W, Below w2.heap.size w2 W → Calls Tryz.prog 86 #[.pointer (some ⟨g, 3, none⟩)] W fun e w' => e = .returned (.int .i64 ((blen v : Nat) : Int)) ∧ w' = W := fun W hW => by
    have hd := hD2.blk.below hW
    have := bbitLen_any g 3 A _ c _ W (hd.cell 4) (RdG.below (k := .u64) hD2.own.rd hW) rfl (by omega) (dig_digs (by omega) _) (canon_digs (by omega) _)
    rwa [dval_digs (by omega)] at this
  have HBl := hide hBl
  obtain ⟨A2, c2, hv2⟩ := H2.out.1.slice
  have hfn : (decB v).length = figs v := decB_length v
  have hfs : figs v ≤ 100 := by rw [← hfn]; exact HX.out.2
  have hfp := figs_pos v
  have hexi := HX.out.1
  by_cases hF : exp ≤ 0 ∧ -6 ≤ exp + (figs v : Int) - 1
  · have ConX := hide (fmtF_call g base g1 v exp buf v2 [] w2 hBv2 H2.out.1 hap he2 ⟨hD2.blk.lt, HGn.out⟩ hbw (by simp) HX.out.2 HX.out.1)
    rw [natT_f (ch := 69) hF.1 hF.2] at ConX
    have HFin := hide hFin
    obtain ⟨fg, hfg⟩ : ∃ fg, fg = figs v := ⟨_, rfl⟩
    rw [← hfg] at hfn hfs hfp hF
    rw [hfn] at hv2
    subst hv2
    clear hF2 hD2 hbw hBv2 hap htw hFin Con HB HBv HF1 HF0 HG HTb HX HBs HGn H2 hBl
    by_cases hz : v = 0
    · subst hz
      have hfg1 : fg = 1 := by rw [hfg]; rfl
      have hbl0 : ((blen 0 : Nat) : Int) = 0 := by rw [show blen 0 = 0 by decide]; rfl
      have HBl0 : Hid (∀ W, Below w2.heap.size w2 W → Calls Tryz.prog 86 #[.pointer (some ⟨g, 3, none⟩)] W fun e w' => e = .returned (.int .i64 0) ∧ w' = W) := fun W h => by have := HBl.out W h; rwa [hbl0] at this
      have hthin0 := hthin rfl
      subst hfg1
      clear hfg hbl0 HBl hthin
      have q3 : -2000 ≤ exp := by omega
      have u2 : IntKind.i64.wrap exp = exp := i64_small rfl (by omega)
      by_cases he0 : exp < 0
      · obtain ⟨k, hk⟩ : ∃ k : Nat, -exp = (k : Int) := ⟨(-exp).toNat, by omega⟩
        have q1 : exp ≤ 0 := by omega
        have kb : -1000000 ≤ (k : Int) ∧ (k : Int) ≤ 1000000 := by omega
        have k1b : -1000000 ≤ 1 + (k : Int) ∧ 1 + (k : Int) ≤ 1000000 := by omega
        have ez : exp + (k : Int) = 0 := by omega
        have u4 : IntKind.i32.wrap (-exp) = (k : Int) := by rw [hk]; simp [IntKind.wrap, IntKind.signed, IntKind.bits]; omega
        have u4' : IntKind.i32.wrap (k : Int) = (k : Int) := by simp [IntKind.wrap, IntKind.signed, IntKind.bits]; omega
        have u5 : IntKind.i64.wrap (k : Int) = (k : Int) := i64_small rfl kb
        have u6 : IntKind.i64.wrap (1 + (k : Int)) = ((k + 1 : Nat) : Int) := i64_small (by omega) (by omega)
        have u7 : IntKind.i64.wrap (((k + 1 : Nat) : Int) - 1) = (k : Int) := i64_small (by omega) kb
        have u8 : IntKind.i64.wrap (exp + (k : Int)) = 0 := i64_small ez (by omega)
        have u9 : ((k + 1 : Nat) : Int) - 1 = (k : Int) := by omega
        obtain ⟨k1, hk1⟩ : ∃ k1 : Int, k1 = ((k + 1 : Nat) : Int) := ⟨_, rfl⟩
        rw [← hk1] at u6 u7 u9
        clear hF kb k1b hthin0 hfs hfp hexi hk1
        go_wp2_with (go_at_call 86; refine (HBl0.out _ (Below.refl _ _)).mono ?_; rintro e w' ⟨rfl, rfl⟩)
        go_wp2_with fail
        refine (ConX.out).mono ?_
        rintro e w3 ⟨v3, rfl, hB3, hF3, hO3⟩
        have HE := hide (HFin.out _ w3 v3 hB3 hF3 hO3)
        clear hB3 hF3 hO3 HFin
        go_wp2
        go_ret
        exact HE.out
      · obtain rfl : exp = 0 := by omega
        clear hF hthin0 hfs hfp hexi
        go_wp2_with (go_at_call 86; refine (HBl0.out _ (Below.refl _ _)).mono ?_; rintro e w' ⟨rfl, rfl⟩)
        go_wp2_with fail
        refine (ConX.out).mono ?_
        rintro e w3 ⟨v3, rfl, hB3, hF3, hO3⟩
        have HE := hide (HFin.out _ w3 v3 hB3 hF3 hO3)
        clear hB3 hF3 hO3 HFin
        go_wp2
        go_ret
        exact HE.out
    · have hbn : ((blen v : Nat) : Int) ≠ 0 := by rw [blen_pos (Nat.pos_of_ne_zero hz)]; omega
      have hbb0 : (((blen v : Nat) : Int) == 0) = false := beq_eq_false_iff_ne.2 hbn
      obtain ⟨a2, ha2⟩ : ∃ a2 : Int, a2 = exp + ((fg : Int) - 1) := ⟨_, rfl⟩
      have u1 : IntKind.i64.wrap ((fg : Int) - 1) = (fg : Int) - 1 := i64_small rfl (by omega)
      have u2 : IntKind.i64.wrap exp = exp := i64_small rfl (by omega)
      have u3 : IntKind.i64.wrap (exp + ((fg : Int) - 1)) = a2 := i64_small ha2.symm (by omega)
      have hF' := hF
      have q1 : exp ≤ 0 := hF.1
      have q2 : -6 ≤ a2 := by omega
      clear hF hF' ha2 hfg hthin hfs hfp hexi hbn hz
      generalize ((blen v : Nat) : Int) = bl at *
      go_wp2_with (go_at_call 86; refine (HBl.out _ (Below.refl _ _)).mono ?_; rintro e w' ⟨rfl, rfl⟩)
      go_wp2_with fail
      refine (ConX.out).mono ?_
      rintro e w3 ⟨v3, rfl, hB3, hF3, hO3⟩
      have HE := hide (HFin.out _ w3 v3 hB3 hF3 hO3)
      clear hB3 hF3 hO3 HFin
      go_wp2
      go_ret
      exact HE.out

  · have ConX := hide (fmtE_call g base g1 v 69 exp buf v2 [] w2 hBv2 H2.out.1 hap he2 hbw (by simp) HX.out.2 HX.out.1 htw)
    rw [natT_e hF] at ConX
    have HFin := hide hFin
    obtain ⟨fg, hfg⟩ : ∃ fg, fg = figs v := ⟨_, rfl⟩
    rw [← hfg] at hfn hfs hfp hF
    rw [hfn] at hv2
    subst hv2
    clear hF2 hD2 hbw hBv2 hap htw hFin Con HB HBv HF1 HF0 HG HTb HX HBs HGn H2 hBl
    by_cases hz : v = 0
    · subst hz
      have hfg1 : fg = 1 := by rw [hfg]; rfl
      have hbl0 : ((blen 0 : Nat) : Int) = 0 := by rw [show blen 0 = 0 by decide]; rfl
      have HBl0 : Hid (∀ W, Below w2.heap.size w2 W → Calls Tryz.prog 86 #[.pointer (some ⟨g, 3, none⟩)] W fun e w' => e = .returned (.int .i64 0) ∧ w' = W) := fun W h => by have := HBl.out W h; rwa [hbl0] at this
      have hthin0 := hthin rfl
      subst hfg1
      clear hfg hbl0 HBl hthin
      have q1 : ¬ exp ≤ 0 := by omega
      have q3 : -2000 ≤ exp := by omega
      have he0 : ¬ exp < 0 := by omega
      have u2 : IntKind.i64.wrap exp = exp := i64_small rfl (by omega)
      have u3 : IntKind.i64.wrap (exp + 0) = exp := i64_small (by omega) (by omega)
      clear hF hthin0 hfs hfp hexi
      go_wp2_with (go_at_call 86; refine (HBl0.out _ (Below.refl _ _)).mono ?_; rintro e w' ⟨rfl, rfl⟩)
      go_wp2_with fail
      refine (ConX.out).mono ?_
      rintro e w3 ⟨v3, rfl, hB3, hF3, hO3⟩
      have HE := hide (HFin.out _ w3 v3 hB3 hF3 hO3)
      clear hB3 hF3 hO3 HFin
      go_wp2
      go_ret
      exact HE.out
    · have hbn : ((blen v : Nat) : Int) ≠ 0 := by rw [blen_pos (Nat.pos_of_ne_zero hz)]; omega
      have hbb0 : (((blen v : Nat) : Int) == 0) = false := beq_eq_false_iff_ne.2 hbn
      obtain ⟨a2, ha2⟩ : ∃ a2 : Int, a2 = exp + ((fg : Int) - 1) := ⟨_, rfl⟩
      have u1 : IntKind.i64.wrap ((fg : Int) - 1) = (fg : Int) - 1 := i64_small rfl (by omega)
      have u2 : IntKind.i64.wrap exp = exp := i64_small rfl (by omega)
      have u3 : IntKind.i64.wrap (exp + ((fg : Int) - 1)) = a2 := i64_small ha2.symm (by omega)
      have hF' := hF
      have hq : ¬ exp ≤ 0 ∨ (exp ≤ 0 ∧ ¬ -6 ≤ a2) := by omega
      clear hF hF' ha2 hfg hthin hfs hfp hexi hbn hz
      generalize ((blen v : Nat) : Int) = bl at *
      rcases hq with q1 | ⟨q1, q2⟩
      · go_wp2_with (go_at_call 86; refine (HBl.out _ (Below.refl _ _)).mono ?_; rintro e w' ⟨rfl, rfl⟩)
        go_wp2_with fail
        refine (ConX.out).mono ?_
        rintro e w3 ⟨v3, rfl, hB3, hF3, hO3⟩
        have HE := hide (HFin.out _ w3 v3 hB3 hF3 hO3)
        clear hB3 hF3 hO3 HFin
        go_wp2
        go_ret
        exact HE.out
      · go_wp2_with (go_at_call 86; refine (HBl.out _ (Below.refl _ _)).mono ?_; rintro e w' ⟨rfl, rfl⟩)
        go_wp2_with fail
        refine (ConX.out).mono ?_
        rintro e w3 ⟨v3, rfl, hB3, hF3, hO3⟩
        have HE := hide (HFin.out _ w3 v3 hB3 hF3 hO3)
        clear hB3 hF3 hO3 HFin
        go_wp2
        go_ret
        exact HE.out


set_option maxHeartbeats 2000000 in
set_option maxRecDepth 20000 in
theorem dapp_en (g bx base c v : Nat) (exp : Int) (A : Option Addr) (buf : Value) (w : World) (hD : CoefAt w g true exp A c v bx) (hl : (digs 18446744073709551616 v).length ≤ 3) (hv : VarsL w base)
    (hB : Buf w base buf []) (hb : base ≤ w.heap.size) (hgb : ∀ k, buf.ownBlock = some k → k ≠ g ∧ (Value.slice A (digs 18446744073709551616 v).length c).ownBlock ≠ some k ∧ base ≤ k) (hx : -1000 ≤ exp ∧ exp ≤ 1000) (hdl : (decB v).length ≤ 100) (htab : Lib.TabBelow Tryz.prog base w "internal/strconv.uint64pow10" .u64 Lib.pow10Tab) :
    Calls Tryz.prog 55 #[.pointer (some ⟨g, 0, none⟩), buf, .int .u8 101] w (AppP w base buf (sgnT true (codeE (decB v) exp 101))) := by
  obtain ⟨i0, hi, hz0, hz1, hz2⟩ := u8_parts
  have HI := hide (And.intro hi (And.intro hz0 (And.intro hz1 hz2)))
  have a0 : w.cell? ⟨g, 0, none⟩ = some (.int .i8 0) := hD.blk.cell 0
  have HB := hide hB
  have HTb := hide htab
  have hbb : ∀ k, buf.ownBlock = some k → base ≤ k := fun k hk => (hgb k hk).2.2
  have HX := hide (And.intro hx hdl)
  clear hi hz0 hz1 hz2 htab hx hdl
  have a1 : w.cell? ⟨g, 1, none⟩ = some (.bool true) := hD.blk.cell 1
  go_enter Tryz.func55, Tryz.ntmps55
  go_wp2_with (at_builtin; go_loud (refine wp_append_buf _ rfl (.tmp 15) (.tmp 16) 38 rfl i0 HI.out.1 HI.out.2.1 HI.out.2.2.1 HI.out.2.2.2 (v := buf) (xs := []) (base := base) rfl (HB.out.fr ((Fr.refl w (fun _ => False)).alloc _) (fun _ _ h => h)) (.slice (some ⟨w.heap.size, 0, none⟩) 1 1) [45] rfl (src_new w _ [45] rfl _) (Nat.le_trans hb (by simp)) (by simp) ?_; intro vb w1 hB1 hF1 hO1; have HBv : Hid (Buf w1 base vb [45]) := hB1; have HF1 : Hid (Fr w w1 (fun k => buf.ownBlock = some k)) := Fr.step ((Fr.refl w _).alloc _) hF1 (fun _ _ h => h); have HF0 : Hid (∀ i, vb.ownBlock = some i → buf.ownBlock = some i ∨ w.heap.size ≤ i) := fun i h => (hO1 i h).imp id (fun h => Nat.le_trans (by simp) h); have hD1 := hD.fr HF1.out (fun h => (hgb g h).1 rfl) (fun k h1 h2 => (hgb k h2).2.1 h1); have hv1 := hv.fr HF1.out (fun k h => (hgb k h).2.2); have hb1 := Nat.le_trans hb HF1.out.size; have a0 : w1.cell? ⟨g, 0, none⟩ = some (.int .i8 0) := hD1.blk.cell 0; have hgn : vb.ownBlock ≠ some g := (fun h => (HF0.out g h).elim (fun h2 => (hgb g h2).1 rfl) (fun h2 => absurd hD.blk.lt (by omega))); have HTb := hide (HTb.out.on (HF1.out.below hb hbb)); clear hB1 hF1 hO1 hD hv hB hgb))
  go_wp2_with fail
  obtain ⟨W1, hW1⟩ : ∃ W1, W1 = w1.alloc (.cells (Array.replicate 16 (.int .u8 0)) 107) := ⟨_, rfl⟩
  have hW1' : W1 = w1.alloc (.cells #[.int .u8 0, .int .u8 0, .int .u8 0, .int .u8 0, .int .u8 0, .int .u8 0, .int .u8 0, .int .u8 0, .int .u8 0, .int .u8 0, .int .u8 0, .int .u8 0, .int .u8 0, .int .u8 0, .int .u8 0, .int .u8 0] 107) := hW1
  rw [← hW1']
  have hf1 : Fr w1 W1 (fun _ => False) := by rw [hW1]; exact (Fr.refl w1 _).alloc _
  obtain ⟨g1, hg1⟩ : ∃ g1, g1 = w1.heap.size := ⟨_, rfl⟩
  have hS1 : Buf W1 g1 (.slice (some ⟨g1, 0, none⟩) 0 16) [] := by rw [hW1, hg1]; exact buf_new w1 16 107 (by omega)
  have hD2 := hD1.fr hf1 (fun h => h) (fun _ _ h => h)
  have hs1 : W1.heap.size = g1 + 1 := by rw [hW1, hg1]; simp
  have Con : Hid (∀ W, Fr W1 W (fun _ => False) → W.heap.size = W1.heap.size → Calls Tryz.prog 83 #[.pointer (some ⟨g, 3, none⟩), .slice (some ⟨g1, 0, none⟩) 0 16, .int .i64 10] W (AppP W g1 (.slice (some ⟨g1, 0, none⟩) 0 16) (decB v))) := fun W hW hs => by
    have hDW := hD2.fr hW (fun h => h) (fun _ _ h => h)
    exact bapp_any bx g 3 _ c v g1 A _ [] W (hDW.blk.cell 3) (hDW.blk.cell 4) hDW.own (by omega) ((hv1.fr (Fr.trans hf1 hW) (fun _ h => h.elim)).raise (by have := hf1.size; omega)) (hS1.fr hW (fun _ _ h => h)) (by omega) (by simp)
  have HG := hide (And.intro hf1 (And.intro hg1 (And.intro hb1 hD1)))
  have HBs := hide hb
  have HGn := hide hgn
  rw [← hg1]
  clear hf1 hS1 hD2 hs1 hD1 hv1 hb1 hW1 hW1' hg1 hgn hb
  go_region_held3 (fun _ => True) (trivial)
    ((go_at_call 83; go_loud (refine (Con.out _ ?_ ?_).mono ?_; exact Fr.mk rfl rfl rfl (Nat.le_refl _) (fun _ _ _ => rfl); rfl; rintro e w2 ⟨v2, rfl, hB2, hF2, -⟩; have H2 : Hid (Buf w2 g1 v2 (decB v) ∧ Fr W1 w2 (fun k => (Value.slice (some ⟨g1, 0, none⟩) 0 16).ownBlock = some k)) := ⟨hB2, Fr.mk hF2.os hF2.tape hF2.output hF2.size hF2.block⟩; clear hB2 hF2)))
  have hF2 : Fr w1 w2 (fun _ => False) := Fr.step HG.out.1 H2.out.2 (fun i hi h => by
    have e : g1 = i := by injection h
    have := HG.out.2.1
    omega)
  have hD2 := HG.out.2.2.2.fr hF2 (fun h => h) (fun _ _ h => h)
  have hbw : base ≤ w2.heap.size := Nat.le_trans HG.out.2.2.1 hF2.size
  have hBv2 := HBv.out.fr hF2 (fun _ _ h => h)
  have hap : BufApart w2 vb v2 := fun k hk => ⟨(H2.out.1.lt hk).2, fun h => by have h1 := (H2.out.1.lt hk).1; have h2 := (HBv.out.lt h).2; have := HG.out.2.1; omega⟩
  have htw := HTb.out.on (hF2.below HG.out.2.2.1 (fun _ h => h.elim))
  have he2 : w2.cell? ⟨g, 2, none⟩ = some (.int .i32 exp) := hD2.blk.cell 2
  have hFin : ∀ T w3 v3, Buf w3 base v3 ([45] ++ T) → Fr w2 w3 (fun k => vb.ownBlock = some k) → (∀ k, v3.ownBlock = some k → vb.ownBlock = some k ∨ w2.heap.size ≤ k) → AppP w base buf (sgnT true T) (.returned v3) w3 := fun T w3 v3 hB3 hF3 hO3 =>
    ⟨v3, rfl, hB3, Fr.step (Fr.step HF1.out hF2 (fun _ _ h => h.elim)) hF3 (fun i hi h => (HF0.out i h).elim id (fun h2 => absurd hi (by omega))), fun k hk => (hO3 k hk).elim (fun h => HF0.out k h) (fun h => .inr (Nat.le_trans HF1.out.size (Nat.le_trans hF2.size h)))⟩
  have ConX := hide (fmtE_call g base g1 v 101 exp vb v2 [45] w2 hBv2 H2.out.1 hap he2 hbw (by simp) HX.out.2 HX.out.1 htw)
  have HFin := hide hFin
  have HE2 := hide hap
  clear hF2 hD2 hbw hBv2 hap htw hFin Con HB HBv HF1 HF0 HG HTb HX HBs HGn H2
  go_wp2_with fail
  refine (ConX.out).mono ?_
  rintro e w3 ⟨v3, rfl, hB3, hF3, hO3⟩
  have HE := hide (HFin.out (codeE (decB v) exp 101) w3 v3 hB3 hF3 hO3)
  clear hB3 hF3 hO3 HFin
  go_wp2
  go_ret
  exact HE.out

set_option maxHeartbeats 2000000 in
set_option maxRecDepth 20000 in
theorem dapp_En (g bx base c v : Nat) (exp : Int) (A : Option Addr) (buf : Value) (w : World) (hD : CoefAt w g true exp A c v bx) (hl : (digs 18446744073709551616 v).length ≤ 3) (hv : VarsL w base)
    (hB : Buf w base buf []) (hb : base ≤ w.heap.size) (hgb : ∀ k, buf.ownBlock = some k → k ≠ g ∧ (Value.slice A (digs 18446744073709551616 v).length c).ownBlock ≠ some k ∧ base ≤ k) (hx : -1000 ≤ exp ∧ exp ≤ 1000) (hdl : (decB v).length ≤ 100) (htab : Lib.TabBelow Tryz.prog base w "internal/strconv.uint64pow10" .u64 Lib.pow10Tab) :
    Calls Tryz.prog 55 #[.pointer (some ⟨g, 0, none⟩), buf, .int .u8 69] w (AppP w base buf (sgnT true (codeE (decB v) exp 69))) := by
  obtain ⟨i0, hi, hz0, hz1, hz2⟩ := u8_parts
  have HI := hide (And.intro hi (And.intro hz0 (And.intro hz1 hz2)))
  have a0 : w.cell? ⟨g, 0, none⟩ = some (.int .i8 0) := hD.blk.cell 0
  have HB := hide hB
  have HTb := hide htab
  have hbb : ∀ k, buf.ownBlock = some k → base ≤ k := fun k hk => (hgb k hk).2.2
  have HX := hide (And.intro hx hdl)
  clear hi hz0 hz1 hz2 htab hx hdl
  have a1 : w.cell? ⟨g, 1, none⟩ = some (.bool true) := hD.blk.cell 1
  go_enter Tryz.func55, Tryz.ntmps55
  go_wp2_with (at_builtin; go_loud (refine wp_append_buf _ rfl (.tmp 15) (.tmp 16) 38 rfl i0 HI.out.1 HI.out.2.1 HI.out.2.2.1 HI.out.2.2.2 (v := buf) (xs := []) (base := base) rfl (HB.out.fr ((Fr.refl w (fun _ => False)).alloc _) (fun _ _ h => h)) (.slice (some ⟨w.heap.size, 0, none⟩) 1 1) [45] rfl (src_new w _ [45] rfl _) (Nat.le_trans hb (by simp)) (by simp) ?_; intro vb w1 hB1 hF1 hO1; have HBv : Hid (Buf w1 base vb [45]) := hB1; have HF1 : Hid (Fr w w1 (fun k => buf.ownBlock = some k)) := Fr.step ((Fr.refl w _).alloc _) hF1 (fun _ _ h => h); have HF0 : Hid (∀ i, vb.ownBlock = some i → buf.ownBlock = some i ∨ w.heap.size ≤ i) := fun i h => (hO1 i h).imp id (fun h => Nat.le_trans (by simp) h); have hD1 := hD.fr HF1.out (fun h => (hgb g h).1 rfl) (fun k h1 h2 => (hgb k h2).2.1 h1); have hv1 := hv.fr HF1.out (fun k h => (hgb k h).2.2); have hb1 := Nat.le_trans hb HF1.out.size; have a0 : w1.cell? ⟨g, 0, none⟩ = some (.int .i8 0) := hD1.blk.cell 0; have hgn : vb.ownBlock ≠ some g := (fun h => (HF0.out g h).elim (fun h2 => (hgb g h2).1 rfl) (fun h2 => absurd hD.blk.lt (by omega))); have HTb := hide (HTb.out.on (HF1.out.below hb hbb)); clear hB1 hF1 hO1 hD hv hB hgb))
  go_wp2_with fail
  obtain ⟨W1, hW1⟩ : ∃ W1, W1 = w1.alloc (.cells (Array.replicate 16 (.int .u8 0)) 107) := ⟨_, rfl⟩
  have hW1' : W1 = w1.alloc (.cells #[.int .u8 0, .int .u8 0, .int .u8 0, .int .u8 0, .int .u8 0, .int .u8 0, .int .u8 0, .int .u8 0, .int .u8 0, .int .u8 0, .int .u8 0, .int .u8 0, .int .u8 0, .int .u8 0, .int .u8 0, .int .u8 0] 107) := hW1
  rw [← hW1']
  have hf1 : Fr w1 W1 (fun _ => False) := by rw [hW1]; exact (Fr.refl w1 _).alloc _
  obtain ⟨g1, hg1⟩ : ∃ g1, g1 = w1.heap.size := ⟨_, rfl⟩
  have hS1 : Buf W1 g1 (.slice (some ⟨g1, 0, none⟩) 0 16) [] := by rw [hW1, hg1]; exact buf_new w1 16 107 (by omega)
  have hD2 := hD1.fr hf1 (fun h => h) (fun _ _ h => h)
  have hs1 : W1.heap.size = g1 + 1 := by rw [hW1, hg1]; simp
  have Con : Hid (∀ W, Fr W1 W (fun _ => False) → W.heap.size = W1.heap.size → Calls Tryz.prog 83 #[.pointer (some ⟨g, 3, none⟩), .slice (some ⟨g1, 0, none⟩) 0 16, .int .i64 10] W (AppP W g1 (.slice (some ⟨g1, 0, none⟩) 0 16) (decB v))) := fun W hW hs => by
    have hDW := hD2.fr hW (fun h => h) (fun _ _ h => h)
    exact bapp_any bx g 3 _ c v g1 A _ [] W (hDW.blk.cell 3) (hDW.blk.cell 4) hDW.own (by omega) ((hv1.fr (Fr.trans hf1 hW) (fun _ h => h.elim)).raise (by have := hf1.size; omega)) (hS1.fr hW (fun _ _ h => h)) (by omega) (by simp)
  have HG := hide (And.intro hf1 (And.intro hg1 (And.intro hb1 hD1)))
  have HBs := hide hb
  have HGn := hide hgn
  rw [← hg1]
  clear hf1 hS1 hD2 hs1 hD1 hv1 hb1 hW1 hW1' hg1 hgn hb
  go_region_held3 (fun _ => True) (trivial)
    ((go_at_call 83; go_loud (refine (Con.out _ ?_ ?_).mono ?_; exact Fr.mk rfl rfl rfl (Nat.le_refl _) (fun _ _ _ => rfl); rfl; rintro e w2 ⟨v2, rfl, hB2, hF2, -⟩; have H2 : Hid (Buf w2 g1 v2 (decB v) ∧ Fr W1 w2 (fun k => (Value.slice (some ⟨g1, 0, none⟩) 0 16).ownBlock = some k)) := ⟨hB2, Fr.mk hF2.os hF2.tape hF2.output hF2.size hF2.block⟩; clear hB2 hF2)))
  have hF2 : Fr w1 w2 (fun _ => False) := Fr.step HG.out.1 H2.out.2 (fun i hi h => by
    have e : g1 = i := by injection h
    have := HG.out.2.1
    omega)
  have hD2 := HG.out.2.2.2.fr hF2 (fun h => h) (fun _ _ h => h)
  have hbw : base ≤ w2.heap.size := Nat.le_trans HG.out.2.2.1 hF2.size
  have hBv2 := HBv.out.fr hF2 (fun _ _ h => h)
  have hap : BufApart w2 vb v2 := fun k hk => ⟨(H2.out.1.lt hk).2, fun h => by have h1 := (H2.out.1.lt hk).1; have h2 := (HBv.out.lt h).2; have := HG.out.2.1; omega⟩
  have htw := HTb.out.on (hF2.below HG.out.2.2.1 (fun _ h => h.elim))
  have he2 : w2.cell? ⟨g, 2, none⟩ = some (.int .i32 exp) := hD2.blk.cell 2
  have hFin : ∀ T w3 v3, Buf w3 base v3 ([45] ++ T) → Fr w2 w3 (fun k => vb.ownBlock = some k) → (∀ k, v3.ownBlock = some k → vb.ownBlock = some k ∨ w2.heap.size ≤ k) → AppP w base buf (sgnT true T) (.returned v3) w3 := fun T w3 v3 hB3 hF3 hO3 =>
    ⟨v3, rfl, hB3, Fr.step (Fr.step HF1.out hF2 (fun _ _ h => h.elim)) hF3 (fun i hi h => (HF0.out i h).elim id (fun h2 => absurd hi (by omega))), fun k hk => (hO3 k hk).elim (fun h => HF0.out k h) (fun h => .inr (Nat.le_trans HF1.out.size (Nat.le_trans hF2.size h)))⟩
  have ConX := hide (fmtE_call g base g1 v 69 exp vb v2 [45] w2 hBv2 H2.out.1 hap he2 hbw (by simp) HX.out.2 HX.out.1 htw)
  have HFin := hide hFin
  have HE2 := hide hap
  clear hF2 hD2 hbw hBv2 hap htw hFin Con HB HBv HF1 HF0 HG HTb HX HBs HGn H2
  go_wp2_with fail
  refine (ConX.out).mono ?_
  rintro e w3 ⟨v3, rfl, hB3, hF3, hO3⟩
  have HE := hide (HFin.out (codeE (decB v) exp 69) w3 v3 hB3 hF3 hO3)
  clear hB3 hF3 hO3 HFin
  go_wp2
  go_ret
  exact HE.out

set_option maxHeartbeats 2000000 in
set_option maxRecDepth 20000 in
theorem dapp_fn (g bx base c v : Nat) (exp : Int) (A : Option Addr) (buf : Value) (w : World) (hD : CoefAt w g true exp A c v bx) (hl : (digs 18446744073709551616 v).length ≤ 3) (hv : VarsL w base)
    (hB : Buf w base buf []) (hb : base ≤ w.heap.size) (hgb : ∀ k, buf.ownBlock = some k → k ≠ g ∧ (Value.slice A (digs 18446744073709551616 v).length c).ownBlock ≠ some k ∧ base ≤ k) (hx : -1000 ≤ exp ∧ exp ≤ 1000) (hdl : (decB v).length ≤ 100) (htab : Lib.TabBelow Tryz.prog base w "internal/strconv.uint64pow10" .u64 Lib.pow10Tab) :
    Calls Tryz.prog 55 #[.pointer (some ⟨g, 0, none⟩), buf, .int .u8 102] w (AppP w base buf (sgnT true (codeF (decB v) exp))) := by
  obtain ⟨i0, hi, hz0, hz1, hz2⟩ := u8_parts
  have HI := hide (And.intro hi (And.intro hz0 (And.intro hz1 hz2)))
  have a0 : w.cell? ⟨g, 0, none⟩ = some (.int .i8 0) := hD.blk.cell 0
  have HB := hide hB
  have HTb := hide htab
  have hbb : ∀ k, buf.ownBlock = some k → base ≤ k := fun k hk => (hgb k hk).2.2
  have HX := hide (And.intro hx hdl)
  clear hi hz0 hz1 hz2 htab hx hdl
  have a1 : w.cell? ⟨g, 1, none⟩ = some (.bool true) := hD.blk.cell 1
  go_enter Tryz.func55, Tryz.ntmps55
  go_wp2_with (at_builtin; go_loud (refine wp_append_buf _ rfl (.tmp 15) (.tmp 16) 38 rfl i0 HI.out.1 HI.out.2.1 HI.out.2.2.1 HI.out.2.2.2 (v := buf) (xs := []) (base := base) rfl (HB.out.fr ((Fr.refl w (fun _ => False)).alloc _) (fun _ _ h => h)) (.slice (some ⟨w.heap.size, 0, none⟩) 1 1) [45] rfl (src_new w _ [45] rfl _) (Nat.le_trans hb (by simp)) (by simp) ?_; intro vb w1 hB1 hF1 hO1; have HBv : Hid (Buf w1 base vb [45]) := hB1; have HF1 : Hid (Fr w w1 (fun k => buf.ownBlock = some k)) := Fr.step ((Fr.refl w _).alloc _) hF1 (fun _ _ h => h); have HF0 : Hid (∀ i, vb.ownBlock = some i → buf.ownBlock = some i ∨ w.heap.size ≤ i) := fun i h => (hO1 i h).imp id (fun h => Nat.le_trans (by simp) h); have hD1 := hD.fr HF1.out (fun h => (hgb g h).1 rfl) (fun k h1 h2 => (hgb k h2).2.1 h1); have hv1 := hv.fr HF1.out (fun k h => (hgb k h).2.2); have hb1 := Nat.le_trans hb HF1.out.size; have a0 : w1.cell? ⟨g, 0, none⟩ = some (.int .i8 0) := hD1.blk.cell 0; have hgn : vb.ownBlock ≠ some g := (fun h => (HF0.out g h).elim (fun h2 => (hgb g h2).1 rfl) (fun h2 => absurd hD.blk.lt (by omega))); have HTb := hide (HTb.out.on (HF1.out.below hb hbb)); clear hB1 hF1 hO1 hD hv hB hgb))
  go_wp2_with fail
  obtain ⟨W1, hW1⟩ : ∃ W1, W1 = w1.alloc (.cells (Array.replicate 16 (.int .u8 0)) 107) := ⟨_, rfl⟩
  have hW1' : W1 = w1.alloc (.cells #[.int .u8 0, .int .u8 0, .int .u8 0, .int .u8 0, .int .u8 0, .int .u8 0, .int .u8 0, .int .u8 0, .int .u8 0, .int .u8 0, .int .u8 0, .int .u8 0, .int .u8 0, .int .u8 0, .int .u8 0, .int .u8 0] 107) := hW1
  rw [← hW1']
  have hf1 : Fr w1 W1 (fun _ => False) := by rw [hW1]; exact (Fr.refl w1 _).alloc _
  obtain ⟨g1, hg1⟩ : ∃ g1, g1 = w1.heap.size := ⟨_, rfl⟩
  have hS1 : Buf W1 g1 (.slice (some ⟨g1, 0, none⟩) 0 16) [] := by rw [hW1, hg1]; exact buf_new w1 16 107 (by omega)
  have hD2 := hD1.fr hf1 (fun h => h) (fun _ _ h => h)
  have hs1 : W1.heap.size = g1 + 1 := by rw [hW1, hg1]; simp
  have Con : Hid (∀ W, Fr W1 W (fun _ => False) → W.heap.size = W1.heap.size → Calls Tryz.prog 83 #[.pointer (some ⟨g, 3, none⟩), .slice (some ⟨g1, 0, none⟩) 0 16, .int .i64 10] W (AppP W g1 (.slice (some ⟨g1, 0, none⟩) 0 16) (decB v))) := fun W hW hs => by
    have hDW := hD2.fr hW (fun h => h) (fun _ _ h => h)
    exact bapp_any bx g 3 _ c v g1 A _ [] W (hDW.blk.cell 3) (hDW.blk.cell 4) hDW.own (by omega) ((hv1.fr (Fr.trans hf1 hW) (fun _ h => h.elim)).raise (by have := hf1.size; omega)) (hS1.fr hW (fun _ _ h => h)) (by omega) (by simp)
  have HG := hide (And.intro hf1 (And.intro hg1 (And.intro hb1 hD1)))
  have HBs := hide hb
  have HGn := hide hgn
  rw [← hg1]
  clear hf1 hS1 hD2 hs1 hD1 hv1 hb1 hW1 hW1' hg1 hgn hb
  go_region_held3 (fun _ => True) (trivial)
    ((go_at_call 83; go_loud (refine (Con.out _ ?_ ?_).mono ?_; exact Fr.mk rfl rfl rfl (Nat.le_refl _) (fun _ _ _ => rfl); rfl; rintro e w2 ⟨v2, rfl, hB2, hF2, -⟩; have H2 : Hid (Buf w2 g1 v2 (decB v) ∧ Fr W1 w2 (fun k => (Value.slice (some ⟨g1, 0, none⟩) 0 16).ownBlock = some k)) := ⟨hB2, Fr.mk hF2.os hF2.tape hF2.output hF2.size hF2.block⟩; clear hB2 hF2)))
  have hF2 : Fr w1 w2 (fun _ => False) := Fr.step HG.out.1 H2.out.2 (fun i hi h => by
    have e : g1 = i := by injection h
    have := HG.out.2.1
    omega)
  have hD2 := HG.out.2.2.2.fr hF2 (fun h => h) (fun _ _ h => h)
  have hbw : base ≤ w2.heap.size := Nat.le_trans HG.out.2.2.1 hF2.size
  have hBv2 := HBv.out.fr hF2 (fun _ _ h => h)
  have hap : BufApart w2 vb v2 := fun k hk => ⟨(H2.out.1.lt hk).2, fun h => by have h1 := (H2.out.1.lt hk).1; have h2 := (HBv.out.lt h).2; have := HG.out.2.1; omega⟩
  have htw := HTb.out.on (hF2.below HG.out.2.2.1 (fun _ h => h.elim))
  have he2 : w2.cell? ⟨g, 2, none⟩ = some (.int .i32 exp) := hD2.blk.cell 2
  have hFin : ∀ T w3 v3, Buf w3 base v3 ([45] ++ T) → Fr w2 w3 (fun k => vb.ownBlock = some k) → (∀ k, v3.ownBlock = some k → vb.ownBlock = some k ∨ w2.heap.size ≤ k) → AppP w base buf (sgnT true T) (.returned v3) w3 := fun T w3 v3 hB3 hF3 hO3 =>
    ⟨v3, rfl, hB3, Fr.step (Fr.step HF1.out hF2 (fun _ _ h => h.elim)) hF3 (fun i hi h => (HF0.out i h).elim id (fun h2 => absurd hi (by omega))), fun k hk => (hO3 k hk).elim (fun h => HF0.out k h) (fun h => .inr (Nat.le_trans HF1.out.size (Nat.le_trans hF2.size h)))⟩
  have ConX := hide (fmtF_call g base g1 v exp vb v2 [45] w2 hBv2 H2.out.1 hap he2 ⟨hD2.blk.lt, HGn.out⟩ hbw (by simp) HX.out.2 HX.out.1)
  have HFin := hide hFin
  have HE2 := hide hap
  clear hF2 hD2 hbw hBv2 hap htw hFin Con HB HBv HF1 HF0 HG HTb HX HBs HGn H2
  go_wp2_with fail
  refine (ConX.out).mono ?_
  rintro e w3 ⟨v3, rfl, hB3, hF3, hO3⟩
  have HE := hide (HFin.out (codeF (decB v) exp) w3 v3 hB3 hF3 hO3)
  clear hB3 hF3 hO3 HFin
  go_wp2
  go_ret
  exact HE.out

set_option maxHeartbeats 2000000 in
set_option maxRecDepth 20000 in
theorem dapp_gn (g bx base c v : Nat) (exp : Int) (A : Option Addr) (buf : Value) (w : World) (hD : CoefAt w g true exp A c v bx) (hl : (digs 18446744073709551616 v).length ≤ 3) (hv : VarsL w base)
    (hB : Buf w base buf []) (hb : base ≤ w.heap.size) (hgb : ∀ k, buf.ownBlock = some k → k ≠ g ∧ (Value.slice A (digs 18446744073709551616 v).length c).ownBlock ≠ some k ∧ base ≤ k) (hx : -1000 ≤ exp ∧ exp ≤ 1000) (hdl : (decB v).length ≤ 100) (htab : Lib.TabBelow Tryz.prog base w "internal/strconv.uint64pow10" .u64 Lib.pow10Tab) (hthin : v = 0 → -6 ≤ exp) :
    Calls Tryz.prog 55 #[.pointer (some ⟨g, 0, none⟩), buf, .int .u8 103] w (AppP w base buf (sgnT true (natT v exp 101))) := by
  obtain ⟨i0, hi, hz0, hz1, hz2⟩ := u8_parts
  have HI := hide (And.intro hi (And.intro hz0 (And.intro hz1 hz2)))
  have a0 : w.cell? ⟨g, 0, none⟩ = some (.int .i8 0) := hD.blk.cell 0
  have HB := hide hB
  have HTb := hide htab
  have hbb : ∀ k, buf.ownBlock = some k → base ≤ k := fun k hk => (hgb k hk).2.2
  have HX := hide (And.intro hx hdl)
  clear hi hz0 hz1 hz2 htab hx hdl
  have a1 : w.cell? ⟨g, 1, none⟩ = some (.bool true) := hD.blk.cell 1
  go_enter Tryz.func55, Tryz.ntmps55
  go_wp2_with (at_builtin; go_loud (refine wp_append_buf _ rfl (.tmp 15) (.tmp 16) 38 rfl i0 HI.out.1 HI.out.2.1 HI.out.2.2.1 HI.out.2.2.2 (v := buf) (xs := []) (base := base) rfl (HB.out.fr ((Fr.refl w (fun _ => False)).alloc _) (fun _ _ h => h)) (.slice (some ⟨w.heap.size, 0, none⟩) 1 1) [45] rfl (src_new w _ [45] rfl _) (Nat.le_trans hb (by simp)) (by simp) ?_; intro vb w1 hB1 hF1 hO1; have HBv : Hid (Buf w1 base vb [45]) := hB1; have HF1 : Hid (Fr w w1 (fun k => buf.ownBlock = some k)) := Fr.step ((Fr.refl w _).alloc _) hF1 (fun _ _ h => h); have HF0 : Hid (∀ i, vb.ownBlock = some i → buf.ownBlock = some i ∨ w.heap.size ≤ i) := fun i h => (hO1 i h).imp id (fun h => Nat.le_trans (by simp) h); have hD1 := hD.fr HF1.out (fun h => (hgb g h).1 rfl) (fun k h1 h2 => (hgb k h2).2.1 h1); have hv1 := hv.fr HF1.out (fun k h => (hgb k h).2.2); have hb1 := Nat.le_trans hb HF1.out.size; have a0 : w1.cell? ⟨g, 0, none⟩ = some (.int .i8 0) := hD1.blk.cell 0; have hgn : vb.ownBlock ≠ some g := (fun h => (HF0.out g h).elim (fun h2 => (hgb g h2).1 rfl) (fun h2 => absurd hD.blk.lt (by omega))); have HTb := hide (HTb.out.on (HF1.out.below hb hbb)); clear hB1 hF1 hO1 hD hv hB hgb))
  go_wp2_with fail
  obtain ⟨W1, hW1⟩ : ∃ W1, W1 = w1.alloc (.cells (Array.replicate 16 (.int .u8 0)) 107) := ⟨_, rfl⟩
  have hW1' : W1 = w1.alloc (.cells #[.int .u8 0, .int .u8 0, .int .u8 0, .int .u8 0, .int .u8 0, .int .u8 0, .int .u8 0, .int .u8 0, .int .u8 0, .int .u8 0, .int .u8 0, .int .u8 0, .int .u8 0, .int .u8 0, .int .u8 0, .int .u8 0] 107) := hW1
  rw [← hW1']
  have hf1 : Fr w1 W1 (fun _ => False) := by rw [hW1]; exact (Fr.refl w1 _).alloc _
  obtain ⟨g1, hg1⟩ : ∃ g1, g1 = w1.heap.size := ⟨_, rfl⟩
  have hS1 : Buf W1 g1 (.slice (some ⟨g1, 0, none⟩) 0 16) [] := by rw [hW1, hg1]; exact buf_new w1 16 107 (by omega)
  have hD2 := hD1.fr hf1 (fun h => h) (fun _ _ h => h)
  have hs1 : W1.heap.size = g1 + 1 := by rw [hW1, hg1]; simp
  have Con : Hid (∀ W, Fr W1 W (fun _ => False) → W.heap.size = W1.heap.size → Calls Tryz.prog 83 #[.pointer (some ⟨g, 3, none⟩), .slice (some ⟨g1, 0, none⟩) 0 16, .int .i64 10] W (AppP W g1 (.slice (some ⟨g1, 0, none⟩) 0 16) (decB v))) := fun W hW hs => by
    have hDW := hD2.fr hW (fun h => h) (fun _ _ h => h)
    exact bapp_any bx g 3 _ c v g1 A _ [] W (hDW.blk.cell 3) (hDW.blk.cell 4) hDW.own (by omega) ((hv1.fr (Fr.trans hf1 hW) (fun _ h => h.elim)).raise (by have := hf1.size; omega)) (hS1.fr hW (fun _ _ h => h)) (by omega) (by simp)
  have HG := hide (And.intro hf1 (And.intro hg1 (And.intro hb1 hD1)))
  have HBs := hide hb
  have HGn := hide hgn
  rw [← hg1]
  clear hf1 hS1 hD2 hs1 hD1 hv1 hb1 hW1 hW1' hg1 hgn hb
  go_region_held3 (fun _ => True) (trivial)
    ((go_at_call 83; go_loud (refine (Con.out _ ?_ ?_).mono ?_; exact Fr.mk rfl rfl rfl (Nat.le_refl _) (fun _ _ _ => rfl); rfl; rintro e w2 ⟨v2, rfl, hB2, hF2, -⟩; have H2 : Hid (Buf w2 g1 v2 (decB v) ∧ Fr W1 w2 (fun k => (Value.slice (some ⟨g1, 0, none⟩) 0 16).ownBlock = some k)) := ⟨hB2, Fr.mk hF2.os hF2.tape hF2.output hF2.size hF2.block⟩; clear hB2 hF2)))
  have hF2 : Fr w1 w2 (fun _ => False) := Fr.step HG.out.1 H2.out.2 (fun i hi h => by
    have e : g1 = i := by injection h
    have := HG.out.2.1
    omega)
  have hD2 := HG.out.2.2.2.fr hF2 (fun h => h) (fun _ _ h => h)
  have hbw : base ≤ w2.heap.size := Nat.le_trans HG.out.2.2.1 hF2.size
  have hBv2 := HBv.out.fr hF2 (fun _ _ h => h)
  have hap : BufApart w2 vb v2 := fun k hk => ⟨(H2.out.1.lt hk).2, fun h => by have h1 := (H2.out.1.lt hk).1; have h2 := (HBv.out.lt h).2; have := HG.out.2.1; omega⟩
  have htw := HTb.out.on (hF2.below HG.out.2.2.1 (fun _ h => h.elim))
  have he2 : w2.cell? ⟨g, 2, none⟩ = some (.int .i32 exp) := hD2.blk.cell 2
  have hFin : ∀ T w3 v3, Buf w3 base v3 ([45] ++ T) → Fr w2 w3 (fun k => vb.ownBlock = some k) → (∀ k, v3.ownBlock = some k → vb.ownBlock = some k ∨ w2.heap.size ≤ k) → AppP w base buf (sgnT true T) (.returned v3) w3 := fun T w3 v3 hB3 hF3 hO3 =>
    ⟨v3, rfl, hB3, Fr.step (Fr.step HF1.out hF2 (fun _ _ h => h.elim)) hF3 (fun i hi h => (HF0.out i h).elim id (fun h2 => absurd hi (by omega))), fun k hk => (hO3 k hk).elim (fun h => HF0.out k h) (fun h => .inr (Nat.le_trans HF1.out.size (Nat.le_trans hF2.size h)))⟩
  have hBl : ∀ W, Below w2.heap.size w2 W → Calls Tryz.prog 86 #[.pointer (some ⟨g, 3, none⟩)] W fun e w' => e = .returned (.int .i64 ((blen v : Nat) : Int)) ∧ w' = W := fun W hW => by
    have hd := hD2.blk.below hW
    have := bbitLen_any g 3 A _ c _ W (hd.cell 4) (RdG.below (k := .u64) hD2.own.rd hW) rfl (by omega) (dig_digs (by omega) _) (canon_digs (by omega) _)
    rwa [dval_digs (by omega)] at this
  have HBl := hide hBl
  obtain ⟨A2, c2, hv2⟩ := H2.out.1.slice
  have hfn : (decB v).length = figs v := decB_length v
  have hfs : figs v ≤ 100 := by rw [← hfn]; exact HX.out.2
  have hfp := figs_pos v
  have hexi := HX.out.1
  by_cases hF : exp ≤ 0 ∧ -6 ≤ exp + (figs v : Int) - 1
  · have ConX := hide (fmtF_call g base g1 v exp vb v2 [45] w2 hBv2 H2.out.1 hap he2 ⟨hD2.blk.lt, HGn.out⟩ hbw (by simp) HX.out.2 HX.out.1)
    rw [natT_f (ch := 101) hF.1 hF.2] at ConX
    have HFin := hide hFin
    obtain ⟨fg, hfg⟩ : ∃ fg, fg = figs v := ⟨_, rfl⟩
    rw [← hfg] at hfn hfs hfp hF
    rw [hfn] at hv2
    subst hv2
    clear hF2 hD2 hbw hBv2 hap htw hFin Con HB HBv HF1 HF0 HG HTb HX HBs HGn H2 hBl
    by_cases hz : v = 0
    · subst hz
      have hfg1 : fg = 1 := by rw [hfg]; rfl
      have hbl0 : ((blen 0 : Nat) : Int) = 0 := by rw [show blen 0 = 0 by decide]; rfl
      have HBl0 : Hid (∀ W, Below w2.heap.size w2 W → Calls Tryz.prog 86 #[.pointer (some ⟨g, 3, none⟩)] W fun e w' => e = .returned (.int .i64 0) ∧ w' = W) := fun W h => by have := HBl.out W h; rwa [hbl0] at this
      have hthin0 := hthin rfl
      subst hfg1
      clear hfg hbl0 HBl hthin
      have q3 : -2000 ≤ exp := by omega
      have u2 : IntKind.i64.wrap exp = exp := i64_small rfl (by omega)
      by_cases he0 : exp < 0
      · obtain ⟨k, hk⟩ : ∃ k : Nat, -exp = (k : Int) := ⟨(-exp).toNat, by omega⟩
        have q1 : exp ≤ 0 := by omega
        have kb : -1000000 ≤ (k : Int) ∧ (k : Int) ≤ 1000000 := by omega
        have k1b : -1000000 ≤ 1 + (k : Int) ∧ 1 + (k : Int) ≤ 1000000 := by omega
        have ez : exp + (k : Int) = 0 := by omega
        have u4 : IntKind.i32.wrap (-exp) = (k : Int) := by rw [hk]; simp [IntKind.wrap, IntKind.signed, IntKind.bits]; omega
        have u4' : IntKind.i32.wrap (k : Int) = (k : Int) := by simp [IntKind.wrap, IntKind.signed, IntKind.bits]; omega
        have u5 : IntKind.i64.wrap (k : Int) = (k : Int) := i64_small rfl kb
        have u6 : IntKind.i64.wrap (1 + (k : Int)) = ((k + 1 : Nat) : Int) := i64_small (by omega) (by omega)
        have u7 : IntKind.i64.wrap (((k + 1 : Nat) : Int) - 1) = (k : Int) := i64_small (by omega) kb
        have u8 : IntKind.i64.wrap (exp + (k : Int)) = 0 := i64_small ez (by omega)
        have u9 : ((k + 1 : Nat) : Int) - 1 = (k : Int) := by omega
        obtain ⟨k1, hk1⟩ : ∃ k1 : Int, k1 = ((k + 1 : Nat) : Int) := ⟨_, rfl⟩
        rw [← hk1] at u6 u7 u9
        clear hF kb k1b hthin0 hfs hfp hexi hk1
        go_wp2_with (go_at_call 86; refine (HBl0.out _ (Below.refl _ _)).mono ?_; rintro e w' ⟨rfl, rfl⟩)
        go_wp2_with fail
        refine (ConX.out).mono ?_
        rintro e w3 ⟨v3, rfl, hB3, hF3, hO3⟩
        have HE := hide (HFin.out _ w3 v3 hB3 hF3 hO3)
        clear hB3 hF3 hO3 HFin
        go_wp2
        go_ret
        exact HE.out
      · obtain rfl : exp = 0 := by omega
        clear hF hthin0 hfs hfp hexi
        go_wp2_with (go_at_call 86; refine (HBl0.out _ (Below.refl _ _)).mono ?_; rintro e w' ⟨rfl, rfl⟩)
        go_wp2_with fail
        refine (ConX.out).mono ?_
        rintro e w3 ⟨v3, rfl, hB3, hF3, hO3⟩
        have HE := hide (HFin.out _ w3 v3 hB3 hF3 hO3)
        clear hB3 hF3 hO3 HFin
        go_wp2
        go_ret
        exact HE.out
    · have hbn : ((blen v : Nat) : Int) ≠ 0 := by rw [blen_pos (Nat.pos_of_ne_zero hz)]; omega
      have hbb0 : (((blen v : Nat) : Int) == 0) = false := beq_eq_false_iff_ne.2 hbn
      obtain ⟨a2, ha2⟩ : ∃ a2 : Int, a2 = exp + ((fg : Int) - 1) := ⟨_, rfl⟩
      have u1 : IntKind.i64.wrap ((fg : Int) - 1) = (fg : Int) - 1 := i64_small rfl (by omega)
      have u2 : IntKind.i64.wrap exp = exp := i64_small rfl (by omega)
      have u3 : IntKind.i64.wrap (exp + ((fg : Int) - 1)) = a2 := i64_small ha2.symm (by omega)
      have hF' := hF
      have q1 : exp ≤ 0 := hF.1
      have q2 : -6 ≤ a2 := by omega
      clear hF hF' ha2 hfg hthin hfs hfp hexi hbn hz
      generalize ((blen v : Nat) : Int) = bl at *
      go_wp2_with (go_at_call 86; refine (HBl.out _ (Below.refl _ _)).mono ?_; rintro e w' ⟨rfl, rfl⟩)
      go_wp2_with fail
      refine (ConX.out).mono ?_
      rintro e w3 ⟨v3, rfl, hB3, hF3, hO3⟩
      have HE := hide (HFin.out _ w3 v3 hB3 hF3 hO3)
      clear hB3 hF3 hO3 HFin
      go_wp2
      go_ret
      exact HE.out

  · have ConX := hide (fmtE_call g base g1 v 101 exp vb v2 [45] w2 hBv2 H2.out.1 hap he2 hbw (by simp) HX.out.2 HX.out.1 htw)
    rw [natT_e hF] at ConX
    have HFin := hide hFin
    obtain ⟨fg, hfg⟩ : ∃ fg, fg = figs v := ⟨_, rfl⟩
    rw [← hfg] at hfn hfs hfp hF
    rw [hfn] at hv2
    subst hv2
    clear hF2 hD2 hbw hBv2 hap htw hFin Con HB HBv HF1 HF0 HG HTb HX HBs HGn H2 hBl
    by_cases hz : v = 0
    · subst hz
      have hfg1 : fg = 1 := by rw [hfg]; rfl
      have hbl0 : ((blen 0 : Nat) : Int) = 0 := by rw [show blen 0 = 0 by decide]; rfl
      have HBl0 : Hid (∀ W, Below w2.heap.size w2 W → Calls Tryz.prog 86 #[.pointer (some ⟨g, 3, none⟩)] W fun e w' => e = .returned (.int .i64 0) ∧ w' = W) := fun W h => by have := HBl.out W h; rwa [hbl0] at this
      have hthin0 := hthin rfl
      subst hfg1
      clear hfg hbl0 HBl hthin
      have q1 : ¬ exp ≤ 0 := by omega
      have q3 : -2000 ≤ exp := by omega
      have he0 : ¬ exp < 0 := by omega
      have u2 : IntKind.i64.wrap exp = exp := i64_small rfl (by omega)
      have u3 : IntKind.i64.wrap (exp + 0) = exp := i64_small (by omega) (by omega)
      clear hF hthin0 hfs hfp hexi
      go_wp2_with (go_at_call 86; refine (HBl0.out _ (Below.refl _ _)).mono ?_; rintro e w' ⟨rfl, rfl⟩)
      go_wp2_with fail
      refine (ConX.out).mono ?_
      rintro e w3 ⟨v3, rfl, hB3, hF3, hO3⟩
      have HE := hide (HFin.out _ w3 v3 hB3 hF3 hO3)
      clear hB3 hF3 hO3 HFin
      go_wp2
      go_ret
      exact HE.out
    · have hbn : ((blen v : Nat) : Int) ≠ 0 := by rw [blen_pos (Nat.pos_of_ne_zero hz)]; omega
      have hbb0 : (((blen v : Nat) : Int) == 0) = false := beq_eq_false_iff_ne.2 hbn
      obtain ⟨a2, ha2⟩ : ∃ a2 : Int, a2 = exp + ((fg : Int) - 1) := ⟨_, rfl⟩
      have u1 : IntKind.i64.wrap ((fg : Int) - 1) = (fg : Int) - 1 := i64_small rfl (by omega)
      have u2 : IntKind.i64.wrap exp = exp := i64_small rfl (by omega)
      have u3 : IntKind.i64.wrap (exp + ((fg : Int) - 1)) = a2 := i64_small ha2.symm (by omega)
      have hF' := hF
      have hq : ¬ exp ≤ 0 ∨ (exp ≤ 0 ∧ ¬ -6 ≤ a2) := by omega
      clear hF hF' ha2 hfg hthin hfs hfp hexi hbn hz
      generalize ((blen v : Nat) : Int) = bl at *
      rcases hq with q1 | ⟨q1, q2⟩
      · go_wp2_with (go_at_call 86; refine (HBl.out _ (Below.refl _ _)).mono ?_; rintro e w' ⟨rfl, rfl⟩)
        go_wp2_with fail
        refine (ConX.out).mono ?_
        rintro e w3 ⟨v3, rfl, hB3, hF3, hO3⟩
        have HE := hide (HFin.out _ w3 v3 hB3 hF3 hO3)
        clear hB3 hF3 hO3 HFin
        go_wp2
        go_ret
        exact HE.out
      · go_wp2_with (go_at_call 86; refine (HBl.out _ (Below.refl _ _)).mono ?_; rintro e w' ⟨rfl, rfl⟩)
        go_wp2_with fail
        refine (ConX.out).mono ?_
        rintro e w3 ⟨v3, rfl, hB3, hF3, hO3⟩
        have HE := hide (HFin.out _ w3 v3 hB3 hF3 hO3)
        clear hB3 hF3 hO3 HFin
        go_wp2
        go_ret
        exact HE.out


set_option maxHeartbeats 2000000 in
set_option maxRecDepth 20000 in
theorem dapp_Gn (g bx base c v : Nat) (exp : Int) (A : Option Addr) (buf : Value) (w : World) (hD : CoefAt w g true exp A c v bx) (hl : (digs 18446744073709551616 v).length ≤ 3) (hv : VarsL w base)
    (hB : Buf w base buf []) (hb : base ≤ w.heap.size) (hgb : ∀ k, buf.ownBlock = some k → k ≠ g ∧ (Value.slice A (digs 18446744073709551616 v).length c).ownBlock ≠ some k ∧ base ≤ k) (hx : -1000 ≤ exp ∧ exp ≤ 1000) (hdl : (decB v).length ≤ 100) (htab : Lib.TabBelow Tryz.prog base w "internal/strconv.uint64pow10" .u64 Lib.pow10Tab) (hthin : v = 0 → -6 ≤ exp) :
    Calls Tryz.prog 55 #[.pointer (some ⟨g, 0, none⟩), buf, .int .u8 71] w (AppP w base buf (sgnT true (natT v exp 69))) := by
  obtain ⟨i0, hi, hz0, hz1, hz2⟩ := u8_parts
  have HI := hide (And.intro hi (And.intro hz0 (And.intro hz1 hz2)))
  have a0 : w.cell? ⟨g, 0, none⟩ = some (.int .i8 0) := hD.blk.cell 0
  have HB := hide hB
  have HTb := hide htab
  have hbb : ∀ k, buf.ownBlock = some k → base ≤ k := fun k hk => (hgb k hk).2.2
  have HX := hide (And.intro hx hdl)
  clear hi hz0 hz1 hz2 htab hx hdl
  have a1 : w.cell? ⟨g, 1, none⟩ = some (.bool true) := hD.blk.cell 1
  go_enter Tryz.func55, Tryz.ntmps55
  go_wp2_with (at_builtin; go_loud (refine wp_append_buf _ rfl (.tmp 15) (.tmp 16) 38 rfl i0 HI.out.1 HI.out.2.1 HI.out.2.2.1 HI.out.2.2.2 (v := buf) (xs := []) (base := base) rfl (HB.out.fr ((Fr.refl w (fun _ => False)).alloc _) (fun _ _ h => h)) (.slice (some ⟨w.heap.size, 0, none⟩) 1 1) [45] rfl (src_new w _ [45] rfl _) (Nat.le_trans hb (by simp)) (by simp) ?_; intro vb w1 hB1 hF1 hO1; have HBv : Hid (Buf w1 base vb [45]) := hB1; have HF1 : Hid (Fr w w1 (fun k => buf.ownBlock = some k)) := Fr.step ((Fr.refl w _).alloc _) hF1 (fun _ _ h => h); have HF0 : Hid (∀ i, vb.ownBlock = some i → buf.ownBlock = some i ∨ w.heap.size ≤ i) := fun i h => (hO1 i h).imp id (fun h => Nat.le_trans (by simp) h); have hD1 := hD.fr HF1.out (fun h => (hgb g h).1 rfl) (fun k h1 h2 => (hgb k h2).2.1 h1); have hv1 := hv.fr HF1.out (fun k h => (hgb k h).2.2); have hb1 := Nat.le_trans hb HF1.out.size; have a0 : w1.cell? ⟨g, 0, none⟩ = some (.int .i8 0) := hD1.blk.cell 0; have hgn : vb.ownBlock ≠ some g := (fun h => (HF0.out g h).elim (fun h2 => (hgb g h2).1 rfl) (fun h2 => absurd hD.blk.lt (by omega))); have HTb := hide (HTb.out.on (HF1.out.below hb hbb)); clear hB1 hF1 hO1 hD hv hB hgb))
  go_wp2_with fail
  obtain ⟨W1, hW1⟩ : ∃ W1, W1 = w1.alloc (.cells (Array.replicate 16 (.int .u8 0)) 107) := ⟨_, rfl⟩
  have hW1' : W1 = w1.alloc (.cells #[.int .u8 0, .int .u8 0, .int .u8 0, .int .u8 0, .int .u8 0, .int .u8 0, .int .u8 0, .int .u8 0, .int .u8 0, .int .u8 0, .int .u8 0, .int .u8 0, .int .u8 0, .int .u8 0, .int .u8 0, .int .u8 0] 107) := hW1
  rw [← hW1']
  have hf1 : Fr w1 W1 (fun _ => False) := by rw [hW1]; exact (Fr.refl w1 _).alloc _
  obtain ⟨g1, hg1⟩ : ∃ g1, g1 = w1.heap.size := ⟨_, rfl⟩
  have hS1 : Buf W1 g1 (.slice (some ⟨g1, 0, none⟩) 0 16) [] := by rw [hW1, hg1]; exact buf_new w1 16 107 (by omega)
  have hD2 := hD1.fr hf1 (fun h => h) (fun _ _ h => h)
  have hs1 : W1.heap.size = g1 + 1 := by rw [hW1, hg1]; simp
  have Con : Hid (∀ W, Fr W1 W (fun _ => False) → W.heap.size = W1.heap.size → Calls Tryz.prog 83 #[.pointer (some ⟨g, 3, none⟩), .slice (some ⟨g1, 0, none⟩) 0 16, .int .i64 10] W (AppP W g1 (.slice (some ⟨g1, 0, none⟩) 0 16) (decB v))) := fun W hW hs => by
    have hDW := hD2.fr hW (fun h => h) (fun _ _ h => h)
    exact bapp_any bx g 3 _ c v g1 A _ [] W (hDW.blk.cell 3) (hDW.blk.cell 4) hDW.own (by omega) ((hv1.fr (Fr.trans hf1 hW) (fun _ h => h.elim)).raise (by have := hf1.size; omega)) (hS1.fr hW (fun _ _ h => h)) (by omega) (by simp)
  have HG := hide (And.intro hf1 (And.intro hg1 (And.intro hb1 hD1)))
  have HBs := hide hb
  have HGn := hide hgn
  rw [← hg1]
  clear hf1 hS1 hD2 hs1 hD1 hv1 hb1 hW1 hW1' hg1 hgn hb
  go_region_held3 (fun _ => True) (trivial)
    ((go_at_call 83; go_loud (refine (Con.out _ ?_ ?_).mono ?_; exact Fr.mk rfl rfl rfl (Nat.le_refl _) (fun _ _ _ => rfl); rfl; rintro e w2 ⟨v2, rfl, hB2, hF2, -⟩; have H2 : Hid (Buf w2 g1 v2 (decB v) ∧ Fr W1 w2 (fun k => (Value.slice (some ⟨g1, 0, none⟩) 0 16).ownBlock = some k)) := ⟨hB2, Fr.mk hF2.os hF2.tape hF2.output hF2.size hF2.block⟩; clear hB2 hF2)))
  have hF2 : Fr w1 w2 (fun _ => False) := Fr.step HG.out.1 H2.out.2 (fun i hi h => by
    have e : g1 = i := by injection h
    have := HG.out.2.1
    omega)
  have hD2 := HG.out.2.2.2.fr hF2 (fun h => h) (fun _ _ h => h)
  have hbw : base ≤ w2.heap.size := Nat.le_trans HG.out.2.2.1 hF2.size
  have hBv2 := HBv.out.fr hF2 (fun _ _ h => h)
  have hap : BufApart w2 vb v2 := fun k hk => ⟨(H2.out.1.lt hk).2, fun h => by have h1 := (H2.out.1.lt hk).1; have h2 := (HBv.out.lt h).2; have := HG.out.2.1; omega⟩
  have htw := HTb.out.on (hF2.below HG.out.2.2.1 (fun _ h => h.elim))
  have he2 : w2.cell? ⟨g, 2, none⟩ = some (.int .i32 exp) := hD2.blk.cell 2
  have hFin : ∀ T w3 v3, Buf w3 base v3 ([45] ++ T) → Fr w2 w3 (fun k => vb.ownBlock = some k) → (∀ k, v3.ownBlock = some k → vb.ownBlock = some k ∨ w2.heap.size ≤ k) → AppP w base buf (sgnT true T) (.returned v3) w3 := fun T w3 v3 hB3 hF3 hO3 =>
    ⟨v3, rfl, hB3, Fr.step (Fr.step HF1.out hF2 (fun _ _ h => h.elim)) hF3 (fun i hi h => (HF0.out i h).elim id (fun h2 => absurd hi (by omega))), fun k hk => (hO3 k hk).elim (fun h => HF0.out k h) (fun h => .inr (Nat.le_trans HF1.out.size (Nat.le_trans hF2.size h)))⟩
  have hBl : ∀ W, Below w2.heap.size w2 W → Calls Tryz.prog 86 #[.pointer (some ⟨g, 3, none⟩)] W fun e w' => e = .returned (.int .i64 ((blen v : Nat) : Int)) ∧ w' = W := fun W hW => by
    have hd := hD2.blk.below hW
    have := bbitLen_any g 3 A _ c _ W (hd.cell 4) (RdG.below (k := .u64) hD2.own.rd hW) rfl (by omega) (dig_digs (by omega) _) (canon_digs (by omega) _)
    rwa [dval_digs (by omega)] at this
  have HBl := hide hBl
  obtain ⟨A2, c2, hv2⟩ := H2.out.1.slice
  have hfn : (decB v).length = figs v := decB_length v
  have hfs : figs v ≤ 100 := by rw [← hfn]; exact HX.out.2
  have hfp := figs_pos v
  have hexi := HX.out.1
  by_cases hF : exp ≤ 0 ∧ -6 ≤ exp + (figs v : Int) - 1
  · have ConX := hide (fmtF_call g base g1 v exp vb v2 [45] w2 hBv2 H2.out.1 hap he2 ⟨hD2.blk.lt, HGn.out⟩ hbw (by simp) HX.out.2 HX.out.1)
    rw [natT_f (ch := 69) hF.1 hF.2] at ConX
    have HFin := hide hFin
    obtain ⟨fg, hfg⟩ : ∃ fg, fg = figs v := ⟨_, rfl⟩
    rw [← hfg] at hfn hfs hfp hF
    rw [hfn] at hv2
    subst hv2
    clear hF2 hD2 hbw hBv2 hap htw hFin Con HB HBv HF1 HF0 HG HTb HX HBs HGn H2 hBl
    by_cases hz : v = 0
    · subst hz
      have hfg1 : fg = 1 := by rw [hfg]; rfl
      have hbl0 : ((blen 0 : Nat) : Int) = 0 := by rw [show blen 0 = 0 by decide]; rfl
      have HBl0 : Hid (∀ W, Below w2.heap.size w2 W → Calls Tryz.prog 86 #[.pointer (some ⟨g, 3, none⟩)] W fun e w' => e = .returned (.int .i64 0) ∧ w' = W) := fun W h => by have := HBl.out W h; rwa [hbl0] at this
      have hthin0 := hthin rfl
      subst hfg1
      clear hfg hbl0 HBl hthin
      have q3 : -2000 ≤ exp := by omega
      have u2 : IntKind.i64.wrap exp = exp := i64_small rfl (by omega)
      by_cases he0 : exp < 0
      · obtain ⟨k, hk⟩ : ∃ k : Nat, -exp = (k : Int) := ⟨(-exp).toNat, by omega⟩
        have q1 : exp ≤ 0 := by omega
        have kb : -1000000 ≤ (k : Int) ∧ (k : Int) ≤ 1000000 := by omega
        have k1b : -1000000 ≤ 1 + (k : Int) ∧ 1 + (k : Int) ≤ 1000000 := by omega
        have ez : exp + (k : Int) = 0 := by omega
        have u4 : IntKind.i32.wrap (-exp) = (k : Int) := by rw [hk]; simp [IntKind.wrap, IntKind.signed, IntKind.bits]; omega
        have u4' : IntKind.i32.wrap (k : Int) = (k : Int) := by simp [IntKind.wrap, IntKind.signed, IntKind.bits]; omega
        have u5 : IntKind.i64.wrap (k : Int) = (k : Int) := i64_small rfl kb
        have u6 : IntKind.i64.wrap (1 + (k : Int)) = ((k + 1 : Nat) : Int) := i64_small (by omega) (by omega)
        have u7 : IntKind.i64.wrap (((k + 1 : Nat) : Int) - 1) = (k : Int) := i64_small (by omega) kb
        have u8 : IntKind.i64.wrap (exp + (k : Int)) = 0 := i64_small ez (by omega)
        have u9 : ((k + 1 : Nat) : Int) - 1 = (k : Int) := by omega
        obtain ⟨k1, hk1⟩ : ∃ k1 : Int, k1 = ((k + 1 : Nat) : Int) := ⟨_, rfl⟩
        rw [← hk1] at u6 u7 u9
        clear hF kb k1b hthin0 hfs hfp hexi hk1
        go_wp2_with (go_at_call 86; refine (HBl0.out _ (Below.refl _ _)).mono ?_; rintro e w' ⟨rfl, rfl⟩)
        go_wp2_with fail
        refine (ConX.out).mono ?_
        rintro e w3 ⟨v3, rfl, hB3, hF3, hO3⟩
        have HE := hide (HFin.out _ w3 v3 hB3 hF3 hO3)
        clear hB3 hF3 hO3 HFin
        go_wp2
        go_ret
        exact HE.out
      · obtain rfl : exp = 0 := by omega
        clear hF hthin0 hfs hfp hexi
        go_wp2_with (go_at_call 86; refine (HBl0.out _ (Below.refl _ _)).mono ?_; rintro e w' ⟨rfl, rfl⟩)
        go_wp2_with fail
        refine (ConX.out).mono ?_
        rintro e w3 ⟨v3, rfl, hB3, hF3, hO3⟩
        have HE := hide (HFin.out _ w3 v3 hB3 hF3 hO3)
        clear hB3 hF3 hO3 HFin
        go_wp2
        go_ret
        exact HE.out
    · have hbn : ((blen v : Nat) : Int) ≠ 0 := by rw [blen_pos (Nat.pos_of_ne_zero hz)]; omega
      have hbb0 : (((blen v : Nat) : Int) == 0) = false := beq_eq_false_iff_ne.2 hbn
      obtain ⟨a2, ha2⟩ : ∃ a2 : Int, a2 = exp + ((fg : Int) - 1) := ⟨_, rfl⟩
      have u1 : IntKind.i64.wrap ((fg : Int) - 1) = (fg : Int) - 1 := i64_small rfl (by omega)
      have u2 : IntKind.i64.wrap exp = exp := i64_small rfl (by omega)
      have u3 : IntKind.i64.wrap (exp + ((fg : Int) - 1)) = a2 := i64_small ha2.symm (by omega)
      have hF' := hF
      have q1 : exp ≤ 0 := hF.1
      have q2 : -6 ≤ a2 := by omega
      clear hF hF' ha2 hfg hthin hfs hfp hexi hbn hz
      generalize ((blen v : Nat) : Int) = bl at *
      go_wp2_with (go_at_call 86; refine (HBl.out _ (Below.refl _ _)).mono ?_; rintro e w' ⟨rfl, rfl⟩)
      go_wp2_with fail
      refine (ConX.out).mono ?_
      rintro e w3 ⟨v3, rfl, hB3, hF3, hO3⟩
      have HE := hide (HFin.out _ w3 v3 hB3 hF3 hO3)
      clear hB3 hF3 hO3 HFin
      go_wp2
      go_ret
      exact HE.out

  · have ConX := hide (fmtE_call g base g1 v 69 exp vb v2 [45] w2 hBv2 H2.out.1 hap he2 hbw (by simp) HX.out.2 HX.out.1 htw)
    rw [natT_e hF] at ConX
    have HFin := hide hFin
    obtain ⟨fg, hfg⟩ : ∃ fg, fg = figs v := ⟨_, rfl⟩
    rw [← hfg] at hfn hfs hfp hF
    rw [hfn] at hv2
    subst hv2
    clear hF2 hD2 hbw hBv2 hap htw hFin Con HB HBv HF1 HF0 HG HTb HX HBs HGn H2 hBl
    by_cases hz : v = 0
    · subst hz
      have hfg1 : fg = 1 := by rw [hfg]; rfl
      have hbl0 : ((blen 0 : Nat) : Int) = 0 := by rw [show blen 0 = 0 by decide]; rfl
      have HBl0 : Hid (∀ W, Below w2.heap.size w2 W → Calls Tryz.prog 86 #[.pointer (some ⟨g, 3, none⟩)] W fun e w' => e = .returned (.int .i64 0) ∧ w' = W) := fun W h => by have := HBl.out W h; rwa [hbl0] at this
      have hthin0 := hthin rfl
      subst hfg1
      clear hfg hbl0 HBl hthin
      have q1 : ¬ exp ≤ 0 := by omega
      have q3 : -2000 ≤ exp := by omega
      have he0 : ¬ exp < 0 := by omega
      have u2 : IntKind.i64.wrap exp = exp := i64_small rfl (by omega)
      have u3 : IntKind.i64.wrap (exp + 0) = exp := i64_small (by omega) (by omega)
      clear hF hthin0 hfs hfp hexi
      go_wp2_with (go_at_call 86; refine (HBl0.out _ (Below.refl _ _)).mono ?_; rintro e w' ⟨rfl, rfl⟩)
      go_wp2_with fail
      refine (ConX.out).mono ?_
      rintro e w3 ⟨v3, rfl, hB3, hF3, hO3⟩
      have HE := hide (HFin.out _ w3 v3 hB3 hF3 hO3)
      clear hB3 hF3 hO3 HFin
      go_wp2
      go_ret
      exact HE.out
    · have hbn : ((blen v : Nat) : Int) ≠ 0 := by rw [blen_pos (Nat.pos_of_ne_zero hz)]; omega
      have hbb0 : (((blen v : Nat) : Int) == 0) = false := beq_eq_false_iff_ne.2 hbn
      obtain ⟨a2, ha2⟩ : ∃ a2 : Int, a2 = exp + ((fg : Int) - 1) := ⟨_, rfl⟩
      have u1 : IntKind.i64.wrap ((fg : Int) - 1) = (fg : Int) - 1 := i64_small rfl (by omega)
      have u2 : IntKind.i64.wrap exp = exp := i64_small rfl (by omega)
      have u3 : IntKind.i64.wrap (exp + ((fg : Int) - 1)) = a2 := i64_small ha2.symm (by omega)
      have hF' := hF
      have hq : ¬ exp ≤ 0 ∨ (exp ≤ 0 ∧ ¬ -6 ≤ a2) := by omega
      clear hF hF' ha2 hfg hthin hfs hfp hexi hbn hz
      generalize ((blen v : Nat) : Int) = bl at *
      rcases hq with q1 | ⟨q1, q2⟩
      · go_wp2_with (go_at_call 86; refine (HBl.out _ (Below.refl _ _)).mono ?_; rintro e w' ⟨rfl, rfl⟩)
        go_wp2_with fail
        refine (ConX.out).mono ?_
        rintro e w3 ⟨v3, rfl, hB3, hF3, hO3⟩
        have HE := hide (HFin.out _ w3 v3 hB3 hF3 hO3)
        clear hB3 hF3 hO3 HFin
        go_wp2
        go_ret
        exact HE.out
      · go_wp2_with (go_at_call 86; refine (HBl.out _ (Below.refl _ _)).mono ?_; rintro e w' ⟨rfl, rfl⟩)
        go_wp2_with fail
        refine (ConX.out).mono ?_
        rintro e w3 ⟨v3, rfl, hB3, hF3, hO3⟩
        have HE := hide (HFin.out _ w3 v3 hB3 hF3 hO3)
        clear hB3 hF3 hO3 HFin
        go_wp2
        go_ret
        exact HE.out


end Go.Proofs.YtlepebogjpcfoaaGreatDoor
