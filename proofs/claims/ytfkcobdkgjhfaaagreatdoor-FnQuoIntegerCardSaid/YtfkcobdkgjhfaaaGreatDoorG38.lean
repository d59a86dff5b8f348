/- Parts of the proofs: Qi1, Qi2. -/
import Derived.Test.YtfkcobdkgjhfaaaGreatDoorG9
import Derived.Test.YtfkcobdkgjhfaaaGreatDoorG27
import Derived.Test.YtfkcobdkgjhfaaaGreatDoorG30
import Derived.Test.YtfkcobdkgjhfaaaGreatDoorG31
import Derived.Test.YtfkcobdkgjhfaaaGreatDoorG37
/- Walks: Context.quoSpecials, goError, decimalNaN; Context.QuoInteger. -/
set_option linter.unusedVariables false
set_option linter.unusedSimpArgs false
namespace Go.Proofs.YtfkcobdkgjhfaaaGreatDoor
open Go.RowKit

/-- The cells of a Context of p figures, without traps. -/
def ctxP (p : Nat) (s : ByteArray) : Array Value := #[.int .u32 (p : Int), .int .i32 100000, .int .i32 (-100000), .int .u32 0, .string s]

theorem cgoerr_imp (w : World) : Calls Tryz.prog 110 #[.int .u32 512, .int .u32 0] w fun e w' => e = .returned (.tuple #[.int .u32 512, .nilIface]) ∧ w = w' := by
  go_enter Tryz.func110, Tryz.ntmps110
  go_wp2
  go_ret2
  exact ⟨rfl, rfl⟩
theorem goerr_none (gc : Nat) (w : World) : Calls Tryz.prog 74 #[.pointer (some ⟨gc, 0, none⟩), .int .u32 0] w fun e w' => e = .returned (.tuple #[.int .u32 0, .nilIface]) ∧ w = w' := by
  go_enter Tryz.func74, Tryz.ntmps74
  go_wp2
  go_ret2
  exact ⟨rfl, rfl⟩
theorem goerr_imp (gc p : Nat) (s : ByteArray) (w : World) (hc : Blk w gc 125 (ctxP p s)) : Calls Tryz.prog 74 #[.pointer (some ⟨gc, 0, none⟩), .int .u32 512] w fun e w' => e = .returned (.tuple #[.int .u32 512, .nilIface]) ∧ w = w' := by
  have c3 : w.cell? ⟨gc, 3, none⟩ = some (.int .u32 0) := hc.cell 3
  clear hc
  go_enter Tryz.func74, Tryz.ntmps74
  go_wp2_with fail
  refine (cgoerr_imp _).mono ?_
  rintro e w1 ⟨rfl, rfl⟩
  go_wp2
  go_ret2
  exact ⟨rfl, rfl⟩
theorem dnan_any (w : World) : Calls Tryz.prog 73 #[] w fun e w' => ∃ g, e = .returned (.pointer (some ⟨g, 0, none⟩)) ∧ w.heap.size ≤ g ∧ Blk w' g 71 (decC 3 false 0 false (.slice none 0 0) false) ∧ Below w.heap.size w w' := by
  have HF : Hid (∃ g, Ending.returned (.pointer (some ⟨w.heap.size, 0, none⟩)) = .returned (.pointer (some ⟨g, 0, none⟩)) ∧ w.heap.size ≤ g ∧ Blk (w.alloc (.cells #[.int .i8 3, .bool false, .int .i32 0, .bool false, .slice none 0 0, .bool false] 71)) g 71 (decC 3 false 0 false (.slice none 0 0) false) ∧ Below w.heap.size w (w.alloc (.cells #[.int .i8 3, .bool false, .int .i32 0, .bool false, .slice none 0 0, .bool false] 71))) :=
    ⟨_, rfl, Nat.le_refl _, Blk.new w _ _, below_al (Below.refl _ _) _⟩
  go_enter Tryz.func73, Tryz.ntmps73
  go_wp2
  go_ret
  exact HF.out
def QspP (w : World) (e : Ending) (w' : World) : Prop := e = .returned (.tuple #[.bool false, .int .u32 0, .nilIface]) ∧ Fr w w' (fun _ => False)
theorem qsp_result (a b c : Value) (tmps : Array Value) (h10 : tmps.getD 10 undef = a) (h11 : tmps.getD 11 undef = b) (h12 : tmps.getD 12 undef = c) (W : World) :
    (results Tryz.f70 tmps).run Tryz.prog W = .ok (.tuple #[a, b, c]) W := by
  have e6 : tmps[10]?.getD undef = a := by simpa using h10
  have e7 : tmps[11]?.getD undef = b := by simpa using h11
  have e8 : tmps[12]?.getD undef = c := by simpa using h12
  simp [results, Tryz.results70, go_sem, e6, e7, e8]
set_option maxHeartbeats 1000000 in
set_option maxRecDepth 20000 in
theorem qspec_fin (gc gd ga gb p la lb ca cb : Nat) (s : ByteArray) (na nb : Bool) (ea eb : Int) (A B : Option Addr) (w : World) (hc : Blk w gc 125 (ctxP p s)) (ha : Blk w ga 71 (decC 0 na ea false (.slice A la ca) false)) (hb : Blk w gb 71 (decC 0 nb eb false (.slice B lb cb) false)) (hlb : lb ≠ 0) (hp : 1 ≤ p) :
    Calls Tryz.prog 70 #[.pointer (some ⟨gc, 0, none⟩), .pointer (some ⟨gd, 0, none⟩), .pointer (some ⟨ga, 0, none⟩), .pointer (some ⟨gb, 0, none⟩), .bool false] w (QspP w) := by
  have a0 : w.cell? ⟨ga, 0, none⟩ = some (.int .i8 0) := ha.cell 0
  have b0 : w.cell? ⟨gb, 0, none⟩ = some (.int .i8 0) := hb.cell 0
  have a1 : w.cell? ⟨ga, 1, none⟩ = some (.bool na) := ha.cell 1
  have b1 : w.cell? ⟨gb, 1, none⟩ = some (.bool nb) := hb.cell 1
  have c0 : w.cell? ⟨gc, 0, none⟩ = some (.int .u32 (p : Int)) := hc.cell 0
  have Con1 := hide (should_fin (some ⟨gc, 0, none⟩) ga gb w a0 b0)
  have con2 : ∀ W, Fr w W (fun _ => False) → Calls Tryz.prog 79 #[.pointer (some ⟨gb, 0, none⟩)] W fun e w' => e = .returned (.bool false) ∧ W = w' := fun W hW => by
    have h := dzero_any gb nb eb B lb cb W (hb.fr hW (fun h => h))
    rwa [decide_eq_false hlb] at h
  have Con2 := hide con2
  have Fin : Hid (∀ W, Fr w W (fun _ => False) → QspP w (.returned (.tuple #[.bool false, .int .u32 0, .nilIface])) W) := fun W h => ⟨rfl, h⟩
  have hp0 : ((p : Int) == 0) = false := beq_eq_false_iff_ne.2 (by omega)
  have hp1 : (p == 0) = false := beq_eq_false_iff_ne.2 (by omega)
  clear con2 hc ha hb hlb hp
  go_enter Tryz.func70, Tryz.ntmps70
  go_wp2_with fail
  refine (Con1.out).mono ?_
  rintro e w1 ⟨rfl, rfl⟩
  go_wp2_with fail
  go_quiet (fail)
  go_wp2_with fail
  go_quiet (fail)
  go_wp2_with fail
  refine (Con2.out _ ((Fr.refl w _).drewN _)).mono ?_
  rintro e w2 ⟨rfl, rfl⟩
  go_wp2
  exact bodyPost_ret (qsp_result _ _ _ _ rfl rfl rfl _) rfl (Fin.out _ ((Fr.refl w _).drewN _))
/-- Behind QuoInteger: the quotient in d, or no number where it has too many figures. -/
def QiP (w : World) (gd p : Nat) (n : Bool) (q : Nat) (e : Ending) (w' : World) : Prop :=
  (figs q ≤ p → e = .returned (.tuple #[.int .u32 0, .nilIface]) ∧ ∃ A c, Own w' w.heap.size (.slice A (digs 18446744073709551616 q).length c) (digs 18446744073709551616 q) ∧ Blk w' gd 71 (decC 0 n 0 false (.slice A (digs 18446744073709551616 q).length c) false)) ∧
  (p < figs q → e = .returned (.tuple #[.int .u32 512, .nilIface]) ∧ ∃ A c, Blk w' gd 71 (decC 3 n 0 false (.slice A 0 c) false) ∧ RdW w' (.slice A 0 c) []) ∧ Fr w w' (fun k => k = gd)

theorem rdw_dec {w W : World} {gd : Nat} {f e : Int} {n b m : Bool} {A r : Option Addr} {l c l2 c2 : Nat} {xs : List Nat} (h : RdW w (.slice A l c) xs) (hB : Blk w gd 71 (decC f n e b (.slice r l2 c2) m)) (hf : Fr w W (fun k => k = gd)) : RdW W (.slice A l c) xs := by
  rcases h with ⟨A, c, e1, e2, e3⟩ | ⟨g, o, c, e1, e2, e3, e4⟩
  · exact .inl ⟨A, c, e1, e2, e3⟩
  · refine .inr ⟨g, o, c, e1, e2, e3, fun i hi => ?_⟩
    by_cases hg : g = gd
    · exfalso
      subst hg
      have h := e4 i hi
      rw [hB.cell] at h
      generalize o + i = j at h
      unfold decC at h
      rcases j with _ | _ | _ | _ | _ | _ | j <;> simp at h
    · exact hf.cell (e4 i hi) hg
theorem qi_len {a s : Nat} (h : (digs 18446744073709551616 a).length ≤ 3) (hs : s ≤ 200) : a * 10 ^ s < 18446744073709551616 ^ 14 := by
  have h1 := lt_of_digs_length (b := 18446744073709551616) (by omega) h
  have h2 : 10 ^ s < 18446744073709551616 ^ 11 := pow10_lt hs (by decide)
  have e : (18446744073709551616 : Nat) ^ 14 = 18446744073709551616 ^ 3 * 18446744073709551616 ^ 11 := by rw [← Nat.pow_add]
  rw [e]
  exact Nat.mul_lt_mul'' h1 h2

set_option maxHeartbeats 4000000 in
set_option maxRecDepth 20000 in
theorem qint_any (gc gd ga gb sa sb bha bhb p b0 : Nat) (s : ByteArray) (na nb : Bool) (m : Int) (A B : Option Addr) (ca cb a b : Nat) (w : World)
    (hc : Blk w gc 125 (ctxP p s)) (hd : Blk w gd 71 (decC 0 false 0 false (.slice none 0 0) false)) (ha : Blk w ga 71 (decC 0 na (m + sa) false (.slice A (digs 18446744073709551616 a).length ca) false)) (hb : Blk w gb 71 (decC 0 nb (m + sb) false (.slice B (digs 18446744073709551616 b).length cb) false))
    (har : Own w bha (.slice A (digs 18446744073709551616 a).length ca) (digs 18446744073709551616 a)) (hbr : Own w bhb (.slice B (digs 18446744073709551616 b).length cb) (digs 18446744073709551616 b))
    (hne : gd ≠ ga ∧ gd ≠ gb ∧ gd ≠ gc) (hv : VarsD w b0) (hbd : b0 ≤ gd) (hs : sa = 0 ∨ sb = 0) (hsa : sa ≤ 200) (hsb : sb ≤ 200) (hm : -1000 ≤ m ∧ m ≤ 1000) (h3 : (digs 18446744073709551616 a).length ≤ 3) (h3b : (digs 18446744073709551616 b).length ≤ 3) (hbp : 0 < b) (hp : 1 ≤ p ∧ p ≤ 100) :
    Calls Tryz.prog 41 #[.pointer (some ⟨gc, 0, none⟩), .pointer (some ⟨gd, 0, none⟩), .pointer (some ⟨ga, 0, none⟩), .pointer (some ⟨gb, 0, none⟩)] w (QiP w gd p (na != nb) (a * 10 ^ sa / (b * 10 ^ sb))) := by
  have hlb : (digs 18446744073709551616 b).length ≠ 0 := by
    have := List.length_pos_iff.2 (digs_ne_nil (b := 18446744073709551616) (by omega) hbp); omega
  have hal := ha.lt
  have hbl := hb.lt
  have hdl := hd.lt
  have Con1 := hide (qspec_fin gc gd ga gb p _ _ ca cb s na nb _ _ A B w hc ha hb hlb hp.1)
  have H0 := hide (And.intro hc (And.intro hd (And.intro ha (And.intro hb (And.intro har (And.intro hbr (And.intro hne (And.intro hv hbd))))))))
  obtain ⟨qq, hqq⟩ : ∃ q, q = a * 10 ^ sa / (b * 10 ^ sb) := ⟨_, rfl⟩
  rw [← hqq]
  have HQ := hide hqq
  clear hqq
  have H1 := hide (And.intro hs (And.intro hsa (And.intro hsb (And.intro hm (And.intro h3 (And.intro h3b (And.intro hbp (And.intro hp (And.intro hal (And.intro hbl hdl))))))))))
  clear hc hd ha hb har hbr hne hv hbd hs hsa hsb hm h3 h3b hbp hp hlb hal hbl hdl
  go_enter Tryz.func41, Tryz.ntmps41
  go_wp2_with fail
  refine (Con1.out).mono ?_
  rintro e w1 ⟨rfl, hF1⟩
  have a1 : w1.cell? ⟨ga, 1, none⟩ = some (.bool na) := (H0.out.2.2.1.fr hF1 (fun h => h)).cell 1
  have b1 : w1.cell? ⟨gb, 1, none⟩ = some (.bool nb) := (H0.out.2.2.2.1.fr hF1 (fun h => h)).cell 1
  have HF1 := hide hF1
  clear hF1 Con1
  go_wp2_with fail
  go_quiet (fail)
  go_wp2_with fail
  obtain ⟨gz, hgz⟩ : ∃ g, g = w1.heap.size := ⟨_, rfl⟩
  obtain ⟨W1, hW1⟩ : ∃ W, W = (w1.drewN nq).alloc (.cells #[.bool false, .slice none 0 0, .bool false] 69) := ⟨_, rfl⟩
  have hzB : Blk W1 gz 69 #[.bool false, .slice none 0 0, .bool false] := by
    rw [hW1, hgz]
    have h := Blk.new (w1.drewN nq) 69 #[.bool false, .slice none 0 0, .bool false]
    simpa using h
  have hFW : Fr w W1 (fun _ => False) := by rw [hW1]; exact (HF1.out.drewN _).alloc _
  obtain ⟨hc, hd, ha, hb, har, hbr, hne, hv, hbd⟩ := H0.out
  obtain ⟨hs, hsa, hsb, hm, h3, h3b, hbp, hp, hal, hbl, hdl⟩ := H1.out
  have hws : w.heap.size ≤ gz := by rw [hgz]; exact HF1.out.size
  have Con2 := hide (up_any ga gb gz sa sb bha bhb na nb m A B ca cb a b W1 (ha.fr hFW (fun h => h)) (hb.fr hFW (fun h => h)) (har.fr hFW (fun _ _ h => h)) (hbr.fr hFW (fun _ _ h => h)) hzB (by omega) (by omega) ((hv.fr hFW (fun _ h => h.elim)).raise (by omega)).l.v hs (by omega) (by omega) hm h3 h3b)
  rw [← hgz, ← hW1]
  have HW := hide (And.intro hFW hws)
  clear hgz hW1 hzB hFW hc hd ha hb har hbr hne hv hbd hs hsa hsb hm h3 h3b hbp hp hal hbl hdl HF1 a1 b1
  refine (Con2.out).mono ?_
  rintro e w2 ⟨P, Q, rfl, ⟨gx, ox, tx, cx, X, cxx, rfl, hBx, hx0, hx1, hxr, -⟩, ⟨gy, oy, ty, cy, Y, cyy, rfl, hBy, hy0, hy1, hyr, -⟩, hF2, hTx, hTy⟩
  obtain ⟨hc, hd, ha, hb, har, hbr, hne, hv, hbd⟩ := H0.out
  obtain ⟨hs, hsa, hsb, hm, h3, h3b, hbp, hp, hal, hbl, hdl⟩ := H1.out
  obtain ⟨a', ha'⟩ : ∃ x, x = a * 10 ^ sa := ⟨_, rfl⟩
  obtain ⟨y', hy'⟩ : ∃ x, x = b * 10 ^ sb := ⟨_, rfl⟩
  have hal' : a' < 18446744073709551616 ^ 14 := by rw [ha']; exact qi_len h3 hsa
  have hyl' : y' < 18446744073709551616 ^ 14 := by rw [hy']; exact qi_len h3b hsb
  have hy0' : 0 < y' := by rw [hy']; exact Nat.mul_pos hbp (Nat.pow_pos (by omega))
  rw [← ha'] at hxr hx1
  rw [← hy'] at hyr hy1
  have hFw2 : Fr w w2 (fun _ => False) := Fr.step HW.out.1 hF2 (fun i hi h => by have h : i = gz := h; have := HW.out.2; omega)
  have hzd : gd ≠ gz := by have := HW.out.2; omega
  have hxd : gx ≠ gd := by
    have h : (gx = ga ∨ gx = gb) ∨ gx = gz := hTx
    rcases h with (h | h) | h
    · rw [h]; exact hne.1.symm
    · rw [h]; exact hne.2.1.symm
    · rw [h]; exact hzd.symm
  have hyd : gy ≠ gd := by
    have h : (gy = ga ∨ gy = gb) ∨ gy = gz := hTy
    rcases h with (h | h) | h
    · rw [h]; exact hne.1.symm
    · rw [h]; exact hne.2.1.symm
    · rw [h]; exact hzd.symm
  have hd2 := hd.fr hFw2 (fun h => h)
  have hv2 : VarsD w2 b0 := hv.fr hFw2 (fun _ h => h.elim)
  have hlx := digs_length_le (b := 18446744073709551616) (by omega) hal'
  have hly := digs_length_le (b := 18446744073709551616) (by omega) hyl'
  have hsz2 := hFw2.size
  have con3 := bquo_gen w.heap.size gd 3 gx ox gy oy 71 (decC 0 false 0 false (.slice none 0 0) false) false false (.slice none 0 0) _ _ 0 a' y' w2 hd2 rfl rfl rfl (Own.nil _ _).room (by decide) ((hBx.cell _).trans hx0) ((hBx.cell _).trans hx1) ((hBy.cell _).trans hy0) ((hBy.cell _).trans hy1) ⟨hxd, fun h => by cases h⟩ ⟨hyd, fun h => by cases h⟩
    (fun W hW => by
      have hxW := rdw_dec hxr hd2 hW
      have hyW := rdw_dec hyr hd2 hW
      have hvW := hv2.fr hW (fun k h => by have h : k = gd := h; omega)
      exact div_any w.heap.size (.slice none 0 0) (.slice none 0 0) 0 0 y' X Y cxx cyy a' W (Own.nil _ _).room (Own.nil _ _).room (fun k hk => by cases hk) (Nat.le_trans hsz2 hW.size) (by omega) hy0' hly hxW (fun k _ => ⟨fun h => (by cases h), fun h => (by cases h)⟩) hyW (fun k _ => ⟨fun h => (by cases h), fun h => (by cases h)⟩) hvW.c (by have := hvW.b; omega))
  unfold QuB at con3
  have Con3 := hide con3
  have hqq : qq = a' / y' := by rw [ha', hy']; exact HQ.out
  rw [← hqq] at Con3
  have hqb : blen qq ≤ 1280 := by
    have h1 : qq ≤ a' := by rw [hqq]; exact Nat.div_le_self _ _
    have h2 := blen_words_le (v := qq) (k := 14) (by omega)
    omega
  have H2 := hide (And.intro (hc.fr hFw2 (fun h => h)) (And.intro hv2 (And.intro hFw2 (And.intro hqb (And.intro hne (And.intro hbd (And.intro hp hdl)))))))
  clear hc hd ha hb har hbr hne hv hbd hs hsa hsb hm h3 h3b hbp hp hal hbl hdl hBx hx0 hx1 hxr hBy hy0 hy1 hyr hF2 hTx hTy ha' hy' hal' hyl' hy0' hFw2 hzd hxd hyd hd2 hv2 hlx hly hsz2 con3 hqq hqb HW H0 H1 Con2 HQ
  go_wp2_with fail
  refine (Con3.out).mono ?_
  rintro e w3 ⟨rfl, R, cq, hown, -, hB3, hF3⟩
  have hB3' : Blk w3 gd 71 (decC 0 false 0 false (.slice R (digs 18446744073709551616 qq).length cq) false) := hB3
  have d0 : w3.cell? ⟨gd, 0, none⟩ = some (.int .i8 0) := hB3'.cell 0
  have f0 := hB3'.frozen 0
  obtain ⟨W4, hW4⟩ : ∃ W, W = w3.setCell ⟨gd, 0, none⟩ (.int .i8 0) := ⟨_, rfl⟩
  have hF34 : Fr w3 W4 (fun k => k = gd) := by rw [hW4]; exact (Fr.refl w3 (fun k => k = gd)).setCell (p := ⟨gd, 0, none⟩) (fun _ => rfl) _
  have hB4 : Blk W4 gd 71 (decC 0 false 0 false (.slice R (digs 18446744073709551616 qq).length cq) false) := by rw [hW4]; exact hB3'.set 0 _
  have hown4 := hown.fr hF34 (hown.room.ne_blk hB3' (by decide))
  have hF24 : Fr w2 W4 (fun k => k = gd) := Fr.step (hF3.mono (fun k _ h => h.elim id (fun h => by cases h))) hF34 (fun _ _ h => h)
  have hc4 := H2.out.1.fr hF24 (fun h => H2.out.2.2.2.2.1.2.2 h.symm)
  have hv4 : VarsD W4 W4.heap.size := (H2.out.2.1.fr hF24 (fun k h => by have h : k = gd := h; have := H2.out.2.2.2.2.2.1; omega)).raise (by have := H2.out.2.2.2.2.2.1; have := H2.out.2.2.2.2.2.2.2; have := H2.out.2.2.1.size; have := hF24.size; omega)
  have hFw4 : Fr w W4 (fun k => k = gd) := Fr.step (H2.out.2.2.1.mono (fun _ _ h => h.elim)) hF24 (fun _ _ h => h)
  have HK : Hid (W4.cell? ⟨gc, 0, none⟩ = some (.int .u32 (p : Int))) := hc4.cell 0
  have Con4 : Hid (∀ W, Below W4.heap.size W4 W → Calls Tryz.prog 52 #[.pointer (some ⟨gd, 0, none⟩)] W (FigP W qq)) := fun W hW =>
    dnumD_any gd _ _ R cq qq W (BigAt.dec (hB4.below hW) (RdG.below (k := .u64) hown4.rd hW)) H2.out.2.2.2.1 ((hv4.below hW).raise hW.size).l
  unfold FigP at Con4
  have H4 := hide (And.intro hB4 (And.intro hown4 (And.intro hc4 (And.intro hFw4 (And.intro hv4 (H2.out.2.2.2.2))))))
  clear hown hB3 hF3 hB3' hF34 hB4 hown4 hF24 hc4 hv4 hFw4 Con3 H2
  obtain ⟨fg, hfg⟩ : ∃ f, f = figs qq := ⟨_, rfl⟩
  rw [← hfg] at Con4
  have HFG := hide hfg
  clear hfg
  have hpw : IntKind.i64.wrap (p : Int) = (p : Int) := by have := H4.out.2.2.2.2.2.2.2.1; simp [IntKind.wrap, IntKind.signed, IntKind.bits]; omega
  go_upto_region 11 with fail
  go_wp2_with fail
  rw [← hW4]
  clear hW4 d0 f0
  rcases Nat.lt_or_ge p fg with hlt | hge
  · have g1 : (p : Int) < (fg : Int) := by omega
    have g2 : decide ((p : Int) < (fg : Int)) = true := decide_eq_true g1
    have g3 : decide (p < fg) = true := decide_eq_true hlt
    go_region_held3 (fun W => W.cell? ⟨gc, 0, none⟩ = some (.int .u32 (p : Int))) (first | exact HK.out | go_keep)
      ((go_at_call 52; refine (Con4.out _ ?_).mono ?_; exact Below.mk rfl rfl rfl (Nat.le_refl _) (fun _ _ => rfl); go_loud (rintro e5 w5 ⟨rfl, hb5⟩; have HB5 : Hid (Below W4.heap.size W4 w5) := Below.mk hb5.os hb5.tape hb5.output hb5.size hb5.block; have HK : Hid (w5.cell? ⟨gc, 0, none⟩ = some (.int .u32 (p : Int))) := (H4.out.2.2.1.below HB5.out).cell 0; clear hb5)))
    clear HK
    go_wp2_with fail
    refine (dnan_any _).mono ?_
    rintro e6 w6 ⟨gn, rfl, hgn, hBn, hb6⟩
    have hB6 := (H4.out.1.below HB5.out).below hb6
    have hown6 := (H4.out.2.1.below HB5.out).below hb6
    have hgl := (H4.out.1.below HB5.out).lt
    have hFw6 : Fr w w6 (fun k => k = gd) := Fr.step (Fr.step H4.out.2.2.2.1 (Fr.of_below HB5.out (fun _ => False)) (fun _ _ h => h.elim)) (Fr.of_below hb6 (fun _ => False)) (fun _ _ h => h.elim)
    have hc6 := (H4.out.2.2.1.below HB5.out).below hb6
    have Con7 := hide (dset_any w.heap.size gd gn 0 false 0 false _ false 3 false 0 false (.slice none 0 0) false _ [] w6 hB6 hown6.room hBn (Own.nil w6 0).rd (fun k hk => by cases hk) (by omega) hFw6.size (by simp))
    have H6 := hide (And.intro hown6 (And.intro hFw6 (And.intro hc6 hB6)))
    clear hB6 hown6 hgl hFw6 hc6 hgn hBn hb6 HB5
    go_wp2_with fail
    refine (Con7.out).mono ?_
    rintro e7 w7 ⟨rfl, A7, c7, ho7, -, hB7, hF7⟩
    have hF67 : Fr w6 w7 (fun k => k = gd ∨ w.heap.size ≤ k) := hF7.mono (fun k _ h => h.imp id (fun h => (H6.out.1.lt h).1))
    have d1 : w7.cell? ⟨gd, 2, none⟩ = some (.int .i32 0) := hB7.cell 2
    have f1 := hB7.frozen 2
    obtain ⟨W8, hW8⟩ : ∃ W, W = w7.setCell ⟨gd, 2, none⟩ (.int .i32 0) := ⟨_, rfl⟩
    have hB8 : Blk W8 gd 71 (decC 3 false 0 false (.slice A7 0 c7) false) := by rw [hW8]; exact hB7.set 2 _
    have hF78 : Fr w7 W8 (fun k => k = gd) := by rw [hW8]; exact (Fr.refl w7 (fun k => k = gd)).setCell (p := ⟨gd, 2, none⟩) (fun _ => rfl) _
    have d2 : W8.cell? ⟨gd, 1, none⟩ = some (.bool false) := hB8.cell 1
    have f2 := hB8.frozen 1
    obtain ⟨W9, hW9⟩ : ∃ W, W = W8.setCell ⟨gd, 1, none⟩ (.bool (!(na == nb))) := ⟨_, rfl⟩
    have hB9 : Blk W9 gd 71 (decC 3 (!(na == nb)) 0 false (.slice A7 0 c7) false) := by rw [hW9]; exact hB8.set 1 _
    have hF89 : Fr W8 W9 (fun k => k = gd) := by rw [hW9]; exact (Fr.refl W8 (fun k => k = gd)).setCell (p := ⟨gd, 1, none⟩) (fun _ => rfl) _
    have hF79 : Fr w7 W9 (fun k => k = gd) := hF78.trans hF89
    have ho7' : Own w7 w.heap.size (.slice A7 0 c7) [] := ho7
    have hB7' : Blk w7 gd 71 (decC 3 false 0 false (.slice A7 0 c7) false) := hB7
    have ho9 : Own W9 w.heap.size (.slice A7 0 c7) [] := ho7'.fr hF79 (ho7'.room.ne_blk hB7' (by decide))
    have hF69 : Fr w6 W9 (fun k => k = gd ∨ w.heap.size ≤ k) := Fr.step hF67 hF79 (fun _ _ h => .inl h)
    have hFw9 : Fr w W9 (fun k => k = gd) := Fr.step H6.out.2.1 hF69 (fun k hk h => h.elim id (fun h => by omega))
    have hgcl := H6.out.2.2.1.lt
    have hc9 : Blk W9 gc 125 (ctxP p s) := by
      refine ((H6.out.2.2.1.fr hF7 (fun h => ?_)).fr hF79 (fun h => H4.out.2.2.2.2.2.1.2.2 h.symm))
      rcases h with h | h
      · exact H4.out.2.2.2.2.2.1.2.2 h.symm
      · exact H6.out.1.room.ne_blk H6.out.2.2.1 (by decide) gc h rfl
    have Con9 := hide (goerr_imp gc p s W9 hc9)
    have HF : Hid (QiP w gd p (na != nb) qq (.returned (.tuple #[.int .u32 512, .nilIface])) W9) := by
      refine ⟨fun h => ?_, fun _ => ⟨rfl, A7, c7, hB9, ho9.rd⟩, hFw9⟩
      have := HFG.out
      omega
    clear hF67 hB8 hF78 hB9 hF89 hF79 ho7 ho7' hB7 hB7' ho9 hF69 hFw9 hgcl hc9 H6 Con7 hF7
    go_upto_region 16 with fail
    rw [← hW8]
    clear hW8 d1 f1
    go_wp2_with fail
    rw [← hW9]
    clear hW9 d2 f2
    refine (Con9.out).mono ?_
    rintro e w10 ⟨rfl, rfl⟩
    go_wp2
    go_ret2
    exact HF.out
  · have g1 : ¬ (p : Int) < (fg : Int) := by omega
    have g2 : decide ((p : Int) < (fg : Int)) = false := decide_eq_false g1
    have g3 : decide (p < fg) = false := decide_eq_false (by omega)
    go_region_held3 (fun W => W.cell? ⟨gc, 0, none⟩ = some (.int .u32 (p : Int))) (first | exact HK.out | go_keep)
      ((go_at_call 52; refine (Con4.out _ ?_).mono ?_; exact Below.mk rfl rfl rfl (Nat.le_refl _) (fun _ _ => rfl); go_loud (rintro e5 w5 ⟨rfl, hb5⟩; have HB5 : Hid (Below W4.heap.size W4 w5) := Below.mk hb5.os hb5.tape hb5.output hb5.size hb5.block; have HK : Hid (w5.cell? ⟨gc, 0, none⟩ = some (.int .u32 (p : Int))) := (H4.out.2.2.1.below HB5.out).cell 0; clear hb5)))
    clear HK
    have hB6 := H4.out.1.below HB5.out
    have hown6 := H4.out.2.1.below HB5.out
    have hFw6 : Fr w w5 (fun k => k = gd) := Fr.step H4.out.2.2.2.1 (Fr.of_below HB5.out (fun _ => False)) (fun _ _ h => h.elim)
    have d1 : w5.cell? ⟨gd, 2, none⟩ = some (.int .i32 0) := hB6.cell 2
    have f1 := hB6.frozen 2
    obtain ⟨W8, hW8⟩ : ∃ W, W = w5.setCell ⟨gd, 2, none⟩ (.int .i32 0) := ⟨_, rfl⟩
    have hB8 : Blk W8 gd 71 (decC 0 false 0 false (.slice R (digs 18446744073709551616 qq).length cq) false) := by rw [hW8]; exact hB6.set 2 _
    have hF78 : Fr w5 W8 (fun k => k = gd) := by rw [hW8]; exact (Fr.refl w5 (fun k => k = gd)).setCell (p := ⟨gd, 2, none⟩) (fun _ => rfl) _
    have d2 : W8.cell? ⟨gd, 1, none⟩ = some (.bool false) := hB8.cell 1
    have f2 := hB8.frozen 1
    obtain ⟨W9, hW9⟩ : ∃ W, W = W8.setCell ⟨gd, 1, none⟩ (.bool (!(na == nb))) := ⟨_, rfl⟩
    have hB9 : Blk W9 gd 71 (decC 0 (!(na == nb)) 0 false (.slice R (digs 18446744073709551616 qq).length cq) false) := by rw [hW9]; exact hB8.set 1 _
    have hF89 : Fr W8 W9 (fun k => k = gd) := by rw [hW9]; exact (Fr.refl W8 (fun k => k = gd)).setCell (p := ⟨gd, 1, none⟩) (fun _ => rfl) _
    have hF79 : Fr w5 W9 (fun k => k = gd) := hF78.trans hF89
    have ho9 := hown6.fr hF79 (hown6.room.ne_blk hB6 (by decide))
    have HF : Hid (QiP w gd p (na != nb) qq (.returned (.tuple #[.int .u32 0, .nilIface])) W9) := by
      refine ⟨fun _ => ⟨rfl, R, cq, ho9, hB9⟩, fun h => ?_, hFw6.trans hF79⟩
      have := HFG.out
      omega
    clear hB6 hown6 hFw6 hB8 hF78 hB9 hF89 hF79 ho9 HB5
    go_upto_region 16 with fail
    rw [← hW8]
    clear hW8 d1 f1
    go_wp2_with fail
    rw [← hW9]
    clear hW9 d2 f2
    refine (goerr_none gc _).mono ?_
    rintro e w10 ⟨rfl, rfl⟩
    go_wp2
    go_ret2
    exact HF.out
end Go.Proofs.YtfkcobdkgjhfaaaGreatDoor

/- Walks: what the thin package's QuoInteger calls: context, conditions, told of no number. -/
set_option linter.unusedVariables false
set_option linter.unusedSimpArgs false
namespace Go.Proofs.YtfkcobdkgjhfaaaGreatDoor
open Go.RowKit

set_option maxHeartbeats 2000000 in
theorem context_figs (q k : Nat) (hq : q ≤ 100) (hk : k < 8) (w : World) : Calls Tryz.prog 40 #[.agg #[.int .u64 (q : Int), .int .i64 100000, .int .i64 (-100000), .int .i64 (k : Int)]] w fun e w' => (∃ g s, e = .returned (.pointer (some ⟨g, 0, none⟩)) ∧ w.heap.size ≤ g ∧ Blk w' g 125 (ctxP q s)) ∧ Below w.heap.size w w' := by
  obtain ⟨g, hg⟩ : ∃ g, g = w.heap.size := ⟨_, rfl⟩
  obtain ⟨W0, hW0⟩ : ∃ W, W = w.alloc (.cells #[.int .u64 (q : Int), .int .i64 100000, .int .i64 (-100000), .int .i64 (k : Int)] 48) := ⟨_, rfl⟩
  have hb : Blk W0 g 48 #[.int .u64 (q : Int), .int .i64 100000, .int .i64 (-100000), .int .i64 (k : Int)] := by rw [hW0, hg]; exact Blk.new _ _ _
  obtain ⟨c0, c1, c2, c3⟩ := hb.dec4
  have HS : Hid (Below w.heap.size w W0 ∧ Blk W0 g 48 #[.int .u64 (q : Int), .int .i64 100000, .int .i64 (-100000), .int .i64 (k : Int)]) := ⟨by rw [hW0]; exact below_al (Below.refl _ _) _, hb⟩
  have Con := hide (fun W => rounder_some k hk W)
  have hq1 : IntKind.u32.wrap (q : Int) = (q : Int) := by simp [IntKind.wrap, IntKind.signed, IntKind.bits]; omega
  clear hb c0 c1 c2 c3
  go_enter Tryz.func40, Tryz.ntmps40
  go_wp2_with fail
  rw [← hW0, ← hg]
  clear hW0 hg
  go_region_held3 (fun W => (W.cell? ⟨g, 0, none⟩ = some (.int .u64 (q : Int)) ∧ W.cell? ⟨g, 1, none⟩ = some (.int .i64 100000) ∧ W.cell? ⟨g, 2, none⟩ = some (.int .i64 (-100000)) ∧ W.cell? ⟨g, 3, none⟩ = some (.int .i64 (k : Int)))) (first | exact HS.out.2.dec4 | exact (HS.out.2.alloc _).dec4 | go_keep)
    ((go_at_call 69; go_loud (refine (Con.out _).mono ?_; rintro e w1 ⟨⟨s, rfl⟩, rfl⟩)))
  all_goals go_wp2
  all_goals go_ret
  all_goals exact ⟨⟨_, s, rfl, HS.out.1.size, Blk.drew (Blk.new W0 _ _)⟩, below_dr (below_al HS.out.1 _)⟩
theorem cond_idxI (i : Nat) (hi : i < 12) (h7 : i ≠ 7) : ∃ c : Int, (∀ W : World, (Instr.index 133 (.agg #[.int .u32 4, .int .u32 8, .int .u32 16, .int .u32 32, .int .u32 64, .int .u32 128, .int .u32 256, .int .u32 512, .int .u32 1024, .int .u32 2048, .int .u32 1, .int .u32 2]) (.int .i64 (i : Int))).run Tryz.prog W = .ok (.int .u32 c) W) ∧ bits .and .u32 512 c = 0 := by
  have h : i = 0 ∨ i = 1 ∨ i = 2 ∨ i = 3 ∨ i = 4 ∨ i = 5 ∨ i = 6 ∨ i = 8 ∨ i = 9 ∨ i = 10 ∨ i = 11 := by omega
  rcases h with rfl | rfl | rfl | rfl | rfl | rfl | rfl | rfl | rfl | rfl | rfl
  · exact ⟨_, cond_idx0, rfl⟩
  · exact ⟨_, cond_idx1, rfl⟩
  · exact ⟨_, cond_idx2, rfl⟩
  · exact ⟨_, cond_idx3, rfl⟩
  · exact ⟨_, cond_idx4, rfl⟩
  · exact ⟨_, cond_idx5, rfl⟩
  · exact ⟨_, cond_idx6, rfl⟩
  · exact ⟨_, cond_idx8, rfl⟩
  · exact ⟨_, cond_idx9, rfl⟩
  · exact ⟨_, cond_idx10, rfl⟩
  · exact ⟨_, cond_idx11, rfl⟩

/-- Division is impossible. -/
theorem conditions_imp (w : World) : Calls Tryz.prog 42 #[.int .u32 512] w fun e w' => e = .returned (.int .i64 128) ∧ w = w' := by
  go_enter Tryz.func42, Tryz.ntmps42
  go_wp2_with fail
  go_loopw [3, 7] (fun vo vi wr => ∃ (i : Nat) (v : Int), i ≤ 12 ∧ vi = .int .i64 (i : Int) ∧ vo = .int .i64 v ∧ Hid ((i ≤ 7 → v = 0) ∧ (7 < i → v = 128)) ∧ wr = w) (fun _ vi _ => match vi with | .int _ i => 12 - i.toNat | _ => 0)
  case atStart => exact ⟨0, 0, by omega, rfl, rfl, ⟨fun _ => rfl, fun h => by omega⟩, rfl⟩
  case round =>
    obtain ⟨i, v, hi, rfl, rfl, h0, rfl⟩ := hrel
    by_cases h : i = 12
    · subst h
      obtain rfl := h0.out.2 (by omega)
      clear h0
      go_wp2
      go_ret
      exact ⟨rfl, rfl⟩
    · by_cases h7 : i = 7
      · subst h7
        obtain rfl := h0.out.1 (by omega)
        clear h0
        have hc := cond_idx7
        go_wp2
        go_roundw
        case rel => exact ⟨8, 128, by omega, rfl, rfl, ⟨fun h => by omega, fun _ => rfl⟩, by first | rfl | trivial⟩
        case measure => show _ < _; decide
      · obtain ⟨c, hc, hand⟩ := cond_idxI i (by omega) h7
        have hlt : (i : Int) < 12 := by omega
        have hw : IntKind.i64.wrap ((i : Int) + 1) = ((i + 1 : Nat) : Int) := by simp [IntKind.wrap, IntKind.signed, IntKind.bits]; omega
        go_wp2
        go_roundw
        case rel => exact ⟨i + 1, v, by omega, rfl, rfl, ⟨fun h => h0.out.1 (by omega), fun h => h0.out.2 (by omega)⟩, by first | rfl | trivial⟩
        case measure => show 12 - ((i : Int) + 1).toNat < 12 - (i : Int).toNat; omega
set_option maxHeartbeats 1000000 in
theorem told_nan (g : Nat) (neg : Bool) (exp : Int) (vneg minus : Bool) (v : Value) (w : World) (hd : Blk w g 71 (decC 3 neg exp vneg v minus)) :
    Calls Tryz.prog 30 #[.pointer (some ⟨g, 0, none⟩)] w fun e w' => e = .returned (.agg #[.int .i64 3, .bool neg, .slice none 0 0, .int .i64 0]) ∧ Below w.heap.size w w' := by
  have c0 : w.cell? ⟨g, 0, none⟩ = some (.int .i8 3) := hd.cell 0
  have c1 : w.cell? ⟨g, 1, none⟩ = some (.bool neg) := hd.cell 1
  have hg : g < w.heap.size := hd.lt
  have HD := hide hd
  clear hd
  go_enter Tryz.func30, Tryz.ntmps30
  go_wp2_with fail
  have hn := Blk.new w 24 #[.int .i64 3, .bool neg, .slice none 0 0, .int .i64 0]
  have hn2 := hn.alloc (.cells #[.int .i64 3, .bool neg, .slice none 0 0, .int .i64 0] 24)
  exact bodyPost_ret (told_result w.heap.size _ rfl _ (.int .i64 3) (.bool neg) (.slice none 0 0) (.int .i64 0) (hn2.cell 0) (hn2.cell 1) (hn2.cell 2) (hn2.cell 3)) rfl ⟨rfl, below_al (below_al (Below.refl _ _) _) _⟩
end Go.Proofs.YtfkcobdkgjhfaaaGreatDoor
