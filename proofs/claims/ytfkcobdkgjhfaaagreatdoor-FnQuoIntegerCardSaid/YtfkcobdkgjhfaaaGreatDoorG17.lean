/- Parts of the proofs: KnLgM, KnMavP, KnMem2. -/
import Derived.Test.YtfkcobdkgjhfaaaGreatDoorG8
import Derived.Test.YtfkcobdkgjhfaaaGreatDoorG10
import Derived.Test.YtfkcobdkgjhfaaaGreatDoorG12
import Derived.Test.YtfkcobdkgjhfaaaGreatDoorG15
import Derived.Test.YtfkcobdkgjhfaaaGreatDoorG16
/- Plain: what nat.divLarge holds once both operands are laid out, and its end. No program in sight. -/
set_option linter.unusedVariables false
set_option linter.unusedSimpArgs false
namespace Go.Proofs.YtfkcobdkgjhfaaaGreatDoor
open Go.RowKit

/-- Both operands are laid out, shifted by s. -/
def LgM (w : World) (gv gu n lu s a y : Nat) (Sv Su : List Value) (W : World) : Prop :=
  ∃ vs us0, vs.length = n ∧ us0.length = lu + 1 ∧ Dig 18446744073709551616 vs ∧ Dig 18446744073709551616 us0 ∧ dval 18446744073709551616 vs = y * 2 ^ s ∧ dval 18446744073709551616 us0 = a * 2 ^ s ∧ 9223372036854775808 ≤ vs.getD (n - 1) 0 ∧ us0.getD lu 0 < vs.getD (n - 1) 0 ∧
    Blk W gv 145 (wv vs ++ Sv).toArray ∧ Blk W gu 145 (wv us0 ++ Su).toArray ∧ Fr w W (fun k => k = gv ∨ k = gu)

theorem words_src {w : World} {g o : Nat} {xs : List Nat} (h : WordsAt w g o xs) : ∀ j v, (wv xs)[j]? = some v → w.cell? ((⟨g, o, none⟩ : Addr).add j) = some v := by
  intro j v hv
  rw [wv_at] at hv
  obtain ⟨d, hd, rfl⟩ := Option.map_eq_some_iff.1 hv
  have hj := (List.getElem?_eq_some_iff.1 hd).1
  have := h j hj
  rw [getD_at hj, (List.getElem?_eq_some_iff.1 hd).2] at this
  exact (by unfold Addr.add; split <;> simp_all)

theorem dig_top {y n1 : Nat} (h : (digs 18446744073709551616 y).length = n1 + 1) : 0 < (digs 18446744073709551616 y).getD n1 0 := by
  rcases Nat.eq_zero_or_pos ((digs 18446744073709551616 y).getD n1 0) with h0 | h0
  · exfalso
    have hc := canon_digs (b := 18446744073709551616) (by omega) y
    unfold Canon at hc
    rw [List.getLast?_eq_getElem?, h, Nat.add_sub_cancel, List.getElem?_eq_getElem (by omega), ← getD_at (by omega), h0] at hc
    exact hc rfl
  · exact h0

theorem lgm_sh {w W : World} {gv gu n n1 lu s a y qu : Nat} {Sv Su : List Value} (hn : n = n1 + 1) (hy : n = (digs 18446744073709551616 y).length) (hlu : lu = (digs 18446744073709551616 a).length) (hlu1 : 1 ≤ lu) (hs : s = nlzN ((digs 18446744073709551616 y).getD n1 0))
    (hv : Blk W gv 145 (wv (shv s (digs 18446744073709551616 y)) ++ Sv).toArray) (hu : Blk W gu 145 (wv (shv s (digs 18446744073709551616 a)) ++ Value.int .u64 (qu : Int) :: Su).toArray) (hq : qu = shc s (digs 18446744073709551616 a)) (hf : Fr w W (fun k => k = gv ∨ k = gu)) : LgM w gv gu n lu s a y Sv Su W := by
  have hyl : (digs 18446744073709551616 y).length = n1 + 1 := by omega
  have hdy := dig_digs (b := 18446744073709551616) (by omega) y
  have hda := dig_digs (b := 18446744073709551616) (by omega) a
  have hsp := nlz_spec _ (dig_top hyl) (dig_getD (by omega) hdy n1)
  rw [← hs] at hsp
  obtain ⟨h1, h2⟩ := lg_sh hyl hdy hsp.1 hsp.2.1 hsp.2.2
  have hql : qu < 2 ^ s := by rw [hq]; exact shc_lt (by omega) hda (by omega)
  have hp : (2 : Nat) ^ s ≤ 2 ^ 63 := Nat.pow_le_pow_right (by omega) hsp.1
  have e63 : (2 : Nat) ^ 63 = 9223372036854775808 := rfl
  have en : n - 1 = n1 := by omega
  refine ⟨shv s (digs 18446744073709551616 y), shv s (digs 18446744073709551616 a) ++ [qu], by rw [shv_length]; omega, by rw [List.length_append, shv_length]; simp; omega, shv_dig _ _, dig_append (shv_dig _ _) (fun e he => by simp at he; omega), by rw [h1, dval_digs (by omega)], by rw [hq, shv_val, dval_digs (by omega)], by rw [en]; exact h2, ?_, hv, by simpa [wv] using hu, hf⟩
  have e2 : lu = (shv s (digs 18446744073709551616 a)).length := by rw [shv_length]; exact hlu
  rw [e2, getD_snoc, en]
  omega
theorem lgm_zero {w W : World} {gv gu n n1 lu a y : Nat} {Sv Su : List Value} (hn : n = n1 + 1) (hy : n = (digs 18446744073709551616 y).length) (hlu : lu = (digs 18446744073709551616 a).length) (hs : 0 = nlzN ((digs 18446744073709551616 y).getD n1 0))
    (hv : Blk W gv 145 (wv (digs 18446744073709551616 y) ++ Sv).toArray) (hu : Blk W gu 145 (wv (digs 18446744073709551616 a) ++ Value.int .u64 0 :: Su).toArray) (hf : Fr w W (fun k => k = gv ∨ k = gu)) : LgM w gv gu n lu 0 a y Sv Su W := by
  have hyl : (digs 18446744073709551616 y).length = n1 + 1 := by omega
  have hdy := dig_digs (b := 18446744073709551616) (by omega) y
  have hda := dig_digs (b := 18446744073709551616) (by omega) a
  have hsp := nlz_spec _ (dig_top hyl) (dig_getD (by omega) hdy n1)
  rw [← hs] at hsp
  have en : n - 1 = n1 := by omega
  refine ⟨digs 18446744073709551616 y, digs 18446744073709551616 a ++ [0], hy.symm, by rw [List.length_append, hlu]; rfl, hdy, dig_append hda (fun e he => by simp at he; omega), by rw [dval_digs (by omega)]; simp, by rw [dval_append, dval_digs (by omega), dval_cons, dval_nil]; simp, by rw [en]; have := hsp.2.1; simpa using this, ?_, hv, by simpa [wv] using hu, hf⟩
  rw [hlu, getD_snoc, en]
  have := hsp.2.1
  simp at this
  omega
theorem lgm_lt {n n1 lu s a y : Nat} {vs us0 : List Nat} (hn : n = n1 + 1) (hy : n = (digs 18446744073709551616 y).length) (hlu : lu = (digs 18446744073709551616 a).length) (hle : n ≤ lu) (hul : us0.length = lu + 1) (hv : dval 18446744073709551616 vs = y * 2 ^ s) (hu : dval 18446744073709551616 us0 = a * 2 ^ s) :
    dval 18446744073709551616 (us0.drop (lu - n + 1)) < dval 18446744073709551616 vs := by
  refine lg_lt (m := lu - n + 1) (n := n) (by omega) (by omega) (by omega) hu ?_ ?_ hv rfl
  · have h := dval_lt (b := 18446744073709551616) (by omega) (dig_digs (b := 18446744073709551616) (by omega) a)
    rw [dval_digs (by omega), ← hlu] at h
    rw [show lu - n + 1 + n - 1 = lu by omega]
    exact h
  · have h1 := dig_top (y := y) (n1 := n1) (by omega)
    have h3 := dval_split 18446744073709551616 n1 (digs 18446744073709551616 y) (by omega)
    rw [dval_drop1, dval_digs (by omega)] at h3
    rw [hn, Nat.add_sub_cancel]
    have h4 : 18446744073709551616 ^ n1 * 1 ≤ 18446744073709551616 ^ n1 * ((digs 18446744073709551616 y).getD n1 0 + 18446744073709551616 * dval 18446744073709551616 ((digs 18446744073709551616 y).drop (n1 + 1))) := Nat.mul_le_mul_left _ (by omega)
    omega

theorem lgm_end {w w5 : World} {gv gu n lu s a y qu cu2 : Nat} {vs xs : List Nat} {Sv : List Value} {cu3 : Array Value} (hxl : xs.length = lu) (hcu : cu3.size = cu2) (hle : lu + 1 ≤ cu2) (hne : gu ≠ gv) (hB4 : Blk w5 gv 145 (wv vs ++ Sv).toArray) (hB5 : Blk w5 gu 145 (wv xs ++ cu3.toList.drop lu).toArray) (hF : Fr w w5 (fun k => k = gv ∨ k = gu))
    (fin : ∀ W, Blk W gv 145 (wv vs ++ Sv).toArray → Blk W gu 145 (wv xs ++ Value.int .u64 (qu : Int) :: cu3.toList.drop (lu + 1)).toArray → Fr w W (fun k => k = gv ∨ k = gu) → LgM w gv gu n lu s a y Sv (cu3.toList.drop (lu + 1)) W) :
    ∃ u0, w5.cell? ⟨gu, lu, none⟩ = some u0 ∧ w5.frozen? ⟨gu, lu, none⟩ = false ∧ LgM w gv gu n lu s a y Sv (cu3.toList.drop (lu + 1)) (w5.setCell ⟨gu, lu, none⟩ (.int .u64 (qu : Int))) := by
  have hlt : lu < cu3.toList.length := by rw [Array.length_toList]; omega
  rw [List.drop_eq_getElem_cons hlt] at hB5
  obtain ⟨xc, xf, xset⟩ := hB5.part (i := lu) (by rw [wv_length]; exact hxl.symm)
  exact ⟨_, xc, xf, fin _ (hB4.far (p := ⟨gu, lu, none⟩) (Ne.symm hne) _) (xset _) (hF.setCell (p := ⟨gu, lu, none⟩) (fun _ => .inr rfl) _)⟩

/-- The end: quotient and rest stand in their rows. -/
theorem lg_fin {w w8 w9 : World} {base a y gv gu gq : Nat} {z z2 : Value} {Q R : Option Addr} {nq nr cq cr : Nat} {qk us : List Nat} (hgv : w.heap.size ≤ gv) (hgu : z2.ownBlock = some gu ∨ w.heap.size ≤ gu) (hgq : z.ownBlock = some gq ∨ w.heap.size ≤ gq) (hne : gq ≠ gu)
    (hf8 : Fr w w8 (fun k => (k = gv ∨ k = gu) ∨ k = gq)) (hf9 : Fr w8 w9 (fun k => k = gu)) (hnq : nq = (trimz qk).length) (hnr : nr = (trimz us).length) (hq : Own w8 base (.slice Q nq cq) (trimz qk)) (hqb : (Value.slice Q nq cq).ownBlock = some gq) (hr : Own w9 base (.slice R nr cr) (trimz us)) (hrb : (Value.slice R nr cr).ownBlock = some gu)
    (eq : trimz qk = digs 18446744073709551616 (a / y)) (er : trimz us = digs 18446744073709551616 (a % y)) : QrP w base z z2 a y (.returned (.tuple #[.slice Q nq cq, .slice R nr cr])) w9 := by
  subst hnq hnr
  rw [eq] at hq hqb ⊢
  rw [er] at hr hrb ⊢
  refine ⟨Q, R, cq, cr, rfl, hq.fr hf9 (fun k hk h => ?_), hr, ?_, ?_, fun k h1 h2 => ?_, Fr.step (hf8.mono (fun k hk h => ?_)) hf9 (fun k hk h => ?_)⟩
  · rw [hqb] at hk; injection hk with hk; exact hne (hk.trans h)
  · rcases hgq with h | h
    · exact .inl (hqb.trans h.symm)
    · exact .inr ⟨gq, hqb, h⟩
  · rcases hgu with h | h
    · exact .inl (hrb.trans h.symm)
    · exact .inr ⟨gu, hrb, h⟩
  · rw [hqb] at h1; rw [hrb] at h2; injection h1 with h1; injection h2 with h2; exact hne (h1.trans h2.symm)
  · rcases h with (h | h) | h
    · omega
    · subst h; exact .inr (hgu.resolve_right (by omega))
    · subst h; exact .inl (hgq.resolve_right (by omega))
  · have h : k = gu := h
    subst h
    exact .inr (hgu.resolve_right (by omega))
end Go.Proofs.YtfkcobdkgjhfaaaGreatDoor

/- Walk: mulAddVWW into a row behind its factor, in one block. -/
set_option linter.unusedVariables false
set_option linter.unusedSimpArgs false
namespace Go.Proofs.YtfkcobdkgjhfaaaGreatDoor
open Go.RowKit

set_option maxHeartbeats 1000000 in
set_option maxRecDepth 20000 in
/-- x lies ahead of z in z's own block. -/
theorem mavpg_any (g o n c1 a d : Nat) (P S us : List Value) (c : Nat) (xs : List Nat) (w : World) (hb : Blk w g 145 (P ++ us ++ S).toArray) (ho : o = P.length) (hu : us.length = xs.length) (hn : n = xs.length) (hnb : n ≤ 1099511627776) (hc1 : n ≤ c1)
    (hx : ∃ pad, P = wv xs ++ pad) (ha : a < 18446744073709551616) (hd : d < 18446744073709551616) (hdx : Dig 18446744073709551616 xs) :
    Calls Tryz.prog 236 #[.slice (some ⟨g, o, none⟩) n c1, .slice (some ⟨g, 0, none⟩) n c, .int .u64 (d : Int), .int .u64 (a : Int)] w (AmP w g a d P S (List.replicate n 0) xs) := by
  have HS0 : Hid (AmS w g a d 0 P S us (List.replicate n 0) xs a w) := ⟨rfl, by simpa [amul, wv] using hb, Fr.refl _ _⟩
  have hx2 : ∀ k q W, k < n → AmS w g a d k P S us (List.replicate n 0) xs q W → W.cell? ⟨g, k, none⟩ = some (.int .u64 (xs.getD k 0 : Nat)) := by
    intro k q W hk hS
    obtain ⟨pad, hpad⟩ := hx
    have hB := hS.blk
    rw [hpad] at hB
    rw [hB.cell, List.getElem?_toArray, List.append_assoc, List.append_assoc, List.append_assoc, List.getElem?_append_left (by rw [wv_length]; omega), wv_at, List.getElem?_eq_getElem (by omega), getD_at (by omega)]
    rfl
  have HX := hide hx2
  have HZ := hide (And.intro ho (And.intro hu (And.intro hn hdx)))
  have fin : ∀ (q : Nat) (W : World), AmS w g a d n P S us (List.replicate n 0) xs q W → AmP w g a d P S (List.replicate n 0) xs (.returned (.int .u64 (q : Int))) W := by
    intro q W h
    have e1 : (List.replicate n 0).take n = List.replicate n 0 := List.take_of_length_le (by simp)
    have e2 : xs.take n = xs := List.take_of_length_le (by omega)
    have e3 : us.drop n = [] := List.drop_of_length_le (by omega)
    have h1 := h.carry
    have h2 := h.blk
    rw [e1, e2] at h1 h2
    rw [e3] at h2
    exact ⟨q, rfl, h1, by simpa [wv] using h2, h.fr⟩
  have Fin := hide fin
  clear hb hx hx2 fin ho hu hn hdx
  go_enter Tryz.func236, Tryz.ntmps236
  go_wp2
  go_loopw [8, 19] (fun vc vi wr => ∃ (k q : Nat), k ≤ n ∧ vi = .int .i64 (k : Int) ∧ vc = .int .u64 (q : Int) ∧ q < 18446744073709551616 ∧ Hid (AmS w g a d k P S us (List.replicate n 0) xs q wr)) (fun _ vi _ => n - (intOf vi).toNat)
  case atStart => exact ⟨0, a, Nat.zero_le _, by go_num, rfl, ha, HS0⟩
  case round =>
    obtain ⟨k, q, hk, rfl, rfl, hq, HR⟩ := hrel
    by_cases hlt : k < n
    · have hcx := HX.out k q wr hlt HR.out
      obtain ⟨⟨u, _, hcz⟩, hfz, hst⟩ := HR.out.step HZ.out.1 HZ.out.2.1 (by simp [HZ.out.2.2.1]) (by rw [← HZ.out.2.2.1]; exact hlt)
      have hxl : xs.getD k 0 < 18446744073709551616 := HZ.out.2.2.2 _ (by rw [getD_at (by have := HZ.out.2.2.1; omega)]; exact List.getElem_mem _)
      have hz0 : (List.replicate n 0).getD k 0 = 0 := by simp [List.getD_eq_getElem?_getD, hlt]
      have HST := hide hst
      rw [hz0] at HST
      clear hst hz0
      generalize xs.getD k 0 = x at hcx hxl HST
      have Con := hide (maww_any x d q hxl hd hq wr)
      clear HS0 Fin HR HX
      go_wp2_with fail
      refine (Con.out).mono ?_
      rintro e w3 ⟨h, l, rfl, hp, rfl⟩
      have hp2 : l = (0 + x * d + q) % 18446744073709551616 ∧ h = (0 + x * d + q) / 18446744073709551616 := by rw [Nat.zero_add]; exact ⟨hp.out.2, hp.out.1⟩
      have HN := hide (HST.out l h hp2)
      have hml : h < 18446744073709551616 := by rw [hp.out.1]; have := mul_word_bound hxl hd hq; omega
      clear hp hp2 HST Con hxl
      go_wp2
      go_roundw
      case rel => exact ⟨k + 1, h, by omega, by go_num, rfl, hml, HN⟩
      case measure => simp [intOf]; omega
    · obtain rfl : k = n := by omega
      have HF := hide (Fin.out q wr HR.out)
      clear HS0 HR Fin HX
      go_wp2
      go_ret
      exact HF.out
theorem mavp_any (g o n c1 a d : Nat) (P S us : List Value) (c : Nat) (xs : List Nat) (w : World) (hb : Blk w g 145 (P ++ us ++ S).toArray) (ho : o = P.length) (hu : us.length = xs.length) (hn : n = xs.length) (hnb : n ≤ 1099511627776) (hc1 : n ≤ c1)
    (hx : ∃ pad, P = wv xs ++ pad) (ha : a < 18446744073709551616) (hd : d < 18446744073709551616) (hdx : Dig 18446744073709551616 xs) :
    Calls Tryz.prog 202 #[.slice (some ⟨g, o, none⟩) n c1, .slice (some ⟨g, 0, none⟩) n c, .int .u64 (d : Int), .int .u64 (a : Int)] w (AmP w g a d P S (List.replicate n 0) xs) := by
  have Con := hide (mavpg_any g o n c1 a d P S us c xs w hb ho hu hn hnb hc1 hx ha hd hdx)
  clear hb ho hu hn hx hdx
  go_enter Tryz.func202, Tryz.ntmps202
  go_wp2_with fail
  refine (Con.out).mono ?_
  rintro e w1 ⟨q, rfl, h⟩
  have Fin : Hid (AmP w g a d P S (List.replicate n 0) xs (.returned (.int .u64 (q : Int))) w1) := ⟨q, rfl, h⟩
  clear h Con
  go_wp2
  go_ret
  exact Fin.out
end Go.Proofs.YtfkcobdkgjhfaaaGreatDoor

/- What a round of the division by many words holds in memory: as KnMem, but the product's row may lie behind the divisor in one block. -/
set_option linter.unusedVariables false
set_option linter.unusedSimpArgs false
namespace Go.Proofs.YtfkcobdkgjhfaaaGreatDoor
open Go.RowKit

/-- The rows of a round. -/
structure KnX (w : World) (gu gv gq gh oh n cv : Nat) (vs : List Nat) (Su Sq Ph Sh qa : List Value) (k : Nat) (us qk : List Nat) (hl : List Value) (W : World) : Prop where
  u : Blk W gu 145 (wv us ++ Su).toArray
  q : Blk W gq 145 (qa.take k ++ wv qk ++ Sq).toArray
  h : Blk W gh 145 (Ph ++ hl ++ Sh).toArray
  v : RdW W (.slice (some ⟨gv, 0, none⟩) n cv) vs
  fr : Fr w W (fun k => k = gu ∨ k = gq ∨ k = gh)
/-- The rows lie apart; the product's row behind the divisor, if in its block. -/
structure KnY (gu gv gq gh oh : Nat) (vs : List Nat) (Ph : List Value) : Prop where
  uq : gu ≠ gq
  uv : gu ≠ gv
  qv : gq ≠ gv
  uh : gu ≠ gh
  qh : gq ≠ gh
  o : oh = Ph.length
  p : gv = gh → ∃ pad, Ph = wv vs ++ pad

theorem knx_v {W W' : World} {gv gh n cv : Nat} {vs : List Nat} {Ph row Sh : List Value} (hv : RdW W (.slice (some ⟨gv, 0, none⟩) n cv) vs) (hf : Fr W W' (fun k => k = gh)) (hB : Blk W' gh 145 (Ph ++ row ++ Sh).toArray) (hp : gv = gh → ∃ pad, Ph = wv vs ++ pad) : RdW W' (.slice (some ⟨gv, 0, none⟩) n cv) vs := by
  by_cases h : gv = gh
  · obtain ⟨pad, hpad⟩ := hp h
    subst h
    rcases hv with ⟨A, c, e1, e2, e3⟩ | ⟨g, o, c, e1, e2, e3, -⟩
    · exact .inl ⟨A, c, e1, e2, e3⟩
    · injection e1 with e4 e5 e6
      have hn : n = vs.length := e5
      subst e6
      rw [hpad, List.append_assoc, List.append_assoc] at hB
      exact rd_part (P := []) (S := pad ++ (row ++ Sh)) (by simpa [List.append_assoc] using hB) rfl hn (by omega) e3
  · exact hv.fr hf (fun k hk e => by have hk' : gv = k := (by injection hk); exact h (hk'.trans e))

section
variable {w : World} {gu gv gq gh oh n cv : Nat} {vs : List Nat} {Su Sq Ph Sh qa : List Value} {k : Nat} {us qk : List Nat} {hl : List Value} {W : World}

theorem KnX.below (h : KnX w gu gv gq gh oh n cv vs Su Sq Ph Sh qa k us qk hl W) {W' : World} (hb : Below W.heap.size W W') : KnX w gu gv gq gh oh n cv vs Su Sq Ph Sh qa k us qk hl W' :=
  ⟨h.u.below hb, h.q.below hb, h.h.below hb, RdG.below (k := .u64) h.v hb, Fr.step h.fr (Fr.of_below hb (fun _ => False)) (fun _ _ h => h.elim)⟩
theorem KnX.drew (h : KnX w gu gv gq gh oh n cv vs Su Sq Ph Sh qa k us qk hl W) : KnX w gu gv gq gh oh n cv vs Su Sq Ph Sh qa k us qk hl W.drew := ⟨h.u, h.q, h.h, h.v, h.fr.drew⟩
theorem KnX.ucell (h : KnX w gu gv gq gh oh n cv vs Su Sq Ph Sh qa k us qk hl W) {i : Nat} (hi : i < us.length) : W.cell? ⟨gu, i, none⟩ = some (.int .u64 (us.getD i 0 : Nat)) := by
  rw [h.u.cell, List.getElem?_toArray, List.getElem?_append_left (by rw [wv_length]; exact hi), wv_at, List.getElem?_eq_getElem hi, getD_at hi]
  rfl
theorem KnX.vcell (h : KnX w gu gv gq gh oh n cv vs Su Sq Ph Sh qa k us qk hl W) {i : Nat} (hi : i < vs.length) : W.cell? ⟨gv, i, none⟩ = some (.int .u64 (vs.getD i 0 : Nat)) := by
  obtain ⟨g, o, e1, _, e2⟩ := RdG.at_ (k := .u64) h.v i hi
  injection e1 with e1
  injection e1 with e3 e4
  subst e3 e4
  rw [Nat.zero_add] at e2
  exact e2

theorem KnX.mav (h : KnX w gu gv gq gh oh n cv vs Su Sq Ph Sh qa k us qk hl W) (ha : KnY gu gv gq gh oh vs Ph) (hv : vs.length = n) (hdv : Dig 18446744073709551616 vs) (hn : n ≤ 1000) (hll : hl.length = n + 1) (c1 qh : Nat) (hc1 : n ≤ c1) (hq : qh < 18446744073709551616) :
    Calls Tryz.prog 202 #[.slice (some ⟨gh, oh, none⟩) n c1, .slice (some ⟨gv, 0, none⟩) n cv, .int .u64 (qh : Int), .int .u64 0] W fun e W' => ∃ c : Nat, e = .returned (.int .u64 (c : Int)) ∧ Hid (c = (amul 18446744073709551616 qh (List.replicate n 0) vs 0).2) ∧
      KnX w gu gv gq gh oh n cv vs Su Sq Ph Sh qa k us qk (wv (amul 18446744073709551616 qh (List.replicate n 0) vs 0).1 ++ hl.drop n) W' := by
  have hB : Blk W gh 145 (Ph ++ hl.take n ++ (hl.drop n ++ Sh)).toArray := by
    have e : Ph ++ hl.take n ++ (hl.drop n ++ Sh) = Ph ++ hl ++ Sh := by rw [List.append_assoc, ← List.append_assoc (hl.take n), List.take_append_drop, List.append_assoc]
    rw [e]; exact h.h
  have con : Calls Tryz.prog 202 #[.slice (some ⟨gh, oh, none⟩) n c1, .slice (some ⟨gv, 0, none⟩) n cv, .int .u64 (qh : Int), .int .u64 ((0 : Nat) : Int)] W (AmP W gh 0 qh Ph (hl.drop n ++ Sh) (List.replicate n 0) vs) := by
    by_cases hgv : gv = gh
    · rw [hgv]
      exact mavp_any gh oh n c1 0 qh Ph (hl.drop n ++ Sh) (hl.take n) cv vs W hB ha.o (by rw [List.length_take, hll, hv]; omega) hv.symm (by omega) hc1 (ha.p hgv) (by omega) hq hdv
    · exact mav_any gh oh n c1 0 qh Ph (hl.drop n ++ Sh) (hl.take n) (some ⟨gv, 0, none⟩) cv vs W hB ha.o (by rw [List.length_take, hll, hv]; omega) hv.symm (by omega) hc1 (.inl ⟨h.v, fun k hk e => by have hk' : gv = k := (by injection hk); exact hgv (hk'.trans e)⟩) (by omega) hq hdv
  have hx : ((0 : Nat) : Int) = 0 := rfl
  rw [hx] at con
  refine con.mono ?_
  rintro e W' ⟨c, rfl, hc, hB', hF⟩
  have hB2 : Blk W' gh 145 (Ph ++ (wv (amul 18446744073709551616 qh (List.replicate n 0) vs 0).1 ++ hl.drop n) ++ Sh).toArray := by simpa [List.append_assoc] using hB'
  exact ⟨c, rfl, hc, h.u.fr hF (fun e => ha.uh e), h.q.fr hF (fun e => ha.qh e), hB2, knx_v h.v hF hB2 ha.p, Fr.step h.fr hF (fun i hi e => .inr (.inr e))⟩

theorem KnX.seth (h : KnX w gu gv gq gh oh n cv vs Su Sq Ph Sh qa k us qk hl W) (ha : KnY gu gv gq gh oh vs Ph) (v : Value) {i : Nat} (hi : i < hl.length) : (∃ u, W.cell? ⟨gh, oh + i, none⟩ = some u) ∧ W.frozen? ⟨gh, oh + i, none⟩ = false ∧ KnX w gu gv gq gh oh n cv vs Su Sq Ph Sh qa k us qk (hl.set i v) (W.setCell ⟨gh, oh + i, none⟩ v) := by
  have hF := (Fr.refl W (fun k => k = gh)).setCell (p := ⟨gh, oh + i, none⟩) (fun _ => rfl) v
  have hB := h.h
  have hs : hl = hl.take i ++ hl[i] :: hl.drop (i + 1) := by rw [← List.drop_eq_getElem_cons hi, List.take_append_drop]
  have hB1 : Blk W gh 145 ((Ph ++ hl.take i) ++ hl[i] :: (hl.drop (i + 1) ++ Sh)).toArray := by
    have e : (Ph ++ hl.take i) ++ hl[i] :: (hl.drop (i + 1) ++ Sh) = Ph ++ (hl.take i ++ hl[i] :: hl.drop (i + 1)) ++ Sh := by simp only [List.append_assoc, List.cons_append]
    rw [e, ← hs]; exact hB
  obtain ⟨h1, h2, h3⟩ := hB1.part (i := oh + i) (by rw [List.length_append, List.length_take, ha.o]; omega)
  have hB2 : Blk (W.setCell ⟨gh, oh + i, none⟩ v) gh 145 (Ph ++ hl.set i v ++ Sh).toArray := by
    have e : Ph ++ hl.set i v ++ Sh = (Ph ++ hl.take i) ++ v :: (hl.drop (i + 1) ++ Sh) := by
      rw [List.set_eq_take_append_cons_drop, if_pos hi]
      simp [List.append_assoc]
    rw [e]; exact h3 v
  exact ⟨⟨_, h1⟩, h2, h.u.fr hF (fun e => ha.uh e), h.q.fr hF (fun e => ha.qh e), hB2, knx_v h.v hF hB2 ha.p, Fr.step h.fr hF (fun i hi e => .inr (.inr e))⟩

theorem KnX.setu (h : KnX w gu gv gq gh oh n cv vs Su Sq Ph Sh qa k us qk hl W) (ha : KnY gu gv gq gh oh vs Ph) (x : Nat) {i : Nat} (hi : i < us.length) : W.frozen? ⟨gu, i, none⟩ = false ∧ KnX w gu gv gq gh oh n cv vs Su Sq Ph Sh qa k (us.set i x) qk hl (W.setCell ⟨gu, i, none⟩ (.int .u64 (x : Int))) := by
  have hF := (Fr.refl W (fun k => k = gu)).setCell (p := ⟨gu, i, none⟩) (fun _ => rfl) (.int .u64 (x : Int))
  refine ⟨h.u.frozen _, ?_, h.q.fr hF (fun e => ha.uq e.symm), h.h.fr hF (fun e => ha.uh e.symm), h.v.fr hF (fun k hk e => by have hk' : gv = k := (by injection hk); exact ha.uv (by omega)), Fr.step h.fr hF (fun i hi e => .inl e)⟩
  have := h.u.set i (.int .u64 (x : Int))
  rwa [List.setIfInBounds_toArray, List.set_append_left _ _ (by rw [wv_length]; exact hi), ← wv_set] at this

theorem KnX.setq {j : Nat} (h : KnX w gu gv gq gh oh n cv vs Su Sq Ph Sh qa (j + 1) us qk hl W) (ha : KnY gu gv gq gh oh vs Ph) (x : Nat) (hj : j < qa.length) : (∃ u, W.cell? ⟨gq, j, none⟩ = some u) ∧ W.frozen? ⟨gq, j, none⟩ = false ∧ KnX w gu gv gq gh oh n cv vs Su Sq Ph Sh qa j us (x :: qk) hl (W.setCell ⟨gq, j, none⟩ (.int .u64 (x : Int))) := by
  have hF := (Fr.refl W (fun k => k = gq)).setCell (p := ⟨gq, j, none⟩) (fun _ => rfl) (.int .u64 (x : Int))
  have hB := h.q
  rw [List.take_succ_eq_append_getElem hj, List.append_assoc, List.append_assoc, List.singleton_append] at hB
  obtain ⟨h1, h2, h3⟩ := hB.part (i := j) (by rw [List.length_take]; omega)
  refine ⟨⟨_, h1⟩, h2, h.u.fr hF (fun e => ha.uq e), ?_, h.h.fr hF (fun e => ha.qh e.symm), h.v.fr hF (fun k hk e => by have hk' : gv = k := (by injection hk); exact ha.qv (by omega)), Fr.step h.fr hF (fun i hi e => .inr (.inl e))⟩
  have := h3 (.int .u64 (x : Int))
  rw [wv_cons]
  simpa [List.append_assoc] using this

theorem KnX.sub (h : KnX w gu gv gq gh oh n cv vs Su Sq Ph Sh qa k us qk hl W) (ha : KnY gu gv gq gh oh vs Ph) (j l c1 c2 ch : Nat) (xs : List Nat) (hx : RdW W (.slice (some ⟨gh, oh, none⟩) l ch) xs) (hl1 : l = xs.length) (hl2 : j + l ≤ us.length) (hlb : l ≤ 1000) (hc1 : l ≤ c1) (hc2 : l ≤ c2) :
    Calls Tryz.prog 203 #[.slice (some ⟨gu, j, none⟩) l c1, .slice (some ⟨gu, j, none⟩) l c2, .slice (some ⟨gh, oh, none⟩) l ch] W fun e W' => ∃ q : Nat, e = .returned (.int .u64 (q : Int)) ∧ Hid (q = (subL 18446744073709551616 ((us.drop j).take l) xs 0).2) ∧
      KnX w gu gv gq gh oh n cv vs Su Sq Ph Sh qa k (us.take j ++ (subL 18446744073709551616 ((us.drop j).take l) xs 0).1 ++ us.drop (j + l)) qk hl W' := by
  have hB : Blk W gu 145 (wv (us.take j) ++ wv ((us.drop j).take l) ++ (wv (us.drop (j + l)) ++ Su)).toArray := by
    have e : us = us.take j ++ ((us.drop j).take l ++ us.drop (j + l)) := by rw [← List.drop_drop, List.take_append_drop, List.take_append_drop]
    have := h.u
    rw [e] at this
    simpa [wv_append, List.append_assoc] using this
  have con := subvv_any gu j l c1 c2 (wv (us.take j)) (wv (us.drop (j + l)) ++ Su) (some ⟨gh, oh, none⟩) ch ((us.drop j).take l) xs W hB (by rw [wv_length, List.length_take]; omega) (by rw [List.length_take, List.length_drop]; omega) hl1 (by omega) hc1 hc2 hx (fun k hk e => by have hk' : gh = k := (by injection hk); exact ha.uh (by omega))
  refine con.mono ?_
  rintro e W' ⟨q, rfl, hq, hB', hF⟩
  refine ⟨q, rfl, hq, ?_, h.q.fr hF (fun e => ha.uq e.symm), h.h.fr hF (fun e => ha.uh e.symm), h.v.fr hF (fun k hk e => by have hk' : gv = k := (by injection hk); exact ha.uv (by omega)), Fr.step h.fr hF (fun i hi e => .inl e)⟩
  rw [wv_append, wv_append]
  simpa [List.append_assoc] using hB'

theorem KnX.add (h : KnX w gu gv gq gh oh n cv vs Su Sq Ph Sh qa k us qk hl W) (ha : KnY gu gv gq gh oh vs Ph) (hv : vs.length = n) (hdv : Dig 18446744073709551616 vs) (hdu : Dig 18446744073709551616 us) (j c1 c2 : Nat) (hl2 : j + n ≤ us.length) (hlb : n ≤ 1000) (hc1 : n ≤ c1) (hc2 : n ≤ c2) :
    Calls Tryz.prog 204 #[.slice (some ⟨gu, j, none⟩) n c1, .slice (some ⟨gu, j, none⟩) n c2, .slice (some ⟨gv, 0, none⟩) n cv] W fun e W' => ∃ q : Nat, e = .returned (.int .u64 (q : Int)) ∧ Hid (q = (amul 18446744073709551616 1 ((us.drop j).take n) vs 0).2) ∧
      KnX w gu gv gq gh oh n cv vs Su Sq Ph Sh qa k (us.take j ++ (amul 18446744073709551616 1 ((us.drop j).take n) vs 0).1 ++ us.drop (j + n)) qk hl W' := by
  have hB : Blk W gu 145 (wv (us.take j) ++ wv ((us.drop j).take n) ++ (wv (us.drop (j + n)) ++ Su)).toArray := by
    have e : us = us.take j ++ ((us.drop j).take n ++ us.drop (j + n)) := by rw [← List.drop_drop, List.take_append_drop, List.take_append_drop]
    have := h.u
    rw [e] at this
    simpa [wv_append, List.append_assoc] using this
  have con := addvv_any gu j n c1 c2 (wv (us.take j)) (wv (us.drop (j + n)) ++ Su) (some ⟨gv, 0, none⟩) cv ((us.drop j).take n) vs W hB (by rw [wv_length, List.length_take]; omega) (by rw [List.length_take, List.length_drop]; omega) hv.symm (by omega) hc1 hc2 h.v (fun k hk e => by have hk' : gv = k := (by injection hk); exact ha.uv (by omega)) (dig_take (dig_drop hdu _) _) hdv
  refine con.mono ?_
  rintro e W' ⟨q, rfl, hq, hB', hF⟩
  refine ⟨q, rfl, hq, ?_, h.q.fr hF (fun e => ha.uq e.symm), h.h.fr hF (fun e => ha.uh e.symm), h.v.fr hF (fun k hk e => by have hk' : gv = k := (by injection hk); exact ha.uv (by omega)), Fr.step h.fr hF (fun i hi e => .inl e)⟩
  rw [wv_append, wv_append]
  simpa [List.append_assoc] using hB'
end
end Go.Proofs.YtfkcobdkgjhfaaaGreatDoor
