/- Parts of the proofs: KnMem, KnFin. -/
import Derived.Test.YtfkcobdkgjhfaaaGreatDoorG63
/- What a round of the division by several words holds in memory, and what its calls leave. -/
set_option linter.unusedVariables false
set_option linter.unusedSimpArgs false
namespace Go.Proofs.YtfkcobdkgjhfaaaGreatDoor
open Go.RowKit

theorem rd_part {w : World} {g o c n : Nat} {P S : List Value} {xs : List Nat} (h : Blk w g 145 (P ++ wv xs ++ S).toArray) (ho : o = P.length) (hn : n = xs.length) (hc : n ≤ c) (hm : c ≤ maxLen) : RdW w (.slice (some ⟨g, o, none⟩) n c) xs := by
  subst hn
  refine .inr ⟨g, o, c, rfl, hc, hm, WordsAt.of_blk h (fun i hi => ?_)⟩
  subst ho
  rw [List.getElem?_toArray, List.append_assoc, List.getElem?_append_right (by omega), Nat.add_sub_cancel_left, List.getElem?_append_left (by rw [wv_length]; exact hi), wv_at, List.getElem?_eq_getElem hi, getD_at hi]
  rfl
theorem wv_set (xs : List Nat) (i x : Nat) : wv (xs.set i x) = (wv xs).set i (.int .u64 (x : Int)) := by simp [wv]

/-- The rows of a round. -/
structure KnW (w : World) (gu gv gq gh n cv : Nat) (vs : List Nat) (Su Sq Sh qa : List Value) (k : Nat) (us qk : List Nat) (hl : List Value) (W : World) : Prop where
  u : Blk W gu 145 (wv us ++ Su).toArray
  q : Blk W gq 145 (qa.take k ++ wv qk ++ Sq).toArray
  h : Blk W gh 145 (hl ++ Sh).toArray
  v : RdW W (.slice (some ⟨gv, 0, none⟩) n cv) vs
  fr : Fr w W (fun k => k = gu ∨ k = gq ∨ w.heap.size ≤ k)

section
variable {w : World} {gu gv gq gh n cv : Nat} {vs : List Nat} {Su Sq Sh qa : List Value} {k : Nat} {us qk : List Nat} {hl : List Value} {W : World}

/-- The rows lie apart. -/
structure KnA (w : World) (gu gv gq gh : Nat) : Prop where
  uq : gu ≠ gq
  uv : gu ≠ gv
  qv : gq ≠ gv
  h : w.heap.size ≤ gh
  u : gu < w.heap.size
  v : gv < w.heap.size
  q : gq < w.heap.size

theorem KnW.below (h : KnW w gu gv gq gh n cv vs Su Sq Sh qa k us qk hl W) {W' : World} (hb : Below W.heap.size W W') : KnW w gu gv gq gh n cv vs Su Sq Sh qa k us qk hl W' :=
  ⟨h.u.below hb, h.q.below hb, h.h.below hb, RdG.below (k := .u64) h.v hb, Fr.step h.fr (Fr.of_below hb (fun _ => False)) (fun _ _ h => h.elim)⟩
theorem KnW.drew (h : KnW w gu gv gq gh n cv vs Su Sq Sh qa k us qk hl W) : KnW w gu gv gq gh n cv vs Su Sq Sh qa k us qk hl W.drew := ⟨h.u, h.q, h.h, h.v, h.fr.drew⟩
theorem KnW.ucell (h : KnW w gu gv gq gh n cv vs Su Sq Sh qa k us qk hl W) {i : Nat} (hi : i < us.length) : W.cell? ⟨gu, i, none⟩ = some (.int .u64 (us.getD i 0 : Nat)) := by
  rw [h.u.cell, List.getElem?_toArray, List.getElem?_append_left (by rw [wv_length]; exact hi), wv_at, List.getElem?_eq_getElem hi, getD_at hi]
  rfl
theorem KnW.vcell (h : KnW w gu gv gq gh n cv vs Su Sq Sh qa k us qk hl W) {i : Nat} (hi : i < vs.length) : W.cell? ⟨gv, i, none⟩ = some (.int .u64 (vs.getD i 0 : Nat)) := by
  obtain ⟨g, o, e1, _, e2⟩ := RdG.at_ (k := .u64) h.v i hi
  injection e1 with e1
  injection e1 with e3 e4
  subst e3 e4
  rw [Nat.zero_add] at e2
  exact e2

theorem KnW.mav (h : KnW w gu gv gq gh n cv vs Su Sq Sh qa k us qk hl W) (ha : KnA w gu gv gq gh) (hv : vs.length = n) (hdv : Dig 18446744073709551616 vs) (hn : n ≤ 1000) (hll : hl.length = n + 1) (c1 qh : Nat) (hc1 : n ≤ c1) (hq : qh < 18446744073709551616) :
    Calls Tryz.prog 202 #[.slice (some ⟨gh, 0, none⟩) n c1, .slice (some ⟨gv, 0, none⟩) n cv, .int .u64 (qh : Int), .int .u64 0] W fun e W' => ∃ c : Nat, e = .returned (.int .u64 (c : Int)) ∧ Hid (c = (amul 18446744073709551616 qh (List.replicate n 0) vs 0).2) ∧
      KnW w gu gv gq gh n cv vs Su Sq Sh qa k us qk (wv (amul 18446744073709551616 qh (List.replicate n 0) vs 0).1 ++ hl.drop n) W' := by
  have hB : Blk W gh 145 ([] ++ hl.take n ++ (hl.drop n ++ Sh)).toArray := by
    have e : [] ++ hl.take n ++ (hl.drop n ++ Sh) = hl ++ Sh := by rw [List.nil_append, ← List.append_assoc, List.take_append_drop]
    rw [e]; exact h.h
  have con := mav_any gh 0 n c1 0 qh [] (hl.drop n ++ Sh) (hl.take n) (some ⟨gv, 0, none⟩) cv vs W hB rfl (by rw [List.length_take, hll, hv]; omega) hv.symm (by omega) hc1 (.inl ⟨h.v, fun k hk => by have hk' : gv = k := (by injection hk); have := ha.h; have := ha.v; omega⟩) (by omega) hq hdv
  have hx : ((0 : Nat) : Int) = 0 := rfl
  rw [hx] at con
  refine con.mono ?_
  rintro e W' ⟨c, rfl, hc, hB', hF⟩
  refine ⟨c, rfl, hc, h.u.fr hF (fun e => by have := ha.h; have := ha.u; omega), h.q.fr hF (fun e => by have := ha.h; have := ha.q; omega), ?_, h.v.fr hF (fun k hk e => by have hk' : gv = k := (by injection hk); have := ha.h; have := ha.v; omega), Fr.step h.fr hF (fun i hi e => by have := ha.h; omega)⟩
  simpa [List.append_assoc] using hB'

theorem KnW.seth (h : KnW w gu gv gq gh n cv vs Su Sq Sh qa k us qk hl W) (ha : KnA w gu gv gq gh) (v : Value) {i : Nat} (hi : i < hl.length) : (∃ u, W.cell? ⟨gh, i, none⟩ = some u) ∧ W.frozen? ⟨gh, i, none⟩ = false ∧ KnW w gu gv gq gh n cv vs Su Sq Sh qa k us qk (hl.set i v) (W.setCell ⟨gh, i, none⟩ v) := by
  have hF := (Fr.refl W (fun k => k = gh)).setCell (p := ⟨gh, i, none⟩) (fun _ => rfl) v
  refine ⟨⟨_, (h.h.cell i).trans (by rw [List.getElem?_toArray, List.getElem?_append_left hi, List.getElem?_eq_getElem hi])⟩, h.h.frozen _, h.u.fr hF (fun e => by have := ha.h; have := ha.u; omega), h.q.fr hF (fun e => by have := ha.h; have := ha.q; omega), ?_, h.v.fr hF (fun k hk e => by have hk' : gv = k := (by injection hk); have := ha.h; have := ha.v; omega), Fr.step h.fr hF (fun i hi e => by have := ha.h; omega)⟩
  have := h.h.set i v
  rwa [List.setIfInBounds_toArray, List.set_append_left _ _ hi] at this

theorem KnW.setu (h : KnW w gu gv gq gh n cv vs Su Sq Sh qa k us qk hl W) (ha : KnA w gu gv gq gh) (x : Nat) {i : Nat} (hi : i < us.length) : W.frozen? ⟨gu, i, none⟩ = false ∧ KnW w gu gv gq gh n cv vs Su Sq Sh qa k (us.set i x) qk hl (W.setCell ⟨gu, i, none⟩ (.int .u64 (x : Int))) := by
  have hF := (Fr.refl W (fun k => k = gu)).setCell (p := ⟨gu, i, none⟩) (fun _ => rfl) (.int .u64 (x : Int))
  refine ⟨h.u.frozen _, ?_, h.q.fr hF (fun e => ha.uq e.symm), h.h.fr hF (fun e => by have := ha.h; have := ha.u; omega), h.v.fr hF (fun k hk e => by have hk' : gv = k := (by injection hk); exact ha.uv (by omega)), Fr.step h.fr hF (fun i hi e => .inl e)⟩
  have := h.u.set i (.int .u64 (x : Int))
  rwa [List.setIfInBounds_toArray, List.set_append_left _ _ (by rw [wv_length]; exact hi), ← wv_set] at this

theorem KnW.setq {j : Nat} (h : KnW w gu gv gq gh n cv vs Su Sq Sh qa (j + 1) us qk hl W) (ha : KnA w gu gv gq gh) (x : Nat) (hj : j < qa.length) : (∃ u, W.cell? ⟨gq, j, none⟩ = some u) ∧ W.frozen? ⟨gq, j, none⟩ = false ∧ KnW w gu gv gq gh n cv vs Su Sq Sh qa j us (x :: qk) hl (W.setCell ⟨gq, j, none⟩ (.int .u64 (x : Int))) := by
  have hF := (Fr.refl W (fun k => k = gq)).setCell (p := ⟨gq, j, none⟩) (fun _ => rfl) (.int .u64 (x : Int))
  have hB := h.q
  rw [List.take_succ_eq_append_getElem hj, List.append_assoc, List.append_assoc, List.singleton_append] at hB
  obtain ⟨h1, h2, h3⟩ := hB.part (i := j) (by rw [List.length_take]; omega)
  refine ⟨⟨_, h1⟩, h2, h.u.fr hF (fun e => ha.uq e), ?_, h.h.fr hF (fun e => by have := ha.h; have := ha.q; omega), h.v.fr hF (fun k hk e => by have hk' : gv = k := (by injection hk); exact ha.qv (by omega)), Fr.step h.fr hF (fun i hi e => .inr (.inl e))⟩
  have := h3 (.int .u64 (x : Int))
  rw [wv_cons]
  simpa [List.append_assoc] using this

theorem KnW.sub (h : KnW w gu gv gq gh n cv vs Su Sq Sh qa k us qk hl W) (ha : KnA w gu gv gq gh) (j l c1 c2 ch : Nat) (xs : List Nat) (hx : RdW W (.slice (some ⟨gh, 0, none⟩) l ch) xs) (hl1 : l = xs.length) (hl2 : j + l ≤ us.length) (hlb : l ≤ 1000) (hc1 : l ≤ c1) (hc2 : l ≤ c2) :
    Calls Tryz.prog 203 #[.slice (some ⟨gu, j, none⟩) l c1, .slice (some ⟨gu, j, none⟩) l c2, .slice (some ⟨gh, 0, none⟩) l ch] W fun e W' => ∃ q : Nat, e = .returned (.int .u64 (q : Int)) ∧ Hid (q = (subL 18446744073709551616 ((us.drop j).take l) xs 0).2) ∧
      KnW w gu gv gq gh n cv vs Su Sq Sh qa k (us.take j ++ (subL 18446744073709551616 ((us.drop j).take l) xs 0).1 ++ us.drop (j + l)) qk hl W' := by
  have hB : Blk W gu 145 (wv (us.take j) ++ wv ((us.drop j).take l) ++ (wv (us.drop (j + l)) ++ Su)).toArray := by
    have e : us = us.take j ++ ((us.drop j).take l ++ us.drop (j + l)) := by rw [← List.drop_drop, List.take_append_drop, List.take_append_drop]
    have := h.u
    rw [e] at this
    simpa [wv_append, List.append_assoc] using this
  have con := subvv_any gu j l c1 c2 (wv (us.take j)) (wv (us.drop (j + l)) ++ Su) (some ⟨gh, 0, none⟩) ch ((us.drop j).take l) xs W hB (by rw [wv_length, List.length_take]; omega) (by rw [List.length_take, List.length_drop]; omega) hl1 (by omega) hc1 hc2 hx (fun k hk e => by have hk' : gh = k := (by injection hk); have := ha.h; have := ha.u; omega)
  refine con.mono ?_
  rintro e W' ⟨q, rfl, hq, hB', hF⟩
  refine ⟨q, rfl, hq, ?_, h.q.fr hF (fun e => ha.uq e.symm), h.h.fr hF (fun e => by have := ha.h; have := ha.u; omega), h.v.fr hF (fun k hk e => by have hk' : gv = k := (by injection hk); exact ha.uv (by omega)), Fr.step h.fr hF (fun i hi e => .inl e)⟩
  rw [wv_append, wv_append]
  simpa [List.append_assoc] using hB'

theorem KnW.add (h : KnW w gu gv gq gh n cv vs Su Sq Sh qa k us qk hl W) (ha : KnA w gu gv gq gh) (hv : vs.length = n) (hdv : Dig 18446744073709551616 vs) (hdu : Dig 18446744073709551616 us) (j c1 c2 : Nat) (hl2 : j + n ≤ us.length) (hlb : n ≤ 1000) (hc1 : n ≤ c1) (hc2 : n ≤ c2) :
    Calls Tryz.prog 204 #[.slice (some ⟨gu, j, none⟩) n c1, .slice (some ⟨gu, j, none⟩) n c2, .slice (some ⟨gv, 0, none⟩) n cv] W fun e W' => ∃ q : Nat, e = .returned (.int .u64 (q : Int)) ∧ Hid (q = (amul 18446744073709551616 1 ((us.drop j).take n) vs 0).2) ∧
      KnW w gu gv gq gh n cv vs Su Sq Sh qa k (us.take j ++ (amul 18446744073709551616 1 ((us.drop j).take n) vs 0).1 ++ us.drop (j + n)) qk hl W' := by
  have hB : Blk W gu 145 (wv (us.take j) ++ wv ((us.drop j).take n) ++ (wv (us.drop (j + n)) ++ Su)).toArray := by
    have e : us = us.take j ++ ((us.drop j).take n ++ us.drop (j + n)) := by rw [← List.drop_drop, List.take_append_drop, List.take_append_drop]
    have := h.u
    rw [e] at this
    simpa [wv_append, List.append_assoc] using this
  have con := addvv_any gu j n c1 c2 (wv (us.take j)) (wv (us.drop (j + n)) ++ Su) (some ⟨gv, 0, none⟩) cv ((us.drop j).take n) vs W hB (by rw [wv_length, List.length_take]; omega) (by rw [List.length_take, List.length_drop]; omega) hv.symm (by omega) hc1 hc2 h.v (fun k hk e => by have hk' : gv = k := (by injection hk); exact ha.uv (by omega)) (dig_take (dig_drop hdu _) _) hdv
  refine con.mono ?_
  rintro e W' ⟨q, rfl, hq, hB', hF⟩
  refine ⟨q, rfl, hq, ?_, h.q.fr hF (fun e => ha.uq e.symm), h.h.fr hF (fun e => by have := ha.h; have := ha.u; omega), h.v.fr hF (fun k hk e => by have hk' : gv = k := (by injection hk); exact ha.uv (by omega)), Fr.step h.fr hF (fun i hi e => .inl e)⟩
  rw [wv_append, wv_append]
  simpa [List.append_assoc] using hB'
end

theorem gt_any (x1 x2 y1 y2 : Nat) (hx2 : x2 < 18446744073709551616) (hy2 : y2 < 18446744073709551616) (w : World) :
    Calls Tryz.prog 201 #[.int .u64 (x1 : Int), .int .u64 (x2 : Int), .int .u64 (y1 : Int), .int .u64 (y2 : Int)] w fun e w' => e = .returned (.bool (decide (y1 * 18446744073709551616 + y2 < x1 * 18446744073709551616 + x2))) ∧ w = w' := by
  rcases Nat.lt_trichotomy y1 x1 with h | h | h
  · have hd : decide (y1 * 18446744073709551616 + y2 < x1 * 18446744073709551616 + x2) = true := decide_eq_true (by omega)
    have q1 : decide ((y1 : Int) < (x1 : Int)) = true := decide_eq_true (by omega)
    have q2 : decide (y1 < x1) = true := decide_eq_true h
    rw [hd]
    clear hd hx2 hy2
    go_enter Tryz.func201, Tryz.ntmps201
    go_wp2
    go_ret
    exact ⟨rfl, rfl⟩
  · subst h
    have hd : decide (y1 * 18446744073709551616 + y2 < y1 * 18446744073709551616 + x2) = decide (y2 < x2) := decide_eq_decide.2 (by omega)
    rw [hd]
    clear hd hx2 hy2
    by_cases h2 : y2 < x2
    · have q3 : decide (y2 < x2) = true := decide_eq_true h2
      go_enter Tryz.func201, Tryz.ntmps201
      go_wp2
      go_ret
      exact ⟨by simp [h2], rfl⟩
    · have q3 : decide (y2 < x2) = false := decide_eq_false h2
      go_enter Tryz.func201, Tryz.ntmps201
      go_wp2
      go_ret
      exact ⟨by simp [h2], rfl⟩
  · have hd : decide (y1 * 18446744073709551616 + y2 < x1 * 18446744073709551616 + x2) = false := decide_eq_false (by omega)
    have q1 : decide ((y1 : Int) < (x1 : Int)) = false := decide_eq_false (by omega)
    have q2 : decide (y1 < x1) = false := decide_eq_false (by omega)
    have q3 : ((x1 : Int) == (y1 : Int)) = false := beq_eq_false_iff_ne.2 (by omega)
    have q4 : (x1 == y1) = false := beq_eq_false_iff_ne.2 (by omega)
    rw [hd]
    clear hd hx2 hy2
    go_enter Tryz.func201, Tryz.ntmps201
    go_wp2
    go_ret
    exact ⟨rfl, rfl⟩
end Go.Proofs.YtfkcobdkgjhfaaaGreatDoor

/- Plain: a round of the division by several words ends: with the guess, or with the guess less one. No program in sight. -/
set_option linter.unusedVariables false
set_option linter.unusedSimpArgs false
namespace Go.Proofs.YtfkcobdkgjhfaaaGreatDoor
open Go.RowKit

/-- The guess that a round takes. -/
def KnG (U V q : Nat) : Prop := q < 18446744073709551616 ∧ U < (q + 1) * V ∧ q * V ≤ U + V

theorem kn_l1 {us sd : List Nat} {j n : Nat} (hj : j ≤ us.length) (hs : sd.length = n + 1) :
    (us.take j ++ sd ++ us.drop (j + (n + 1))).take j = us.take j ∧ ((us.take j ++ sd ++ us.drop (j + (n + 1))).drop j).take n = sd.take n ∧ (us.take j ++ sd ++ us.drop (j + (n + 1))).drop (j + n) = sd.getD n 0 :: us.drop (j + (n + 1)) := by
  have hl : (us.take j).length = j := by rw [List.length_take]; omega
  have hd : (us.take j ++ sd ++ us.drop (j + (n + 1))).drop j = sd ++ us.drop (j + (n + 1)) := by
    rw [List.append_assoc, List.drop_append_of_le_length (by omega), List.drop_of_length_le (by omega : (us.take j).length ≤ j), List.nil_append]
  refine ⟨?_, ?_, ?_⟩
  · rw [List.append_assoc, List.take_append_of_le_length (by omega), List.take_take, Nat.min_self]
  · rw [hd, List.take_append_of_le_length (by omega)]
  · rw [← List.drop_drop, hd, List.drop_append_of_le_length (by omega), drop_getD (by omega : n < sd.length), List.drop_of_length_le (by omega : sd.length ≤ n + 1)]
    rfl
theorem kn_l2 {us ad tl : List Nat} {j n x : Nat} (hj : j ≤ us.length) (ha : ad.length = n) : (us.take j ++ ad ++ x :: tl).getD (j + n) 0 = x ∧ (us.take j ++ ad ++ x :: tl).set (j + n) 0 = us.take j ++ (ad ++ [0]) ++ tl := by
  have hl : (us.take j ++ ad).length = j + n := by rw [List.length_append, List.length_take, ha]; omega
  refine ⟨?_, ?_⟩
  · rw [List.getD_eq_getElem?_getD, List.getElem?_append_right (by omega), hl, Nat.sub_self]; rfl
  · rw [List.set_append_right _ _ (by omega), hl, Nat.sub_self]
    simp [List.append_assoc]

theorem kn_sub {m n j q : Nat} {us0 vs us qk ph : List Nat} (h : KnN m n (j + 1) us0 vs us qk) (hv : vs.length = n) (hdv : Dig 18446744073709551616 vs) (hj : j < m) (hpl : ph.length = n + 1) (hpd : Dig 18446744073709551616 ph) (hpv : dval 18446744073709551616 ph = dval 18446744073709551616 vs * q) :
    (subL 18446744073709551616 ((us.drop j).take (n + 1)) ph 0).1.length = n + 1 ∧ Dig 18446744073709551616 (subL 18446744073709551616 ((us.drop j).take (n + 1)) ph 0).1 ∧ (subL 18446744073709551616 ((us.drop j).take (n + 1)) ph 0).2 ≤ 1 ∧
      dval 18446744073709551616 (subL 18446744073709551616 ((us.drop j).take (n + 1)) ph 0).1 + q * dval 18446744073709551616 vs = dval 18446744073709551616 (us.drop j) + 18446744073709551616 ^ (n + 1) * (subL 18446744073709551616 ((us.drop j).take (n + 1)) ph 0).2 ∧
      dval 18446744073709551616 (subL 18446744073709551616 ((us.drop j).take (n + 1)) ph 0).1 < 18446744073709551616 ^ (n + 1) := by
  have hzl : ((us.drop j).take (n + 1)).length = ph.length := by rw [List.length_take, List.length_drop, h.hu, hpl]; omega
  have h1 := subL_val (b := 18446744073709551616) 0 hzl (dig_take (dig_drop h.du _) _) hpd (by omega)
  have h2 := dval_split 18446744073709551616 (n + 1) (us.drop j) (by rw [List.length_drop, h.hu]; omega)
  rw [List.drop_drop, show j + (n + 1) = j + n + 1 by omega, (h.high hv hdv (by omega)).2, Nat.mul_zero, Nat.add_zero] at h2
  have h3 := subL_length 18446744073709551616 0 hzl
  have h4 := subL_dig (b := 18446744073709551616) (by omega) (zs := (us.drop j).take (n + 1)) (ys := ph) 0
  have h5 := dval_lt (b := 18446744073709551616) (by omega) h4
  rw [h3, hpl] at h5
  refine ⟨h3.trans hpl, h4, subL_borrow 0 (by omega), ?_, h5⟩
  rw [← h2, hpv, Nat.add_zero, hpl, Nat.mul_comm (dval 18446744073709551616 vs) q] at h1
  exact h1

theorem kn_fin0 {m n j q : Nat} {us0 vs us qk sd : List Nat} (h : KnN m n (j + 1) us0 vs us qk) (hv : vs.length = n) (hdv : Dig 18446744073709551616 vs) (hj : j < m) (h0 : us0.length = m + n) (hG : KnG (dval 18446744073709551616 (us.drop j)) (dval 18446744073709551616 vs) q)
    (hl : sd.length = n + 1) (hd : Dig 18446744073709551616 sd) (hs : dval 18446744073709551616 sd + q * dval 18446744073709551616 vs = dval 18446744073709551616 (us.drop j)) : KnN m n j us0 vs (us.take j ++ sd ++ us.drop (j + n + 1)) (q :: qk) := by
  have h1 := hG.2.1
  have e : (q + 1) * dval 18446744073709551616 vs = q * dval 18446744073709551616 vs + dval 18446744073709551616 vs := by rw [Nat.succ_mul]
  exact h.step hv hdv hj h0 hl hd hG.1 (by omega) (by omega)

theorem kn_fin1 {m n j q c : Nat} {us0 vs us qk sd ad : List Nat} (h : KnN m n (j + 1) us0 vs us qk) (hv : vs.length = n) (hdv : Dig 18446744073709551616 vs) (hj : j < m) (h0 : us0.length = m + n) (hG : KnG (dval 18446744073709551616 (us.drop j)) (dval 18446744073709551616 vs) q)
    (hl : sd.length = n + 1) (hs : dval 18446744073709551616 sd + q * dval 18446744073709551616 vs = dval 18446744073709551616 (us.drop j) + 18446744073709551616 ^ (n + 1)) (hlt : dval 18446744073709551616 sd < 18446744073709551616 ^ (n + 1))
    (hal : ad.length = n) (had : Dig 18446744073709551616 ad) (hav : dval 18446744073709551616 ad + 18446744073709551616 ^ n * c = dval 18446744073709551616 (sd.take n) + dval 18446744073709551616 vs) :
    ∃ q', q = q' + 1 ∧ sd.getD n 0 + c = 18446744073709551616 ∧ KnN m n j us0 vs (us.take j ++ (ad ++ [0]) ++ us.drop (j + n + 1)) (q' :: qk) := by
  obtain ⟨q', hq, h1, h2⟩ := kn_dec (show dval 18446744073709551616 (us.drop j) < q * dval 18446744073709551616 vs by omega) hG.2.2
  subst hq
  have e : (q' + 1) * dval 18446744073709551616 vs = q' * dval 18446744073709551616 vs + dval 18446744073709551616 vs := by rw [Nat.succ_mul]
  have hV := dval_lt (b := 18446744073709551616) (by omega) hdv
  rw [hv] at hV
  obtain ⟨R, hR⟩ : ∃ R, R = dval 18446744073709551616 (us.drop j) - q' * dval 18446744073709551616 vs := ⟨_, rfl⟩
  have hRV : R < dval 18446744073709551616 vs := by omega
  obtain ⟨b1, b2⟩ := kn_back hl hal had hav (R := R) (by omega) (by omega)
  refine ⟨q', rfl, b1, h.step hv hdv hj h0 (by rw [List.length_append, hal]; rfl) (dig_append had (fun d hd => by rw [List.mem_singleton.1 hd]; omega)) (by have := hG.1; omega) ?_ ?_⟩
  · rw [dval_append, dval_cons, dval_nil, b2]; simp; omega
  · rw [dval_append, dval_cons, dval_nil, b2]; simpa using hRV
end Go.Proofs.YtfkcobdkgjhfaaaGreatDoor
