/- Parts of the proofs: KnFin, KnBas0, MulB, Alias. -/
import Derived.Lib.SliceRun
import Derived.BigQuiet
import Derived.Deep.QuietTactic
import Derived.Test.YtfkcobdkgjhfaaaGreatDoorG6
import Derived.Test.YtfkcobdkgjhfaaaGreatDoorG10
import Derived.Test.YtfkcobdkgjhfaaaGreatDoorG11
/- Plain: a round of the division by several words ends: with the guess, or with the guess less one. No program in sight. -/
set_option linter.unusedVariables false
set_option linter.unusedSimpArgs false
namespace Go.Proofs.YtfkcobdkgjhfaaaGreatDoor
open Go.RowKit

/-- The guess that a round takes. -/
def KnG (U V q : Nat) : Prop := q < 18446744073709551616 ∧ U < (q + 1) * V ∧ q * V ≤ U + V

theorem kn_l1 {us sd : List Nat} {j n : Nat} (hj : j ≤ us.length) (hs : sd.length = n + 1) :
    (us.take j ++ sd ++ us.drop (j + (n + 1))).take j = us.take j ∧ ((us.take j ++ sd ++ us.drop (j + (n + 1))).drop j).take n = sd.take n ∧ (us.take j ++ sd ++ us.drop (j + (n + 1))).drop (j + n) = sd.getD n 0 :: us.drop (j + (n + 1)) := by
  have hl : (us.take j).length = j := by rw [List.length_take]; omega
  have hd : (us.take j ++ sd ++ us.drop (j + (n + 1))).drop j = sd ++ us.drop (j + (n + 1)) := by
    rw [List.append_assoc, List.drop_append_of_le_length (by omega), List.drop_of_length_le (by omega : (us.take j).length ≤ j), List.nil_append]
  refine ⟨?_, ?_, ?_⟩
  · rw [List.append_assoc, List.take_append_of_le_length (by omega), List.take_take, Nat.min_self]
  · rw [hd, List.take_append_of_le_length (by omega)]
  · rw [← List.drop_drop, hd, List.drop_append_of_le_length (by omega), drop_getD (by omega : n < sd.length), List.drop_of_length_le (by omega : sd.length ≤ n + 1)]
    rfl
theorem kn_l2 {us ad tl : List Nat} {j n x : Nat} (hj : j ≤ us.length) (ha : ad.length = n) : (us.take j ++ ad ++ x :: tl).getD (j + n) 0 = x ∧ (us.take j ++ ad ++ x :: tl).set (j + n) 0 = us.take j ++ (ad ++ [0]) ++ tl := by
  have hl : (us.take j ++ ad).length = j + n := by rw [List.length_append, List.length_take, ha]; omega
  refine ⟨?_, ?_⟩
  · rw [List.getD_eq_getElem?_getD, List.getElem?_append_right (by omega), hl, Nat.sub_self]; rfl
  · rw [List.set_append_right _ _ (by omega), hl, Nat.sub_self]
    simp [List.append_assoc]

theorem kn_sub {m n j q : Nat} {us0 vs us qk ph : List Nat} (h : KnN m n (j + 1) us0 vs us qk) (hv : vs.length = n) (hdv : Dig 18446744073709551616 vs) (hj : j < m) (hpl : ph.length = n + 1) (hpd : Dig 18446744073709551616 ph) (hpv : dval 18446744073709551616 ph = dval 18446744073709551616 vs * q) :
    (subL 18446744073709551616 ((us.drop j).take (n + 1)) ph 0).1.length = n + 1 ∧ Dig 18446744073709551616 (subL 18446744073709551616 ((us.drop j).take (n + 1)) ph 0).1 ∧ (subL 18446744073709551616 ((us.drop j).take (n + 1)) ph 0).2 ≤ 1 ∧
      dval 18446744073709551616 (subL 18446744073709551616 ((us.drop j).take (n + 1)) ph 0).1 + q * dval 18446744073709551616 vs = dval 18446744073709551616 (us.drop j) + 18446744073709551616 ^ (n + 1) * (subL 18446744073709551616 ((us.drop j).take (n + 1)) ph 0).2 ∧
      dval 18446744073709551616 (subL 18446744073709551616 ((us.drop j).take (n + 1)) ph 0).1 < 18446744073709551616 ^ (n + 1) := by
  have hzl : ((us.drop j).take (n + 1)).length = ph.length := by rw [List.length_take, List.length_drop, h.hu, hpl]; omega
  have h1 := subL_val (b := 18446744073709551616) 0 hzl (dig_take (dig_drop h.du _) _) hpd (by omega)
  have h2 := dval_split 18446744073709551616 (n + 1) (us.drop j) (by rw [List.length_drop, h.hu]; omega)
  rw [List.drop_drop, show j + (n + 1) = j + n + 1 by omega, (h.high hv hdv (by omega)).2, Nat.mul_zero, Nat.add_zero] at h2
  have h3 := subL_length 18446744073709551616 0 hzl
  have h4 := subL_dig (b := 18446744073709551616) (by omega) (zs := (us.drop j).take (n + 1)) (ys := ph) 0
  have h5 := dval_lt (b := 18446744073709551616) (by omega) h4
  rw [h3, hpl] at h5
  refine ⟨h3.trans hpl, h4, subL_borrow 0 (by omega), ?_, h5⟩
  rw [← h2, hpv, Nat.add_zero, hpl, Nat.mul_comm (dval 18446744073709551616 vs) q] at h1
  exact h1

theorem kn_fin0 {m n j q : Nat} {us0 vs us qk sd : List Nat} (h : KnN m n (j + 1) us0 vs us qk) (hv : vs.length = n) (hdv : Dig 18446744073709551616 vs) (hj : j < m) (h0 : us0.length = m + n) (hG : KnG (dval 18446744073709551616 (us.drop j)) (dval 18446744073709551616 vs) q)
    (hl : sd.length = n + 1) (hd : Dig 18446744073709551616 sd) (hs : dval 18446744073709551616 sd + q * dval 18446744073709551616 vs = dval 18446744073709551616 (us.drop j)) : KnN m n j us0 vs (us.take j ++ sd ++ us.drop (j + n + 1)) (q :: qk) := by
  have h1 := hG.2.1
  have e : (q + 1) * dval 18446744073709551616 vs = q * dval 18446744073709551616 vs + dval 18446744073709551616 vs := by rw [Nat.succ_mul]
  exact h.step hv hdv hj h0 hl hd hG.1 (by omega) (by omega)

theorem kn_fin1 {m n j q c : Nat} {us0 vs us qk sd ad : List Nat} (h : KnN m n (j + 1) us0 vs us qk) (hv : vs.length = n) (hdv : Dig 18446744073709551616 vs) (hj : j < m) (h0 : us0.length = m + n) (hG : KnG (dval 18446744073709551616 (us.drop j)) (dval 18446744073709551616 vs) q)
    (hl : sd.length = n + 1) (hs : dval 18446744073709551616 sd + q * dval 18446744073709551616 vs = dval 18446744073709551616 (us.drop j) + 18446744073709551616 ^ (n + 1)) (hlt : dval 18446744073709551616 sd < 18446744073709551616 ^ (n + 1))
    (hal : ad.length = n) (had : Dig 18446744073709551616 ad) (hav : dval 18446744073709551616 ad + 18446744073709551616 ^ n * c = dval 18446744073709551616 (sd.take n) + dval 18446744073709551616 vs) :
    ∃ q', q = q' + 1 ∧ sd.getD n 0 + c = 18446744073709551616 ∧ KnN m n j us0 vs (us.take j ++ (ad ++ [0]) ++ us.drop (j + n + 1)) (q' :: qk) := by
  obtain ⟨q', hq, h1, h2⟩ := kn_dec (show dval 18446744073709551616 (us.drop j) < q * dval 18446744073709551616 vs by omega) hG.2.2
  subst hq
  have e : (q' + 1) * dval 18446744073709551616 vs = q' * dval 18446744073709551616 vs + dval 18446744073709551616 vs := by rw [Nat.succ_mul]
  have hV := dval_lt (b := 18446744073709551616) (by omega) hdv
  rw [hv] at hV
  obtain ⟨R, hR⟩ : ∃ R, R = dval 18446744073709551616 (us.drop j) - q' * dval 18446744073709551616 vs := ⟨_, rfl⟩
  have hRV : R < dval 18446744073709551616 vs := by omega
  obtain ⟨b1, b2⟩ := kn_back hl hal had hav (R := R) (by omega) (by omega)
  refine ⟨q', rfl, b1, h.step hv hdv hj h0 (by rw [List.length_append, hal]; rfl) (dig_append had (fun d hd => by rw [List.mem_singleton.1 hd]; omega)) (by have := hG.1; omega) ?_ ?_⟩
  · rw [dval_append, dval_cons, dval_nil, b2]; simp; omega
  · rw [dval_append, dval_cons, dval_nil, b2]; simpa using hRV
end Go.Proofs.YtfkcobdkgjhfaaaGreatDoor

/- Plain: what the division by many words takes of its guess. No program in sight. -/
set_option linter.unusedVariables false
set_option linter.unusedSimpArgs false
namespace Go.Proofs.YtfkcobdkgjhfaaaGreatDoor
open Go.RowKit

theorem kn_i64 {x y : Int} (e : x = y) (h : -1000000 ≤ y ∧ y ≤ 1000000) : IntKind.i64.wrap x = y := by subst e; simp [IntKind.wrap, IntKind.signed, IntKind.bits]; omega
theorem kn_w64 {x y : Int} (e : x = y) (h : -1000000 ≤ y ∧ y ≤ 1000000) : wrap64 x = y := by subst e; unfold wrap64; omega

theorem kn_u64 {x : Int} {y : Nat} (h : x % 18446744073709551616 = (y : Int)) : IntKind.u64.wrap x = (y : Int) := by rw [IntKind.wrap_u64]; exact h
theorem kn_x1 {z1 z2 y1 y2 v2 a b : Nat} (hx : y1 * 18446744073709551616 + y2 = a) (hm : a = b + v2) (h1 : y1 = z1 + 1) (h2 : z2 = y2 + 18446744073709551616 - v2) (h4 : v2 < 18446744073709551616) : z1 * 18446744073709551616 + z2 = b := by
  subst h1 hm
  rw [Nat.succ_mul] at hx
  generalize z1 * 18446744073709551616 = Z at *
  omega
/-- What the test of the guess holds. -/
structure KnI (t u1 u2 v1 v2 q r x1 x2 : Nat) : Prop where
  fe : q * v1 + r = t * 18446744073709551616 + u1
  fr : r < 18446744073709551616
  fq : q < 18446744073709551616
  fx : x1 * 18446744073709551616 + x2 = q * v2
  fx2 : x2 < 18446744073709551616
  fx1 : x1 < 18446744073709551616
  hi : (t * 18446744073709551616 + u1) * 18446744073709551616 + u2 < (q + 1) * (v1 * 18446744073709551616 + v2)
  fz : t * 18446744073709551616 + u1 < v1 → q = 0
end Go.Proofs.YtfkcobdkgjhfaaaGreatDoor

/- Walks: basicMul. -/
set_option linter.unusedVariables false
set_option linter.unusedSimpArgs false
namespace Go.Proofs.YtfkcobdkgjhfaaaGreatDoor
open Go.RowKit

theorem Blk.setCells {g : Nat} {t : TypeId} : ∀ {vs us P S : List Value} {w : World}, Blk w g t (P ++ us ++ S).toArray → us.length = vs.length → Blk (w.setCells g P.length vs) g t (P ++ vs ++ S).toArray
  | [], [], _, _, _, h, _ => h
  | [], _ :: _, _, _, _, _, h => by simp at h
  | _ :: _, [], _, _, _, _, h => by simp at h
  | v :: vs, u :: us, P, S, w, h, hl => by
    have h1 : Blk w g t (P ++ u :: (us ++ S)).toArray := by simpa using h
    have h2 := (h1.part rfl).2.2 v
    have h3 : Blk (w.setCell ⟨g, P.length, none⟩ v) g t ((P ++ [v]) ++ us ++ S).toArray := by simpa using h2
    have h4 := Blk.setCells (vs := vs) h3 (by simpa using hl)
    have h5 : Blk ((w.setCell ⟨g, P.length, none⟩ v).setCells g (P.length + 1) vs) g t ((P ++ [v]) ++ vs ++ S).toArray := by simpa using h4
    show Blk ((w.setCell ⟨g, P.length, none⟩ v).setCells g (P.length + 1) vs) g t _
    simpa using h5
theorem Fr.setCells {a : World} {Q : Nat → Prop} {g : Nat} (hg : g < a.heap.size → Q g) : ∀ (vs : List Value) (o : Nat) {b : World}, Fr a b Q → Fr a (b.setCells g o vs) Q
  | [], _, _, h => h
  | v :: vs, o, _, h => Fr.setCells hg vs (o + 1) (h.setCell (p := ⟨g, o, none⟩) hg v)

/-- 'z[i:i+m]'. -/
theorem sl_mid (g i m cz n : Nat) (h : Int) (W : World) (hh : h = ((i + m : Nat) : Int)) (h1 : i < cz) (h2 : i + m ≤ cz) : (Instr.slice 65 (.slice (some ⟨g, 0, none⟩) n cz) (some (.int .i64 (i : Int))) (some (.int .i64 h)) none).run Tryz.prog W = .ok (.slice (some ⟨g, i, none⟩) m (cz - i)) W := by
  subst hh
  have ht : Tryz.prog.underlying 65 = some (.slice (Tryz.prog.elem 65)) := by kernel_rfl
  have hs : (Tryz.prog.info? (Tryz.prog.elem 65)).map (·.size) = some 1 := by kernel_rfl
  obtain ⟨j, hj, hsz⟩ := Option.map_eq_some_iff.1 hs
  rw [run_slice_lh W 65 _ _ _ ht _ _ _ _ (by omega) (by omega) (by omega)]
  have h3 : ¬ cz = i := by omega
  have h4 : ((i + m : Nat) : Int).toNat - ((i : Nat) : Int).toNat = m := by omega
  cases i with
  | zero => simp [sizeOf, typeInfo, hj, sliced, Addr.add]
  | succ i => simp [sizeOf, typeInfo, hj, hsz, sliced, Addr.add, Result.andThen]; omega

/-- What a round of the school method holds. -/
structure BmS (w : World) (g i ly : Nat) (S : List Value) (xs ys : List Nat) (W : World) : Prop where
  row : ∃ R, R.length = xs.length + i ∧ Dig 18446744073709551616 R ∧ dval 18446744073709551616 R = dval 18446744073709551616 xs * dval 18446744073709551616 (ys.take i) ∧ Blk W g 145 (wv R ++ (wv (List.replicate (ly - i) 0) ++ S)).toArray
  fr : Fr w W (fun k => k = g)

theorem BmS.zero {w W : World} {g i ly : Nat} {S : List Value} {xs ys : List Nat} (h : BmS w g i ly S xs ys W) (hly : ly = ys.length) (hi : i < ly) (hd : ys.getD i 0 = 0) (hdx : Dig 18446744073709551616 xs) : BmS w g (i + 1) ly S xs ys W := by
  obtain ⟨R, h1, h2, h3, h4⟩ := h.row
  obtain ⟨s1, s2, s3⟩ := school_step (b := 18446744073709551616) (by omega) hdx (by omega) h2 h1 h3 (by omega) hd
  rw [amul_zero (by omega) (by rw [List.length_drop]; omega) (fun e he => h2 e (List.mem_of_mem_drop he)), List.take_append_drop] at s1 s2 s3
  refine ⟨⟨R ++ [0], s1, s2, s3, ?_⟩, h.fr⟩
  have e : wv (R ++ [0]) ++ (wv (List.replicate (ly - (i + 1)) 0) ++ S) = wv R ++ (wv (List.replicate (ly - i) 0) ++ S) := by
    rw [show ly - i = (ly - (i + 1)) + 1 by omega, List.replicate_succ, wv_append, wv_cons]
    simp [wv]
  rw [e]; exact h4

/-- The window, and how a round ends. -/
theorem BmS.win {w W : World} {g i ly lx d : Nat} {S : List Value} {xs ys : List Nat} (h : BmS w g i ly S xs ys W) (hlx : lx = xs.length) (hly : ly = ys.length) (hi : i < ly) (hd : ys.getD i 0 = d) (hdl : d < 18446744073709551616) (hdx : Dig 18446744073709551616 xs) :
    ∃ (P S2 : List Value) (zs : List Nat), P.length = i ∧ zs.length = xs.length ∧ Dig 18446744073709551616 zs ∧ Blk W g 145 (P ++ wv zs ++ S2).toArray ∧
      ∀ W1 q, q = (amul 18446744073709551616 d zs xs 0).2 → Blk W1 g 145 (P ++ wv (amul 18446744073709551616 d zs xs 0).1 ++ S2).toArray → Fr W W1 (fun k => k = g) →
        (∃ u, W1.cell? ⟨g, lx + i, none⟩ = some u) ∧ W1.frozen? ⟨g, lx + i, none⟩ = false ∧ BmS w g (i + 1) ly S xs ys (W1.setCell ⟨g, lx + i, none⟩ (.int .u64 (q : Int))) := by
  obtain ⟨R, h1, h2, h3, h4⟩ := h.row
  obtain ⟨s1, s2, s3⟩ := school_step (b := 18446744073709551616) (by omega) hdx hdl h2 h1 h3 (by omega) hd
  have hdl2 : (R.drop i).length = xs.length := by rw [List.length_drop]; omega
  refine ⟨wv (R.take i), wv (List.replicate (ly - i) 0) ++ S, R.drop i, by rw [wv_length, List.length_take]; omega, hdl2, fun e he => h2 e (List.mem_of_mem_drop he), ?_, ?_⟩
  · rw [← wv_append, List.take_append_drop]; exact h4
  · intro W1 q hq hB hF
    rw [show ly - i = (ly - (i + 1)) + 1 by omega, List.replicate_succ, wv_cons, List.cons_append] at hB
    obtain ⟨p1, p2, p3⟩ := hB.part (i := lx + i) (by rw [List.length_append, wv_length, wv_length, amul_length _ _ _ hdl2, List.length_take]; omega)
    refine ⟨⟨_, p1⟩, p2, ⟨_, s1, s2, s3, ?_⟩, (Fr.step h.fr hF (fun _ _ h => h)).setCell (p := ⟨g, lx + i, none⟩) (fun _ => rfl) _⟩
    have := p3 (.int .u64 (q : Int))
    rw [hq] at this ⊢
    rw [wv_append, wv_append]
    simpa [wv, List.append_assoc] using this

/-- Behind basicMul. -/
def BmP (w : World) (g : Nat) (S : List Value) (xs ys : List Nat) (e : Ending) (w' : World) : Prop :=
  e = .returned (.tuple #[]) ∧ (∃ R, R.length = xs.length + ys.length ∧ Dig 18446744073709551616 R ∧ dval 18446744073709551616 R = dval 18446744073709551616 xs * dval 18446744073709551616 ys ∧ Blk w' g 145 (wv R ++ S).toArray) ∧ Fr w w' (fun k => k = g)

set_option maxHeartbeats 1000000 in
set_option maxRecDepth 20000 in
theorem basicMul_any (g n cz lx ly ca cb : Nat) (A B : Option Addr) (us : List Value) (S : List Value) (xs ys : List Nat) (w : World) (hb : Blk w g 145 (us ++ S).toArray) (hus : us.length = n) (hn : n = lx + ly) (hlx : lx = xs.length) (hly : ly = ys.length) (hx1 : 1 ≤ lx) (hy1 : 1 ≤ ly) (hcz : cz = (us ++ S).length) (hm : cz ≤ maxLen) (hlb : lx ≤ 1048576)
    (hx : RdW w (.slice A lx ca) xs) (hxb : ∀ k, (Value.slice A lx ca).ownBlock = some k → k ≠ g) (hy : RdW w (.slice B ly cb) ys) (hyb : ∀ k, (Value.slice B ly cb).ownBlock = some k → k ≠ g) (hdx : Dig 18446744073709551616 xs) (hdy : Dig 18446744073709551616 ys) :
    Calls Tryz.prog 207 #[.slice (some ⟨g, 0, none⟩) n cz, .slice A lx ca, .slice B ly cb] w (BmP w g S xs ys) := by
  unfold maxLen at hm
  have hlc : lx + ly ≤ cz := by rw [← hn, hcz, List.length_append]; omega
  have hcn : n ≤ cz := by rw [hcz, List.length_append]; omega
  have hclr : ∀ ty, (Builtin.clear_ #[65] ty #[.slice (some ⟨g, 0, none⟩) (lx + ly) cz]).run Tryz.prog w = .ok (.tuple #[]) (w.setCells g 0 (List.replicate n (.int .u64 0))) := by
    intro ty
    rw [← hn]
    obtain ⟨i0, hi, hz0, hz1, hz2⟩ := info_parts infoWord
    refine Lib.run_clear_slice w 65 145 ty (.int .u64 0) Tryz.underlying65 (fun W => ?_) rfl rfl g 0 n cz (by omega) (fun j hj => ?_) (fun j hj => ?_)
    · kernel_rfl
    · rw [Nat.zero_add, hb.cell]; simp; omega
    · exact hb.frozen _
  have hst : BmS w g 0 ly S xs ys (w.setCells g 0 (List.replicate n (.int .u64 0))) := by
    refine ⟨⟨List.replicate lx 0, by simp [hlx], fun d hd => by rw [List.eq_of_mem_replicate hd]; omega, by rw [dval_replicate_zero]; simp [dval], ?_⟩, Fr.setCells (Q := fun k => k = g) (fun _ => rfl) _ _ (Fr.refl _ _)⟩
    have := Blk.setCells (vs := List.replicate n (Value.int .u64 0)) (P := []) (us := us) (S := S) (by simpa using hb) (by simpa using hus)
    have e : wv (List.replicate lx 0) ++ (wv (List.replicate (ly - 0) 0) ++ S) = [] ++ List.replicate n (Value.int .u64 0) ++ S := by
      rw [← List.append_assoc, ← wv_append, List.replicate_append_replicate, Nat.sub_zero, hn]; simp [wv]
    rw [e]; exact this
  have HS0 := hide hst
  clear hst
  generalize w.setCells g 0 (List.replicate n (.int .u64 0)) = W0 at hclr HS0
  have HZ := hide (And.intro hn (And.intro hlx (And.intro hly (And.intro hdx (And.intro hdy hcz)))))
  have HY := hide (And.intro hx (And.intro hxb (And.intro hy hyb)))
  clear hb hus hx hxb hy hyb hdx hdy hlx hly hcz hn
  go_enter Tryz.func207, Tryz.ntmps207
  go_wp2
  go_loopw [17] (fun vi wr => ∃ i : Nat, i ≤ ly ∧ vi = .int .i64 (i : Int) ∧ Hid (BmS w g i ly S xs ys wr)) (fun vi _ => ly - (intOf vi).toNat)
  case atStart => exact ⟨0, Nat.zero_le _, by go_num, HS0⟩
  case round =>
    obtain ⟨i, hi, rfl, HR⟩ := hrel
    by_cases hlt : i < ly
    · obtain ⟨gy, oy, rfl, _, hcell⟩ := RdG.at_ (k := .u64) HY.out.2.2.1 i (by have := HZ.out.2.2.1; omega)
      have hcy : wr.cell? ⟨gy, oy + i, none⟩ = some (.int .u64 (ys.getD i 0 : Nat)) := HR.out.fr.cell hcell (HY.out.2.2.2 gy rfl)
      have hyl : ys.getD i 0 < 18446744073709551616 := HZ.out.2.2.2.2.1 _ (by rw [getD_at (by have := HZ.out.2.2.1; omega)]; exact List.getElem_mem _)
      by_cases h0 : ys.getD i 0 = 0
      · have HN := hide (HR.out.zero HZ.out.2.2.1 hlt h0 HZ.out.2.2.2.1)
        rw [h0] at hcy
        clear hcell HS0 HR hyl h0
        go_wp2
        go_roundw
        case rel => exact ⟨i + 1, by omega, by go_num, HN⟩
        case measure => simp [intOf]; omega
      · obtain ⟨P, S2, zs, hP, hzl, hzd, hB, hst⟩ := HR.out.win HZ.out.2.1 HZ.out.2.2.1 hlt rfl hyl HZ.out.2.2.2.1
        have con := fun W (hb : Blk W g 145 (P ++ wv zs ++ S2).toArray) (hf : Fr w W (fun k => k = g)) => amv_any g i lx (cz - i) (cz - i) 0 (ys.getD i 0) P S2 A ca zs xs W hb hP.symm hzl HZ.out.2.1 (by omega) (by omega) (by omega)
          (HY.out.1.fr hf (fun k hk => HY.out.2.1 k hk)) HY.out.2.1 (by omega) hyl hzd HZ.out.2.2.2.1
        have Con := hide con
        have HST := hide hst
        have HBF := hide (And.intro hB HR.out.fr)
        have hin : lx + i < n := by have := HZ.out.1; omega
        have hsl : ∀ W, (Instr.slice 65 (.slice (some ⟨g, 0, none⟩) n cz) (some (.int .i64 (i : Int))) (some (.int .i64 ((i : Int) + (lx : Int)))) none).run Tryz.prog W = .ok (.slice (some ⟨g, i, none⟩) lx (cz - i)) W := fun W => sl_mid g i lx cz n _ W (by omega) (by omega) (by omega)
        have hw1 : IntKind.i64.wrap ((i : Int) + (lx : Int)) = (i : Int) + (lx : Int) := by simp [IntKind.wrap, IntKind.signed, IntKind.bits]; omega
        have hw2 : IntKind.i64.wrap ((lx : Int) + (i : Int)) = (lx : Int) + (i : Int) := by simp [IntKind.wrap, IntKind.signed, IntKind.bits]; omega
        have hb0 : (((ys.getD i 0 : Nat) : Int) == 0) = false := beq_eq_false_iff_ne.2 (by omega)
        clear hcell HS0 HR hyl h0 con hst hB hzd hP hzl
        generalize ys.getD i 0 = d at *
        go_wp2_with fail
        go_region_with (go_at_call 239; go_loud (refine (Con.out _ ?_ ?_).mono ?_; exact HBF.out.1; exact HBF.out.2.drew; rintro e w3 ⟨q, rfl, hq, hb3, hf3⟩; obtain ⟨⟨u, k1⟩, k2, HN⟩ := HST.out w3 q hq.out hb3 ⟨hf3.os, hf3.tape, hf3.output, hf3.size, hf3.block⟩; have HN2 := hide HN; clear hq hb3 hf3 HN))
        all_goals go_wp2
        all_goals go_roundw
        case rel => exact ⟨i + 1, by omega, by go_num, HN2⟩
        case measure => simp [intOf]; omega
    · obtain rfl : i = ly := by omega
      have HF : Hid (BmP w g S xs ys (.returned (.tuple #[])) wr) := by
        obtain ⟨R, h1, h2, h3, h4⟩ := HR.out.row
        rw [HZ.out.2.2.1, List.take_of_length_le (Nat.le_refl _)] at h3
        refine ⟨rfl, ⟨R, by rw [h1, HZ.out.2.2.1], h2, h3, ?_⟩, HR.out.fr⟩
        simpa [wv] using h4
      clear HS0 HR
      go_wp2
      go_end0
      exact HF.out
end Go.Proofs.YtfkcobdkgjhfaaaGreatDoor

/- Walks: alias of two rows of words. -/
set_option linter.unusedVariables false
set_option linter.unusedSimpArgs false
namespace Go.Proofs.YtfkcobdkgjhfaaaGreatDoor
open Go.RowKit

theorem eql_Word (w : World) {a b : Addr} {ca cb : Array Value} {ta tb : TypeId} (hne : a ≠ b) (ha : Blk w a.block ta ca) (hb : Blk w b.block tb cb) :
    (binOp .eql 230 (.pointer (some a)) (.pointer (some b))).run Tryz.prog w = .ok (.bool false) w := by
  obtain ⟨j, hj, hs⟩ := Option.map_eq_some_iff.1 sizeWord
  exact run_eql_ptr_other w Tryz.underlying230 hj (by rw [hs]; decide) hne ha hb

theorem alias_nil (z x : Value) (n c : Nat) (A : Option Addr) (w : World) (h : (z = .slice none 0 0 ∧ x = .slice A n c) ∨ (x = .slice none 0 0 ∧ z = .slice A n c)) :
    Calls Tryz.prog 172 #[z, x] w fun e w' => e = .returned (.bool false) ∧ ∃ k, w' = w.drewN k := by
  rcases h with ⟨rfl, rfl⟩ | ⟨rfl, rfl⟩
  · go_enter Tryz.func172, Tryz.ntmps172
    go_wp2_with fail
    go_quiet (fail)
    go_wp2
    go_ret
    exact ⟨rfl, _, rfl⟩
  · by_cases h0 : 0 < c
    · go_enter Tryz.func172, Tryz.ntmps172
      go_wp2_with fail
      go_quiet (fail)
      go_wp2
      go_ret
      exact ⟨rfl, _, rfl⟩
    · go_enter Tryz.func172, Tryz.ntmps172
      go_wp2_with fail
      go_quiet (fail)
      go_wp2
      go_ret
      exact ⟨rfl, _, rfl⟩

set_option maxHeartbeats 500000 in
theorem alias_far (gz gx n m cz cx : Nat) (tz tx : TypeId) (bz bx : Array Value) (w : World) (hz : Blk w gz tz bz) (hx : Blk w gx tx bx) (hne : gz ≠ gx) (hmz : cz ≤ maxLen) (hmx : cx ≤ maxLen) :
    Calls Tryz.prog 172 #[.slice (some ⟨gz, 0, none⟩) n cz, .slice (some ⟨gx, 0, none⟩) m cx] w fun e w' => e = .returned (.bool false) ∧ ∃ k, w' = w.drewN k := by
  unfold maxLen at hmz hmx
  have hcmp : ∀ (i j k : Nat), (binOp .eql 230 (.pointer (some ⟨gz, i, none⟩)) (.pointer (some ⟨gx, j, none⟩))).run Tryz.prog (w.drewN k) = .ok (.bool false) (w.drewN k) :=
    fun i j k => eql_Word (w.drewN k) (a := ⟨gz, i, none⟩) (b := ⟨gx, j, none⟩) (by intro e; injection e with e1; exact hne e1) (hz.drewN k) (hx.drewN k)
  clear hz hx hne
  by_cases h0 : 0 < cz
  · by_cases h1 : 0 < cx
    · have z1 : wrap64 ((cz : Int) - 1) = ((cz - 1 : Nat) : Int) := by unfold wrap64; omega
      have x1 : wrap64 ((cx : Int) - 1) = ((cx - 1 : Nat) : Int) := by unfold wrap64; omega
      have z2 : cz - 1 < cz := by omega
      have x2 : cx - 1 < cx := by omega
      go_enter Tryz.func172, Tryz.ntmps172
      go_wp2_with fail
      go_quiet (fail)
      go_wp2
      go_ret
      exact ⟨rfl, _, rfl⟩
    · go_enter Tryz.func172, Tryz.ntmps172
      go_wp2_with fail
      go_quiet (fail)
      go_wp2
      go_ret
      exact ⟨rfl, _, rfl⟩
  · go_enter Tryz.func172, Tryz.ntmps172
    go_wp2_with fail
    go_quiet (fail)
    go_wp2
    go_ret
    exact ⟨rfl, _, rfl⟩
end Go.Proofs.YtfkcobdkgjhfaaaGreatDoor
