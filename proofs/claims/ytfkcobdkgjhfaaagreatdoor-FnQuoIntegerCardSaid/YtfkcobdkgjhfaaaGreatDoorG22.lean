/- Parts of the proofs: KnDivM. -/
import Derived.Deep.DeepCutAuto
import Derived.Test.YtfkcobdkgjhfaaaGreatDoorG17
import Derived.Test.YtfkcobdkgjhfaaaGreatDoorG20
import Derived.Test.YtfkcobdkgjhfaaaGreatDoorG21
/- Walk: nat.divLarge by a divisor of two to fourteen words. -/
set_option linter.unusedVariables false
set_option linter.unusedSimpArgs false
namespace Go.Proofs.YtfkcobdkgjhfaaaGreatDoor
open Go.RowKit

/-- Behind divLarge: as QrP, and the stack stands. -/
def QrS (w : World) (base gs : Nat) (z z2 : Value) (a y : Nat) (e : Ending) (w' : World) : Prop :=
  ∃ (Q R : Option Addr) (cq cr : Nat), e = .returned (.tuple #[.slice Q (digs 18446744073709551616 (a / y)).length cq, .slice R (digs 18446744073709551616 (a % y)).length cr]) ∧
    Own w' base (.slice Q (digs 18446744073709551616 (a / y)).length cq) (digs 18446744073709551616 (a / y)) ∧ Own w' base (.slice R (digs 18446744073709551616 (a % y)).length cr) (digs 18446744073709551616 (a % y)) ∧
    ((Value.slice Q (digs 18446744073709551616 (a / y)).length cq).ownBlock = z.ownBlock ∨ ∃ k, (Value.slice Q (digs 18446744073709551616 (a / y)).length cq).ownBlock = some k ∧ w.heap.size ≤ k) ∧
    ((Value.slice R (digs 18446744073709551616 (a % y)).length cr).ownBlock = z2.ownBlock ∨ ∃ k, (Value.slice R (digs 18446744073709551616 (a % y)).length cr).ownBlock = some k ∧ w.heap.size ≤ k) ∧
    (∀ k, (Value.slice Q (digs 18446744073709551616 (a / y)).length cq).ownBlock = some k → (Value.slice R (digs 18446744073709551616 (a % y)).length cr).ownBlock ≠ some k) ∧
    StkR w' gs 0 ∧ (∀ k, StkB w' gs k → k = gs ∨ w.heap.size ≤ k) ∧ Fr w w' (fun k => (z.ownBlock = some k ∨ z2.ownBlock = some k) ∨ k = gs)
theorem Own.blk {w : World} {base k : Nat} {v : Value} {xs : List Nat} (h : Own w base v xs) (hk : v.ownBlock = some k) : ∃ cs, Blk w k 145 cs := by
  rcases h.form with ⟨rfl, -⟩ | ⟨g, cap, cur, rfl, -, hB, -⟩
  · cases hk
  · have e : g = k := (by injection hk)
    subst e
    exact ⟨_, hB⟩
theorem Room.blk {w : World} {base k n : Nat} {v : Value} (h : Room w base v n) (hk : v.ownBlock = some k) : ∃ cs, Blk w k 145 cs := by
  rcases h.form with ⟨rfl, -⟩ | ⟨g, cap, cur, rfl, -, hB, -⟩
  · cases hk
  · have e : g = k := (by injection hk)
    subst e
    exact ⟨_, hB⟩
theorem Own.stk {w w' : World} {base gs : Nat} {v : Value} {xs : List Nat} (h : Own w base v xs) (hst : StkR w gs 0) (hf : Fr w w' (StkB w gs)) : Own w' base v xs :=
  h.fr hf (fun k hk h1 => by
    obtain ⟨cs, hB⟩ := h.blk hk
    exact hst.bne h1 hB rfl)

/-- The end: quotient and rest stand in their rows, the stack is restored. -/
theorem lg_finS {w w8 w9 w10 : World} {base gs a y gv gu gq : Nat} {z z2 : Value} {Q R : Option Addr} {nq nr cq cr : Nat} {qk us : List Nat} (hgv : w.heap.size ≤ gv) (hgu : z2.ownBlock = some gu ∨ w.heap.size ≤ gu) (hgq : z.ownBlock = some gq ∨ w.heap.size ≤ gq) (hne : gq ≠ gu)
    (hf8 : Fr w w8 (fun k => ((k = gv ∨ k = gu) ∨ k = gq) ∨ k = gs)) (hst : StkR w8 gs 0) (hsb : ∀ k, StkB w8 gs k → k = gs ∨ w.heap.size ≤ k) (hB8 : ∃ cs, Blk w8 gu 145 cs) (hf9 : Fr w8 w9 (fun k => k = gu)) (hnq : nq = (trimz qk).length) (hnr : nr = (trimz us).length) (hq : Own w8 base (.slice Q nq cq) (trimz qk)) (hqb : (Value.slice Q nq cq).ownBlock = some gq) (hr : Own w9 base (.slice R nr cr) (trimz us)) (hrb : (Value.slice R nr cr).ownBlock = some gu)
    (eq : trimz qk = digs 18446744073709551616 (a / y)) (er : trimz us = digs 18446744073709551616 (a % y)) (hf10 : Fr w9 w10 (StkB w9 gs)) (hst10 : StkR w10 gs 0) : QrS w base gs z z2 a y (.returned (.tuple #[.slice Q nq cq, .slice R nr cr])) w10 := by
  subst hnq hnr
  rw [eq] at hq hqb ⊢
  rw [er] at hr hrb ⊢
  have hst9 : StkR w9 gs 0 := hst.fr hf9 (fun k hk => by have hk : k = gu := hk; rw [hk]; exact hB8)
  have hsb9 : ∀ k, StkB w9 gs k → k = gs ∨ w.heap.size ≤ k := fun k hk => hsb k (hst.sf hf9 (fun k hk _ => by have hk : k = gu := hk; rw [hk]; exact hB8) hk)
  have hq9 := hq.fr hf9 (fun k hk h => by rw [hqb] at hk; injection hk with hk; exact hne (hk.trans h))
  refine ⟨Q, R, cq, cr, rfl, hq9.stk hst9 hf10, hr.stk hst9 hf10, ?_, ?_, fun k h1 h2 => ?_, hst10, fun k hk => hsb9 k (hst9.sb hf10 hk), Fr.step (Fr.step (hf8.mono (fun k hk h => ?_)) hf9 (fun k hk h => ?_)) hf10 (fun k hk h => ?_)⟩
  · rcases hgq with h | h
    · exact .inl (hqb.trans h.symm)
    · exact .inr ⟨gq, hqb, h⟩
  · rcases hgu with h | h
    · exact .inl (hrb.trans h.symm)
    · exact .inr ⟨gu, hrb, h⟩
  · rw [hqb] at h1; rw [hrb] at h2; injection h1 with h1; injection h2 with h2; exact hne (h1.trans h2.symm)
  · rcases h with ((h | h) | h) | h
    · omega
    · subst h; exact .inl (.inr (hgu.resolve_right (by omega)))
    · subst h; exact .inl (.inl (hgq.resolve_right (by omega)))
    · exact .inr h
  · have h : k = gu := h
    subst h
    exact .inl (.inr (hgu.resolve_right (by omega)))
  · rcases hsb9 k h with h1 | h1
    · exact .inr h1
    · omega

set_option maxHeartbeats 4000000 in
set_option maxRecDepth 20000 in
theorem divLarge_gen (base gs : Nat) (z z2 : Value) (mz m2 n lu : Nat) (A B : Option Addr) (cu cv a y : Nat) (w : World) (hk : Blk w gs 203 #[.pointer none]) (hgb : base ≤ gs) (hsx : (∀ k, (Value.slice A lu cu).ownBlock = some k → k ≠ gs) ∧ ∀ k, (Value.slice B n cv).ownBlock = some k → k ≠ gs)
    (hz : Room w base z mz) (hz2 : Room w base z2 m2) (hzz : ∀ k, z.ownBlock = some k → z2.ownBlock ≠ some k) (hb : base ≤ w.heap.size) (hn : n = (digs 18446744073709551616 y).length) (hlu : lu = (digs 18446744073709551616 a).length) (hn2 : 2 ≤ n) (hn3 : n ≤ 14) (hlun : n ≤ lu) (hlu2 : lu ≤ 900)
    (hx : RdW w (.slice A lu cu) (digs 18446744073709551616 a)) (hxb : ∀ k, (Value.slice A lu cu).ownBlock = some k → z.ownBlock ≠ some k ∧ z2.ownBlock ≠ some k) (hy : RdW w (.slice B n cv) (digs 18446744073709551616 y)) (hyb : ∀ k, (Value.slice B n cv).ownBlock = some k → z.ownBlock ≠ some k ∧ z2.ownBlock ≠ some k)
    (hvar : w.cell? ⟨0, 0, none⟩ = some (.int .i64 40)) (hvb : 0 < base) :
    Calls Tryz.prog 145 #[z, .pointer (some ⟨gs, 0, none⟩), z2, .slice A lu cu, .slice B n cv] w (QrS w base gs z z2 a y) := by
  obtain ⟨n1, hn1⟩ : ∃ i, n = i + 1 := ⟨n - 1, by omega⟩
  obtain ⟨m0, hm0⟩ : ∃ i, lu = n + i := ⟨lu - n, by omega⟩
  obtain ⟨g, o, rfl, hgl, hyc⟩ := RdG.at_ (k := .u64) hy n1 (by omega)
  have HG0 := hide hgl
  clear hgl
  obtain ⟨top, htop⟩ : ∃ t, t = (digs 18446744073709551616 y).getD n1 0 := ⟨_, rfl⟩
  rw [← htop] at hyc
  have htl : top < 18446744073709551616 := by rw [htop]; exact dig_getD (by omega) (dig_digs (by omega) _) _
  have ConN := hide (fun W => nlz_any top htl W)
  have ConS := hide (snatV_any gs n w hk (by omega) hn3)
  unfold SnV at ConS
  have hs := hk.cell 0
  have hs : w.cell? ⟨gs, 0, none⟩ = some (.pointer none) := hs
  have hsz := And.intro (hz.ne_blk hk (by decide)) (And.intro (hz2.ne_blk hk (by decide)) (And.intro hsx (And.intro hgb hk.lt)))
  have i1 : (lu : Int) - (n : Int) = (m0 : Int) := by omega
  have i2 : (n : Int) - 1 = (n1 : Int) := by omega
  obtain ⟨l1, hl1⟩ : ∃ i, i = lu + 1 := ⟨_, rfl⟩
  have i3 : (lu : Int) + 1 = (l1 : Int) := by omega
  have g3 : -1000000 ≤ (l1 : Int) ∧ (l1 : Int) ≤ 1000000 := by omega
  have g1 : -1000000 ≤ (m0 : Int) ∧ (m0 : Int) ≤ 1000000 := by omega
  have g2 : -1000000 ≤ (n1 : Int) ∧ (n1 : Int) ≤ 1000000 := by omega
  have j1 : n1 < n := by omega
  have H0 := hide (And.intro hz (And.intro hz2 (And.intro hzz (And.intro hb (And.intro hn (And.intro hlu (And.intro hx (And.intro hxb (And.intro hy (And.intro hyb (And.intro hvar hvb)))))))))))
  have H1 := hide (And.intro hn1 (And.intro hm0 (And.intro htop (And.intro hlun (And.intro hlu2 hsz)))))
  clear hz hz2 hzz hb hn hlu hx hxb hy hyb hvar hvb hn1 hm0 htop hlun hlu2 hsz htl hgb hsx hk
  have HL1 := hide hl1
  clear hl1
  have k3 : IntKind.i64.wrap ((lu : Int) + 1) = (l1 : Int) := kn_i64 i3 g3
  have k3' : wrap64 ((lu : Int) + 1) = (l1 : Int) := kn_w64 i3 g3
  have k1 : IntKind.i64.wrap ((lu : Int) - (n : Int)) = (m0 : Int) := kn_i64 i1 g1
  have k1' : wrap64 ((lu : Int) - (n : Int)) = (m0 : Int) := kn_w64 i1 g1
  have k2 : IntKind.i64.wrap ((n : Int) - 1) = (n1 : Int) := kn_i64 i2 g2
  have k2' : wrap64 ((n : Int) - 1) = (n1 : Int) := kn_w64 i2 g2
  clear i1 i2 i3 g1 g2 g3
  go_enter_defers Tryz.func145, Tryz.ntmps145
  go_wp2_with fail
  refine (save_nil gs _ hs).mono ?_
  rintro e w1 ⟨rfl, rfl⟩
  go_wp2_with fail
  refine (ConN.out _).mono ?_
  rintro e1 w1 ⟨rfl, rfl⟩
  clear hs
  go_wp2_with fail
  refine (ConS.out).mono ?_
  rintro e2 w2 ⟨gv, cap, cur, rfl, hgv, hBv, hnc, hcc, hcm, hsV, hsb, hF2⟩
  have hz' := H0.out.1.fr hF2 (fun k h e => H1.out.2.2.2.2.2.1 k h e)
  have hz2' := H0.out.2.1.fr hF2 (fun k h e => H1.out.2.2.2.2.2.2.1 k h e)
  have hx' := H0.out.2.2.2.2.2.2.1.fr hF2 (fun k h e => H1.out.2.2.2.2.2.2.2.1.1 k h e)
  have hy' := H0.out.2.2.2.2.2.2.2.2.1.fr hF2 (fun k h e => H1.out.2.2.2.2.2.2.2.1.2 k h e)
  have hvar' := hF2.cell H0.out.2.2.2.2.2.2.2.2.2.2.1 (fun h => by have h : 0 = gs := h; have h1 := H0.out.2.2.2.2.2.2.2.2.2.2.2; have h2 := H1.out.2.2.2.2.2.2.2.2.1; omega)
  have hb' : base ≤ w2.heap.size := Nat.le_trans H0.out.2.2.2.1 hF2.size
  have hlu2 := H1.out.2.2.2.2.1
  have conU := make_any base z2 m2 (l1 : Int) w2 hz2' hb' (by omega) (by have := HL1.out; omega)
  rw [Int.toNat_natCast] at conU
  have ConU := hide conU
  have HV := hide (And.intro hgv (And.intro hBv (And.intro hnc (And.intro (Nat.le_trans hcc hcm) (And.intro hcc hF2)))))
  have H2 := hide (And.intro hz' (And.intro hz2' (And.intro hx' (And.intro hy' (And.intro hvar' hb')))))
  have HST := hide (And.intro hsV (And.intro hsb hcm))
  clear hgv hBv hcm hcc hF2 hsV hsb hz' hz2' hx' hy' hvar' hb' hlu2 conU ConS ConN
  go_wp2_with fail
  refine (ConU.out).mono ?_
  rintro e3 w3 ⟨r, rfl, hru, hrb, hb3⟩
  clear ConU
  rcases hru.form with ⟨-, hl0⟩ | ⟨gu, cu2, cu3, rfl, hgu, hBu, hle, hmx, hsz⟩
  · exfalso; have := HL1.out; omega
  have hguv : gu ≠ gv := by
    have h1 := hBu.lt
    have h2 := HV.out.1
    have h3 := HV.out.2.1.lt
    rcases hrb with h | h
    · have := H0.out.2.1.lt (k := gu) (by rw [← h]; rfl)
      omega
    · have h4 : gu = w2.heap.size := (by injection h)
      omega
  have HU := hide (And.intro hru (And.intro hrb hb3))
  have HU2 := hide (And.intro hgu (And.intro hBu (And.intro hle (And.intro hmx (And.intro hsz hguv)))))
  have hlcu : lu ≤ cu2 := by have := HL1.out; omega
  have hll1 : lu < l1 := by have := HL1.out; omega
  clear hru hrb hb3 hgu hBu hle hmx hsz hguv
  obtain ⟨s, hs⟩ : ∃ s, s = nlzN top := ⟨_, rfl⟩
  rw [← hs]
  have HS := hide hs
  clear hs k1 k1' k2 k2' k3 k3'
  go_upto_if 40 with fail
  go_cut [] from 40 (fun wx => Hid (LgM w2 gv gu n lu s a y (cur.toList.drop n) (cu3.toList.drop (lu + 1)) wx))
  case first =>
    rcases Nat.eq_zero_or_pos s with h0 | h0
    · subst h0
      have hsb : (((0 : Nat) : Int) == 0) = true := rfl
      have hyl := H0.out.2.2.2.2.1
      have hlul := H0.out.2.2.2.2.2.1
      have hne := HU2.out.2.2.2.2.2
      have hn1e := H1.out.1
      have hlun := H1.out.2.2.2.1
      have hb3 := HU.out.2.2
      have hyr := RdG.below (k := .u64) H2.out.2.2.2.1 hb3
      have hxr := RdG.below (k := .u64) H2.out.2.2.1 hb3
      obtain ⟨ga, oa, eA, hga, -⟩ := RdG.at_ (k := .u64) H0.out.2.2.2.2.2.2.1 0 (by omega)
      obtain ⟨ys, hys⟩ : ∃ ys, ys = digs 18446744073709551616 y := ⟨_, rfl⟩
      obtain ⟨xs, hxs⟩ : ∃ xs, xs = digs 18446744073709551616 a := ⟨_, rfl⟩
      rw [← hys] at hyl hyr
      rw [← hxs] at hlul hxr
      subst eA
      have hgav : ga ≠ gv := by have := HV.out.1; omega
      have hwy : WordsAt w3 g o ys := fun i hi => by
        obtain ⟨g5, o5, e5, -, h5⟩ := RdG.at_ (k := .u64) hyr i hi
        injection e5 with e5; injection e5 with e5 e6; subst e5 e6; exact h5
      have hwx : WordsAt w3 ga oa xs := fun i hi => by
        obtain ⟨g5, o5, e5, -, h5⟩ := RdG.at_ (k := .u64) hxr i hi
        injection e5 with e5; injection e5 with e5 e6; subst e5 e6; exact h5
      obtain ⟨W4, hW4⟩ : ∃ W, W = w3.setRow gv (wv ys ++ cur.toList.drop (wv ys).length).toArray := ⟨_, rfl⟩
      have hBv3 := HV.out.2.1.below HU.out.2.2
      have hF4 : Fr w3 W4 (fun k => k = gv) := by rw [hW4]; exact (Fr.refl w3 (fun k => k = gv)).setRow (fun _ => rfl) _
      have hB4 : Blk W4 gv 145 (wv ys ++ cur.toList.drop n).toArray := by
        rw [hW4, wv_length, ← hyl]; exact hBv3.setRow _
      have hBu4 := HU2.out.2.1.fr hF4 (fun h => hne h)
      have hwx4 := hwx.fr hF4 (fun h => hgav h)
      obtain ⟨W5, hW5⟩ : ∃ W, W = W4.setRow gu (wv xs ++ cu3.toList.drop (wv xs).length).toArray := ⟨_, rfl⟩
      have hF5 : Fr W4 W5 (fun k => k = gu) := by rw [hW5]; exact (Fr.refl W4 (fun k => k = gu)).setRow (fun _ => rfl) _
      have hB5 : Blk W5 gu 145 (wv xs ++ cu3.toList.drop lu).toArray := by
        rw [hW5, wv_length, ← hlul]; exact hBu4.setRow _
      obtain ⟨u0, xc, xf, hL⟩ := lgm_end (w := w2) (w5 := W5) (gv := gv) (gu := gu) (n := n) (lu := lu) (s := 0) (a := a) (y := y) (qu := 0) (cu2 := cu2) (cu3 := cu3) (Sv := cur.toList.drop n) hlul.symm HU2.out.2.2.2.2.1 (by have := HL1.out; have := HU2.out.2.2.1; omega) hne (hB4.fr hF5 (fun h => hne h.symm)) hB5
        (Fr.step (Fr.step (Fr.of_below hb3 (fun k => k = gv ∨ k = gu)) hF4 (fun i hi h => .inl h)) hF5 (fun i hi h => .inr h))
        (fun W h1 h2 h3 => lgm_zero hn1e H0.out.2.2.2.2.1 H0.out.2.2.2.2.2.1 (by rw [← H1.out.2.2.1]; exact HS.out) (hys ▸ h1) (hxs ▸ h2) h3)
      have HL := hide hL
      have HB4 : Hid (w3.heap[gv]? = some (.cells cur 145 (0, 0))) := hBv3
      have HB5 : Hid (W4.heap[gu]? = some (.cells cu3 145 (0, 0))) := hBu4
      have HX4 := hide (words_src hwy)
      have HX5 := hide (words_src hwx4)
      have fit4 : (wv ys).length ≤ cur.size := by rw [wv_length, ← hyl]; exact Nat.le_trans HV.out.2.2.1 HV.out.2.2.2.2.1
      have fit5 : (wv xs).length ≤ cu3.size := by rw [wv_length, ← hlul, HU2.out.2.2.2.2.1]; exact hlcu
      have HN4 : Hid ((wv ys).length = Nat.min n n) := by rw [wv_length, ← hyl]; exact (Nat.min_self _).symm
      have HN5 : Hid ((wv xs).length = Nat.min lu lu) := by rw [wv_length, ← hlul]; exact (Nat.min_self _).symm
      have HFit := hide (And.intro fit4 fit5)
      clear hb3 hyr hxr hwy hwx hBv3 hF4 hB4 hBu4 hwx4 hF5 hB5 hL fit4 fit5 hgav hga hn1e hlun hyl hlul hys hxs hne
      go_upto_region 9 with (refine wpList_copy_own rfl (.tmp 41) (.tmp 42) 65 65 rfl 145 Tryz.underlying65 sizeWord gv 0 _ _ ⟨g, o, none⟩ _ _ rfl rfl cur _ HB4.out (wv ys) HN4.out ?_ ?_ wv_one ?_; exact HX4.out; (rw [Nat.zero_add]; exact HFit.out.1))
      simp only [List.take_zero, List.nil_append, Nat.zero_add]
      rw [← hW4]
      clear hW4
      go_upto_region 10 with (refine wpList_copy_own rfl (.tmp 47) (.tmp 48) 65 65 rfl 145 Tryz.underlying65 sizeWord gu 0 _ _ ⟨ga, oa, none⟩ _ _ rfl rfl cu3 _ HB5.out (wv xs) HN5.out ?_ ?_ wv_one ?_; exact HX5.out; (rw [Nat.zero_add]; exact HFit.out.2))
      simp only [List.take_zero, List.nil_append, Nat.zero_add]
      rw [← hW5]
      clear hW5
      go_wp2_with fail
      go_meet
      exact HL.out
    · have htl : top < 18446744073709551616 := by rw [H1.out.2.2.1]; exact dig_getD (by omega) (dig_digs (by omega) _) _
      have hn1e := H1.out.1
      have hyl := H0.out.2.2.2.2.1
      have htp : 0 < top := by
        rcases Nat.eq_zero_or_pos top with h | h
        · exfalso
          have hc := canon_digs (b := 18446744073709551616) (by omega) y
          unfold Canon at hc
          rw [List.getLast?_eq_getElem?, ← hyl, hn1e, Nat.add_sub_cancel, List.getElem?_eq_getElem (by omega), ← getD_at (by omega), ← H1.out.2.2.1, h] at hc
          exact hc rfl
        · exact h
      have hsp := nlz_spec top htp htl
      rw [← HS.out] at hsp
      have hBv3 := HV.out.2.1.below HU.out.2.2
      have hyr := RdG.below (k := .u64) H2.out.2.2.2.1 HU.out.2.2
      have hgv := HV.out.1
      have conL := lsh_any gv 0 n cap s [] (cur.toList.drop n) (cur.toList.take n) (some ⟨g, o, none⟩) cv (digs 18446744073709551616 y) w3 (by simpa [List.take_append_drop] using hBv3) rfl (by rw [List.length_take, Array.length_toList, ← hyl]; have := HV.out.2.2.1; have := HV.out.2.2.2.2.1; omega) hyl (by omega) HV.out.2.2.1 hyr (fun k hk => by have hk' : g = k := (by injection hk); have := HG0.out; omega) (dig_digs (by omega) _) h0 hsp.1 (by omega)
      have ConL := hide conL
      have HSP := hide hsp
      have hsb : ((s : Int) == 0) = false := beq_eq_false_iff_ne.2 (by omega)
      have hsb2 : (s == 0) = false := beq_eq_false_iff_ne.2 (by omega)
      clear htl hn1e hyl htp hsp hBv3 hyr hgv conL
      go_wp2_with fail
      refine (ConL.out).mono ?_
      rintro e4 w4 ⟨qv, rfl, hqv, hB4, hF4⟩
      clear ConL
      have hkA : ∀ k, (Value.slice A lu cu).ownBlock = some k → k < w1.heap.size := fun k hk => by
        rcases hA : A with _ | ⟨ga, oa, pa⟩
        · rw [hA] at hk; cases hk
        · obtain ⟨g5, o5, e5, h5, -⟩ := RdG.at_ (k := .u64) H0.out.2.2.2.2.2.2.1 0 (by rw [← H0.out.2.2.2.2.2.1]; have := H1.out.2.2.2.1; omega)
          rw [e5] at hk
          have e6 : g5 = k := (by injection hk)
          omega
      have hxr := (RdG.below (k := .u64) H2.out.2.2.1 HU.out.2.2).fr hF4 (fun k hk h => by
        have h1 := hkA k hk
        have h2 := HV.out.1
        have h3 : k = gv := h
        omega)
      have hxu : ∀ k, (Value.slice A lu cu).ownBlock = some k → k ≠ gu := fun k hk e => by
        subst e
        rcases HU.out.2.1 with h | h
        · exact (H0.out.2.2.2.2.2.2.2.1 k hk).2 (h.symm.trans rfl)
        · have h1 := hkA k hk
          have h2 : k = w2.heap.size := (by injection h)
          have := HV.out.2.2.2.2.2.size
          omega
      have hBu4 := HU2.out.2.1.fr hF4 (fun h => HU2.out.2.2.2.2.2 h)
      have hlul := H0.out.2.2.2.2.2.1
      have hlu900 := H1.out.2.2.2.2.1
      have hlcu' : lu + 1 ≤ cu2 := by have := HL1.out; have := HU2.out.2.2.1; omega
      have conM := lsh_any gu 0 lu cu2 s [] (cu3.toList.drop lu) (cu3.toList.take lu) A cu (digs 18446744073709551616 a) w4 (by simpa [List.take_append_drop] using hBu4) rfl (by rw [List.length_take, Array.length_toList, HU2.out.2.2.2.2.1, ← hlul]; omega) hlul (by omega) hlcu hxr hxu (dig_digs (by omega) _) h0 HSP.out.1 (by have := H1.out.2.2.2.1; omega)
      have ConM := hide conM
      have H4 := hide (And.intro hqv.out (And.intro hB4 hF4))
      clear hkA hxu hxr hBu4 hlul hlu900 conM hqv hB4 hF4
      go_wp2_with fail
      refine (ConM.out).mono ?_
      rintro e5 w5 ⟨qu, rfl, hqu, hB5, hF5⟩
      clear ConM
      have hsl : (shv s (digs 18446744073709551616 a)).length = lu := by rw [shv_length]; exact H0.out.2.2.2.2.2.1.symm
      have hne := HU2.out.2.2.2.2.2
      obtain ⟨u0, xc, xf, hL⟩ := lgm_end (w := w2) (w5 := w5) (gv := gv) (gu := gu) (n := n) (lu := lu) (s := s) (a := a) (y := y) (qu := qu) (cu2 := cu2) (cu3 := cu3) (Sv := cur.toList.drop n) hsl HU2.out.2.2.2.2.1 hlcu' hne (by have h := H4.out.2.1.fr hF5 (fun h => hne h.symm); simpa using h) (by simpa using hB5)
        (Fr.step (Fr.step (Fr.of_below HU.out.2.2 (fun k => k = gv ∨ k = gu)) H4.out.2.2 (fun i hi h => .inl h)) hF5 (fun i hi h => .inr h))
        (fun W h1 h2 h3 => lgm_sh H1.out.1 H0.out.2.2.2.2.1 H0.out.2.2.2.2.2.1 (by have := H1.out.2.2.2.1; have := H1.out.1; omega) (by rw [← H1.out.2.2.1]; exact HS.out) h1 h2 hqu.out h3)
      have HL := hide hL
      clear hL hsl hne hB5 hF5 hqu H4 hlcu'
      go_wp2_with fail
      go_meet
      exact HL.out
  case rest =>
    obtain ⟨vs, us0, hvl, hul, hdv, hdu, hvv, huu, htp, hut, hBv, hBu, hF⟩ := hcut.out
    obtain ⟨Sv, hSv⟩ : ∃ S, S = cur.toList.drop n := ⟨_, rfl⟩
    obtain ⟨Su, hSu⟩ : ∃ S, S = cu3.toList.drop (lu + 1) := ⟨_, rfl⟩
    rw [← hSv] at hBv
    rw [← hSu] at hBu
    have hgu := HU2.out.1
    have hgv := HV.out.1
    have hl1 := HL1.out
    have hSvl : n + Sv.length = cur.size := by rw [hSv, List.length_drop, Array.length_toList]; have := HV.out.2.2.1; have := HV.out.2.2.2.2.1; omega
    have hSul : l1 + Su.length = cu2 := by rw [hSu, List.length_drop, Array.length_toList, HU2.out.2.2.2.2.1]; have := HU2.out.2.2.1; omega
    have hgub : z2.ownBlock = some gu ∨ w1.heap.size ≤ gu := by
      rcases HU.out.2.1 with h | h
      · exact .inl h.symm
      · have h2 : gu = w2.heap.size := (by injection h)
        have := HV.out.2.2.2.2.2.size
        exact .inr (by omega)
    have hRu : Room wc base (.slice (some ⟨gu, 0, none⟩) l1 cu2) l1 := Room.mk hgu hBu HU2.out.2.2.1 HU2.out.2.2.2.1 (by simp [wv_length]; omega)
    have hzk : ∀ k, z.ownBlock = some k → k ≠ gv ∧ k ≠ gu := fun k hk => by
      have h1 := (H0.out.1.lt hk).2
      refine ⟨fun e => by omega, fun e => ?_⟩
      subst e
      rcases hgub with h | h
      · exact H0.out.2.2.1 k hk h
      · omega
    have hRz : Room wc base z mz := H2.out.1.fr hF (fun k hk h => h.elim (hzk k hk).1 (hzk k hk).2)
    have ConA := hide (alias_rows base base mz l1 z (.slice (some ⟨gu, 0, none⟩) l1 cu2) wc hRz hRu (fun k hk h => (hzk k hk).2 (by injection h with h; exact h.symm)))
    obtain ⟨m1, hm1⟩ : ∃ i, i = m0 + 1 := ⟨_, rfl⟩
    have HN := hide (And.intro hvl (And.intro hul (And.intro hdv (And.intro hdu (And.intro hvv (And.intro huu (And.intro htp hut)))))))
    have HW := hide (And.intro hBv (And.intro hBu hF))
    have HG := hide (And.intro hgu (And.intro hgv (And.intro hgub (And.intro hzk (And.intro hSul hm1)))))
    have HSV := hide hSvl
    have HRz := hide hRz
    clear hvl hul hdv hdu hvv huu htp hut hBv hBu hF hSv hSu hgu hgv hl1 hSul hSvl hgub hRu hzk hRz hm1 hcut hlcu hll1
    go_wp2_with fail
    refine (ConA.out).mono ?_
    rintro e6 w6 ⟨rfl, jd, hw6⟩
    have hb6 : Below wc.heap.size wc w6 := by rw [hw6]; exact below_drewN wc jd
    have hm1 := HG.out.2.2.2.2.2
    have hm0 := H1.out.2.1
    have e1 : (m0 : Int) + 1 = (m1 : Int) := by omega
    have e2 : -1000000 ≤ (m1 : Int) ∧ (m1 : Int) ≤ 1000000 := by have := H1.out.2.2.2.2.1; omega
    have conQ := make_any base z mz (m1 : Int) w6 (HRz.out.fr (Fr.of_below hb6 (fun _ => False)) (fun _ _ h => h)) (by have := HW.out.2.2.size; have := hb6.size; have := H2.out.2.2.2.2.2; omega) (by omega) (by omega)
    rw [Int.toNat_natCast] at conQ
    have ConQ := hide conQ
    have H7 := hide hb6
    clear conQ hb6 hm1 hm0 hw6 ConA
    have k4 : IntKind.i64.wrap ((m0 : Int) + 1) = (m1 : Int) := kn_i64 e1 e2
    have k4' : wrap64 ((m0 : Int) + 1) = (m1 : Int) := kn_w64 e1 e2
    clear e1 e2
    go_wp2_with fail
    refine (ConQ.out).mono ?_
    rintro e7 w7 ⟨rq, rfl, hrq, hrqb, hb7⟩
    clear k4 k4' ConQ
    have hm1 := HG.out.2.2.2.2.2
    rcases hrq.form with ⟨-, h⟩ | ⟨gq, cq, qcur, rfl, hgq, hBq, hle, hmx, hsz⟩
    · exfalso; omega
    have hFc := HW.out.2.2
    have hgl : gs < w1.heap.size := H1.out.2.2.2.2.2.2.2.2.2
    have hws := HV.out.2.2.2.2.2.size
    have hgqb : z.ownBlock = some gq ∨ wc.heap.size ≤ gq := by
      rcases hrqb with h | h
      · exact .inl h.symm
      · have h2 : gq = w6.heap.size := (by injection h)
        have := H7.out.size
        exact .inr (by omega)
    have hBvl := HW.out.1.lt
    have hBul := HW.out.2.1.lt
    have hqv : gq ≠ gv := by
      rcases hgqb with h | h
      · exact (HG.out.2.2.2.1 gq h).1
      · omega
    have hqu : gq ≠ gu := by
      rcases hgqb with h | h
      · exact (HG.out.2.2.2.1 gq h).2
      · omega
    have hsv : gs ≠ gv := by have := HG.out.2.1; omega
    have hsu : gs ≠ gu := by
      rcases HG.out.2.2.1 with h | h
      · exact fun e => H1.out.2.2.2.2.2.2.1 gu h e.symm
      · omega
    have hsq : gs ≠ gq := by
      rcases hgqb with h | h
      · exact fun e => H1.out.2.2.2.2.2.1 gq h e.symm
      · have := hFc.size; omega
    have hF7 : Fr wc w7 (fun _ => False) := (Fr.of_below H7.out (fun _ => False)).trans (Fr.of_below hb7 (fun _ => False))
    have hvar7 : w7.cell? ⟨0, 0, none⟩ = some (.int .i64 40) := hF7.cell (hFc.cell H2.out.2.2.2.2.1 (fun h => by have h1 := H0.out.2.2.2.2.2.2.2.2.2.2.2; have h2 := HG.out.1; have h3 := HG.out.2.1; have h4 := H0.out.2.2.2.1; rcases h with h | h <;> (have h : 0 = _ := h; omega))) (fun h => h)
    have hF27 : Fr w2 w7 (fun k => k = gv ∨ k = gu) := Fr.step hFc hF7 (fun _ _ h => h.elim)
    have hrows : ∀ k, (k = gv ∨ k = gu) → k < w2.heap.size → ∃ cs, Blk w2 k 145 cs := fun k hk hl => by
      rcases hk with hk | hk
      · rw [hk]; exact ⟨_, HV.out.2.1⟩
      · rcases HU.out.2.1 with h | h
        · exact H2.out.2.1.blk (by rw [hk]; exact h.symm.trans rfl)
        · have h2 : gu = w2.heap.size := (by injection h)
          omega
    have hsV7 := HST.out.1.fr hF27 hrows
    have hsb7 : ∀ k, StkB w7 gs k → w1.heap.size ≤ k := fun k hk => HST.out.2.1 k (HST.out.1.sb hF27 hrows hk)
    have hBv7 := HW.out.1.fr hF7 (fun h => h)
    have hBu7 := HW.out.2.1.fr hF7 (fun h => h)
    have hlu2 := H1.out.2.2.2.2.1
    have hm0 := H1.out.2.1
    have hn1 := H1.out.1
    have hl1 := HL1.out
    have hrv : RdW w7 (.slice (some ⟨gv, 0, none⟩) n cap) vs := by
      have e := HN.out.1
      subst e
      exact .inr ⟨gv, 0, cap, rfl, HV.out.2.2.1, HV.out.2.2.2.1, WordsAt.of_blk hBv7 (fun i hi => by
        rw [Nat.zero_add, List.getElem?_toArray, List.getElem?_append_left (by rw [wv_length]; exact hi), wv_at, List.getElem?_eq_getElem hi, getD_at hi]; rfl)⟩
    have hltd := lgm_lt H1.out.1 H0.out.2.2.2.2.1 H0.out.2.2.2.2.2.1 H1.out.2.2.2.1 HN.out.2.1 HN.out.2.2.2.2.1 HN.out.2.2.2.2.2.1
    have em : lu - n + 1 = m1 := by omega
    rw [em] at hltd
    have emn : m1 + n = lu + 1 := by omega
    have hqsp : Blk w7 gq 145 (qcur.toList.take m1 ++ qcur.toList.drop m1).toArray := by simpa [List.take_append_drop] using hBq
    have hsV7 : StkV w7 gs gv n (vs.length + Sv.length) := by rw [HN.out.1, HSV.out]; exact hsV7
    obtain ⟨s0, cSv, cNt⟩ := natP_any gs gv n cap vs Sv w7 hsV7 hBv7 HN.out.1 hn2 hn3 HV.out.2.2.1 (by rw [HN.out.1, HSV.out]; exact HST.out.2.2) HV.out.2.2.2.1
    have hBBu : ¬ ((gu = gs ∨ gu = gv) ∨ StkB w7 gs gu) := fun h => by
      rcases h with (h | h) | h
      · exact hsu h.symm
      · exact HU2.out.2.2.2.2.2 h
      · exact hsV7.bne h hBu7 rfl
    have hBBq : ¬ ((gq = gs ∨ gq = gv) ∨ StkB w7 gs gq) := fun h => by
      rcases h with (h | h) | h
      · exact hsq h.symm
      · exact hqv h
      · exact hsV7.bne h hBq rfl
    have ConB := hide (divBasic_gen gs gu gv gq m1 n l1 cq cu2 cap s0 (fun k => (k = gs ∨ k = gv) ∨ StkB w7 gs k) us0 vs Su (qcur.toList.drop m1) (qcur.toList.take m1) w7 cSv cNt ⟨hBBu, hBBq⟩ hBu7 hqsp (by rw [List.length_take, Array.length_toList]; omega) hrv ⟨Ne.symm hqu, HU2.out.2.2.2.2.2, hqv⟩ (by omega) (by rw [HN.out.2.1]; omega) HN.out.2.2.2.1 HN.out.1 HN.out.2.2.1 hn2 (by omega) (by omega) (by omega) (by have := HN.out.2.2.2.2.2.2.1; omega) (by rw [show m1 + n - 1 = lu by omega]; exact HN.out.2.2.2.2.2.2.2) hltd (by have := HU2.out.2.2.1; omega) HU2.out.2.2.2.1 hle hmx HV.out.2.2.1 HV.out.2.2.2.1)
    unfold BasQ at ConB
    have HQ := hide (And.intro hgq (And.intro hle (And.intro hmx (And.intro hsz (And.intro hgqb (And.intro hqv (And.intro hqu (And.intro hF7 (And.intro hsb7 (And.intro hsu (And.intro hsq (And.intro hsv emn))))))))))))
    have t1 : (n : Int) < 40 := by omega
    have t2 : n < 40 := by omega
    clear hrq hrqb hb7 hgq hBq hle hmx hsz hFc hgl hgqb hBvl hBul hqv hqu hsv hsu hsq hF7 hsb7 hsV7 hrows hF27 hws cSv cNt hBBu hBBq hBv7 hBu7 hlu2 hm0 hn1 hl1 hrv hltd em emn hqsp hm1 H7 HRz
    go_wp2_with fail
    refine (ConB.out).mono ?_
    rintro e8 w8 ⟨rfl, us, qk, hK, hBu8, hBq8, hst8, hsb8, hF8⟩
    clear ConB hvar7 t1 t2
    have hsb8' : ∀ k, StkB w8 gs k → k = gs ∨ w1.heap.size ≤ k := fun k hk => by
      rcases hsb8 k hk with ((h | h) | h) | h
      · exact .inl h
      · have := HG.out.2.1; exact .inr (by omega)
      · exact .inr (HQ.out.2.2.2.2.2.2.2.2.1 k h)
      · have h1 := HQ.out.2.2.2.2.2.2.2.1.size; have h2 := HW.out.2.2.size; have h3 := HV.out.2.2.2.2.2.size; exact .inr (by omega)
    have hql : qk.length = m1 := by have := hK.hq; omega
    have hul8 : us.length = l1 := by have := hK.hu; have := HQ.out.2.2.2.2.2.2.2.2.2.2.2.2; have := HL1.out; omega
    have hOq : Own w8 base (.slice (some ⟨gq, 0, none⟩) m1 cq) qk := by
      have h := Own.mk (xs := qk) (cap := cq) HQ.out.1 hBq8 (by have := HQ.out.2.1; omega) HQ.out.2.2.1 (by have := HQ.out.2.1; have := HQ.out.2.2.2.1; simp [wv_length]; omega) (by rw [← wv_length]; simp)
      rwa [hql] at h
    have ConN2 := hide (norm_own base _ qk w8 hOq)
    have ConR := hide (rsh_any gu 0 l1 cu2 cu2 s [] Su us w8 (by simpa using hBu8) rfl hul8.symm)
    obtain ⟨e1, e2⟩ := lg_end hK HN.out.2.2.2.2.2.1 HN.out.2.2.2.2.1
    have hde := hK.du
    have hdq := hK.dq
    have H8 := hide (And.intro hBu8 (And.intro hF8 (And.intro hul8 (And.intro hde (And.intro e2 (And.intro (show trimz qk = digs 18446744073709551616 (a / y) by rw [← digs_dval_trim (by omega) hdq, e1]) (And.intro hst8 hsb8')))))))
    clear hK hBu8 hBq8 hF8 hql hul8 hOq e1 e2 hde hdq hst8 hsb8 hsb8'
    generalize hnq : (trimz qk).length = nq at ConN2
    have HNQ := hide hnq
    clear hnq
    go_wp2_with fail
    refine (ConN2.out).mono ?_
    rintro e9 w9 ⟨A7, c7, rfl, hown7, hblk7, rfl⟩
    clear ConN2
    have hst8 := H8.out.2.2.2.2.2.2.1
    have hsb8 := H8.out.2.2.2.2.2.2.2
    have hU8 := H8.out.1
    have hle := HU2.out.2.2.1
    have hOu : ∀ (W : World) (xs : List Nat), xs.length = l1 → Blk W gu 145 (wv xs ++ Su).toArray → Own W base (.slice (some ⟨gu, 0, none⟩) l1 cu2) xs := fun W xs hx hB => by
      have h := Own.mk (xs := xs) (cap := cu2) HU2.out.1 hB (by omega) HU2.out.2.2.2.1 (by have := HG.out.2.2.2.2.1; simp [wv_length]; omega) (by rw [← wv_length]; simp)
      rwa [hx] at h
    have hFq : Fr w1 w8 (fun k => ((k = gv ∨ k = gu) ∨ k = gq) ∨ k = gs) := Fr.step (Fr.step (Fr.step (HV.out.2.2.2.2.2.mono (fun k _ h => .inr h)) HW.out.2.2 (fun k _ h => .inl (.inl h))) HQ.out.2.2.2.2.2.2.2.1 (fun _ _ h => h.elim)) H8.out.2.1 (fun k hk h => by
      rcases h with (h | h) | (h | h) | h
      · exact .inl (.inl (.inr h))
      · exact .inl (.inr h)
      · exact .inr h
      · exact .inl (.inl (.inl h))
      · have := HQ.out.2.2.2.2.2.2.2.2.1 k h; omega)
    have hgqb : z.ownBlock = some gq ∨ w1.heap.size ≤ gq := HQ.out.2.2.2.2.1.imp id (fun h => by have := HW.out.2.2.size; have := HV.out.2.2.2.2.2.size; omega)
    have hFin : ∀ (W W2 : World) (xs : List Nat) (A9 : Option Addr) (nr c9 : Nat), Fr w8 W (fun k => k = gu) → nr = (trimz xs).length → Own W base (.slice A9 nr c9) (trimz xs) → (Value.slice A9 nr c9).ownBlock = some gu → trimz xs = digs 18446744073709551616 (a % y) → Fr W W2 (StkB W gs) → StkR W2 gs 0 → QrS w1 base gs z z2 a y (.returned (.tuple #[.slice A7 nq c7, .slice A9 nr c9])) W2 := fun W W2 xs A9 nr c9 hf hnr ho hb he hf2 hs2 =>
      lg_finS HG.out.2.1 HG.out.2.2.1 hgqb HQ.out.2.2.2.2.2.2.1 hFq hst8 hsb8 ⟨_, hU8⟩ hf HNQ.out.symm hnr hown7 hblk7 ho hb H8.out.2.2.2.2.2.1 he hf2 hs2
    have HFin := hide hFin
    clear hFin hgqb hFq hown7 hblk7 hsb8 HG HW HQ
    rcases Nat.eq_zero_or_pos s with h0 | h0
    · have hsb : ((s : Int) == 0) = true := by rw [h0]; rfl
      have hd1 := H8.out.2.2.2.1
      have hv1 := H8.out.2.2.2.2.1
      rw [h0, Nat.pow_zero, Nat.div_one] at hv1
      have he : trimz us = digs 18446744073709551616 (a % y) := by rw [← digs_dval_trim (by omega) hd1, hv1]
      have ConE := hide (norm_own base _ us w8 (hOu w8 us H8.out.2.2.1 hU8))
      have HE := hide (fun W2 => HFin.out w8 W2 us)
      have HE2 := hide he
      clear hd1 hv1 he hU8 hOu ConR H8 HFin
      generalize hnr : (trimz us).length = nr at ConE
      have HNR := hide hnr
      clear hnr
      go_wp2_with fail
      refine (ConE.out).mono ?_
      rintro e10 w10 ⟨A9, c9, rfl, hown9, hblk9, rfl⟩
      have Fin := hide (fun W2 h1 h2 => HE.out W2 A9 nr c9 (Fr.refl _ _) HNR.out.symm hown9 hblk9 HE2.out h1 h2)
      have ConX := hide (restoreR_deferred gs 0 .returning _ hst8)
      clear hown9 hblk9 HE ConE
      go_wp2
      refine leaves_cons (f := 167) (args := #[.pointer (some ⟨gs, 0, none⟩), .int .i64 0]) (by simp) (by simp [go_sem]) ?_
      refine (ConX.out).mono ?_
      rintro e1 u' w11 ⟨rfl, rfl, h1, h2⟩
      exact ⟨_, results_tmp2 (t := 10) (u := 11) rfl _ _ _, Fin.out _ h2 h1⟩
    · have hsb : ((s : Int) == 0) = false := beq_eq_false_iff_ne.2 (by omega)
      have hs63 : s ≤ 63 := by
        have htl : top < 18446744073709551616 := by rw [H1.out.2.2.1]; exact dig_getD (by omega) (dig_digs (by omega) _) _
        have htp : 0 < top := by rw [H1.out.2.2.1]; exact dig_top (by rw [← H0.out.2.2.2.2.1]; exact H1.out.1)
        rw [HS.out]; exact (nlz_spec top htp htl).1
      have hl1 := HL1.out
      have conR := ConR.out (by omega) (by have := H1.out.2.2.2.2.1; omega) (by omega) (by omega) h0 hs63 H8.out.2.2.2.1
      unfold RhP at conR
      have ConR2 := hide conR
      clear conR ConR hl1
      go_wp2_with fail
      refine (ConR2.out).mono ?_
      rintro e10 w10 ⟨rv, rfl, hB10, hF10⟩
      have hB10' : Blk w10 gu 145 (wv (shrL s us) ++ Su).toArray := by simpa using hB10
      have hd1 := shrL_dig (s := s) (by omega) H8.out.2.2.2.1
      have hv1 := shrL_val (s := s) (by omega) us
      rw [H8.out.2.2.2.2.1] at hv1
      have he : trimz (shrL s us) = digs 18446744073709551616 (a % y) := by rw [← digs_dval_trim (by omega) hd1, hv1]
      have ConE := hide (norm_own base _ (shrL s us) w10 (hOu w10 _ (by rw [shrL_length]; exact H8.out.2.2.1) hB10'))
      have HE := hide (fun W2 => HFin.out w10 W2 (shrL s us))
      have HE2 := hide (And.intro he hF10)
      have hst10 : StkR w10 gs 0 := hst8.fr hF10 (fun k hk => by have hk : k = gu := hk; rw [hk]; exact ⟨_, hU8⟩)
      clear hd1 hv1 he hU8 hOu H8 HFin hB10 hB10' hF10 ConR2 hst8
      generalize hnr : (trimz (shrL s us)).length = nr at ConE
      have HNR := hide hnr
      clear hnr
      go_wp2_with fail
      refine (ConE.out).mono ?_
      rintro e11 w11 ⟨A9, c9, rfl, hown9, hblk9, rfl⟩
      have Fin := hide (fun W2 h1 h2 => HE.out W2 A9 nr c9 HE2.out.2 HNR.out.symm hown9 hblk9 HE2.out.1 h1 h2)
      have ConX := hide (restoreR_deferred gs 0 .returning _ hst10)
      clear hown9 hblk9 HE ConE
      go_wp2
      refine leaves_cons (f := 167) (args := #[.pointer (some ⟨gs, 0, none⟩), .int .i64 0]) (by simp) (by simp [go_sem]) ?_
      refine (ConX.out).mono ?_
      rintro e1 u' w12 ⟨rfl, rfl, h1, h2⟩
      exact ⟨_, results_tmp2 (t := 10) (u := 11) rfl _ _ _, Fin.out _ h2 h1⟩
end Go.Proofs.YtfkcobdkgjhfaaaGreatDoor
