/- Parts of the proofs: Mul1, Mul2. -/
import Derived.Test.YtfkcobdkgjhfaaaGreatDoorG8
import Derived.Test.YtfkcobdkgjhfaaaGreatDoorG12
/- Walks: nat.mulAddWW. -/
set_option linter.unusedVariables false
set_option linter.unusedSimpArgs false
namespace Go.Proofs.YtfkcobdkgjhfaaaGreatDoor
open Go.RowKit

/-- Two rows lie in different blocks. -/
def Apart (z x : Value) : Prop := ∀ k, z.ownBlock = some k → x.ownBlock ≠ some k

/-- What is left by a call that lays a row, split at a place. -/
theorem Blk.split {w : World} {g n : Nat} {t : TypeId} {cur : Array Value} (h : Blk w g t cur) : Blk w g t (([] : List Value) ++ cur.toList.take n ++ cur.toList.drop n).toArray := by
  simpa using h

theorem Own.mk3 {w : World} {base g cap : Nat} {xs : List Nat} {S : List Value} (hg : base ≤ g) (hb : Blk w g 145 (wv xs ++ S).toArray) (hc : xs.length + S.length = cap) (hm : cap ≤ maxLen) : Own w base (.slice (some ⟨g, 0, none⟩) xs.length cap) xs :=
  Own.mk hg hb (by omega) hm (by simp [wv_length]; omega) (by
    have : (wv xs).length = xs.length := wv_length xs
    rw [← this]; simp)

theorem amul_row {d a : Nat} {xs : List Nat} (hd : d < 18446744073709551616) (ha : a < 18446744073709551616) (hx : Dig 18446744073709551616 xs) :
    trimz ((amul 18446744073709551616 d (List.replicate xs.length 0) xs a).1 ++ [(amul 18446744073709551616 d (List.replicate xs.length 0) xs a).2]) = digs 18446744073709551616 (dval 18446744073709551616 xs * d + a) ∧
      (amul 18446744073709551616 d (List.replicate xs.length 0) xs a).1.length = xs.length := by
  have hl : (List.replicate xs.length 0).length = xs.length := List.length_replicate
  have hal := amul_length 18446744073709551616 d (zs := List.replicate xs.length 0) (xs := xs) a hl
  have hv := amul_val 18446744073709551616 d (zs := List.replicate xs.length 0) (xs := xs) a hl
  have hc := amul_carry hd (zs := List.replicate xs.length 0) (xs := xs) a (fun e he => by rw [List.eq_of_mem_replicate he]; omega) hx ha
  have hg := amul_dig (b := 18446744073709551616) (d := d) (by omega) (zs := List.replicate xs.length 0) (xs := xs) a
  refine ⟨?_, hal⟩
  rw [← digs_dval_trim (b := 18446744073709551616) (by omega) (fun e he => ?_), dval_append, hal]
  · rw [dval_replicate_zero, Nat.zero_add] at hv
    rw [← hv]
    simp [dval]
  · rcases List.mem_append.1 he with he | he
    · exact hg e he
    · rw [List.mem_singleton.1 he]; exact hc

set_option maxHeartbeats 1000000 in
set_option maxRecDepth 20000 in
theorem maWW_any (base bx n y r : Nat) (z : Value) (m : Nat) (A : Option Addr) (c : Nat) (xs : List Nat) (w : World) (hz : Room w base z m) (hb : base ≤ w.heap.size) (hx : Own w bx (.slice A n c) xs) (hn : n = xs.length) (hn1 : 1 ≤ n) (hnb : n ≤ 1048576)
    (hal : Apart z (.slice A n c) ∨ z = .slice A m c) (hy1 : 1 ≤ y) (hy : y < 18446744073709551616) (hr : r < 18446744073709551616) (hd : Dig 18446744073709551616 xs) :
    Calls Tryz.prog 210 #[z, .slice A n c, .int .u64 (y : Int), .int .u64 (r : Int)] w (SetP w base z (digs 18446744073709551616 (dval 18446744073709551616 xs * y + r))) := by
  have y0 : ((y : Int) == 0) = false := beq_eq_false_iff_ne.2 (by omega)
  have n0 : ((n : Int) == 0) = false := beq_eq_false_iff_ne.2 (by omega)
  have Con := hide (make_any base z m (n + 1) w hz hb (by omega) (by omega))
  have HX := hide (And.intro hx (And.intro hal (And.intro hd hn)))
  clear hx hal hd hz hn
  go_enter Tryz.func210, Tryz.ntmps210
  go_wp2_with fail
  refine (Con.out).mono ?_
  rintro e w1 ⟨r0, rfl, hr0, hrb, hbel⟩
  rw [show ((n : Int) + 1).toNat = n + 1 by omega] at hr0
  rcases hr0.form with ⟨_, h1⟩ | ⟨g, cap, cur, rfl, hg, hh, ha, hcap, hs⟩
  · omega
  have ha1 : n + 1 ≤ cap := by omega
  have hx1 : RdW w1 (.slice A n c) xs := RdG.below (k := .u64) HX.out.1.rd hbel
  have hxl : ∀ k, (Value.slice A n c).ownBlock = some k → k < w.heap.size := fun k hk => (HX.out.1.lt hk).2
  have hgx : (RdW w1 (.slice A n c) xs ∧ ∀ k, (Value.slice A n c).ownBlock = some k → k ≠ g) ∨ (A = some ⟨g, 0, none⟩ ∧ cur.toList.take n = wv xs) := by
    rcases hrb with h | h
    · rcases HX.out.2.1 with h2 | rfl
      · exact .inl ⟨hx1, fun k hk e => h2 k (h.symm.trans (by rw [← e]; rfl)) hk⟩
      · rcases HX.out.1.form with ⟨_, h3⟩ | ⟨gx, cx, cu, h3, _, h4, _, _, _, h5⟩
        · have := HX.out.2.2.2; rw [h3] at this; simp at this; omega
        · injection h3 with h3 h6 h7
          subst h3
          have e : g = gx := by simpa [Value.ownBlock] using h
          subst e
          have h8 := h4.below hbel
          unfold Blk at h8 hh
          rw [hh] at h8
          injection h8 with h8
          injection h8 with h8
          subst h8
          exact .inr ⟨rfl, by rw [h6]; exact h5⟩
    · have e : g = w.heap.size := by simpa [Value.ownBlock] using h
      exact .inl ⟨hx1, fun k hk e2 => by have := hxl k hk; omega⟩
  have con2 := mav_any g 0 n cap r y [] (cur.toList.drop n) (cur.toList.take n) A c xs w1 hh.split rfl (by rw [List.length_take, Array.length_toList, HX.out.2.2.2.symm]; omega) HX.out.2.2.2 (by omega) (by omega) hgx hr hy HX.out.2.2.1
  have hrow := amul_row (a := r) hy hr HX.out.2.2.1
  rw [← HX.out.2.2.2] at hrow
  obtain ⟨s0, S', hS⟩ : ∃ s0 S', cur.toList.drop n = s0 :: S' := by
    cases hS : cur.toList.drop n with
    | nil => have := congrArg List.length hS; simp at this; omega
    | cons a b => exact ⟨a, b, rfl⟩
  have hcl : (cur.toList.take n).length = n := by simp; omega
  have hSl : n + 1 + S'.length = cap := by have := congrArg List.length hS; simp at this; omega
  have Con2 := hide con2
  have HR := hide (And.intro hrow (And.intro hS (And.intro hrb (And.intro hbel (And.intro hg (And.intro hcap hSl))))))
  clear con2 hrow hS hrb hbel hg hcap hx1 hxl hgx hr0 hh hs hcl hSl Con
  go_wp2_with fail
  refine (Con2.out).mono ?_
  rintro e w2 ⟨q, rfl, hq, hb2, hf2⟩
  rw [HR.out.2.1] at hb2
  have hb3 : Blk w2 g 145 (wv (amul 18446744073709551616 y (List.replicate n 0) xs r).1 ++ s0 :: S').toArray := by simpa using hb2
  obtain ⟨p1, p2, p3⟩ := hb3.part (i := n) (by rw [wv_length, HR.out.1.2])
  have hown : Own (w2.setCell ⟨g, n, none⟩ (.int .u64 (q : Int))) base (.slice (some ⟨g, 0, none⟩) (n + 1) cap) ((amul 18446744073709551616 y (List.replicate n 0) xs r).1 ++ [q]) := by
    have hb4 : Blk (w2.setCell ⟨g, n, none⟩ (.int .u64 (q : Int))) g 145 (wv ((amul 18446744073709551616 y (List.replicate n 0) xs r).1 ++ [q]) ++ S').toArray := by
      have := p3 (.int .u64 (q : Int))
      rw [wv_append]
      simpa [wv] using this
    have := Own.mk3 HR.out.2.2.2.2.1 hb4 (cap := cap) (by rw [List.length_append, HR.out.1.2]; have := HR.out.2.2.2.2.2.2; simp; omega) HR.out.2.2.2.2.2.1
    rwa [List.length_append, HR.out.1.2] at this
  have htr : trimz ((amul 18446744073709551616 y (List.replicate n 0) xs r).1 ++ [q]) = digs 18446744073709551616 (dval 18446744073709551616 xs * y + r) := by rw [hq.out]; exact HR.out.1.1
  have con3 := norm_own base _ _ _ hown
  rw [htr] at con3
  have hF : Fr w (w2.setCell ⟨g, n, none⟩ (.int .u64 (q : Int))) (fun k => z.ownBlock = some k) := by
    have hst : g < w.heap.size → z.ownBlock = some g := fun hlt => by
      rcases HR.out.2.2.1 with h | h
      · exact h.symm
      · have e : g = w.heap.size := by simpa [Value.ownBlock] using h
        omega
    exact (Fr.step (Fr.of_below HR.out.2.2.2.1 _) hf2 (fun i hi (e : i = g) => by subst e; exact hst hi)).setCell (p := ⟨g, n, none⟩) (fun hlt => hst hlt) _
  have Con3 := hide con3
  have HF := hide hF
  have Hb := hide HR.out.2.2.1
  have pf : ∃ u, w2.cell? ⟨g, n, none⟩ = some u := ⟨_, p1⟩
  obtain ⟨u, pu⟩ := pf
  clear con3 hF hown hb2 hb3 hf2 p1 p3 htr hq HR Con2 HX
  go_wp2_with fail
  refine (Con3.out).mono ?_
  rintro e w3 ⟨A3, c3, rfl, hown3, hblk3, rfl⟩
  have Fin : Hid (SetP w base z (digs 18446744073709551616 (dval 18446744073709551616 xs * y + r)) (.returned (.slice A3 (digs 18446744073709551616 (dval 18446744073709551616 xs * y + r)).length c3)) (w2.setCell ⟨g, n, none⟩ (.int .u64 (q : Int)))) := by
    refine ⟨A3, c3, rfl, hown3, ?_, HF.out⟩
    rw [hblk3]
    exact Hb.out.imp id (fun h => ⟨_, h, Nat.le_refl _⟩)
  clear hown3 hblk3 HF Hb Con3
  generalize (digs 18446744073709551616 (dval 18446744073709551616 xs * y + r)).length = l at Fin ⊢
  go_wp2
  go_ret
  exact Fin.out
end Go.Proofs.YtfkcobdkgjhfaaaGreatDoor

/- Walks: nat.sqr at few words. -/
set_option linter.unusedVariables false
set_option linter.unusedSimpArgs false
namespace Go.Proofs.YtfkcobdkgjhfaaaGreatDoor
open Go.RowKit

/-- The thresholds, as the program's text lays them; they lie below base. -/
structure Vars (w : World) (base : Nat) : Prop where
  c0 : w.cell? ⟨1, 0, none⟩ = some (.int .i64 12)
  c1 : w.cell? ⟨2, 0, none⟩ = some (.int .i64 80)
  c2 : w.cell? ⟨3, 0, none⟩ = some (.int .i64 40)
  l : 1 < base ∧ 2 < base ∧ 3 < base
theorem Vars.fr {w w' : World} {base : Nat} {S : Nat → Prop} (h : Vars w base) (hf : Fr w w' S) (hs : ∀ k, S k → base ≤ k) : Vars w' base :=
  ⟨hf.cell h.c0 (fun hk => by have h1 : base ≤ 1 := hs _ hk; have := h.l.1; omega), hf.cell h.c1 (fun hk => by have h1 : base ≤ 2 := hs _ hk; have := h.l.2.1; omega), hf.cell h.c2 (fun hk => by have h1 : base ≤ 3 := hs _ hk; have := h.l.2.2; omega), h.l⟩
theorem Vars.below {w w' : World} {base : Nat} (h : Vars w base) (hb : Below w.heap.size w w') : Vars w' base := h.fr (Fr.of_below hb (fun _ => False)) (fun _ h => h.elim)
theorem Vars.raise {w : World} {base b : Nat} (h : Vars w base) (hb : base ≤ b) : Vars w b := ⟨h.c0, h.c1, h.c2, by have := h.l; omega⟩

theorem alias_rows (bz bx m n : Nat) (z x : Value) (w : World) (hz : Room w bz z m) (hx : Room w bx x n) (hd : Apart z x) :
    Calls Tryz.prog 172 #[z, x] w fun e w' => e = .returned (.bool false) ∧ ∃ k, w' = w.drewN k := by
  rcases hz.form with ⟨rfl, _⟩ | ⟨gz, cz, bz', rfl, _, hz2, _, hcz, _⟩
  · obtain ⟨A, c, rfl⟩ := hx.slice
    exact alias_nil _ _ n c A w (.inl ⟨rfl, rfl⟩)
  · rcases hx.form with ⟨rfl, _⟩ | ⟨gx, cx, bx', rfl, _, hx2, _, hcx, _⟩
    · exact alias_nil _ _ m cz _ w (.inr ⟨rfl, rfl⟩)
    · exact alias_far gz gx m n cz cx _ _ _ _ w hz2 hx2 (fun e => hd gz rfl (by rw [e]; rfl)) hcz hcx

theorem below_drewN (w : World) (k : Nat) : Below w.heap.size w (w.drewN k) := (Fr.refl w (fun _ => False)).drewN k |>.below (Nat.le_refl _) (fun _ h => h.elim)

theorem Own.room_n {w : World} {b n c : Nat} {A : Option Addr} {xs : List Nat} (h : Own w b (.slice A n c) xs) : Room w b (.slice A n c) n := by
  obtain ⟨B, d, he⟩ := h.room.slice
  injection he with _ e
  have := h.room
  rwa [← e] at this

/-- The school method into a row of the call's own. -/
def BmQ (w : World) (base g n cap : Nat) (xs ys : List Nat) (e : Ending) (w' : World) : Prop :=
  e = .returned (.tuple #[]) ∧ ∃ R, Own w' base (.slice (some ⟨g, 0, none⟩) n cap) R ∧ trimz R = digs 18446744073709551616 (dval 18446744073709551616 xs * dval 18446744073709551616 ys) ∧ Fr w w' (fun k => k = g)
theorem bm_any (base g n lx ly cap ca cb : Nat) (A B : Option Addr) (cur : Array Value) (xs ys : List Nat) (w : World) (hg : base ≤ g) (hb : Blk w g 145 cur) (hs : cur.size = cap) (hm : cap ≤ maxLen) (hlb : lx ≤ 1048576) (hn : n = lx + ly) (hc : n ≤ cap) (hlx : lx = xs.length) (hly : ly = ys.length) (hx1 : 1 ≤ lx) (hy1 : 1 ≤ ly)
    (hx : RdW w (.slice A lx ca) xs) (hxb : ∀ k, (Value.slice A lx ca).ownBlock = some k → k ≠ g) (hy : RdW w (.slice B ly cb) ys) (hyb : ∀ k, (Value.slice B ly cb).ownBlock = some k → k ≠ g) (hdx : Dig 18446744073709551616 xs) (hdy : Dig 18446744073709551616 ys) :
    Calls Tryz.prog 207 #[.slice (some ⟨g, 0, none⟩) n cap, .slice A lx ca, .slice B ly cb] w (BmQ w base g n cap xs ys) := by
  refine (basicMul_any g n cap lx ly ca cb A B (cur.toList.take n) (cur.toList.drop n) xs ys w (by simpa using hb) (by simp; omega) hn hlx hly hx1 hy1 (by simp; omega) hm hlb hx hxb hy hyb hdx hdy).mono ?_
  rintro e w' ⟨rfl, ⟨R, h1, h2, h3, h4⟩, h5⟩
  have hl : R.length = n := by omega
  refine ⟨rfl, R, ?_, ?_, h5⟩
  · have := Own.mk3 (cap := cap) hg h4 (by simp; omega) hm
    rwa [hl] at this
  · rw [← digs_dval_trim (b := 18446744073709551616) (by omega) h2, h3]

set_option maxHeartbeats 1000000 in
set_option maxRecDepth 20000 in
theorem sqr_one (base bx x : Nat) (z stk : Value) (m : Nat) (A : Option Addr) (c : Nat) (w : World) (hz : Room w base z m) (hb : base ≤ w.heap.size) (hx : Own w bx (.slice A 1 c) [x]) (hxl : x < 18446744073709551616) :
    Calls Tryz.prog 176 #[z, stk, .slice A 1 c] w (SetP w base z (digs 18446744073709551616 (x * x))) := by
  obtain ⟨gx, o, rfl, _, hcell⟩ := RdG.at_ (k := .u64) (xs := [x]) hx.rd 0 (by simp)
  have x0 : w.cell? ⟨gx, o, none⟩ = some (.int .u64 (x : Int)) := by simpa using hcell
  have Con := hide (make_any base z m 2 w hz hb (by omega) (by omega))
  have Con2 := hide (fun W => mulWW_any x x hxl hxl W)
  have HP := hide (show x * x < 18446744073709551616 * 18446744073709551616 from Nat.mul_lt_mul'' hxl hxl)
  clear hcell hx hz
  go_enter_defers Tryz.func176, Tryz.ntmps176
  go_wp2_with fail
  refine (Con.out).mono ?_
  rintro e w1 ⟨r0, rfl, hr0, hrb, hbel⟩
  rcases hr0.form with ⟨_, h1⟩ | ⟨g, cap, cur, rfl, hg, hh, ha, hcap, hs⟩
  · simp at h1
  obtain ⟨a0, a1, S, hc⟩ : ∃ a0 a1 S, cur = (a0 :: a1 :: S : List Value).toArray := by
    obtain ⟨l⟩ := cur
    have h2 : (2 : Nat) ≤ l.length := by simp at hs; have : (2 : Int).toNat = 2 := rfl; omega
    match l, h2 with
    | a0 :: a1 :: S, _ => exact ⟨a0, a1, S, rfl⟩
  subst hc
  have hB : Blk w1 g 145 ([a0] ++ a1 :: S).toArray := hh
  obtain ⟨p1, p2, p3⟩ := hB.part (i := 1) rfl
  have hrow : ∀ h l : Nat, h = x * x / 18446744073709551616 ∧ l = x * x % 18446744073709551616 → trimz [l, h] = digs 18446744073709551616 (x * x) := by
    rintro h l ⟨rfl, rfl⟩
    have h1 : x * x / 18446744073709551616 < 18446744073709551616 := (Nat.div_lt_iff_lt_mul (by omega)).2 HP.out
    rw [← digs_dval_trim (b := 18446744073709551616) (by omega) (fun e he => ?_)]
    · congr 1
      simp [dval]
      omega
    · simp at he
      omega
  have key : ∀ h l : Nat, (w1.setCell ⟨g, 1, none⟩ (.int .u64 (h : Int))).cell? ⟨g, 0, none⟩ = some a0 ∧ (w1.setCell ⟨g, 1, none⟩ (.int .u64 (h : Int))).frozen? ⟨g, 0, none⟩ = false ∧
      Own ((w1.setCell ⟨g, 1, none⟩ (.int .u64 (h : Int))).setCell ⟨g, 0, none⟩ (.int .u64 (l : Int))) base (.slice (some ⟨g, 0, none⟩) 2 cap) [l, h] ∧ Fr w ((w1.setCell ⟨g, 1, none⟩ (.int .u64 (h : Int))).setCell ⟨g, 0, none⟩ (.int .u64 (l : Int))) (fun k => z.ownBlock = some k) := by
    intro h l
    have q := p3 (.int .u64 (h : Int))
    have q0 : Blk (w1.setCell ⟨g, 1, none⟩ (.int .u64 (h : Int))) g 145 (([] : List Value) ++ a0 :: (.int .u64 (h : Int) :: S)).toArray := q
    obtain ⟨r1, r2, r3⟩ := q0.part (i := 0) rfl
    have hst : g < w.heap.size → z.ownBlock = some g := fun hlt => by
      rcases hrb with h | h
      · exact h.symm
      · have e : g = w.heap.size := by simpa [Value.ownBlock] using h
        omega
    refine ⟨r1, r2, ?_, ?_⟩
    · exact Own.mk3 (xs := [l, h]) (S := S) hg (r3 (.int .u64 (l : Int))) (by simp at hs ⊢; omega) hcap
    · exact ((Fr.of_below hbel _).setCell (p := ⟨g, 1, none⟩) hst _).setCell (p := ⟨g, 0, none⟩) hst _
  have HK := hide (And.intro key hrow)
  have Hb := hide hrb
  have hcap2 : 2 ≤ cap := by have : (2 : Int).toNat = 2 := rfl; omega
  clear key hrow hrb hbel hh hB hs hg hcap hr0 Con p3 HP ha
  go_wp2_with fail
  refine (Con2.out _).mono ?_
  rintro e w2 ⟨h, l, rfl, hp, rfl⟩
  obtain ⟨k1, k2, k3, k4⟩ := HK.out.1 h l
  have ht := HK.out.2 h l hp.out
  have con3 := norm_own base _ _ _ k3
  rw [ht] at con3
  have Con3 := hide con3
  have HF := hide k4
  clear con3 k3 k4 ht hp HK Con2
  go_wp2_with fail
  refine (Con3.out).mono ?_
  rintro e w3 ⟨A3, c3, rfl, hown3, hblk3, rfl⟩
  have Fin : Hid (SetP w base z (digs 18446744073709551616 (x * x)) (.returned (.slice A3 (digs 18446744073709551616 (x * x)).length c3)) ((w2.setCell ⟨g, 1, none⟩ (.int .u64 (h : Int))).setCell ⟨g, 0, none⟩ (.int .u64 (l : Int)))) := by
    refine ⟨A3, c3, rfl, hown3, ?_, HF.out⟩
    rw [hblk3]
    exact Hb.out.imp id (fun h => ⟨_, h, Nat.le_refl _⟩)
  clear hown3 hblk3 HF Hb Con3
  generalize (digs 18446744073709551616 (x * x)).length = n at Fin ⊢
  go_wp2
  refine ⟨_, results_tmp (t := 6) rfl _ _ _, ?_⟩
  exact Fin.out

set_option maxHeartbeats 1000000 in
set_option maxRecDepth 20000 in
theorem sqr_many (base bx n : Nat) (z stk : Value) (m : Nat) (A : Option Addr) (c : Nat) (xs : List Nat) (w : World) (hz : Room w base z m) (hb : base ≤ w.heap.size) (hx : Own w bx (.slice A n c) xs) (hn : n = xs.length) (hn2 : 2 ≤ n) (hn11 : n ≤ 11) (hal : Apart z (.slice A n c)) (hd : Dig 18446744073709551616 xs) (hv : Vars w base) :
    Calls Tryz.prog 176 #[z, stk, .slice A n c] w (SetP w base z (digs 18446744073709551616 (dval 18446744073709551616 xs * dval 18446744073709551616 xs))) := by
  have n0 : ((n : Int) == 0) = false := beq_eq_false_iff_ne.2 (by omega)
  have n1 : ((n : Int) == 1) = false := beq_eq_false_iff_ne.2 (by omega)
  have Con := hide (alias_rows base bx m n z (.slice A n c) w hz hx.room_n hal)
  have HX := hide (And.intro hz (And.intro hx (And.intro hal (And.intro hd (And.intro hv hn)))))
  clear hz hx hal hd hv hn
  go_enter_defers Tryz.func176, Tryz.ntmps176
  go_wp2_with fail
  refine (Con.out).mono ?_
  rintro e w0 ⟨rfl, j, hw0⟩
  have hb0 : Below w.heap.size w w0 := by rw [hw0]; exact below_drewN w j
  have Con2 := hide (make_any base z m (2 * (n : Int)) w0 (HX.out.1.fr (Fr.of_below hb0 (fun _ => False)) (fun _ _ h => h)) (by have := hb0.size; omega) (by omega) (by omega))
  have HB0 := hide hb0
  clear hb0 hw0 Con
  go_wp2_with fail
  refine (Con2.out).mono ?_
  rintro e w1 ⟨r0, rfl, hr0, hrb, hbel⟩
  rw [show (2 * (n : Int)).toNat = n + n by omega] at hr0
  rcases hr0.form with ⟨_, h1⟩ | ⟨g, cap, cur, rfl, hg, hh, ha, hcap, hs⟩
  · omega
  have hx1 : Own w1 bx (.slice A n c) xs := (HX.out.2.1.below HB0.out).below hbel
  have hxg : ∀ k, (Value.slice A n c).ownBlock = some k → k ≠ g := by
    rintro k hk rfl
    rcases hrb with h | h
    · exact HX.out.2.2.1 k (h.symm.trans rfl) hk
    · have e : k = w0.heap.size := by simpa [Value.ownBlock] using h
      have := (HX.out.2.1.lt hk).2
      have := HB0.out.size
      omega
  obtain ⟨v0, v1, _, _⟩ := (HX.out.2.2.2.2.1.below HB0.out).below hbel
  have Con3 := hide (bm_any base g (n + n) n n cap c c A A cur xs xs w1 hg hh hs hcap (by omega) rfl ha HX.out.2.2.2.2.2 HX.out.2.2.2.2.2 (by omega) (by omega) hx1.rd hxg hx1.rd hxg HX.out.2.2.2.1 HX.out.2.2.2.1)
  have HB := hide (And.intro (below_next HB0.out hbel) (hrb.imp id (fun h : _ = some w0.heap.size => (⟨_, h, HB0.out.size⟩ : ∃ k, (Value.slice (some ⟨g, 0, none⟩) (n + n) cap).ownBlock = some k ∧ w.heap.size ≤ k))))
  clear hr0 hrb hbel hh hs hg hcap hx1 hxg ha Con2 HX HB0
  go_wp2_with fail
  refine (Con3.out).mono ?_
  rintro e w2 ⟨rfl, R, hown, htr, hfr⟩
  have con4 := norm_own base _ _ _ hown
  rw [htr] at con4
  have Con4 := hide con4
  have HF := hide (Fr.step (Fr.of_below HB.out.1 (fun k => z.ownBlock = some k)) hfr (fun i hi (e : i = g) => by
    subst e
    rcases HB.out.2 with h | ⟨k, h, h2⟩
    · exact h.symm
    · have e : i = k := by simpa [Value.ownBlock] using h
      omega))
  clear con4 hown htr hfr Con3
  go_wp2_with fail
  refine (Con4.out).mono ?_
  rintro e w3 ⟨A3, c3, rfl, hown3, hblk3, rfl⟩
  have Fin : Hid (SetP w base z (digs 18446744073709551616 (dval 18446744073709551616 xs * dval 18446744073709551616 xs)) (.returned (.slice A3 (digs 18446744073709551616 (dval 18446744073709551616 xs * dval 18446744073709551616 xs)).length c3)) w2) := by
    refine ⟨A3, c3, rfl, hown3, ?_, HF.out⟩
    rw [hblk3]; exact HB.out.2
  clear hown3 hblk3 HF HB Con4
  generalize (digs 18446744073709551616 (dval 18446744073709551616 xs * dval 18446744073709551616 xs)).length = l at Fin ⊢
  go_wp2
  refine ⟨_, results_tmp (t := 6) rfl _ _ _, ?_⟩
  exact Fin.out

theorem sqr_any (base bx n : Nat) (z stk : Value) (m : Nat) (A : Option Addr) (c : Nat) (xs : List Nat) (w : World) (hz : Room w base z m) (hb : base ≤ w.heap.size) (hx : Own w bx (.slice A n c) xs) (hn : n = xs.length) (hn1 : 1 ≤ n) (hn11 : n ≤ 11) (hal : Apart z (.slice A n c)) (hd : Dig 18446744073709551616 xs) (hv : Vars w base) :
    Calls Tryz.prog 176 #[z, stk, .slice A n c] w (SetP w base z (digs 18446744073709551616 (dval 18446744073709551616 xs * dval 18446744073709551616 xs))) := by
  by_cases h1 : n = 1
  · subst h1
    obtain ⟨x, rfl⟩ := List.length_eq_one_iff.1 hn.symm
    have e : dval 18446744073709551616 [x] = x := by simp [dval]
    rw [e]
    exact sqr_one base bx x z stk m A c w hz hb hx (hd x (by simp))
  · exact sqr_many base bx n z stk m A c xs w hz hb hx hn (by omega) hn11 hal hd hv
end Go.Proofs.YtfkcobdkgjhfaaaGreatDoor
