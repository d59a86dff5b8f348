/- Parts of the proofs: SpMul, SpPow. -/
import Derived.Laws.OwnMore
import Derived.Test.YtfkcobdkgjhfaaaGreatDoorG3
import Derived.Test.YtfkcobdkgjhfaaaGreatDoorG28
/- Walks: the reference's Mul. -/
set_option linter.unusedVariables false
set_option linter.unusedSimpArgs false
namespace Go.Proofs.YtfkcobdkgjhfaaaGreatDoor
open Go.RowKit

theorem Blk.partI {w : World} {g : Nat} {t : TypeId} {P S : List Value} {a : Value} {i : Nat} (h : Blk w g t (P ++ a :: S).toArray) (hi : i = P.length) : w.cell? ⟨g, i, none⟩ = some a ∧ w.frozen? ⟨g, i, none⟩ = false ∧ ∀ v, Blk (w.setCell ⟨g, i, none⟩ v) g t (P ++ v :: S).toArray := by
  subst hi
  refine ⟨?_, h.frozen _, fun v => ?_⟩
  · rw [h.cell]; simp
  · have := h.set P.length v
    rw [List.setIfInBounds_toArray, set_window] at this
    exact this
theorem gv_append (k : IntKind) (xs ys : List Nat) : gv k (xs ++ ys) = gv k xs ++ gv k ys := by simp [gv]
theorem gv_cons (k : IntKind) (x : Nat) (ys : List Nat) : gv k (x :: ys) = Value.int k (x : Int) :: gv k ys := rfl
theorem take_snocI {xs : List Nat} {k : Nat} (h : k < xs.length) : xs.take (k + 1) = xs.take k ++ [xs.getD k 0] := by
  rw [List.take_succ_eq_append_getElem h, getD_at h]
theorem drop_getI {xs : List Nat} {k : Nat} (h : k < xs.length) : xs.drop k = xs.getD k 0 :: xs.drop (k + 1) := by
  rw [getD_at h]; exact List.drop_eq_getElem_cons h

/-- The inner loop's rounds. -/
structure AmI (w : World) (g d k : Nat) (P S : List Value) (zs xs : List Nat) (c : Nat) (W : World) : Prop where
  carry : c = (amul 65536 d (zs.take k) (xs.take k) 0).2
  blk : Blk W g 3 (P ++ gv .i64 (amul 65536 d (zs.take k) (xs.take k) 0).1 ++ gv .i64 (zs.drop k) ++ S).toArray
  bel : Below w.heap.size w W

theorem AmI.step {w : World} {g d k o : Nat} {P S : List Value} {zs xs : List Nat} {c : Nat} {W : World} (h : AmI w g d k P S zs xs c W) (hg : w.heap.size ≤ g) (ho : o = P.length) (hz : zs.length = xs.length) (hk : k < xs.length) :
    W.cell? ⟨g, o + k, none⟩ = some (.int .i64 (zs.getD k 0 : Nat)) ∧ W.frozen? ⟨g, o + k, none⟩ = false ∧
      ∀ v c', v = (zs.getD k 0 + xs.getD k 0 * d + c) % 65536 ∧ c' = (zs.getD k 0 + xs.getD k 0 * d + c) / 65536 → AmI w g d (k + 1) P S zs xs c' (W.setCell ⟨g, o + k, none⟩ (.int .i64 (v : Int))) := by
  have hl : (zs.take k).length = (xs.take k).length := by simp [List.length_take, hz]
  have hB := h.blk
  rw [drop_getI (by omega : k < zs.length), gv_cons, List.append_assoc, List.cons_append] at hB
  obtain ⟨h1, h2, h3⟩ := hB.partI (i := o + k) (by rw [List.length_append, gv_length, amul_length _ _ _ hl, List.length_take, ho]; omega)
  refine ⟨h1, h2, fun v c' hvc => ?_⟩
  obtain ⟨rfl, rfl⟩ := hvc
  have e := amul_snoc 65536 d (zs.getD k 0) (xs.getD k 0) (zs := zs.take k) (xs := xs.take k) 0 hl
  rw [← h.carry] at e
  refine ⟨?_, ?_, ((Fr.of_below h.bel (fun _ => False)).step (S' := fun k => k = g) ((Fr.refl W (fun k => k = g)).setCell (p := ⟨g, o + k, none⟩) (fun _ => rfl) _) (fun i hi e => absurd hi (by omega))).below (Nat.le_refl _) (fun _ h => h.elim)⟩
  · rw [take_snocI hk, take_snocI (by omega : k < zs.length), e]
  · rw [take_snocI hk, take_snocI (by omega : k < zs.length), e]
    have := h3 (.int .i64 (((zs.getD k 0 + xs.getD k 0 * d + c) % 65536 : Nat) : Int))
    rw [gv_append, ← List.append_assoc]
    simpa [gv, List.append_assoc] using this

/-- The outer loop's rounds: ys times xs' first i digits. -/
structure SmS (w : World) (g i lx : Nat) (xs ys : List Nat) (W : World) : Prop where
  row : ∃ R, R.length = ys.length + i ∧ Dig 65536 R ∧ dval 65536 R = dval 65536 ys * dval 65536 (xs.take i) ∧ Blk W g 3 (gv .i64 R ++ gv .i64 (List.replicate (lx - i) 0)).toArray
  bel : Below w.heap.size w W

theorem SmS.win {w W : World} {g i lx ly d : Nat} {xs ys : List Nat} (h : SmS w g i lx xs ys W) (hg : w.heap.size ≤ g) (hlx : lx = xs.length) (hly : ly = ys.length) (hi : i < lx) (hd : xs.getD i 0 = d) (hdl : d < 65536) (hdy : Dig 65536 ys) :
    ∃ (P S2 : List Value) (zs : List Nat), P.length = i ∧ zs.length = ys.length ∧ Dig 65536 zs ∧ AmI w g d 0 P S2 zs ys 0 W ∧
      ∀ W1 q, AmI w g d ly P S2 zs ys q W1 →
        (∃ u, W1.cell? ⟨g, i + ly, none⟩ = some u) ∧ W1.frozen? ⟨g, i + ly, none⟩ = false ∧ SmS w g (i + 1) lx xs ys (W1.setCell ⟨g, i + ly, none⟩ (.int .i64 (q : Int))) := by
  obtain ⟨R, h1, h2, h3, h4⟩ := h.row
  obtain ⟨s1, s2, s3⟩ := school_step (b := 65536) (by omega) hdy hdl h2 h1 h3 (by omega) hd
  have hdl2 : (R.drop i).length = ys.length := by rw [List.length_drop]; omega
  refine ⟨gv .i64 (R.take i), gv .i64 (List.replicate (lx - i) 0), R.drop i, by rw [gv_length, List.length_take]; omega, hdl2, fun e he => h2 e (List.mem_of_mem_drop he), ⟨rfl, ?_, h.bel⟩, ?_⟩
  · have : gv .i64 (R.take i) ++ gv .i64 (R.drop i) = gv .i64 R := by rw [← gv_append, List.take_append_drop]
    simp only [List.take_zero, amul, gv, List.map_nil, List.append_nil, List.drop_zero]
    have e : List.map (fun (d : Nat) => Value.int .i64 (d : Int)) (R.take i) ++ List.map (fun (d : Nat) => Value.int .i64 (d : Int)) (R.drop i) = gv .i64 R := this
    rw [e]
    exact h4
  · intro W1 q hA
    have hq := hA.carry
    have hB := hA.blk
    have e1 : (R.drop i).take ly = R.drop i := List.take_of_length_le (by omega)
    have e2 : ys.take ly = ys := List.take_of_length_le (by omega)
    have e3 : (R.drop i).drop ly = [] := List.drop_of_length_le (by omega)
    rw [e1, e2] at hq hB
    rw [e3, show lx - i = (lx - (i + 1)) + 1 by omega, List.replicate_succ, gv_cons] at hB
    have hB2 : Blk W1 g 3 ((gv .i64 (R.take i) ++ gv .i64 (amul 65536 d (R.drop i) ys 0).1) ++ Value.int .i64 ((0 : Nat) : Int) :: gv .i64 (List.replicate (lx - (i + 1)) 0)).toArray := by
      simpa [gv, List.append_assoc] using hB
    obtain ⟨p1, p2, p3⟩ := hB2.partI (i := i + ly) (by rw [List.length_append, gv_length, gv_length, amul_length _ _ _ hdl2, List.length_take]; omega)
    refine ⟨⟨_, p1⟩, p2, ⟨_, s1, s2, s3, ?_⟩, ((Fr.of_below hA.bel (fun _ => False)).step (S' := fun k => k = g) ((Fr.refl W1 (fun k => k = g)).setCell (p := ⟨g, i + ly, none⟩) (fun _ => rfl) _) (fun i hi e => absurd hi (by omega))).below (Nat.le_refl _) (fun _ h => h.elim)⟩
    have := p3 (.int .i64 (q : Int))
    rw [hq] at this ⊢
    rw [gv_append, gv_append]
    simpa [gv, List.append_assoc] using this

set_option maxHeartbeats 1000000 in
theorem smul_any (A B : Option Addr) (lx ly ca cb : Nat) (xs ys : List Nat) (w : World) (hx : RdG .i64 w (.slice A lx ca) xs) (hy : RdG .i64 w (.slice B ly cb) ys) (hlx : lx = xs.length) (hly : ly = ys.length) (hxb : lx ≤ 1048576) (hyb : ly ≤ 1048576) (hdx : Dig 65536 xs) (hdy : Dig 65536 ys) :
    Calls Tryz.prog 59 #[.slice A lx ca, .slice B ly cb] w (NewI w (digs 65536 (dval 65536 xs * dval 65536 ys))) := by
  have hmk : ∀ W : World, (Instr.makeSlice 27 (.int .i64 ((lx : Int) + (ly : Int))) (.int .i64 ((lx : Int) + (ly : Int)))).run Tryz.prog W = .ok (.slice (some ⟨W.heap.size, 0, none⟩) (lx + ly) (lx + ly)) (W.alloc (.cells (madeCells #[.int .i64 0] (lx + ly)) 3)) := fun W => by
    have := mk_nat (lx + ly) (by omega) W
    rwa [Int.natCast_add] at this
  have hst : SmS w w.heap.size 0 lx xs ys (w.alloc (.cells (madeCells #[.int .i64 0] (lx + ly)) 3)) := by
    refine ⟨⟨List.replicate ly 0, by simp [hly], fun e he => by rw [List.eq_of_mem_replicate he]; omega, by rw [dval_replicate_zero]; simp [dval], ?_⟩, (Below.refl _ _).alloc (Nat.le_refl _) _⟩
    have e : madeCells #[Value.int .i64 0] (lx + ly) = (gv .i64 (List.replicate ly 0) ++ gv .i64 (List.replicate (lx - 0) 0)).toArray := by
      apply Array.ext'
      rw [toList_madeCells_one, ← gv_append, List.replicate_append_replicate]
      simp [gv, Nat.add_comm]
    rw [e]
    exact Blk.new w _ _
  have HS := hide hst
  have HX := hide (And.intro hx.at_ hy.at_)
  have HN := hide (And.intro hlx (And.intro hly (And.intro hdx hdy)))
  clear hst hx hy hlx hly hdx hdy
  go_enter Tryz.func59, Tryz.ntmps59
  go_wp2
  go_loopw [19] (fun vi wr => ∃ i : Nat, i ≤ lx ∧ vi = .int .i64 (i : Int) ∧ Hid (SmS w w.heap.size i lx xs ys wr)) (fun vi _ => lx - (intOf vi).toNat)
  case atStart => exact ⟨0, Nat.zero_le _, by go_num, HS⟩
  case round =>
    obtain ⟨i, hi, rfl, HR⟩ := hrel
    by_cases hlt : i < lx
    · obtain ⟨gx, ox, rfl, hgx, hcell⟩ := HX.out.1 i (by have := HN.out.1; omega)
      have hcx : wr.cell? ⟨gx, ox + i, none⟩ = some (.int .i64 (xs.getD i 0 : Nat)) := (HR.out.bel.cell hgx).trans hcell
      have hxl : xs.getD i 0 < 65536 := HN.out.2.2.1 _ (by rw [getD_at (by have := HN.out.1; omega)]; exact List.getElem_mem _)
      obtain ⟨P, S2, zs, hP, hzl, hzd, hA0, hend⟩ := HR.out.win (Nat.le_refl _) HN.out.1 HN.out.2.1 hlt rfl hxl HN.out.2.2.2
      have HA0 := hide hA0
      have HE := hide hend
      have HP := hide (And.intro hP (And.intro hzl hzd))
      clear hcell HS HR hA0 hend hP hzl hzd
      generalize xs.getD i 0 = x at *
      obtain ⟨wo, rfl⟩ : ∃ wo : World, wo = wr := ⟨_, rfl⟩
      go_wp2
      go_loopw [8, 26] (fun vc vk wi => ∃ (k c : Nat), k ≤ ly ∧ vk = .int .i64 (k : Int) ∧ vc = .int .i64 (c : Int) ∧ c < 65536 ∧ Hid (AmI w w.heap.size x k P S2 zs ys c wi)) (fun _ vk _ => ly - (intOf vk).toNat)
      case atStart => exact ⟨0, 0, Nat.zero_le _, by go_num, rfl, by omega, HA0⟩
      case round =>
        obtain ⟨k, c, hk, rfl, rfl, hc, HA⟩ := hrel
        by_cases hlk : k < ly
        · obtain ⟨gy, oy, rfl, hgy, hcelly⟩ := HX.out.2 k (by have := HN.out.2.1; omega)
          have hcy : wr.cell? ⟨gy, oy + k, none⟩ = some (.int .i64 (ys.getD k 0 : Nat)) := (HA.out.bel.cell hgy).trans hcelly
          have hyl : ys.getD k 0 < 65536 := HN.out.2.2.2 _ (by rw [getD_at (by have := HN.out.2.1; omega)]; exact List.getElem_mem _)
          have hzl : zs.getD k 0 < 65536 := HP.out.2.2 _ (by rw [getD_at (by have := HP.out.2.1; have := HN.out.2.1; omega)]; exact List.getElem_mem _)
          obtain ⟨hcz, hfz, hst⟩ := HA.out.step (o := i) (Nat.le_refl _) HP.out.1.symm HP.out.2.1 (by have := HN.out.2.1; omega)
          have HST := hide hst
          clear hcelly hst HA0 HA HE hcx
          generalize ys.getD k 0 = y at hcy hyl HST
          generalize zs.getD k 0 = z at hcz hzl HST
          obtain ⟨p, hp⟩ : ∃ p, p = y * x := ⟨_, rfl⟩
          have hpl : p ≤ 65535 * 65535 := by rw [hp]; exact Nat.mul_le_mul (by omega) (by omega)
          have hxy : (x : Int) * (y : Int) = (p : Int) := by rw [hp, Nat.mul_comm y x, Int.natCast_mul]
          rw [← hp] at HST
          have HT2 := hide (HST.out ((z + p + c) % 65536) ((z + p + c) / 65536) ⟨rfl, rfl⟩)
          have e2 : ((z + p + c : Nat) : Int) = (c : Int) + ((z : Int) + (p : Int)) := by omega
          rw [Int.natCast_emod, e2] at HT2
          have hc2 : (z + p + c) / 65536 < 65536 := by omega
          clear HST hp
          go_wp2
          go_roundw
          case rel => exact ⟨k + 1, (z + p + c) / 65536, by omega, by go_num, by rw [Int.natCast_ediv, e2]; rfl, hc2, HT2⟩
          case measure => simp [intOf]; omega
        · obtain rfl : k = ly := by omega
          obtain ⟨⟨u, k1⟩, k2, hN⟩ := HE.out wr c HA.out
          have HN2 := hide hN
          clear HA0 HA HE hN hcx
          go_wp2
          go_roundw
          case rel => exact ⟨i + 1, by omega, by go_num, HN2⟩
          case measure => simp [intOf]; omega
    · obtain rfl : i = lx := by omega
      obtain ⟨R, h1, h2, h3, h4⟩ := HR.out.row
      have hl : R.length = i + ly := by have := HN.out.2.1; omega
      rw [HN.out.1, List.take_of_length_le (Nat.le_refl _), Nat.mul_comm] at h3
      have hB : Blk wr w.heap.size 3 (gv .i64 R).toArray := by simpa [gv] using h4
      have hown : OwnI wr w.heap.size (.slice (some ⟨w.heap.size, 0, none⟩) R.length (i + ly)) R :=
        OwnG.mk (Nat.le_refl _) hB (by omega) (by unfold maxLen; omega) (by simp [gv_length, hl]) (by simp [← gv_length .i64 R])
      have ht : trimz R = digs 65536 (dval 65536 xs * dval 65536 ys) := by rw [← digs_dval_trim (b := 65536) (by omega) h2, h3]
      have con := trim_any (some ⟨w.heap.size, 0, none⟩) (i + ly) R wr hown.rd
      rw [hl] at con
      have Con := hide con
      have fin : NewI w (digs 65536 (dval 65536 xs * dval 65536 ys)) (.returned (.slice (some ⟨w.heap.size, 0, none⟩) (trimz R).length (i + ly))) wr := by
        have := hown.take (trimz R).length (trimz_length_le R)
        rw [take_trimz] at this
        rw [ht] at this ⊢
        exact ⟨_, _, rfl, this, HR.out.bel⟩
      have Fin := hide fin
      clear con fin hown hB h1 h2 h3 h4 hl ht HR HS
      generalize (trimz R).length = m at Con Fin
      go_wp2_with fail
      refine (Con.out).mono ?_
      rintro e w1 ⟨rfl, rfl⟩
      clear Con
      go_wp2
      go_ret
      exact Fin.out
end Go.Proofs.YtfkcobdkgjhfaaaGreatDoor

/- Walks: the reference's Small and Power. -/
set_option linter.unusedVariables false
set_option linter.unusedSimpArgs false
namespace Go.Proofs.YtfkcobdkgjhfaaaGreatDoor
open Go.RowKit

theorem small_push {w1 : World} {base m : Nat} {v' : Value} {qs : List Nat} (d : Nat) (hm : qs.length = m) (e : Int) (he : e = (d : Int)) (h : w1.ownsRow base 3 1 v' (qs.length + 1) (gv .i64 qs ++ [.int .i64 e])) :
    ∃ B c, v' = .slice B (m + 1) c ∧ Hid (OwnI w1 base (.slice B (m + 1) c) (qs ++ [d])) := by
  subst he
  rw [hm] at h
  obtain ⟨B, c, e1, e2⟩ := OwnG.grown hm h
  exact ⟨B, c, e1, e2⟩

set_option maxHeartbeats 1000000 in
theorem small_any (n : Nat) (w : World) (hn : n < 9223372036854775808) : Calls Tryz.prog 75 #[.int .i64 (n : Int)] w (NewI w (digs 65536 n)) := by
  obtain ⟨i0, hi, hz0, hz1, hz2⟩ := info_parts infoI
  have HI := hide (And.intro hi (And.intro hz0 (And.intro hz1 hz2)))
  clear hi hz0 hz1 hz2
  have hl4 : ∀ ds m, digs 65536 n = ds ++ digs 65536 m → ds.length ≤ 4 := by
    intro ds m h
    have h1 : (digs 65536 n).length ≤ 4 := digs_length_le (by omega) (by omega)
    rw [h, List.length_append] at h1
    omega
  have HL := hide hl4
  clear hl4
  obtain ⟨d0, hd0⟩ : ∃ d0, d0 = digs 65536 n := ⟨_, rfl⟩
  have HN := hide hd0
  rw [← hd0] at HL ⊢
  clear hd0
  go_enter Tryz.func75, Tryz.ntmps75
  go_wp2
  go_loopw [0, 3] (fun vm l wr => ∃ (m k : Nat) (ds : List Nat) (B : Option Addr) (cl : Nat), m < 9223372036854775808 ∧ vm = .int .i64 (m : Int) ∧ l = .slice B k cl ∧ Hid (k = ds.length ∧ d0 = ds ++ digs 65536 m) ∧ Hid (OwnI wr w.heap.size (.slice B k cl) ds) ∧ Hid (Below w.heap.size w wr)) (fun vm _ _ => (intOf vm).toNat)
  case atStart => exact ⟨n, 0, [], some ⟨w.heap.size, 0, none⟩, 0, hn, rfl, rfl, ⟨rfl, HN.out⟩, OwnG.mk (xs := []) (cur := #[]) (Nat.le_refl _) (Blk.new w _ _) (Nat.le_refl _) (Nat.zero_le _) rfl rfl, (Below.refl _ _).alloc (Nat.le_refl _) _⟩
  case round =>
    obtain ⟨m, k, ds, B, cl, hm, rfl, rfl, hD, hown, hbel⟩ := hrel
    by_cases h0 : 0 < m
    · have hk4 : k ≤ 4 := by rw [hD.out.1]; exact HL.out ds m (by rw [← hD.out.2])
      have HK := hide hk4
      have hnext : d0 = (ds ++ [m % 65536]) ++ digs 65536 (m / 65536) := by
        rw [hD.out.2, digs_pos (by omega) h0, List.append_assoc]; rfl
      have HD2 := hide hnext
      have hdiv : m / 65536 < m := Nat.div_lt_self h0 (by omega)
      have hown2 : Hid (OwnI wr w.heap.size (.slice B ds.length cl) ds) := by rw [← hD.out.1]; exact hown
      have Hk := hide hD.out.1
      clear HL HN hnext hk4 hD hown
      go_wp2_with (at_builtin; refine wpList_append_own _ rfl (.tmp 9) (.tmp 12) 27 rfl w.heap.size 3 i0 (.int .i64 0) 1 8 Tryz.underlying27 HI.out.1 HI.out.2.1 HI.out.2.2.1 HI.out.2.2.2 rfl (by decide) _ _ _ rfl ((show OwnI wr w.heap.size (.slice B k cl) ds from by rw [Hk.out]; exact hown2.out).alloc _) ⟨wr.heap.size, 0, none⟩ 1 1 [.int .i64 ((m : Int) % 65536)] rfl rfl ?c1 ?c2 ?c3 ?c4 ?c5 ?_)
      case c1 => exact cell_one_new _ _ _
      case c2 => intro u hu; rw [List.mem_singleton.1 hu]; rfl
      case c3 => have := HK.out; have := Hk.out; simp only [maxLen]; simp; omega
      case c4 => have := HK.out; have := Hk.out; simp; omega
      case c5 => have := hbel.out.size; simp; omega
      intro v' w1 hown' hgrow _
      obtain ⟨B', cl', rfl, hown1⟩ := small_push (m % 65536) Hk.out.symm ((m : Int) % 65536) (by omega) (by simpa using hown')
      have hb1 := hide (below_app hbel.out hbel.out.size _ hgrow (fun j hj => (hown2.out.lt (by rw [← Hk.out]; exact hj)).1))
      have Hk1 : Hid (k + 1 = (ds ++ [m % 65536]).length) := by rw [Hk.out]; show _ = _; simp
      clear hown' hgrow hown2 hbel Hk HK
      go_wp2
      go_roundw
      case rel => exact ⟨m / 65536, k + 1, ds ++ [m % 65536], B', cl', by omega, by rw [Int.natCast_ediv]; rfl, rfl, ⟨Hk1.out, HD2.out⟩, hown1, hb1⟩
      case measure => simp [intOf]; omega
    · obtain rfl : m = 0 := by omega
      have e : d0 = ds := by have := hD.out.2; rw [digs_zero, List.append_nil] at this; exact this
      have Fin : Hid (NewI w d0 (.returned (.slice B k cl)) wr) := by
        rw [e, hD.out.1]
        refine ⟨B, cl, rfl, ?_, hbel.out⟩
        rw [← hD.out.1]; exact hown.out
      clear hD hown hbel HL HN e
      go_wp2
      go_ret
      exact Fin.out

theorem digs_len_mono {b : Nat} (hb : 1 < b) {m n : Nat} (h : m ≤ n) : (digs b m).length ≤ (digs b n).length :=
  digs_length_le hb (Nat.lt_of_le_of_lt h (lt_of_digs_length hb (Nat.le_refl _)))

set_option maxHeartbeats 1000000 in
theorem spower_any (b n : Nat) (w : World) (hb : 1 ≤ b) (hbl : b < 9223372036854775808) (hn : n < 9223372036854775808) (hl : (digs 65536 (b ^ n)).length ≤ 1048576) : Calls Tryz.prog 60 #[.int .i64 (b : Int), .int .i64 (n : Int)] w (NewI w (digs 65536 (b ^ n))) := by
  have Con : Hid (Calls Tryz.prog 75 #[.int .i64 1] w (NewI w (digs 65536 1))) := small_any 1 w (by omega)
  have ConB : Hid (∀ W, Calls Tryz.prog 75 #[.int .i64 (b : Int)] W (NewI W (digs 65536 b))) := fun W => small_any b W hbl
  have hb4 : (digs 65536 b).length ≤ 4 := digs_length_le (by omega) (by omega)
  have hlj : ∀ j, j ≤ n → (digs 65536 (b ^ j)).length ≤ 1048576 := fun j hj => Nat.le_trans (digs_len_mono (by omega) (Nat.pow_le_pow_right hb hj)) hl
  have HL := hide (And.intro hlj hb4)
  clear hl hlj hb4
  obtain ⟨bi, hbi⟩ : ∃ bi : Int, bi = (b : Int) := ⟨_, rfl⟩
  rw [← hbi] at ConB ⊢
  clear hbi
  go_enter Tryz.func60, Tryz.ntmps60
  go_wp2_with fail
  refine (Con.out).mono ?_
  rintro e w1 ⟨A, c, rfl, hown, hbel⟩
  have HO : Hid (OwnI w1 w.heap.size (.slice A (digs 65536 1).length c) (digs 65536 (b ^ 0))) := hown
  have HB := hide hbel
  clear hown hbel Con
  generalize (digs 65536 1).length = q at HO ⊢
  go_wp2
  go_loopw [1, 5] (fun vm l wr => ∃ (j k : Nat) (B : Option Addr) (cl : Nat), j ≤ n ∧ vm = .int .i64 ((n - j : Nat) : Int) ∧ l = .slice B k cl ∧ Hid (OwnI wr w.heap.size (.slice B k cl) (digs 65536 (b ^ j))) ∧ Hid (Below w.heap.size w wr)) (fun vm _ _ => (intOf vm).toNat)
  case atStart => exact ⟨0, q, A, c, Nat.zero_le _, rfl, rfl, HO, HB⟩
  case round =>
    obtain ⟨j, k, B, cl, hj, rfl, rfl, hown, hbel⟩ := hrel
    by_cases hlt : j < n
    · obtain ⟨r, hr⟩ : ∃ r, n - j = r + 1 := ⟨n - j - 1, by omega⟩
      have hr2 : n - (j + 1) = r := by omega
      rw [hr]
      have e1 : ((r + 1 : Nat) : Int) - 1 = (r : Int) := by omega
      have hrl : r < 9223372036854775808 := by omega
      clear hr HO HB
      go_wp2_with fail
      refine (ConB.out wr).mono ?_
      rintro e w2 ⟨A2, c2, rfl, hown2, hbel2⟩
      have con3 := smul_any B A2 k (digs 65536 b).length cl c2 (digs 65536 (b ^ j)) (digs 65536 b) w2 (hown.out.below hbel2).rd hown2.rd (RdG.len (k := .i64) hown.out.rd) rfl (by rw [RdG.len (k := .i64) hown.out.rd]; exact HL.out.1 j (by omega)) (by have := HL.out.2; omega) (dig_digs (by omega) _) (dig_digs (by omega) _)
      rw [dval_digs (by omega), dval_digs (by omega), ← Nat.pow_succ] at con3
      have Con3 := hide con3
      have HB2 := hide (below_next hbel.out hbel2)
      clear con3 hown hown2 hbel hbel2
      generalize (digs 65536 b).length = q2 at Con3 ⊢
      go_wp2_with fail
      refine (Con3.out).mono ?_
      rintro e w3 ⟨A3, c3, rfl, hown3, hbel3⟩
      have HO3 := hide (hown3.lower HB2.out.size)
      have HB3 := hide (below_next HB2.out hbel3)
      clear hown3 hbel3 HB2 Con3
      generalize (digs 65536 (b ^ (j + 1))).length = q3 at HO3 ⊢
      go_wp2
      go_roundw
      case rel => exact ⟨j + 1, q3, A3, c3, by omega, by rw [hr2], rfl, HO3, HB3⟩
      case measure => simp [intOf]
    · obtain rfl : j = n := by omega
      rw [Nat.sub_self]
      have Fin : Hid (NewI w (digs 65536 (b ^ j)) (.returned (.slice B k cl)) wr) := by
        have hk := RdG.len (k := .i64) hown.out.rd
        subst hk
        exact ⟨B, cl, rfl, hown.out, hbel.out⟩
      clear hown hbel HO HB HL
      go_wp2
      go_ret
      exact Fin.out
end Go.Proofs.YtfkcobdkgjhfaaaGreatDoor
