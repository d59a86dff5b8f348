/- Parts of the proofs: Exp2, Exp3, NewBig. -/
import Derived.Test.YtfkcobdkgjhfaaaGreatDoorG3
import Derived.Test.YtfkcobdkgjhfaaaGreatDoorG8
import Derived.Test.YtfkcobdkgjhfaaaGreatDoorG15
/- Walks: nat.expNN: a one-word base to a one-word power, without a modulus. -/
set_option linter.unusedVariables false
set_option linter.unusedSimpArgs false
namespace Go.Proofs.YtfkcobdkgjhfaaaGreatDoor
open Go.RowKit

theorem ExM.start {w W W1 : World} {base b m : Nat} {z z1 : Value} (hz : Room w base z m) (h0 : Below w.heap.size w W) (hs : SetP W base z [b] (.returned z1) W1) (hb : b < 18446744073709551616) (hb1 : 1 ≤ b) : ExM w base z b 1 z1 (.slice none 0 0) W1 := by
  obtain ⟨A, c, he, hown, hblk, hfr⟩ := hs
  injection he with he
  subst he
  have e : digs 18446744073709551616 (b ^ 1) = [b] := by rw [Nat.pow_one]; exact digs_word hb (by omega)
  refine ⟨by rw [e]; exact hown, ⟨0, (Own.nil _ _).room⟩, (fun k hk => by cases hk), ?_, (fun k hk => by cases hk), Fr.step (Fr.of_below h0 _) hfr (fun i _ h => h)⟩
  intro k hk
  rcases hblk with h3 | ⟨j, h3, h4⟩
  · exact .inl (h3.symm.trans hk)
  · rw [hk] at h3
    have e : k = j := by injection h3
    exact .inr (by have := h0.size; omega)

/-- What a round holds. -/
def ExR (w : World) (base gs : Nat) (z0 : Value) (b n r : Nat) (z zz : Value) (v : Nat) (W : World) : Prop :=
  ∃ e t, ExN n r e t v ∧ ExM w base z0 b e z zz W ∧ Blk W gs 203 #[.pointer none]

theorem ExR.end_ {w W : World} {base gs b n v : Nat} {z0 z zz : Value} (h : ExR w base gs z0 b n 0 z zz v W) : ExM w base z0 b n z zz W ∧ Blk W gs 203 #[.pointer none] := by
  obtain ⟨e, t, h1, h2, h3⟩ := h
  have := h1.num
  have := h1.tl
  simp at *
  have e1 : e = n := by omega
  subst e1
  exact ⟨h2, h3⟩

theorem Fr.own_base {w w' : World} {base m : Nat} {z : Value} (hz : Room w base z m) {b : Nat} (hv : Vars w b) (hb : b ≤ base) (hf : Fr w w' (fun k => z.ownBlock = some k)) : Vars w' b := hv.fr hf (fun k hk => Nat.le_trans hb (hz.lt hk).1)

theorem ExR.round {w W : World} {base bx gs m b n r v lz cz c : Nat} {z0 zz : Value} {A Az : Option Addr} (h : ExR w base gs z0 b n (r + 1) (.slice Az lz cz) zz v W) (hr : r < 64) (hz : Room w base z0 m) (hbs : base ≤ w.heap.size) (hx : Own w bx (.slice A 1 c) [b]) (hax : Apart z0 (.slice A 1 c)) (hv : Vars w base)
    (hb2 : 2 ≤ b) (hbl : b < 18446744073709551616) (hsz : b ^ (n / 2) < 18446744073709551616 ^ 11) :
    v < 18446744073709551616 ∧ ∃ e, (∀ stk, Calls Tryz.prog 176 #[zz, stk, .slice Az lz cz] W (SetP W base zz (digs 18446744073709551616 (b ^ e * b ^ e)))) ∧
      ∀ A1 l1 c1 W1, SetP W base zz (digs 18446744073709551616 (b ^ e * b ^ e)) (.returned (.slice A1 l1 c1)) W1 →
        (9223372036854775808 ≤ v → (∀ stk, Calls Tryz.prog 177 #[.slice Az lz cz, stk, .slice A1 l1 c1, .slice A 1 c] W1 (SetP W1 base (.slice Az lz cz) (digs 18446744073709551616 (b ^ (2 * e) * b)))) ∧
          ∀ z2 W2, SetP W1 base (.slice Az lz cz) (digs 18446744073709551616 (b ^ (2 * e) * b)) (.returned z2) W2 → ExR w base gs z0 b n r z2 (.slice A1 l1 c1) (v * 2 % 18446744073709551616) W2) ∧
        (v < 9223372036854775808 → ExR w base gs z0 b n r (.slice A1 l1 c1) (.slice Az lz cz) (v * 2 % 18446744073709551616) W1) := by
  obtain ⟨e, t, hN, hM, hG⟩ := h
  obtain ⟨hvl, hen, hcase⟩ := hN.round hr
  have hbp : 0 < b ^ e := Nat.pow_pos (by omega)
  have hl : lz = (digs 18446744073709551616 (b ^ e)).length := RdG.len (k := .u64) hM.own.rd
  have hd : Dig 18446744073709551616 (digs 18446744073709551616 (b ^ e)) := dig_digs (by omega) _
  have h11 : (digs 18446744073709551616 (b ^ e)).length ≤ 11 := digs_pow_len (by omega) (by omega) hsz
  have hp1 : 1 ≤ (digs 18446744073709551616 (b ^ e)).length := List.length_pos_iff.2 (digs_ne_nil (by omega) hbp)
  have hvW : Vars W base := Fr.own_base hz hv (Nat.le_refl _) hM.fr
  obtain ⟨mm, hroom⟩ := hM.room
  have hsq : ∀ stk, Calls Tryz.prog 176 #[zz, stk, .slice Az lz cz] W (SetP W base zz (digs 18446744073709551616 (b ^ e * b ^ e))) := by
    intro stk
    have := sqr_any base base lz zz stk mm Az cz (digs 18446744073709551616 (b ^ e)) W hroom (by have := hM.fr.size; omega) hM.own hl (by omega) (by omega) hM.ap hd hvW
    rwa [dval_digs (by omega)] at this
  refine ⟨hvl, e, hsq, ?_⟩
  intro A1 l1 c1 W1 hs1
  have e2 : b ^ e * b ^ e = b ^ (2 * e) := by rw [← Nat.pow_add]; congr 1; omega
  have hM1 : ExM w base z0 b (2 * e) (.slice A1 l1 c1) (.slice Az lz cz) W1 := hM.swap e2 hs1
  have hG1 : Blk W1 gs 203 #[.pointer none] := by
    obtain ⟨_, _, _, _, _, hf⟩ := hs1
    exact hG.fr hf (fun hk => (hroom.ne_blk hG (by decide)) gs hk rfl)
  refine ⟨fun hge => ?_, fun hlt => ?_⟩
  · rcases hcase with ⟨_, t', hN'⟩ | ⟨h1, _⟩
    · obtain ⟨hx1, hxa, hxb⟩ := hM1.x hx hax
      have hl1 : l1 = (digs 18446744073709551616 (b ^ (2 * e))).length := RdG.len (k := .u64) hM1.own.rd
      have h22 : (digs 18446744073709551616 (b ^ (2 * e))).length ≤ 22 := by
        refine digs_length_le (by omega) ?_
        rw [← e2]
        have h3 : b ^ e < 18446744073709551616 ^ 11 := Nat.lt_of_le_of_lt (Nat.pow_le_pow_right (by omega) (by omega)) hsz
        exact Nat.lt_of_lt_of_eq (Nat.mul_lt_mul'' h3 h3) (by decide)
      have hbs1 : base ≤ W1.heap.size := by have := hM1.fr.size; omega
      have hvW1 : Vars W1 base := Fr.own_base hz hv (Nat.le_refl _) hM1.fr
      obtain ⟨m1, hroom1⟩ := hM1.room
      refine ⟨fun stk => ?_, fun z2 W2 hs2 => ?_⟩
      · have := mul_any2 base base bx l1 1 (.slice Az lz cz) stk m1 A1 A c1 c (digs 18446744073709551616 (b ^ (2 * e))) [b] W1 hroom1 hbs1 hM1.own hx1 hl1 rfl (by omega) (by omega) (.inl hM1.ap) (.inl hxb)
          (dig_digs (by omega) _) (fun x hxm => by rw [List.mem_singleton.1 hxm]; exact hbl) (canon_digs (by omega) _) (by simp [Canon]; omega) hvW1
        have e5 : dval 18446744073709551616 [b] = b := by simp [dval]
        rwa [dval_digs (by omega), e5] at this
      · refine ⟨2 * e + 1, t', hN', hM1.swap (Nat.pow_succ b (2 * e)).symm hs2, ?_⟩
        obtain ⟨_, _, _, _, _, hf⟩ := hs2
        exact hG1.fr hf (fun hk => (hroom1.ne_blk hG1 (by decide)) gs hk rfl)
    · omega
  · rcases hcase with ⟨h1, _⟩ | ⟨_, t', hN'⟩
    · omega
    · exact ⟨2 * e, t', hN', hM1, hG1⟩

set_option maxHeartbeats 2000000 in
set_option maxRecDepth 20000 in
theorem expNN_main (base bx by_ b n : Nat) (z : Value) (mz : Nat) (A B : Option Addr) (c d : Nat) (w : World) (hz : Room w base z mz) (hb : base ≤ w.heap.size) (hx : Own w bx (.slice A 1 c) [b]) (hy : Own w by_ (.slice B 1 d) [n]) (hax : Apart z (.slice A 1 c)) (hay : Apart z (.slice B 1 d))
    (hb2 : 2 ≤ b) (hbl : b < 18446744073709551616) (hn2 : 2 ≤ n) (hnl : n < 18446744073709551616) (hsz : b ^ (n / 2) < 18446744073709551616 ^ 11) (hv : Vars w base) :
    Calls Tryz.prog 189 #[z, .pointer none, .slice A 1 c, .slice B 1 d, .slice none 0 0, .bool false] w (SetP w base z (digs 18446744073709551616 (b ^ n))) := by
  obtain ⟨gx, ox, rfl, _, hxc⟩ := RdG.at_ (k := .u64) (xs := [b]) hx.rd 0 (by simp)
  obtain ⟨gy, oy, rfl, _, hyc⟩ := RdG.at_ (k := .u64) (xs := [n]) hy.rd 0 (by simp)
  have x0 : w.cell? ⟨gx, ox, none⟩ = some (.int .u64 (b : Int)) := by simpa using hxc
  have y0 : w.cell? ⟨gy, oy, none⟩ = some (.int .u64 (n : Int)) := by simpa using hyc
  have b1 : ((b : Int) == 1) = false := beq_eq_false_iff_ne.2 (by omega)
  have n1 : ((n : Int) == 1) = false := beq_eq_false_iff_ne.2 (by omega)
  have Con := hide (alias_rows base bx mz 1 z _ w hz hx.room_n hax)
  have Cony := hide (fun W (h : Below w.heap.size w W) => alias_rows base by_ mz 1 z (.slice (some ⟨gy, oy, none⟩) 1 d) W (hz.fr (Fr.of_below h (fun _ => False)) (fun _ _ h => h)) (hy.below h).room_n hay)
  obtain ⟨s, hs⟩ : ∃ s, s = nlzN n := ⟨_, rfl⟩
  obtain ⟨sp1, sp2, sp3⟩ := nlz_spec n (by omega) hnl
  have Nlz := hide (fun W => nlz_any n hnl W)
  rw [← hs] at sp1 sp2 sp3 Nlz
  have hs62 : s ≤ 62 := by
    rcases Nat.lt_or_ge s 63 with h | h
    · omega
    · have e : s = 63 := by omega
      rw [e] at sp3
      have : 2 * 2 ^ 63 ≤ n * 2 ^ 63 := Nat.mul_le_mul_right _ hn2
      omega
  obtain ⟨t0, e1, e2, e3⟩ := exp_start sp1 sp2 sp3
  obtain ⟨R, hR⟩ : ∃ R, R = 63 - s := ⟨_, rfl⟩
  rw [← hR] at e1 e2 e3
  obtain ⟨v0, hv0⟩ : ∃ v0, v0 = n * 2 ^ (s + 1) % 18446744073709551616 := ⟨_, rfl⟩
  rw [← hv0] at e3
  have hN0 := hide (show ExN n R 1 t0 v0 from ⟨e1, e2, e3, Nat.le_refl _⟩)
  have ew : IntKind.u64.wrap ((n : Int) * 2 ^ (s + 1)) = (v0 : Int) := by
    have : ((n * 2 ^ (s + 1) % 18446744073709551616 : Nat) : Int) = (n : Int) * 2 ^ (s + 1) % 18446744073709551616 := by simp [Int.natCast_emod, Int.natCast_mul, Int.natCast_pow]
    rw [hv0, this]
    rfl
  have HX := hide (And.intro hz (And.intro hx (And.intro hy (And.intro hax (And.intro hay (And.intro hv hsz))))))
  have HR := hide hR
  obtain ⟨s1, hs1⟩ : ∃ s1, s1 = s + 1 := ⟨_, rfl⟩
  have es : (s : Int) + 1 = (s1 : Int) := by omega
  have es63 : s1 ≤ 63 := by omega
  have er : 64 - (s1 : Int) = (R : Int) := by omega
  rw [← hs1] at ew
  have hR63 : R ≤ 63 := by omega
  clear hxc hyc hz hx hy hax hay hv hs sp1 sp2 sp3 hs62 e1 e2 e3 hv0 hR hs1 hsz
  go_enter_defers Tryz.func189, Tryz.ntmps189
  go_wp2_with fail
  refine (Con.out).mono ?_
  rintro e w9 ⟨rfl, j, hw9⟩
  have HB9 : Hid (Below w.heap.size w w9) := by rw [hw9]; exact below_drewN w j
  clear hw9 Con
  go_wp2_with fail
  refine (Cony.out _ HB9.out).mono ?_
  rintro e w0 ⟨rfl, j2, hw0⟩
  have HB0 : Hid (Below w.heap.size w w0) := below_next HB9.out (by rw [hw0]; exact below_drewN w9 j2)
  have x1 := HX.out.2.1.rd
  have cx : w0.cell? ⟨gx, ox, none⟩ = some (.int .u64 (b : Int)) := (HB0.out.cell (World.block_lt_of_cell? _ _ x0)).trans x0
  have cy : w0.cell? ⟨gy, oy, none⟩ = some (.int .u64 (n : Int)) := (HB0.out.cell (World.block_lt_of_cell? _ _ y0)).trans y0
  clear hw0 Cony HB9 x0 y0 x1
  have ConS := hide (getStack_any w0)
  go_wp2_with fail
  refine (ConS.out).mono ?_
  rintro e w2 ⟨rfl, hw2⟩
  have hB2 : Below w.heap.size w w2 := by rw [hw2]; exact below_al HB0.out _
  have hst : Blk w2 w0.heap.size 203 #[.pointer none] := by rw [hw2]; exact Blk.new _ _ _
  have cx2 : w2.cell? ⟨gx, ox, none⟩ = some (.int .u64 (b : Int)) := by
    rw [hw2]; exact ((Below.refl w0.heap.size w0).alloc (Nat.le_refl _) _ |>.cell (World.block_lt_of_cell? _ _ cx)).trans cx
  have cy2 : w2.cell? ⟨gy, oy, none⟩ = some (.int .u64 (n : Int)) := by
    rw [hw2]; exact ((Below.refl w0.heap.size w0).alloc (Nat.le_refl _) _ |>.cell (World.block_lt_of_cell? _ _ cy)).trans cy
  have hz2 : Room w2 base z mz := HX.out.1.fr (Fr.of_below hB2 (fun _ => False)) (fun _ _ h => h)
  have ConT := hide (set_any base z mz (.slice (some ⟨gx, ox, none⟩) 1 c) [b] w2 hz2 (HX.out.2.1.below hB2).rd (by have := hB2.size; omega) (by simp))
  have hzne : ∀ k, z.ownBlock = some k → k ≠ w0.heap.size := by
    intro k hk e
    have := (HX.out.1.lt hk).2
    have := HB0.out.size
    omega
  have fin1 : ∀ z1 w3, SetP w2 base z [b] (.returned z1) w3 → w3.cell? ⟨gy, oy, none⟩ = some (.int .u64 (n : Int)) ∧ Hid (ExR w base w0.heap.size z b n R z1 (.slice none 0 0) v0 w3) ∧ ∃ A c, z1 = .slice A (digs 18446744073709551616 (b ^ 1)).length c := by
    intro z1 w3 h
    have hs := h
    obtain ⟨A, c, he, hown, hblk, hfr⟩ := h
    injection he with he
    refine ⟨hfr.cell cy2 (fun hk => HX.out.2.2.2.2.1 gy hk rfl), ⟨1, t0, hN0.out, ExM.start HX.out.1 hB2 hs hbl (by omega), hst.fr hfr (fun hk => hzne _ hk rfl)⟩, ?_⟩
    · rw [he]
      have e : digs 18446744073709551616 (b ^ 1) = [b] := by rw [Nat.pow_one]; exact digs_word hbl (by omega)
      rw [e]
      exact ⟨A, c, rfl⟩
  have Fin1 := hide fin1
  generalize w0.heap.size = gs at Fin1 hst ⊢
  clear fin1 hB2 hst cx2 hz2 hzne hw2 ConS HB0 hN0 cx cy
  go_wp2_with fail
  refine (ConT.out).mono ?_
  rintro e w3 ⟨Az, cz, rfl, hset⟩
  obtain ⟨cy3, HE, A1, c1, hz1⟩ := Fin1.out _ w3 ⟨Az, cz, rfl, hset⟩
  rw [hz1] at HE ⊢
  clear hset hz1 Fin1 ConT
  generalize (digs 18446744073709551616 (b ^ 1)).length = l0 at HE ⊢
  go_wp2_with fail
  refine (Nlz.out w3).mono ?_
  rintro e w4 ⟨rfl, rfl⟩
  clear Nlz
  go_wp2
  go_loopw [0, 15, 19, 21] (fun vz vv vzz vj wr => ∃ (j v : Nat) (Az : Option Addr) (lz cz : Nat), j ≤ R ∧ vj = .int .i64 (j : Int) ∧ vv = .int .u64 (v : Int) ∧ vz = .slice Az lz cz ∧ Hid (ExR w base gs z b n (R - j) (.slice Az lz cz) vzz v wr)) (fun _ _ _ vj _ => R - (intOf vj).toNat)
  case atStart => exact ⟨0, v0, A1, l0, c1, Nat.zero_le _, rfl, rfl, rfl, HE⟩
  case round =>
    obtain ⟨j, v, Az, lz, cz, hj, rfl, rfl, rfl, HR⟩ := hrel
    by_cases hlt : j < R
    · have hrr : R - j = (R - (j + 1)) + 1 := by omega
      have hRR := HR.out
      rw [hrr] at hRR
      obtain ⟨hvl, e, hsq, hnext⟩ := hRR.round (by omega) HX.out.1 hb HX.out.2.1 HX.out.2.2.2.1 HX.out.2.2.2.2.2.1 hb2 hbl HX.out.2.2.2.2.2.2
      have hand := and_top v hvl
      have hsh : IntKind.u64.wrap ((v : Int) * 2) = ((v * 2 % 18446744073709551616 : Nat) : Int) := by simp [IntKind.wrap, IntKind.signed, IntKind.bits]
      obtain ⟨v2, hv2⟩ : ∃ v2, v2 = v * 2 % 18446744073709551616 := ⟨_, rfl⟩
      rw [← hv2] at hsh
      have Hsq := hide hsq
      have Hnext := hide hnext
      have HV := hide hv2
      clear hsq hnext hRR hrr HE HR hv2
      by_cases hge : 9223372036854775808 ≤ v
      · rw [if_pos hge] at hand
        go_wp2_with fail
        refine (Hsq.out _).mono ?_
        rintro e1 w5 ⟨A5, c5, rfl, hs5⟩
        obtain ⟨hmul, hz2⟩ := (Hnext.out A5 _ c5 w5 ⟨A5, c5, rfl, hs5⟩).1 hge
        have Hmul := hide hmul
        have Hz2 := hide hz2
        clear hs5 hmul hz2 Hsq Hnext
        generalize (digs 18446744073709551616 (b ^ e * b ^ e)).length = l5 at Hmul Hz2 ⊢
        go_wp2_with fail
        refine (Hmul.out _).mono ?_
        rintro e1 w6 ⟨A6, c6, rfl, hs6⟩
        have H6 := hide (Hz2.out _ w6 ⟨A6, c6, rfl, hs6⟩)
        rw [← HV.out] at H6
        clear hs6 Hmul Hz2
        generalize (digs 18446744073709551616 (b ^ (2 * e) * b)).length = l6 at H6 ⊢
        go_wp2
        go_roundw
        case rel => exact ⟨j + 1, v2, A6, l6, c6, by omega, by go_num, rfl, rfl, H6⟩
        case measure => simp [intOf]; omega
      · rw [if_neg hge] at hand
        go_wp2_with fail
        refine (Hsq.out _).mono ?_
        rintro e1 w5 ⟨A5, c5, rfl, hs5⟩
        have H6 := hide ((Hnext.out A5 _ c5 w5 ⟨A5, c5, rfl, hs5⟩).2 (by omega))
        rw [← HV.out] at H6
        clear hs5 Hsq Hnext
        generalize (digs 18446744073709551616 (b ^ e * b ^ e)).length = l5 at H6 ⊢
        go_wp2
        go_roundw
        case rel => exact ⟨j + 1, v2, A5, l5, c5, by omega, by go_num, rfl, rfl, H6⟩
        case measure => simp [intOf]; omega
    · have hjR : j = R := by omega
      subst hjR
      have hRR := HR.out
      rw [Nat.sub_self] at hRR
      obtain ⟨hM, hG⟩ := hRR.end_
      have con7 := norm_own base _ _ _ hM.own
      rw [trimz_of_canon (canon_digs (by omega) _)] at con7
      have Con7 := hide con7
      have HF := hide (And.intro hM hG)
      clear con7 hRR hM hG HR HE
      go_wp2
      refine wp_loop_rounds 1 ?_
      rw [rounds_succ]
      go_wp2_with fail
      refine (Con7.out).mono ?_
      rintro e1 w7 ⟨A7, c7, rfl, hown7, hblk7, rfl⟩
      have Fin : Hid (SetP w base z (digs 18446744073709551616 (b ^ n)) (.returned (.slice A7 (digs 18446744073709551616 (b ^ n)).length c7)) wr) := by
        refine ⟨A7, c7, rfl, hown7, ?_, HF.out.1.fr⟩
        rw [hblk7]
        cases hbk : (Value.slice Az lz cz).ownBlock with
        | none =>
          rcases HF.out.1.own.form with ⟨_, h⟩ | ⟨g7, _, _, h, _⟩
          · exact absurd h (digs_ne_nil (by omega) (Nat.pow_pos (by omega)))
          · rw [h] at hbk; cases hbk
        | some k => rcases HF.out.1.fz k hbk with h | h
                    · exact .inl h.symm
                    · exact .inr ⟨k, rfl, h⟩
      have hst := HF.out.2.cell 0
      clear hown7 hblk7 HF Con7
      generalize (digs 18446744073709551616 (b ^ n)).length = l7 at Fin ⊢
      go_wp2
      refine leaves_cons (f := 144) (args := #[.pointer (some ⟨gs, 0, none⟩)]) (by simp) (by simp [go_sem]) ?_
      refine (free_deferred gs .returning _ hst).mono ?_
      rintro e1 u' w8 ⟨rfl, rfl, rfl⟩
      exact ⟨_, results_tmp (t := 12) rfl _ _ _, Fin.out⟩
end Go.Proofs.YtfkcobdkgjhfaaaGreatDoor

/- Walks: nat.expNN at the small powers; whatever the power. -/
set_option linter.unusedVariables false
set_option linter.unusedSimpArgs false
namespace Go.Proofs.YtfkcobdkgjhfaaaGreatDoor
open Go.RowKit

set_option maxHeartbeats 1000000 in
set_option maxRecDepth 20000 in
theorem expNN_zero (base bx by_ b : Nat) (z : Value) (mz : Nat) (A B : Option Addr) (c d : Nat) (w : World) (hz : Room w base z mz) (hb : base ≤ w.heap.size) (hx : Own w bx (.slice A 1 c) [b]) (hy : Own w by_ (.slice B 0 d) []) (hax : Apart z (.slice A 1 c)) (hay : Apart z (.slice B 0 d)) :
    Calls Tryz.prog 189 #[z, .pointer none, .slice A 1 c, .slice B 0 d, .slice none 0 0, .bool false] w (SetP w base z (digs 18446744073709551616 (b ^ 0))) := by
  have Con := hide (alias_rows base bx mz 1 z _ w hz hx.room_n hax)
  have Cony := hide (fun W (h : Below w.heap.size w W) => alias_rows base by_ mz 0 z (.slice B 0 d) W (hz.fr (Fr.of_below h (fun _ => False)) (fun _ _ h => h)) (hy.below h).room_n hay)
  have ConS : Hid (∀ W (h : Below w.heap.size w W), Calls Tryz.prog 135 #[z, .int .u64 1] W (SetP W base z (digs 18446744073709551616 1))) :=
    fun W h => setWord_any base z mz 1 W (hz.fr (Fr.of_below h (fun _ => False)) (fun _ _ h => h)) (by have := h.size; omega) (by omega)
  rw [Nat.pow_zero]
  clear hx hy hax hay hz
  go_enter_defers Tryz.func189, Tryz.ntmps189
  go_wp2_with fail
  refine (Con.out).mono ?_
  rintro e w9 ⟨rfl, j, hw9⟩
  have HB9 : Hid (Below w.heap.size w w9) := by rw [hw9]; exact below_drewN w j
  clear hw9 Con
  go_wp2_with fail
  refine (Cony.out _ HB9.out).mono ?_
  rintro e w0 ⟨rfl, j2, hw0⟩
  have HB0 : Hid (Below w.heap.size w w0) := below_next HB9.out (by rw [hw0]; exact below_drewN w9 j2)
  clear hw0 Cony HB9
  go_wp2_with fail
  refine (ConS.out _ HB0.out).mono ?_
  rintro e w1 ⟨R, cr, rfl, h1, h2, h3⟩
  have Fin : Hid (SetP w base z (digs 18446744073709551616 1) (.returned (.slice R (digs 18446744073709551616 1).length cr)) w1) :=
    ⟨R, cr, rfl, h1, h2.imp id (fun ⟨k, a, b⟩ => ⟨k, a, by have := HB0.out.size; omega⟩), Fr.step (Fr.of_below HB0.out _) h3 (fun _ _ h => h)⟩
  clear h1 h2 h3 ConS HB0
  generalize (digs 18446744073709551616 1).length = q at Fin ⊢
  go_wp2
  refine ⟨_, results_tmp (t := 12) rfl _ _ _, ?_⟩
  exact Fin.out

set_option maxHeartbeats 1000000 in
set_option maxRecDepth 20000 in
theorem expNN_one (base bx by_ b : Nat) (z : Value) (mz : Nat) (A B : Option Addr) (c d : Nat) (w : World) (hz : Room w base z mz) (hb : base ≤ w.heap.size) (hx : Own w bx (.slice A 1 c) [b]) (hy : Own w by_ (.slice B 1 d) [1]) (hax : Apart z (.slice A 1 c)) (hay : Apart z (.slice B 1 d)) (hb2 : 2 ≤ b) (hbl : b < 18446744073709551616) :
    Calls Tryz.prog 189 #[z, .pointer none, .slice A 1 c, .slice B 1 d, .slice none 0 0, .bool false] w (SetP w base z (digs 18446744073709551616 (b ^ 1))) := by
  obtain ⟨gx, ox, rfl, hgx, hxc⟩ := RdG.at_ (k := .u64) (xs := [b]) hx.rd 0 (by simp)
  obtain ⟨gy, oy, rfl, hgy, hyc⟩ := RdG.at_ (k := .u64) (xs := [1]) hy.rd 0 (by simp)
  have x0 : w.cell? ⟨gx, ox, none⟩ = some (.int .u64 (b : Int)) := by simpa using hxc
  have y0 : w.cell? ⟨gy, oy, none⟩ = some (.int .u64 1) := by simpa using hyc
  have b1 : ((b : Int) == 1) = false := beq_eq_false_iff_ne.2 (by omega)
  have Con := hide (alias_rows base bx mz 1 z _ w hz hx.room_n hax)
  have Cony := hide (fun W (h : Below w.heap.size w W) => alias_rows base by_ mz 1 z (.slice (some ⟨gy, oy, none⟩) 1 d) W (hz.fr (Fr.of_below h (fun _ => False)) (fun _ _ h => h)) (hy.below h).room_n hay)
  have conS := fun W (h : Below w.heap.size w W) => set_any base z mz (.slice (some ⟨gx, ox, none⟩) 1 c) [b] W (hz.fr (Fr.of_below h (fun _ => False)) (fun _ _ h => h)) (hx.below h).rd (by have := h.size; omega) (by simp)
  have e1 : digs 18446744073709551616 (b ^ 1) = [b] := by rw [Nat.pow_one]; exact digs_word hbl (by omega)
  rw [e1]
  have ConS := hide conS
  clear hx hy hax hay hz conS hxc hyc e1
  go_enter_defers Tryz.func189, Tryz.ntmps189
  go_wp2_with fail
  refine (Con.out).mono ?_
  rintro e w9 ⟨rfl, j, hw9⟩
  have HB9 : Hid (Below w.heap.size w w9) := by rw [hw9]; exact below_drewN w j
  clear hw9 Con
  go_wp2_with fail
  refine (Cony.out _ HB9.out).mono ?_
  rintro e w0 ⟨rfl, j2, hw0⟩
  have HB0 : Hid (Below w.heap.size w w0) := below_next HB9.out (by rw [hw0]; exact below_drewN w9 j2)
  have cx : w0.cell? ⟨gx, ox, none⟩ = some (.int .u64 (b : Int)) := (HB0.out.cell hgx).trans x0
  have cy : w0.cell? ⟨gy, oy, none⟩ = some (.int .u64 1) := (HB0.out.cell hgy).trans y0
  clear hw0 Cony HB9 x0 y0
  go_wp2_with fail
  refine (ConS.out _ HB0.out).mono ?_
  rintro e w1 ⟨R, cr, rfl, h1, h2, h3⟩
  have Fin : Hid (SetP w base z [b] (.returned (.slice R [b].length cr)) w1) :=
    ⟨R, cr, rfl, h1, h2.imp id (fun ⟨k, a, b⟩ => ⟨k, a, by have := HB0.out.size; omega⟩), Fr.step (Fr.of_below HB0.out _) h3 (fun _ _ h => h)⟩
  clear h1 h2 h3 ConS HB0
  go_wp2
  refine ⟨_, results_tmp (t := 12) rfl _ _ _, ?_⟩
  exact Fin.out

theorem expNN_any (base bx by_ b n l : Nat) (z : Value) (mz : Nat) (A B : Option Addr) (c d : Nat) (w : World) (hz : Room w base z mz) (hb : base ≤ w.heap.size) (hx : Own w bx (.slice A 1 c) [b]) (hy : Own w by_ (.slice B l d) (digs 18446744073709551616 n)) (hax : Apart z (.slice A 1 c)) (hay : Apart z (.slice B l d))
    (hb2 : 2 ≤ b) (hbl : b < 18446744073709551616) (hnl : n < 18446744073709551616) (hsz : b ^ (n / 2) < 18446744073709551616 ^ 11) (hv : Vars w base) :
    Calls Tryz.prog 189 #[z, .pointer none, .slice A 1 c, .slice B l d, .slice none 0 0, .bool false] w (SetP w base z (digs 18446744073709551616 (b ^ n))) := by
  have hl : l = (digs 18446744073709551616 n).length := RdG.len (k := .u64) hy.rd
  by_cases h0 : n = 0
  · subst h0
    rw [digs_zero] at hl hy
    subst hl
    exact expNN_zero base bx by_ b z mz A B c d w hz hb hx hy hax hay
  · rw [digs_word hnl h0] at hl hy
    subst hl
    by_cases h1 : n = 1
    · subst h1
      exact expNN_one base bx by_ b z mz A B c d w hz hb hx hy hax hay hb2 hbl
    · exact expNN_main base bx by_ b n z mz A B c d w hz hb hx hy hax hay hb2 hbl (by omega) hnl hsz hv
end Go.Proofs.YtfkcobdkgjhfaaaGreatDoor

/- Walks: NewBigInt, bigFive, bigTen. -/
set_option linter.unusedVariables false
set_option linter.unusedSimpArgs false
namespace Go.Proofs.YtfkcobdkgjhfaaaGreatDoor
open Go.RowKit

set_option maxHeartbeats 500000 in
theorem newBig_any (x : Nat) (w : World) (hx : x < 9223372036854775808) :
    Calls Tryz.prog 103 #[.int .i64 (x : Int)] w (NewBigP w (digs 18446744073709551616 x)) := by
  have con := isetInt64_any w.heap.size w.heap.size 0 69 #[.bool false, .slice none 0 0, .bool false] false (.slice none 0 0) 0 (x : Int) (w.alloc (.cells #[.bool false, .slice none 0 0, .bool false] 69))
    (Blk.new w _ _) rfl rfl (Own.nil _ _).room (by decide) (by simp) (by omega) (by omega)
  rw [decide_eq_false (by omega : ¬ (x : Int) < 0), Int.natAbs_natCast] at con
  have fin : ∀ e w', IntP (w.alloc (.cells #[.bool false, .slice none 0 0, .bool false] 69)) w.heap.size w.heap.size 0 69 #[.bool false, .slice none 0 0, .bool false] (.slice none 0 0) false (digs 18446744073709551616 x) e w' →
      NewBigP w (digs 18446744073709551616 x) (.returned (.pointer (some ⟨w.heap.size, 0, none⟩))) w' := by
    rintro e w' ⟨_, v, hr, hrb, hB, hF⟩
    obtain ⟨A, c, rfl⟩ := hr.room.slice
    refine ⟨_, A, c, rfl, Nat.le_refl _, hr, hB, ?_⟩
    exact ((Below.refl w.heap.size w).alloc (Nat.le_refl _) _).trans (hF.below (by simp) (fun k hk => by rcases hk with rfl | h; exact Nat.le_refl _; cases h))
  have Con := hide con
  have Fin := hide fin
  clear con fin
  obtain ⟨xi, hxi⟩ : ∃ xi : Int, xi = (x : Int) := ⟨_, rfl⟩
  rw [← hxi] at Con ⊢
  clear hxi
  go_enter Tryz.func103, Tryz.ntmps103
  go_wp2_with fail
  refine (Con.out).mono ?_
  rintro e w1 HI
  have HI2 := hide (Fin.out _ _ HI)
  obtain ⟨rfl, _⟩ := HI
  clear Con Fin
  go_wp2
  go_ret
  exact HI2.out
theorem five_any (w : World) : Calls Tryz.prog 184 #[] w (NewBigP w [5]) := by
  have con := newBig_any 5 w (by omega)
  rw [digs_word (by omega) (by omega)] at con
  have Con := hide con
  clear con
  go_enter Tryz.func184, Tryz.ntmps184
  go_wp2_with fail
  refine (Con.out).mono ?_
  rintro e w1 ⟨g, A, c, rfl, h⟩
  have fin : NewBigP w [5] (.returned (.pointer (some ⟨g, 0, none⟩))) w1 := ⟨g, A, c, rfl, h⟩
  have Fin := hide fin
  clear fin h Con
  go_wp2
  go_ret
  exact Fin.out
theorem ten_any (w : World) : Calls Tryz.prog 67 #[] w (NewBigP w [10]) := by
  have con := newBig_any 10 w (by omega)
  rw [digs_word (by omega) (by omega)] at con
  have Con := hide con
  clear con
  go_enter Tryz.func67, Tryz.ntmps67
  go_wp2_with fail
  refine (Con.out).mono ?_
  rintro e w1 ⟨g, A, c, rfl, h⟩
  have fin : NewBigP w [10] (.returned (.pointer (some ⟨g, 0, none⟩))) w1 := ⟨g, A, c, rfl, h⟩
  have Fin := hide fin
  clear fin h Con
  go_wp2
  go_ret
  exact Fin.out

end Go.Proofs.YtfkcobdkgjhfaaaGreatDoor
