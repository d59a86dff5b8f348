/- Parts of the proofs: ExpA, ExpB. -/
import Derived.Test.YtfkcobdkgjhfaaaGreatDoorG29
import Derived.Test.YtfkcobdkgjhfaaaGreatDoorG32
/- Walks: powers into the base's own place: nat.expNN, Int.exp, Int.Exp, BigInt.Exp. (Printed by gen-expa.py out of Exp2, Exp3, Exp4.) -/
set_option linter.unusedVariables false
set_option linter.unusedSimpArgs false
namespace Go.Proofs.YtfkcobdkgjhfaaaGreatDoor
open Go.RowKit

set_option maxHeartbeats 1000000 in
set_option maxRecDepth 20000 in
theorem expNN_one_a (base bx by_ b : Nat) (A B : Option Addr) (c d : Nat) (w : World) (hb : base ≤ w.heap.size) (hx : Own w bx (.slice A 1 c) [b]) (hy : Own w by_ (.slice B 1 d) [1]) (hb2 : 2 ≤ b) (hbl : b < 18446744073709551616) :
    Calls Tryz.prog 189 #[.slice A 1 c, .pointer none, .slice A 1 c, .slice B 1 d, .slice none 0 0, .bool false] w (SetP w base (Value.slice none 0 0) (digs 18446744073709551616 (b ^ 1))) := by
  have hz : Room w base (Value.slice none 0 0) 0 := (Own.nil w base).room
  have hax : Apart (Value.slice none 0 0) (.slice A 1 c) := fun k hk => by cases hk
  have hay : Apart (Value.slice none 0 0) (.slice B 1 d) := fun k hk => by cases hk
  obtain ⟨gx, ox, rfl, hgx, hxc⟩ := RdG.at_ (k := .u64) (xs := [b]) hx.rd 0 (by simp)
  obtain ⟨gy, oy, rfl, hgy, hyc⟩ := RdG.at_ (k := .u64) (xs := [1]) hy.rd 0 (by simp)
  have x0 : w.cell? ⟨gx, ox, none⟩ = some (.int .u64 (b : Int)) := by simpa using hxc
  have y0 : w.cell? ⟨gy, oy, none⟩ = some (.int .u64 1) := by simpa using hyc
  have b1 : ((b : Int) == 1) = false := beq_eq_false_iff_ne.2 (by omega)
  have Con := hide (alias_self bx 1 c _ [b] w hx rfl (by omega))
  have conS := fun W (h : Below w.heap.size w W) => set_any base (Value.slice none 0 0) 0 (.slice (some ⟨gx, ox, none⟩) 1 c) [b] W (hz.fr (Fr.of_below h (fun _ => False)) (fun _ _ h => h)) (hx.below h).rd (by have := h.size; omega) (by simp)
  have e1 : digs 18446744073709551616 (b ^ 1) = [b] := by rw [Nat.pow_one]; exact digs_word hbl (by omega)
  rw [e1]
  have ConS := hide conS
  clear hx hy hax hay hz conS hxc hyc e1
  go_enter_defers Tryz.func189, Tryz.ntmps189
  go_wp2_with fail
  refine (Con.out).mono ?_
  rintro e w0 ⟨rfl, j, hw0⟩
  have HB0 : Hid (Below w.heap.size w w0) := by rw [hw0]; exact below_drewN w j
  clear Con
  have cx : w0.cell? ⟨gx, ox, none⟩ = some (.int .u64 (b : Int)) := (HB0.out.cell hgx).trans x0
  have cy : w0.cell? ⟨gy, oy, none⟩ = some (.int .u64 1) := (HB0.out.cell hgy).trans y0
  clear hw0 x0 y0
  go_wp2_with fail
  refine (ConS.out _ HB0.out).mono ?_
  rintro e w1 ⟨R, cr, rfl, h1, h2, h3⟩
  have Fin : Hid (SetP w base (Value.slice none 0 0) [b] (.returned (.slice R [b].length cr)) w1) :=
    ⟨R, cr, rfl, h1, h2.imp id (fun ⟨k, a, b⟩ => ⟨k, a, by have := HB0.out.size; omega⟩), Fr.step (Fr.of_below HB0.out _) h3 (fun _ _ h => h)⟩
  clear h1 h2 h3 ConS HB0
  go_wp2
  refine ⟨_, results_tmp (t := 12) rfl _ _ _, ?_⟩
  exact Fin.out


set_option maxHeartbeats 2000000 in
set_option maxRecDepth 20000 in
theorem expNN_main_a (base bx by_ b n : Nat) (A B : Option Addr) (c d : Nat) (w : World) (hb : base ≤ w.heap.size) (hx : Own w bx (.slice A 1 c) [b]) (hy : Own w by_ (.slice B 1 d) [n])
    (hb2 : 2 ≤ b) (hbl : b < 18446744073709551616) (hn2 : 2 ≤ n) (hnl : n < 18446744073709551616) (hsz : b ^ (n / 2) < 18446744073709551616 ^ 11) (hv : Vars w base) :
    Calls Tryz.prog 189 #[.slice A 1 c, .pointer none, .slice A 1 c, .slice B 1 d, .slice none 0 0, .bool false] w (SetP w base (Value.slice none 0 0) (digs 18446744073709551616 (b ^ n))) := by
  have hz : Room w base (Value.slice none 0 0) 0 := (Own.nil w base).room
  have hax : Apart (Value.slice none 0 0) (.slice A 1 c) := fun k hk => by cases hk
  have hay : Apart (Value.slice none 0 0) (.slice B 1 d) := fun k hk => by cases hk
  obtain ⟨gx, ox, rfl, _, hxc⟩ := RdG.at_ (k := .u64) (xs := [b]) hx.rd 0 (by simp)
  obtain ⟨gy, oy, rfl, _, hyc⟩ := RdG.at_ (k := .u64) (xs := [n]) hy.rd 0 (by simp)
  have x0 : w.cell? ⟨gx, ox, none⟩ = some (.int .u64 (b : Int)) := by simpa using hxc
  have y0 : w.cell? ⟨gy, oy, none⟩ = some (.int .u64 (n : Int)) := by simpa using hyc
  have b1 : ((b : Int) == 1) = false := beq_eq_false_iff_ne.2 (by omega)
  have n1 : ((n : Int) == 1) = false := beq_eq_false_iff_ne.2 (by omega)
  have Con := hide (alias_self bx 1 c _ [b] w hx rfl (by omega))
  obtain ⟨s, hs⟩ : ∃ s, s = nlzN n := ⟨_, rfl⟩
  obtain ⟨sp1, sp2, sp3⟩ := nlz_spec n (by omega) hnl
  have Nlz := hide (fun W => nlz_any n hnl W)
  rw [← hs] at sp1 sp2 sp3 Nlz
  have hs62 : s ≤ 62 := by
    rcases Nat.lt_or_ge s 63 with h | h
    · omega
    · have e : s = 63 := by omega
      rw [e] at sp3
      have : 2 * 2 ^ 63 ≤ n * 2 ^ 63 := Nat.mul_le_mul_right _ hn2
      omega
  obtain ⟨t0, e1, e2, e3⟩ := exp_start sp1 sp2 sp3
  obtain ⟨R, hR⟩ : ∃ R, R = 63 - s := ⟨_, rfl⟩
  rw [← hR] at e1 e2 e3
  obtain ⟨v0, hv0⟩ : ∃ v0, v0 = n * 2 ^ (s + 1) % 18446744073709551616 := ⟨_, rfl⟩
  rw [← hv0] at e3
  have hN0 := hide (show ExN n R 1 t0 v0 from ⟨e1, e2, e3, Nat.le_refl _⟩)
  have ew : IntKind.u64.wrap ((n : Int) * 2 ^ (s + 1)) = (v0 : Int) := by
    have : ((n * 2 ^ (s + 1) % 18446744073709551616 : Nat) : Int) = (n : Int) * 2 ^ (s + 1) % 18446744073709551616 := by simp [Int.natCast_emod, Int.natCast_mul, Int.natCast_pow]
    rw [hv0, this]
    rfl
  have HX := hide (And.intro hz (And.intro hx (And.intro hy (And.intro hax (And.intro hay (And.intro hv hsz))))))
  have HR := hide hR
  obtain ⟨s1, hs1⟩ : ∃ s1, s1 = s + 1 := ⟨_, rfl⟩
  have es : (s : Int) + 1 = (s1 : Int) := by omega
  have es63 : s1 ≤ 63 := by omega
  have er : 64 - (s1 : Int) = (R : Int) := by omega
  rw [← hs1] at ew
  have hR63 : R ≤ 63 := by omega
  clear hxc hyc hz hx hy hax hay hv hs sp1 sp2 sp3 hs62 e1 e2 e3 hv0 hR hs1 hsz
  go_enter_defers Tryz.func189, Tryz.ntmps189
  go_wp2_with fail
  refine (Con.out).mono ?_
  rintro e w0 ⟨rfl, j, hw0⟩
  have HB0 : Hid (Below w.heap.size w w0) := by rw [hw0]; exact below_drewN w j
  clear Con
  have x1 := HX.out.2.1.rd
  have cx : w0.cell? ⟨gx, ox, none⟩ = some (.int .u64 (b : Int)) := (HB0.out.cell (World.block_lt_of_cell? _ _ x0)).trans x0
  have cy : w0.cell? ⟨gy, oy, none⟩ = some (.int .u64 (n : Int)) := (HB0.out.cell (World.block_lt_of_cell? _ _ y0)).trans y0
  clear hw0 x0 y0 x1
  have ConS := hide (getStack_any w0)
  go_wp2_with fail
  refine (ConS.out).mono ?_
  rintro e w2 ⟨rfl, hw2⟩
  have hB2 : Below w.heap.size w w2 := by rw [hw2]; exact below_al HB0.out _
  have hst : Blk w2 w0.heap.size 203 #[.pointer none] := by rw [hw2]; exact Blk.new _ _ _
  have cx2 : w2.cell? ⟨gx, ox, none⟩ = some (.int .u64 (b : Int)) := by
    rw [hw2]; exact ((Below.refl w0.heap.size w0).alloc (Nat.le_refl _) _ |>.cell (World.block_lt_of_cell? _ _ cx)).trans cx
  have cy2 : w2.cell? ⟨gy, oy, none⟩ = some (.int .u64 (n : Int)) := by
    rw [hw2]; exact ((Below.refl w0.heap.size w0).alloc (Nat.le_refl _) _ |>.cell (World.block_lt_of_cell? _ _ cy)).trans cy
  have hz2 : Room w2 base (Value.slice none 0 0) 0 := HX.out.1.fr (Fr.of_below hB2 (fun _ => False)) (fun _ _ h => h)
  have ConT := hide (set_any base (Value.slice none 0 0) 0 (.slice (some ⟨gx, ox, none⟩) 1 c) [b] w2 hz2 (HX.out.2.1.below hB2).rd (by have := hB2.size; omega) (by simp))
  have hzne : ∀ k, (Value.slice none 0 0).ownBlock = some k → k ≠ w0.heap.size := by
    intro k hk e
    have := (HX.out.1.lt hk).2
    have := HB0.out.size
    omega
  have fin1 : ∀ z1 w3, SetP w2 base (Value.slice none 0 0) [b] (.returned z1) w3 → w3.cell? ⟨gy, oy, none⟩ = some (.int .u64 (n : Int)) ∧ Hid (ExR w base w0.heap.size (Value.slice none 0 0) b n R z1 (.slice none 0 0) v0 w3) ∧ ∃ A c, z1 = .slice A (digs 18446744073709551616 (b ^ 1)).length c := by
    intro z1 w3 h
    have hs := h
    obtain ⟨A, c, he, hown, hblk, hfr⟩ := h
    injection he with he
    refine ⟨hfr.cell cy2 (fun hk => HX.out.2.2.2.2.1 gy hk rfl), ⟨1, t0, hN0.out, ExM.start HX.out.1 hB2 hs hbl (by omega), hst.fr hfr (fun hk => hzne _ hk rfl)⟩, ?_⟩
    · rw [he]
      have e : digs 18446744073709551616 (b ^ 1) = [b] := by rw [Nat.pow_one]; exact digs_word hbl (by omega)
      rw [e]
      exact ⟨A, c, rfl⟩
  have Fin1 := hide fin1
  generalize w0.heap.size = gs at Fin1 hst ⊢
  clear fin1 hB2 hst cx2 hz2 hzne hw2 ConS HB0 hN0 cx cy
  go_wp2_with fail
  refine (ConT.out).mono ?_
  rintro e w3 ⟨Az, cz, rfl, hset⟩
  obtain ⟨cy3, HE, A1, c1, hz1⟩ := Fin1.out _ w3 ⟨Az, cz, rfl, hset⟩
  rw [hz1] at HE ⊢
  clear hset hz1 Fin1 ConT
  generalize (digs 18446744073709551616 (b ^ 1)).length = l0 at HE ⊢
  go_wp2_with fail
  refine (Nlz.out w3).mono ?_
  rintro e w4 ⟨rfl, rfl⟩
  clear Nlz
  go_wp2
  go_loopw [0, 15, 19, 21] (fun vz vv vzz vj wr => ∃ (j v : Nat) (Az : Option Addr) (lz cz : Nat), j ≤ R ∧ vj = .int .i64 (j : Int) ∧ vv = .int .u64 (v : Int) ∧ vz = .slice Az lz cz ∧ Hid (ExR w base gs (Value.slice none 0 0) b n (R - j) (.slice Az lz cz) vzz v wr)) (fun _ _ _ vj _ => R - (intOf vj).toNat)
  case atStart => exact ⟨0, v0, A1, l0, c1, Nat.zero_le _, rfl, rfl, rfl, HE⟩
  case round =>
    obtain ⟨j, v, Az, lz, cz, hj, rfl, rfl, rfl, HR⟩ := hrel
    by_cases hlt : j < R
    · have hrr : R - j = (R - (j + 1)) + 1 := by omega
      have hRR := HR.out
      rw [hrr] at hRR
      obtain ⟨hvl, e, hsq, hnext⟩ := hRR.round (by omega) HX.out.1 hb HX.out.2.1 HX.out.2.2.2.1 HX.out.2.2.2.2.2.1 hb2 hbl HX.out.2.2.2.2.2.2
      have hand := and_top v hvl
      have hsh : IntKind.u64.wrap ((v : Int) * 2) = ((v * 2 % 18446744073709551616 : Nat) : Int) := by simp [IntKind.wrap, IntKind.signed, IntKind.bits]
      obtain ⟨v2, hv2⟩ : ∃ v2, v2 = v * 2 % 18446744073709551616 := ⟨_, rfl⟩
      rw [← hv2] at hsh
      have Hsq := hide hsq
      have Hnext := hide hnext
      have HV := hide hv2
      clear hsq hnext hRR hrr HE HR hv2
      by_cases hge : 9223372036854775808 ≤ v
      · rw [if_pos hge] at hand
        go_wp2_with fail
        refine (Hsq.out _).mono ?_
        rintro e1 w5 ⟨A5, c5, rfl, hs5⟩
        obtain ⟨hmul, hz2⟩ := (Hnext.out A5 _ c5 w5 ⟨A5, c5, rfl, hs5⟩).1 hge
        have Hmul := hide hmul
        have Hz2 := hide hz2
        clear hs5 hmul hz2 Hsq Hnext
        generalize (digs 18446744073709551616 (b ^ e * b ^ e)).length = l5 at Hmul Hz2 ⊢
        go_wp2_with fail
        refine (Hmul.out _).mono ?_
        rintro e1 w6 ⟨A6, c6, rfl, hs6⟩
        have H6 := hide (Hz2.out _ w6 ⟨A6, c6, rfl, hs6⟩)
        rw [← HV.out] at H6
        clear hs6 Hmul Hz2
        generalize (digs 18446744073709551616 (b ^ (2 * e) * b)).length = l6 at H6 ⊢
        go_wp2
        go_roundw
        case rel => exact ⟨j + 1, v2, A6, l6, c6, by omega, by go_num, rfl, rfl, H6⟩
        case measure => simp [intOf]; omega
      · rw [if_neg hge] at hand
        go_wp2_with fail
        refine (Hsq.out _).mono ?_
        rintro e1 w5 ⟨A5, c5, rfl, hs5⟩
        have H6 := hide ((Hnext.out A5 _ c5 w5 ⟨A5, c5, rfl, hs5⟩).2 (by omega))
        rw [← HV.out] at H6
        clear hs5 Hsq Hnext
        generalize (digs 18446744073709551616 (b ^ e * b ^ e)).length = l5 at H6 ⊢
        go_wp2
        go_roundw
        case rel => exact ⟨j + 1, v2, A5, l5, c5, by omega, by go_num, rfl, rfl, H6⟩
        case measure => simp [intOf]; omega
    · have hjR : j = R := by omega
      subst hjR
      have hRR := HR.out
      rw [Nat.sub_self] at hRR
      obtain ⟨hM, hG⟩ := hRR.end_
      have con7 := norm_own base _ _ _ hM.own
      rw [trimz_of_canon (canon_digs (by omega) _)] at con7
      have Con7 := hide con7
      have HF := hide (And.intro hM hG)
      clear con7 hRR hM hG HR HE
      go_wp2
      refine wp_loop_rounds 1 ?_
      rw [rounds_succ]
      go_wp2_with fail
      refine (Con7.out).mono ?_
      rintro e1 w7 ⟨A7, c7, rfl, hown7, hblk7, rfl⟩
      have Fin : Hid (SetP w base (Value.slice none 0 0) (digs 18446744073709551616 (b ^ n)) (.returned (.slice A7 (digs 18446744073709551616 (b ^ n)).length c7)) wr) := by
        refine ⟨A7, c7, rfl, hown7, ?_, HF.out.1.fr⟩
        rw [hblk7]
        cases hbk : (Value.slice Az lz cz).ownBlock with
        | none =>
          rcases HF.out.1.own.form with ⟨_, h⟩ | ⟨g7, _, _, h, _⟩
          · exact absurd h (digs_ne_nil (by omega) (Nat.pow_pos (by omega)))
          · rw [h] at hbk; cases hbk
        | some k => rcases HF.out.1.fz k hbk with h | h
                    · exact .inl h.symm
                    · exact .inr ⟨k, rfl, h⟩
      have hst := HF.out.2.cell 0
      clear hown7 hblk7 HF Con7
      generalize (digs 18446744073709551616 (b ^ n)).length = l7 at Fin ⊢
      go_wp2
      refine leaves_cons (f := 144) (args := #[.pointer (some ⟨gs, 0, none⟩)]) (by simp) (by simp [go_sem]) ?_
      refine (free_deferred gs .returning _ hst).mono ?_
      rintro e1 u' w8 ⟨rfl, rfl, rfl⟩
      exact ⟨_, results_tmp (t := 12) rfl _ _ _, Fin.out⟩

end Go.Proofs.YtfkcobdkgjhfaaaGreatDoor

/- Walks: powers into the base's own place: Int.exp, Int.Exp, BigInt.Exp. -/
set_option linter.unusedVariables false
set_option linter.unusedSimpArgs false
namespace Go.Proofs.YtfkcobdkgjhfaaaGreatDoor
open Go.RowKit

theorem expNN_a (base bx by_ b n l : Nat) (A B : Option Addr) (c d : Nat) (w : World) (hb : base ≤ w.heap.size) (hx : Own w bx (.slice A 1 c) [b]) (hy : Own w by_ (.slice B l d) (digs 18446744073709551616 n))
    (hb2 : 2 ≤ b) (hbl : b < 18446744073709551616) (hn0 : n ≠ 0) (hnl : n < 18446744073709551616) (hsz : b ^ (n / 2) < 18446744073709551616 ^ 11) (hv : Vars w base) :
    Calls Tryz.prog 189 #[.slice A 1 c, .pointer none, .slice A 1 c, .slice B l d, .slice none 0 0, .bool false] w (SetP w base (.slice none 0 0) (digs 18446744073709551616 (b ^ n))) := by
  have hl : l = (digs 18446744073709551616 n).length := RdG.len (k := .u64) hy.rd
  rw [digs_word hnl hn0] at hl hy
  subst hl
  by_cases h1 : n = 1
  · subst h1
    exact expNN_one_a base bx by_ b A B c d w hb hx hy hb2 hbl
  · exact expNN_main_a base bx by_ b n A B c d w hb hx hy hb2 hbl (by omega) hnl hsz hv

theorem setP_new {w w' : World} {base : Nat} {xs : List Nat} {A : Option Addr} {c : Nat} (ho : Own w' base (.slice A xs.length c) xs) (hne : xs ≠ [])
    (hb : (Value.slice A xs.length c).ownBlock = (Value.slice none 0 0).ownBlock ∨ ∃ k, (Value.slice A xs.length c).ownBlock = some k ∧ w.heap.size ≤ k) : ∃ k, (Value.slice A xs.length c).ownBlock = some k ∧ w.heap.size ≤ k := by
  rcases hb with h | h
  · rcases ho.form with ⟨_, h1⟩ | ⟨g, _, _, h1, _⟩
    · exact absurd h1 hne
    · rw [h1] at h; cases h
  · exact h

set_option maxHeartbeats 1000000 in
theorem iexp_a (base by_ gz oz gy oy : Nat) (tz ty : TypeId) (cz cy : Array Value) (b n l : Nat) (A B : Option Addr) (c d : Nat) (w : World)
    (hz : Blk w gz tz cz) (hz0 : cz[oz]? = some (.bool false)) (hz1 : cz[oz + 1]? = some (.slice A 1 c)) (hzr : Own w base (.slice A 1 c) [b]) (htz : tz ≠ 145)
    (hy : Blk w gy ty cy) (hy0 : cy[oy]? = some (.bool false)) (hy1 : cy[oy + 1]? = some (.slice B l d)) (hyr : Own w by_ (.slice B l d) (digs 18446744073709551616 n))
    (hb : base ≤ w.heap.size) (hb2 : 2 ≤ b) (hbl : b < 18446744073709551616) (hn0 : n ≠ 0) (hnl : n < 18446744073709551616) (hsz : b ^ (n / 2) < 18446744073709551616 ^ 11) (hv : Vars w base) :
    Calls Tryz.prog 164 #[.pointer (some ⟨gz, oz, none⟩), .pointer (some ⟨gz, oz, none⟩), .pointer (some ⟨gy, oy, none⟩), .pointer none, .bool false] w (IntP w base gz oz tz cz (.slice A 1 c) false (digs 18446744073709551616 (b ^ n))) := by
  have c1 : w.cell? ⟨gz, oz + 1, none⟩ = some (.slice A 1 c) := (hz.cell _).trans hz1
  have c3 : w.cell? ⟨gy, oy, none⟩ = some (.bool false) := (hy.cell _).trans hy0
  have c4 : w.cell? ⟨gy, oy + 1, none⟩ = some (.slice B l d) := (hy.cell _).trans hy1
  have hzne : ∀ k, (Value.slice A 1 c).ownBlock = some k → k ≠ gz := hzr.room.ne_blk hz htz
  have hp : 0 < (digs 18446744073709551616 (b ^ n)).length := List.length_pos_iff.2 (digs_ne_nil (by omega) (Nat.pow_pos (by omega)))
  have Con := hide (expNN_a base base by_ b n l A B c d w hb hzr hyr hb2 hbl hn0 hnl hsz hv)
  have Key := hide (fun v w1 hf => int_key (w1 := w1) hz hz0 hz1 hzne v hf)
  have Key2 := hide (fun (v : Value) (w1 : World) (hf : Fr w w1 (fun k => (Value.slice A 1 c).ownBlock = some k)) => show ((w1.setCell ⟨gz, oz + 1, none⟩ v).setCell ⟨gz, oz, none⟩ (.bool false)).cell? ⟨gz, oz, none⟩ = some (.bool false) from by
    have b1 : Blk w1 gz tz cz := hz.fr hf (fun h => hzne gz h rfl)
    have hlt : oz < cz.size := (Array.getElem?_eq_some_iff.1 hz0).1
    rw [((b1.set _ _).set _ _).cell]; simp [hlt])
  have Fin := hide (fun v w1 w2 h1 h2 h3 h4 => int_fin (base := base) (w1 := w1) (w2 := w2) (o := oz) (xs := digs 18446744073709551616 (b ^ n)) hz htz hzne v false h1 h2 h3 h4)
  have HP := hide hp
  clear hz hz0 hz1 hzr hzne hy hy0 hy1 hyr hv hp hsz hn0 hb2 hbl hnl
  generalize digs 18446744073709551616 (b ^ n) = D at *
  go_enter Tryz.func164, Tryz.ntmps164
  go_wp2_with fail
  refine (Con.out).mono ?_
  rintro e w1 ⟨R, cr, rfl, hr, hrb, hf⟩
  have hf2 : Fr w w1 (fun k => (Value.slice A 1 c).ownBlock = some k) := hf.mono (fun k _ h => by cases h)
  obtain ⟨k1, k2, k3, k4, k5⟩ := Key.out (.slice R D.length cr) w1 hf2
  have k6 := Key2.out (.slice R D.length cr) w1 hf2
  have HF := hide (Fin.out (.slice R D.length cr) w1 _ (.inl rfl) hr (.inr (setP_new hr (List.length_pos_iff.1 HP.out) hrb)) hf2)
  have hp := HP.out
  clear hr hrb hf hf2 Con Key Key2 Fin HP
  generalize D.length = q at hp k1 k2 k3 k4 k5 k6 HF ⊢
  go_wp2
  go_ret
  exact HF.out

theorem iExp_a (base by_ gz oz gy oy : Nat) (tz ty : TypeId) (cz cy : Array Value) (b n l : Nat) (A B : Option Addr) (c d : Nat) (w : World)
    (hz : Blk w gz tz cz) (hz0 : cz[oz]? = some (.bool false)) (hz1 : cz[oz + 1]? = some (.slice A 1 c)) (hzr : Own w base (.slice A 1 c) [b]) (htz : tz ≠ 145)
    (hy : Blk w gy ty cy) (hy0 : cy[oy]? = some (.bool false)) (hy1 : cy[oy + 1]? = some (.slice B l d)) (hyr : Own w by_ (.slice B l d) (digs 18446744073709551616 n))
    (hb : base ≤ w.heap.size) (hb2 : 2 ≤ b) (hbl : b < 18446744073709551616) (hn0 : n ≠ 0) (hnl : n < 18446744073709551616) (hsz : b ^ (n / 2) < 18446744073709551616 ^ 11) (hv : Vars w base) :
    Calls Tryz.prog 140 #[.pointer (some ⟨gz, oz, none⟩), .pointer (some ⟨gz, oz, none⟩), .pointer (some ⟨gy, oy, none⟩), .pointer none] w (IntP w base gz oz tz cz (.slice A 1 c) false (digs 18446744073709551616 (b ^ n))) := by
  have Con := hide (iexp_a base by_ gz oz gy oy tz ty cz cy b n l A B c d w hz hz0 hz1 hzr htz hy hy0 hy1 hyr hb hb2 hbl hn0 hnl hsz hv)
  clear hz hz0 hz1 hzr hy hy0 hy1 hyr hv hsz
  go_enter Tryz.func140, Tryz.ntmps140
  go_wp2_with fail
  refine (Con.out).mono ?_
  rintro e w1 HI
  have HI2 := hide HI
  obtain ⟨rfl, _⟩ := HI
  clear Con
  go_wp2
  go_ret
  exact HI2.out
set_option maxHeartbeats 1000000 in
theorem bexp_a (base by_ gz oz gy oy : Nat) (tz ty : TypeId) (cz cy : Array Value) (b n l : Nat) (A B : Option Addr) (c d : Nat) (mi : Bool) (w : World)
    (hz : Blk w gz tz cz) (hz0 : cz[oz]? = some (.bool false)) (hz1 : cz[oz + 1]? = some (.slice A 1 c)) (hz2 : cz[oz + 2]? = some (.bool mi)) (hzr : Own w base (.slice A 1 c) [b]) (htz : tz ≠ 145)
    (hy : Blk w gy ty cy) (hy0 : cy[oy]? = some (.bool false)) (hy1 : cy[oy + 1]? = some (.slice B l d)) (hyr : Own w by_ (.slice B l d) (digs 18446744073709551616 n))
    (hney : gz ≠ gy) (hgz : base ≤ gz) (hb : base ≤ w.heap.size) (hb2 : 2 ≤ b) (hbl : b < 18446744073709551616) (hn0 : n ≠ 0) (hnl : n < 18446744073709551616) (hsz : b ^ (n / 2) < 18446744073709551616 ^ 11) (hv : Vars w base) :
    Calls Tryz.prog 122 #[.pointer (some ⟨gz, oz, none⟩), .pointer (some ⟨gz, oz, none⟩), .pointer (some ⟨gy, oy, none⟩)] w (BigP w base gz oz tz cz (.slice A 1 c) false false (digs 18446744073709551616 (b ^ n))) := by
  have c1 : w.cell? ⟨gz, oz + 2, none⟩ = some (.bool mi) := (hz.cell _).trans hz2
  have f1 : w.frozen? ⟨gz, oz + 2, none⟩ = false := hz.frozen _
  have hf0 : Fr w (w.setCell ⟨gz, oz + 2, none⟩ (.bool false)).drew (fun k => k = gz) := ((Fr.refl w (fun k => k = gz)).setCell (p := ⟨gz, oz + 2, none⟩) (fun _ => rfl) _).drew
  have con := iExp_a base by_ gz oz gy oy tz ty (cz.setIfInBounds (oz + 2) (.bool false)) cy b n l A B c d (w.setCell ⟨gz, oz + 2, none⟩ (.bool false)).drew
    (hz.set _ _) (by rw [getElem?_set_ne (by omega)]; exact hz0) (by rw [getElem?_set_ne (by omega)]; exact hz1) (hzr.fr hf0 (hzr.room.ne_blk hz htz)) htz
    (hy.far (p := ⟨gz, oz + 2, none⟩) (Ne.symm hney) _) hy0 hy1 (hyr.fr hf0 (hyr.room.ne_blk hz htz)) (by simpa using hb) hb2 hbl hn0 hnl hsz (hv.fr hf0 (fun k hk => by rw [hk]; exact hgz))
  have Con := hide con
  have Fin := hide (fun e w' h => big_fin (mi := false) (W := (w.setCell ⟨gz, oz + 2, none⟩ (.bool false)).drew) (w := w) (base := base) (g := gz) (o := oz) (t := tz) (cs := cz) (vz := .slice A 1 c) (n := false) (xs := digs 18446744073709551616 (b ^ n)) (.inr rfl) (e := e) (w' := w') h)
  clear hz hz0 hz1 hz2 hzr hy hy0 hy1 hyr con hf0 hv hsz
  generalize digs 18446744073709551616 (b ^ n) = D at *
  go_enter Tryz.func122, Tryz.ntmps122
  go_wp2_with fail
  go_region_with (go_at_call 140; go_loud (refine (Con.out).mono ?_; rintro e w1 HI; have HI2 := hide HI; obtain ⟨rfl, _⟩ := HI))
  all_goals go_wp2
  all_goals go_ret
  all_goals exact Fin.out _ _ HI2.out
end Go.Proofs.YtfkcobdkgjhfaaaGreatDoor
