/- Parts of the proofs: NegB, ExpA. -/
import Derived.Test.YtfkcobdkgjhfaaaGreatDoorG16
import Derived.Test.YtfkcobdkgjhfaaaGreatDoorG20
/- Walks: Int.Neg, BigInt.Neg of a number above 0. -/
set_option linter.unusedVariables false
set_option linter.unusedSimpArgs false
namespace Go.Proofs.YtfkcobdkgjhfaaaGreatDoor
open Go.RowKit

theorem setInt_set (cs : Array Value) (o : Nat) (a b : Bool) (r : Value) : (setInt cs o a r).setIfInBounds o (.bool b) = setInt cs o b r := by
  unfold setInt
  apply Array.ext_getElem?
  intro i
  simp only [Array.getElem?_setIfInBounds, Array.size_setIfInBounds]
  by_cases h : o = i
  · simp [h]
  · simp [h]

set_option maxHeartbeats 1000000 in
theorem ineg_any (base gz oz gx ox : Nat) (tz tx : TypeId) (cz cx : Array Value) (nz : Bool) (vz vx : Value) (m : Nat) (xs : List Nat) (w : World)
    (hz : Blk w gz tz cz) (hz0 : cz[oz]? = some (.bool nz)) (hz1 : cz[oz + 1]? = some vz) (hzr : Room w base vz m) (htz : tz ≠ 145)
    (hx : Blk w gx tx cx) (hx0 : cx[ox]? = some (.bool false)) (hx1 : cx[ox + 1]? = some vx) (hxr : RdW w vx xs) (htx : tx ≠ 145)
    (hne : gz ≠ gx ∨ (oz ≠ ox ∧ ox ≠ oz + 1)) (hb : base ≤ w.heap.size) (hn : xs.length ≤ 1099511627776) (hp : 0 < xs.length) :
    Calls Tryz.prog 126 #[.pointer (some ⟨gz, oz, none⟩), .pointer (some ⟨gx, ox, none⟩)] w (IntP w base gz oz tz cz vz true xs) := by
  have Con := hide (iset_any base gz oz gx ox tz tx cz cx nz false vz vx m xs w hz hz0 hz1 hzr htz hx hx0 hx1 hxr htx hne hb hn)
  have lt0 : oz < cz.size := (Array.getElem?_eq_some_iff.1 hz0).1
  have lt1 : oz + 1 < cz.size := (Array.getElem?_eq_some_iff.1 hz1).1
  have HL := hide (And.intro lt0 lt1)
  clear hz hz0 hz1 hzr hx hx0 hx1 hxr lt0 lt1
  go_enter Tryz.func126, Tryz.ntmps126
  go_wp2_with fail
  refine (Con.out).mono ?_
  rintro e w1 ⟨rfl, r, hr, hrb, hB, hF⟩
  obtain ⟨A, c, rfl⟩ := hr.room.slice
  have c0 : w1.cell? ⟨gz, oz, none⟩ = some (.bool false) := by rw [hB.cell]; simp [setInt, HL.out.1]
  have c1 : w1.cell? ⟨gz, oz + 1, none⟩ = some (.slice A xs.length c) := by rw [hB.cell]; simp [setInt, HL.out.2, Array.getElem?_setIfInBounds]
  have f0 : w1.frozen? ⟨gz, oz, none⟩ = false := hB.frozen _
  have fin : IntP w base gz oz tz cz vz true xs (.returned (.pointer (some ⟨gz, oz, none⟩))) (w1.setCell ⟨gz, oz, none⟩ (.bool true)) := by
    refine ⟨rfl, _, hr.fr (Fr.setCell (Fr.refl w1 (fun k => k = gz)) (p := ⟨gz, oz, none⟩) (fun _ => rfl) _) (hr.room.ne_blk hB htz), hrb, ?_, hF.setCell (p := ⟨gz, oz, none⟩) (fun _ => .inl rfl) _⟩
    have := hB.set oz (.bool true)
    rwa [setInt_set] at this
  have Fin := hide fin
  have d1 : decide ((0 : Int) < (xs.length : Int)) = true := decide_eq_true (by omega)
  clear fin hr hrb hB hF Con
  go_wp2
  go_ret
  exact Fin.out
set_option maxHeartbeats 1000000 in
theorem bneg_any (base g oz ox c l lz cz' : Nat) (t : TypeId) (cs : Array Value) (A Az : Option Addr) (nz mz : Bool) (xs : List Nat) (w : World)
    (hz : Blk w g t cs) (hz0 : cs[oz]? = some (.bool nz)) (hz1 : cs[oz + 1]? = some (.slice Az lz cz')) (hz2 : cs[oz + 2]? = some (.bool mz)) (hzr : Room w base (.slice Az lz cz') lz) (ht : t ≠ 145)
    (hx0 : cs[ox]? = some (.bool false)) (hx1 : cs[ox + 1]? = some (.slice A l c)) (hx2 : cs[ox + 2]? = some (.bool false)) (hxr : RdW w (.slice A l c) xs)
    (hne : ox + 2 < oz) (hb : base ≤ w.heap.size) (hn : xs.length ≤ 1099511627776) (hp : 0 < xs.length) (hbx : ∀ k, (Value.slice A l c).ownBlock = some k → k ≠ g) :
    Calls Tryz.prog 102 #[.pointer (some ⟨g, oz, none⟩), .pointer (some ⟨g, ox, none⟩)] w (BigP w base g oz t cs (.slice Az lz cz') true false xs) := by
  have hl : l = xs.length := RdG.len (k := .u64) hxr
  have c0 : w.cell? ⟨g, ox, none⟩ = some (.bool false) := (hz.cell _).trans hx0
  have c1 : w.cell? ⟨g, ox + 1, none⟩ = some (.slice A l c) := (hz.cell _).trans hx1
  have c2 : w.cell? ⟨g, oz + 2, none⟩ = some (.bool mz) := (hz.cell _).trans hz2
  have f2 : w.frozen? ⟨g, oz + 2, none⟩ = false := hz.frozen _
  have hf0 : Fr w (w.setCell ⟨g, oz + 2, none⟩ (.bool false)).drew (fun k => k = g) := ((Fr.refl w (fun k => k = g)).setCell (p := ⟨g, oz + 2, none⟩) (fun _ => rfl) _).drew
  have Sg := hide (isign_any g ox false A l c w c0 c1)
  have hs : sgnI false l = 1 := sgnI_pos (by omega)
  have con := ineg_any base g oz g ox t t (cs.setIfInBounds (oz + 2) (.bool false)) (cs.setIfInBounds (oz + 2) (.bool false)) nz (.slice Az lz cz') (.slice A l c) lz xs (w.setCell ⟨g, oz + 2, none⟩ (.bool false)).drew
    (hz.set _ _) (by rw [getElem?_set_ne (by omega)]; exact hz0) (by rw [getElem?_set_ne (by omega)]; exact hz1) (hzr.fr hf0 (hzr.ne_blk hz ht)) ht
    (hz.set _ _) (by rw [getElem?_set_ne (by omega)]; exact hx0) (by rw [getElem?_set_ne (by omega)]; exact hx1) (hxr.fr hf0 hbx) ht (.inr ⟨by omega, by omega⟩) (by simpa using hb) hn hp
  have Con := hide con
  have Fin := hide (fun e w' h => big_fin (mi := false) (W := (w.setCell ⟨g, oz + 2, none⟩ (.bool false)).drew) (w := w) (base := base) (g := g) (o := oz) (t := t) (cs := cs) (vz := .slice Az lz cz') (n := true) (xs := xs) (.inr rfl) (e := e) (w' := w') h)
  rw [hs] at Sg
  clear hz hz0 hz1 hz2 hzr hx0 hx1 hx2 hxr con hf0 c0 c1 hbx hs
  go_enter Tryz.func102, Tryz.ntmps102
  go_wp2_with fail
  refine (Sg.out).mono ?_
  rintro e w1 ⟨rfl, rfl⟩
  clear Sg
  go_wp2_with fail
  go_region_with (go_at_call 126; go_loud (refine (Con.out).mono ?_; rintro e w1 HI; have HI2 := hide HI; obtain ⟨rfl, _⟩ := HI))
  all_goals go_wp2
  all_goals go_ret
  all_goals exact Fin.out _ _ HI2.out
end Go.Proofs.YtfkcobdkgjhfaaaGreatDoor

/- Walks: powers into the base's own place: nat.expNN, Int.exp, Int.Exp, BigInt.Exp. (Printed by gen-expa.py out of Exp2, Exp3, Exp4.) -/
set_option linter.unusedVariables false
set_option linter.unusedSimpArgs false
namespace Go.Proofs.YtfkcobdkgjhfaaaGreatDoor
open Go.RowKit

set_option maxHeartbeats 1000000 in
set_option maxRecDepth 20000 in
theorem expNN_one_a (base bx by_ b : Nat) (A B : Option Addr) (c d : Nat) (w : World) (hb : base ≤ w.heap.size) (hx : Own w bx (.slice A 1 c) [b]) (hy : Own w by_ (.slice B 1 d) [1]) (hb2 : 2 ≤ b) (hbl : b < 18446744073709551616) :
    Calls Tryz.prog 189 #[.slice A 1 c, .pointer none, .slice A 1 c, .slice B 1 d, .slice none 0 0, .bool false] w (SetP w base (Value.slice none 0 0) (digs 18446744073709551616 (b ^ 1))) := by
  have hz : Room w base (Value.slice none 0 0) 0 := (Own.nil w base).room
  have hax : Apart (Value.slice none 0 0) (.slice A 1 c) := fun k hk => by cases hk
  have hay : Apart (Value.slice none 0 0) (.slice B 1 d) := fun k hk => by cases hk
  obtain ⟨gx, ox, rfl, hgx, hxc⟩ := RdG.at_ (k := .u64) (xs := [b]) hx.rd 0 (by simp)
  obtain ⟨gy, oy, rfl, hgy, hyc⟩ := RdG.at_ (k := .u64) (xs := [1]) hy.rd 0 (by simp)
  have x0 : w.cell? ⟨gx, ox, none⟩ = some (.int .u64 (b : Int)) := by simpa using hxc
  have y0 : w.cell? ⟨gy, oy, none⟩ = some (.int .u64 1) := by simpa using hyc
  have b1 : ((b : Int) == 1) = false := beq_eq_false_iff_ne.2 (by omega)
  have Con := hide (alias_self bx 1 c _ [b] w hx rfl (by omega))
  have conS := fun W (h : Below w.heap.size w W) => set_any base (Value.slice none 0 0) 0 (.slice (some ⟨gx, ox, none⟩) 1 c) [b] W (hz.fr (Fr.of_below h (fun _ => False)) (fun _ _ h => h)) (hx.below h).rd (by have := h.size; omega) (by simp)
  have e1 : digs 18446744073709551616 (b ^ 1) = [b] := by rw [Nat.pow_one]; exact digs_word hbl (by omega)
  rw [e1]
  have ConS := hide conS
  clear hx hy hax hay hz conS hxc hyc e1
  go_enter_defers Tryz.func189, Tryz.ntmps189
  go_wp2_with fail
  refine (Con.out).mono ?_
  rintro e w0 ⟨rfl, j, hw0⟩
  have HB0 : Hid (Below w.heap.size w w0) := by rw [hw0]; exact below_drewN w j
  clear Con
  have cx : w0.cell? ⟨gx, ox, none⟩ = some (.int .u64 (b : Int)) := (HB0.out.cell hgx).trans x0
  have cy : w0.cell? ⟨gy, oy, none⟩ = some (.int .u64 1) := (HB0.out.cell hgy).trans y0
  clear hw0 x0 y0
  go_wp2_with fail
  refine (ConS.out _ HB0.out).mono ?_
  rintro e w1 ⟨R, cr, rfl, h1, h2, h3⟩
  have Fin : Hid (SetP w base (Value.slice none 0 0) [b] (.returned (.slice R [b].length cr)) w1) :=
    ⟨R, cr, rfl, h1, h2.imp id (fun ⟨k, a, b⟩ => ⟨k, a, by have := HB0.out.size; omega⟩), Fr.step (Fr.of_below HB0.out _) h3 (fun _ _ h => h)⟩
  clear h1 h2 h3 ConS HB0
  go_wp2
  refine ⟨_, results_tmp (t := 12) rfl _ _ _, ?_⟩
  exact Fin.out


set_option maxHeartbeats 2000000 in
set_option maxRecDepth 20000 in
theorem expNN_main_a (base bx by_ b n : Nat) (A B : Option Addr) (c d : Nat) (w : World) (hb : base ≤ w.heap.size) (hx : Own w bx (.slice A 1 c) [b]) (hy : Own w by_ (.slice B 1 d) [n])
    (hb2 : 2 ≤ b) (hbl : b < 18446744073709551616) (hn2 : 2 ≤ n) (hnl : n < 18446744073709551616) (hsz : b ^ (n / 2) < 18446744073709551616 ^ 11) (hv : Vars w base) :
    Calls Tryz.prog 189 #[.slice A 1 c, .pointer none, .slice A 1 c, .slice B 1 d, .slice none 0 0, .bool false] w (SetP w base (Value.slice none 0 0) (digs 18446744073709551616 (b ^ n))) := by
  have hz : Room w base (Value.slice none 0 0) 0 := (Own.nil w base).room
  have hax : Apart (Value.slice none 0 0) (.slice A 1 c) := fun k hk => by cases hk
  have hay : Apart (Value.slice none 0 0) (.slice B 1 d) := fun k hk => by cases hk
  obtain ⟨gx, ox, rfl, _, hxc⟩ := RdG.at_ (k := .u64) (xs := [b]) hx.rd 0 (by simp)
  obtain ⟨gy, oy, rfl, _, hyc⟩ := RdG.at_ (k := .u64) (xs := [n]) hy.rd 0 (by simp)
  have x0 : w.cell? ⟨gx, ox, none⟩ = some (.int .u64 (b : Int)) := by simpa using hxc
  have y0 : w.cell? ⟨gy, oy, none⟩ = some (.int .u64 (n : Int)) := by simpa using hyc
  have b1 : ((b : Int) == 1) = false := beq_eq_false_iff_ne.2 (by omega)
  have n1 : ((n : Int) == 1) = false := beq_eq_false_iff_ne.2 (by omega)
  have Con := hide (alias_self bx 1 c _ [b] w hx rfl (by omega))
  obtain ⟨s, hs⟩ : ∃ s, s = nlzN n := ⟨_, rfl⟩
  obtain ⟨sp1, sp2, sp3⟩ := nlz_spec n (by omega) hnl
  have Nlz := hide (fun W => nlz_any n hnl W)
  rw [← hs] at sp1 sp2 sp3 Nlz
  have hs62 : s ≤ 62 := by
    rcases Nat.lt_or_ge s 63 with h | h
    · omega
    · have e : s = 63 := by omega
      rw [e] at sp3
      have : 2 * 2 ^ 63 ≤ n * 2 ^ 63 := Nat.mul_le_mul_right _ hn2
      omega
  obtain ⟨t0, e1, e2, e3⟩ := exp_start sp1 sp2 sp3
  obtain ⟨R, hR⟩ : ∃ R, R = 63 - s := ⟨_, rfl⟩
  rw [← hR] at e1 e2 e3
  obtain ⟨v0, hv0⟩ : ∃ v0, v0 = n * 2 ^ (s + 1) % 18446744073709551616 := ⟨_, rfl⟩
  rw [← hv0] at e3
  have hN0 := hide (show ExN n R 1 t0 v0 from ⟨e1, e2, e3, Nat.le_refl _⟩)
  have ew : IntKind.u64.wrap ((n : Int) * 2 ^ (s + 1)) = (v0 : Int) := by
    have : ((n * 2 ^ (s + 1) % 18446744073709551616 : Nat) : Int) = (n : Int) * 2 ^ (s + 1) % 18446744073709551616 := by simp [Int.natCast_emod, Int.natCast_mul, Int.natCast_pow]
    rw [hv0, this]
    rfl
  have HX := hide (And.intro hz (And.intro hx (And.intro hy (And.intro hax (And.intro hay (And.intro hv hsz))))))
  have HR := hide hR
  obtain ⟨s1, hs1⟩ : ∃ s1, s1 = s + 1 := ⟨_, rfl⟩
  have es : (s : Int) + 1 = (s1 : Int) := by omega
  have es63 : s1 ≤ 63 := by omega
  have er : 64 - (s1 : Int) = (R : Int) := by omega
  rw [← hs1] at ew
  have hR63 : R ≤ 63 := by omega
  clear hxc hyc hz hx hy hax hay hv hs sp1 sp2 sp3 hs62 e1 e2 e3 hv0 hR hs1 hsz
  go_enter_defers Tryz.func189, Tryz.ntmps189
  go_wp2_with fail
  refine (Con.out).mono ?_
  rintro e w0 ⟨rfl, j, hw0⟩
  have HB0 : Hid (Below w.heap.size w w0) := by rw [hw0]; exact below_drewN w j
  clear Con
  have x1 := HX.out.2.1.rd
  have cx : w0.cell? ⟨gx, ox, none⟩ = some (.int .u64 (b : Int)) := (HB0.out.cell (World.block_lt_of_cell? _ _ x0)).trans x0
  have cy : w0.cell? ⟨gy, oy, none⟩ = some (.int .u64 (n : Int)) := (HB0.out.cell (World.block_lt_of_cell? _ _ y0)).trans y0
  clear hw0 x0 y0 x1
  have ConS := hide (getStack_any w0)
  go_wp2_with fail
  refine (ConS.out).mono ?_
  rintro e w2 ⟨rfl, hw2⟩
  have hB2 : Below w.heap.size w w2 := by rw [hw2]; exact below_al HB0.out _
  have hst : Blk w2 w0.heap.size 203 #[.pointer none] := by rw [hw2]; exact Blk.new _ _ _
  have cx2 : w2.cell? ⟨gx, ox, none⟩ = some (.int .u64 (b : Int)) := by
    rw [hw2]; exact ((Below.refl w0.heap.size w0).alloc (Nat.le_refl _) _ |>.cell (World.block_lt_of_cell? _ _ cx)).trans cx
  have cy2 : w2.cell? ⟨gy, oy, none⟩ = some (.int .u64 (n : Int)) := by
    rw [hw2]; exact ((Below.refl w0.heap.size w0).alloc (Nat.le_refl _) _ |>.cell (World.block_lt_of_cell? _ _ cy)).trans cy
  have hz2 : Room w2 base (Value.slice none 0 0) 0 := HX.out.1.fr (Fr.of_below hB2 (fun _ => False)) (fun _ _ h => h)
  have ConT := hide (set_any base (Value.slice none 0 0) 0 (.slice (some ⟨gx, ox, none⟩) 1 c) [b] w2 hz2 (HX.out.2.1.below hB2).rd (by have := hB2.size; omega) (by simp))
  have hzne : ∀ k, (Value.slice none 0 0).ownBlock = some k → k ≠ w0.heap.size := by
    intro k hk e
    have := (HX.out.1.lt hk).2
    have := HB0.out.size
    omega
  have fin1 : ∀ z1 w3, SetP w2 base (Value.slice none 0 0) [b] (.returned z1) w3 → w3.cell? ⟨gy, oy, none⟩ = some (.int .u64 (n : Int)) ∧ Hid (ExR w base w0.heap.size (Value.slice none 0 0) b n R z1 (.slice none 0 0) v0 w3) ∧ ∃ A c, z1 = .slice A (digs 18446744073709551616 (b ^ 1)).length c := by
    intro z1 w3 h
    have hs := h
    obtain ⟨A, c, he, hown, hblk, hfr⟩ := h
    injection he with he
    refine ⟨hfr.cell cy2 (fun hk => HX.out.2.2.2.2.1 gy hk rfl), ⟨1, t0, hN0.out, ExM.start HX.out.1 hB2 hs hbl (by omega), hst.fr hfr (fun hk => hzne _ hk rfl)⟩, ?_⟩
    · rw [he]
      have e : digs 18446744073709551616 (b ^ 1) = [b] := by rw [Nat.pow_one]; exact digs_word hbl (by omega)
      rw [e]
      exact ⟨A, c, rfl⟩
  have Fin1 := hide fin1
  generalize w0.heap.size = gs at Fin1 hst ⊢
  clear fin1 hB2 hst cx2 hz2 hzne hw2 ConS HB0 hN0 cx cy
  go_wp2_with fail
  refine (ConT.out).mono ?_
  rintro e w3 ⟨Az, cz, rfl, hset⟩
  obtain ⟨cy3, HE, A1, c1, hz1⟩ := Fin1.out _ w3 ⟨Az, cz, rfl, hset⟩
  rw [hz1] at HE ⊢
  clear hset hz1 Fin1 ConT
  generalize (digs 18446744073709551616 (b ^ 1)).length = l0 at HE ⊢
  go_wp2_with fail
  refine (Nlz.out w3).mono ?_
  rintro e w4 ⟨rfl, rfl⟩
  clear Nlz
  go_wp2
  go_loopw [0, 15, 19, 21] (fun vz vv vzz vj wr => ∃ (j v : Nat) (Az : Option Addr) (lz cz : Nat), j ≤ R ∧ vj = .int .i64 (j : Int) ∧ vv = .int .u64 (v : Int) ∧ vz = .slice Az lz cz ∧ Hid (ExR w base gs (Value.slice none 0 0) b n (R - j) (.slice Az lz cz) vzz v wr)) (fun _ _ _ vj _ => R - (intOf vj).toNat)
  case atStart => exact ⟨0, v0, A1, l0, c1, Nat.zero_le _, rfl, rfl, rfl, HE⟩
  case round =>
    obtain ⟨j, v, Az, lz, cz, hj, rfl, rfl, rfl, HR⟩ := hrel
    by_cases hlt : j < R
    · have hrr : R - j = (R - (j + 1)) + 1 := by omega
      have hRR := HR.out
      rw [hrr] at hRR
      obtain ⟨hvl, e, hsq, hnext⟩ := hRR.round (by omega) HX.out.1 hb HX.out.2.1 HX.out.2.2.2.1 HX.out.2.2.2.2.2.1 hb2 hbl HX.out.2.2.2.2.2.2
      have hand := and_top v hvl
      have hsh : IntKind.u64.wrap ((v : Int) * 2) = ((v * 2 % 18446744073709551616 : Nat) : Int) := by simp [IntKind.wrap, IntKind.signed, IntKind.bits]
      obtain ⟨v2, hv2⟩ : ∃ v2, v2 = v * 2 % 18446744073709551616 := ⟨_, rfl⟩
      rw [← hv2] at hsh
      have Hsq := hide hsq
      have Hnext := hide hnext
      have HV := hide hv2
      clear hsq hnext hRR hrr HE HR hv2
      by_cases hge : 9223372036854775808 ≤ v
      · rw [if_pos hge] at hand
        go_wp2_with fail
        refine (Hsq.out _).mono ?_
        rintro e1 w5 ⟨A5, c5, rfl, hs5⟩
        obtain ⟨hmul, hz2⟩ := (Hnext.out A5 _ c5 w5 ⟨A5, c5, rfl, hs5⟩).1 hge
        have Hmul := hide hmul
        have Hz2 := hide hz2
        clear hs5 hmul hz2 Hsq Hnext
        generalize (digs 18446744073709551616 (b ^ e * b ^ e)).length = l5 at Hmul Hz2 ⊢
        go_wp2_with fail
        refine (Hmul.out _).mono ?_
        rintro e1 w6 ⟨A6, c6, rfl, hs6⟩
        have H6 := hide (Hz2.out _ w6 ⟨A6, c6, rfl, hs6⟩)
        rw [← HV.out] at H6
        clear hs6 Hmul Hz2
        generalize (digs 18446744073709551616 (b ^ (2 * e) * b)).length = l6 at H6 ⊢
        go_wp2
        go_roundw
        case rel => exact ⟨j + 1, v2, A6, l6, c6, by omega, by go_num, rfl, rfl, H6⟩
        case measure => simp [intOf]; omega
      · rw [if_neg hge] at hand
        go_wp2_with fail
        refine (Hsq.out _).mono ?_
        rintro e1 w5 ⟨A5, c5, rfl, hs5⟩
        have H6 := hide ((Hnext.out A5 _ c5 w5 ⟨A5, c5, rfl, hs5⟩).2 (by omega))
        rw [← HV.out] at H6
        clear hs5 Hsq Hnext
        generalize (digs 18446744073709551616 (b ^ e * b ^ e)).length = l5 at H6 ⊢
        go_wp2
        go_roundw
        case rel => exact ⟨j + 1, v2, A5, l5, c5, by omega, by go_num, rfl, rfl, H6⟩
        case measure => simp [intOf]; omega
    · have hjR : j = R := by omega
      subst hjR
      have hRR := HR.out
      rw [Nat.sub_self] at hRR
      obtain ⟨hM, hG⟩ := hRR.end_
      have con7 := norm_own base _ _ _ hM.own
      rw [trimz_of_canon (canon_digs (by omega) _)] at con7
      have Con7 := hide con7
      have HF := hide (And.intro hM hG)
      clear con7 hRR hM hG HR HE
      go_wp2
      refine wp_loop_rounds 1 ?_
      rw [rounds_succ]
      go_wp2_with fail
      refine (Con7.out).mono ?_
      rintro e1 w7 ⟨A7, c7, rfl, hown7, hblk7, rfl⟩
      have Fin : Hid (SetP w base (Value.slice none 0 0) (digs 18446744073709551616 (b ^ n)) (.returned (.slice A7 (digs 18446744073709551616 (b ^ n)).length c7)) wr) := by
        refine ⟨A7, c7, rfl, hown7, ?_, HF.out.1.fr⟩
        rw [hblk7]
        cases hbk : (Value.slice Az lz cz).ownBlock with
        | none =>
          rcases HF.out.1.own.form with ⟨_, h⟩ | ⟨g7, _, _, h, _⟩
          · exact absurd h (digs_ne_nil (by omega) (Nat.pow_pos (by omega)))
          · rw [h] at hbk; cases hbk
        | some k => rcases HF.out.1.fz k hbk with h | h
                    · exact .inl h.symm
                    · exact .inr ⟨k, rfl, h⟩
      have hst := HF.out.2.cell 0
      clear hown7 hblk7 HF Con7
      generalize (digs 18446744073709551616 (b ^ n)).length = l7 at Fin ⊢
      go_wp2
      refine leaves_cons (f := 144) (args := #[.pointer (some ⟨gs, 0, none⟩)]) (by simp) (by simp [go_sem]) ?_
      refine (free_deferred gs .returning _ hst).mono ?_
      rintro e1 u' w8 ⟨rfl, rfl, rfl⟩
      exact ⟨_, results_tmp (t := 12) rfl _ _ _, Fin.out⟩

end Go.Proofs.YtfkcobdkgjhfaaaGreatDoor
