/- Parts of the proofs: Exp5, NumD, NumD2. -/
import Derived.Deep.RegionHeld3
import Derived.BigRegion
import Derived.Deep.DrawnRows
import Derived.Test.YtfkcobdkgjhfaaaGreatDoorG9
import Derived.Test.YtfkcobdkgjhfaaaGreatDoorG16
import Derived.Test.YtfkcobdkgjhfaaaGreatDoorG23
import Derived.Test.YtfkcobdkgjhfaaaGreatDoorG26
/- Walks: setBigWithPow, tableExp10, ZZPower, the thin package's Power. -/
set_option linter.unusedVariables false
set_option linter.unusedSimpArgs false
namespace Go.Proofs.YtfkcobdkgjhfaaaGreatDoor
open Go.RowKit

/-- 10 to the power of n, laid into the BigInt in block gz. -/
def PowP (w : World) (base gz : Nat) (vz : Value) (n : Nat) (v : Value) (e : Ending) (w' : World) : Prop :=
  e = .returned v ∧ ∃ A c, Own w' base (.slice A (digs 18446744073709551616 (10 ^ n)).length c) (digs 18446744073709551616 (10 ^ n)) ∧
    ((Value.slice A (digs 18446744073709551616 (10 ^ n)).length c).ownBlock = vz.ownBlock ∨ ∃ k, (Value.slice A (digs 18446744073709551616 (10 ^ n)).length c).ownBlock = some k ∧ w.heap.size ≤ k) ∧
    Blk w' gz 69 #[.bool false, .slice A (digs 18446744073709551616 (10 ^ n)).length c, .bool false] ∧ Fr w w' (fun k => k = gz ∨ vz.ownBlock = some k)

set_option maxHeartbeats 1000000 in
set_option maxRecDepth 20000 in
theorem setPow_any (base gz : Nat) (nz mi : Bool) (vz : Value) (mz n : Nat) (w : World) (hz : Blk w gz 69 #[.bool nz, vz, .bool mi]) (hzr : Room w base vz mz) (hb : base ≤ w.heap.size) (hgz : base ≤ gz) (hn : n < 9223372036854775808) (hsz : 10 ^ (n / 2) < 18446744073709551616 ^ 11) (hv : Vars w base) :
    Calls Tryz.prog 93 #[.pointer (some ⟨gz, 0, none⟩), .int .i64 (n : Int)] w (PowP w base gz vz n (.tuple #[])) := by
  obtain ⟨gt, hgt⟩ : ∃ gt, gt = w.heap.size := ⟨_, rfl⟩
  obtain ⟨W, hW⟩ : ∃ W, W = w.alloc (.cells #[.bool false, .slice none 0 0, .bool false] 69) := ⟨_, rfl⟩
  have hbW : Below w.heap.size w W := by rw [hW]; exact below_al (Below.refl _ _) _
  have hsW : W.heap.size = gt + 1 := by rw [hW, hgt]; simp
  have htW : Blk W gt 69 #[.bool false, .slice none 0 0, .bool false] := by rw [hW, hgt]; exact Blk.new w _ _
  have con := bsetInt64_any gt gt 0 69 #[.bool false, .slice none 0 0, .bool false] false false (.slice none 0 0) 0 (n : Int) W htW rfl rfl rfl (Own.nil _ _).room (by decide) (by omega) (by omega) (by omega)
  rw [decide_eq_false (by omega : ¬ (n : Int) < 0), Int.natAbs_natCast] at con
  have Con := hide con
  have HX := hide (And.intro hz (And.intro hzr (And.intro hv (And.intro hsz (And.intro hbW (And.intro hsW hgt))))))
  have HW := hide hW
  clear con hz hzr hv hsz hbW hsW htW
  obtain ⟨ni, hni⟩ : ∃ ni : Int, ni = (n : Int) := ⟨_, rfl⟩
  rw [← hni] at Con ⊢
  clear hni
  go_enter Tryz.func93, Tryz.ntmps93
  go_wp2_with fail
  rw [← hgt, ← hW]
  clear hgt hW
  refine (Con.out).mono ?_
  rintro e w1 ⟨rfl, B, d, hown, _, hblk, hfr⟩
  have hfr1 : Below gt W w1 := hfr.below (by have := HX.out.2.2.2.2.2.1; omega) (fun k hk => by rcases hk with rfl | hk; exact Nat.le_refl _; cases hk)
  have hsz1 := hfr1.size
  have hb1 : Below w.heap.size w w1 := HX.out.2.2.2.2.1.trans (by have := HX.out.2.2.2.2.2.2; rw [← this]; exact hfr1)
  have Ten := hide (ten_any w1)
  have HT := hide (And.intro hown (And.intro (show Blk w1 gt 69 #[.bool false, .slice B (digs 18446744073709551616 n).length d, .bool false] from hblk) hb1))
  clear hown hblk hfr hfr1 hb1 Con
  go_wp2_with fail
  refine (Ten.out).mono ?_
  rintro e w2 ⟨g10, A, c, rfl, hg10, hown10, hblk10, hbel⟩
  have hb2 : Below w.heap.size w w2 := below_next HT.out.2.2 hbel
  have hgzl : gz < w.heap.size := HX.out.1.lt
  have hgte := HX.out.2.2.2.2.2.2
  have hsW := HX.out.2.2.2.2.2.1
  have hvl : ∀ k, vz.ownBlock = some k → k < w.heap.size := fun k hk => (HX.out.2.1.lt hk).2
  have con2 := bexp_any base w1.heap.size gt gz 0 g10 0 gt 0 69 69 69 _ _ _ nz mi vz mz 10 n _ A B c d w2
    (HX.out.1.below hb2) rfl rfl rfl (HX.out.2.1.fr (Fr.of_below hb2 (fun _ => False)) (fun _ _ h => h)) (by decide) hblk10 rfl rfl hown10 (by decide) (HT.out.2.1.below hbel) rfl rfl (HT.out.1.below hbel) (by decide)
    (fun k hk h2 => by have := hvl k hk; have := (hown10.lt h2).1; omega) (fun k hk h2 => by have := hvl k hk; have := (HT.out.1.lt h2).1; omega) (by omega) (by omega) (by have := hb2.size; omega) hgz (by omega) (by omega) (by omega) HX.out.2.2.2.1 (HX.out.2.2.1.below hb2)
  have Con2 := hide con2
  have Hb2 := hide hb2
  clear con2 hb2 hown10 hblk10 hbel hgzl hvl HT Ten hg10 hsz1 hsW hgte
  go_wp2_with fail
  refine (Con2.out).mono ?_
  rintro e w3 ⟨rfl, A3, c3, ho3, hk3, hB3, hF3⟩
  have Fin : Hid (PowP w base gz vz n (.tuple #[]) (.returned (.tuple #[])) w3) :=
    ⟨rfl, A3, c3, ho3, hk3.imp id (fun ⟨k, a, b⟩ => ⟨k, a, by have := Hb2.out.size; omega⟩), hB3, Fr.step (Fr.of_below Hb2.out _) hF3 (fun _ _ h => h)⟩
  clear ho3 hk3 hB3 hF3 Hb2 Con2 HX HW
  go_wp2
  go_end0
  exact Fin.out

theorem tabExp_any (base gz : Nat) (nz mi : Bool) (vz : Value) (mz n : Nat) (w : World) (hz : Blk w gz 69 #[.bool nz, vz, .bool mi]) (hzr : Room w base vz mz) (hb : base ≤ w.heap.size) (hgz : base ≤ gz) (hn : n < 9223372036854775808) (hsz : 10 ^ (n / 2) < 18446744073709551616 ^ 11) (hv : Vars w base) :
    Calls Tryz.prog 53 #[.int .i64 (n : Int), .pointer (some ⟨gz, 0, none⟩)] w (PowP w base gz vz n (.pointer (some ⟨gz, 0, none⟩))) := by
  have Con := hide (setPow_any base gz nz mi vz mz n w hz hzr hb hgz hn hsz hv)
  clear hz hzr hv hsz
  obtain ⟨ni, hni⟩ : ∃ ni : Int, ni = (n : Int) := ⟨_, rfl⟩
  rw [← hni] at Con ⊢
  clear hni
  go_enter Tryz.func53, Tryz.ntmps53
  go_wp2_with fail
  refine (Con.out).mono ?_
  rintro e w1 ⟨rfl, h⟩
  have Fin : Hid (PowP w base gz vz n (.pointer (some ⟨gz, 0, none⟩)) (.returned (.pointer (some ⟨gz, 0, none⟩))) w1) := ⟨rfl, h⟩
  clear h Con
  go_wp2
  go_ret
  exact Fin.out


end Go.Proofs.YtfkcobdkgjhfaaaGreatDoor

/- Walks: apd.NumDigits of a number not below 0. -/
set_option linter.unusedVariables false
set_option linter.unusedSimpArgs false
namespace Go.Proofs.YtfkcobdkgjhfaaaGreatDoor
open Go.RowKit
attribute [local go_sem ↓] Go.wp_at_zero Go.wp_at_succ

/-- How many figures. -/
def FigP (w : World) (v : Nat) (e : Ending) (w' : World) : Prop := e = .returned (.int .i64 (figs v : Int)) ∧ Below w.heap.size w w'

/-- A BigInt that holds v, at o in block g. -/
structure BigAt (w : World) (g o : Nat) (t : TypeId) (cs : Array Value) (A : Option Addr) (c v : Nat) : Prop where
  blk : Blk w g t cs
  c0 : cs[o]? = some (.bool false)
  c1 : cs[o + 1]? = some (.slice A (digs 18446744073709551616 v).length c)
  c2 : cs[o + 2]? = some (.bool false)
  rd : RdW w (.slice A (digs 18446744073709551616 v).length c) (digs 18446744073709551616 v)
theorem BigAt.below {w w' : World} {g o : Nat} {t : TypeId} {cs : Array Value} {A : Option Addr} {c v : Nat} (h : BigAt w g o t cs A c v) (hb : Below w.heap.size w w') : BigAt w' g o t cs A c v :=
  ⟨h.blk.below hb, h.c0, h.c1, h.c2, RdG.below (k := .u64) h.rd hb⟩

theorem bigcmp_any (gx ox gy oy : Nat) (tx ty : TypeId) (cx cy : Array Value) (A B : Option Addr) (c c2 m n : Nat) (w : World) (hx : BigAt w gx ox tx cx A c m) (hy : BigAt w gy oy ty cy B c2 n)
    (hne : (⟨gx, ox, none⟩ : Addr) ≠ ⟨gy, oy, none⟩) (hnx : (digs 18446744073709551616 m).length ≤ 1099511627776) (hny : (digs 18446744073709551616 n).length ≤ 1099511627776) :
    Calls Tryz.prog 111 #[.pointer (some ⟨gx, ox, none⟩), .pointer (some ⟨gy, oy, none⟩)] w (CmpP w m n) :=
  bcmp_any gx ox gy oy tx ty cx cy A B c c2 m n w hx.blk hx.c0 hx.c1 hx.c2 hx.rd hy.blk hy.c0 hy.c1 hy.c2 hy.rd hne hnx hny

theorem cmpI_ge {m n : Nat} (h : ¬ m < n) : 0 ≤ cmpI m n ∧ cmpI m n ≤ 1 := by
  unfold cmpI; rw [if_neg h]; split <;> omega

theorem numD_zero (g o : Nat) (t : TypeId) (cs : Array Value) (A : Option Addr) (c : Nat) (w : World) (hx : BigAt w g o t cs A c 0) :
    Calls Tryz.prog 92 #[.pointer (some ⟨g, o, none⟩)] w (FigP w 0) := by
  have hx1 := hx.c1
  have hrd := hx.rd
  rw [digs_zero] at hx1 hrd
  have con := bbitLen_any g o A 0 c [] w ((hx.blk.cell _).trans hx1) hrd rfl (by omega) (fun d h => by cases h) canon_nil
  have e0 : blen (dval 18446744073709551616 []) = 0 := rfl
  rw [e0] at con
  have Con := hide con
  clear hx hx1 hrd con e0
  go_enter Tryz.func92, Tryz.ntmps92
  go_wp2_with fail
  refine (Con.out).mono ?_
  rintro e w1 ⟨rfl, hw1⟩
  rw [hw1]
  clear Con hw1
  go_wp2
  go_ret
  exact ⟨rfl, Below.refl _ _⟩

set_option maxHeartbeats 2000000 in
set_option maxRecDepth 20000 in
theorem numD_low (g o : Nat) (t : TypeId) (cs : Array Value) (A : Option Addr) (c v : Nat) (w : World) (hx : BigAt w g o t cs A c v) (hv0 : 0 < v) (hbl : blen v ≤ 128) (hv : VarsL w w.heap.size) :
    Calls Tryz.prog 92 #[.pointer (some ⟨g, o, none⟩)] w (FigP w v) := by
  have hl2 : (digs 18446744073709551616 v).length ≤ 2 := digs_length_le (by omega) (Nat.lt_of_lt_of_le (blen_hi v) (by
    rw [show (18446744073709551616 : Nat) ^ 2 = 2 ^ 128 from by decide]; exact Nat.pow_le_pow_right (by omega) hbl))
  have con := bbitLen_any g o A _ c _ w ((hx.blk.cell _).trans hx.c1) hx.rd rfl (by omega) (dig_digs (by omega) _) (canon_digs (by omega) _)
  rw [dval_digs (by omega)] at con
  obtain ⟨b, hb⟩ : ∃ b, b = blen v := ⟨_, rfl⟩
  have hlo := blen_lo hv0
  have hhi := blen_hi v
  rw [← hb] at con hbl hlo hhi
  have hb1 : 1 ≤ b := by
    rcases Nat.eq_zero_or_pos b with h | h
    · rw [h] at hhi; simp at hhi; omega
    · exact h
  have Con := hide con
  have Con1 := hide (digLook_any b w hb1 hbl hv)
  have hf : figs v = (digs 10 v).length := by rw [figs, if_neg (by omega)]
  have HM := hide (And.intro hlo (And.intro hhi (And.intro hf (And.intro hl2 hv))))
  have HX := hide hx
  have b0 : ((b : Int) == 0) = false := beq_eq_false_iff_ne.2 (by omega)
  clear con hx hb hlo hhi hf hv hl2
  go_enter Tryz.func92, Tryz.ntmps92
  go_wp2_with fail
  refine (Con.out).mono ?_
  rintro e w0 ⟨rfl, hw0⟩
  rw [hw0]
  clear Con hw0
  go_wp2_with fail
  refine (Con1.out).mono ?_
  rintro e w1 ⟨gv, A1, c1, v1, rfl, hgv, ho1, hB1, hbel1⟩
  obtain ⟨D, hD⟩ : ∃ D, D = dl b := ⟨_, rfl⟩
  rw [← hD] at ho1 hB1
  have hD39 : D ≤ 39 := by rw [hD]; exact dl_le (by omega)
  have hd3 : (digs 18446744073709551616 (10 ^ D)).length ≤ 3 := digs_length_le (by omega) (Nat.lt_of_le_of_lt (Nat.pow_le_pow_right (by omega) hD39) (by decide))
  have HT := hide (show BigAt w1 gv 1 173 (tvC D false (.slice A1 (digs 18446744073709551616 (10 ^ D)).length c1) false true v1 false) A1 c1 (10 ^ D) from ⟨hB1, rfl, rfl, rfl, ho1.rd⟩)
  have H1 := hide (And.intro hbel1 (And.intro hD (And.intro hgv hd3)))
  -- what the switch asks, at whatever world behind w1
  have Sw : Hid (∀ W, Below w1.heap.size w1 W → Calls Tryz.prog 68 #[.pointer (some ⟨g, o, none⟩)] W fun e w' => e = .returned (.int .i64 1) ∧ W = w') := fun W hW => by
    have h := HX.out.below (below_next hbel1 hW)
    have := bsign_any g o false A (digs 18446744073709551616 v).length c W ((h.blk.cell _).trans h.c0) ((h.blk.cell _).trans h.c1) ((h.blk.cell _).trans h.c2)
    rwa [sgnI_pos (Nat.ne_of_gt (List.length_pos_iff.2 (digs_ne_nil (by omega) hv0)))] at this
  have Cm : Hid (∀ W, Below w1.heap.size w1 W → Calls Tryz.prog 111 #[.pointer (some ⟨g, o, none⟩), .pointer (some ⟨gv, 1, none⟩)] W (CmpP W v (10 ^ D))) := fun W hW => by
    refine bigcmp_any g o gv 1 _ _ _ _ _ _ _ _ _ _ W (HX.out.below (below_next hbel1 hW)) (HT.out.below hW) ?_ (by have := HM.out.2.2.2.1; omega) (by omega)
    intro e
    injection e with e1
    have := HX.out.blk.lt
    omega
  have Cell : Hid (∀ W, Below w1.heap.size w1 W → W.cell? ⟨gv, 0, none⟩ = some (.int .i64 (D : Int))) := fun W hW => (hB1.below hW).cell 0
  clear ho1 hB1 hbel1 hgv hd3 HX hD hD39
  by_cases h128 : b = 128
  · subst h128
    go_wp2_with fail
    go_quiet (fail)
    all_goals go_wp2_with fail
    all_goals refine (Sw.out _ (below_drewN w1 _)).mono ?_
    all_goals rintro e w3 ⟨rfl, rfl⟩
    all_goals go_wp2_with fail
    all_goals refine (Cm.out _ (below_drewN w1 _)).mono ?_
    all_goals rintro e w3 ⟨rfl, hbel3⟩
    all_goals have hb3 : Below w1.heap.size w1 w3 := below_next (below_drewN w1 _) hbel3
    all_goals have k3 := Cell.out w3 hb3
    all_goals have HB3 := hide (below_next H1.out.1 hb3)
    all_goals clear hbel3 hb3 Sw Cm Cell
    all_goals by_cases hlt : v < 10 ^ D
    all_goals first
      | (rw [cmpI_lt hlt]
         have Fin : Hid (FigP w v (.returned (.int .i64 (D : Int))) w3) := ⟨by rw [HM.out.2.2.1, nd_lo HM.out.1 (by rw [← H1.out.2.1]; exact hlt), H1.out.2.1], HB3.out⟩
         clear H1 HB3 HM HT hlt
         go_wp2
         go_ret
         exact Fin.out)
      | (obtain ⟨r0, r1⟩ := cmpI_ge hlt
         have hD39 : (D : Int) ≤ 39 := by have := H1.out.2.1; have := dl_le (i := 128) (by omega); omega
         have Fin : Hid (FigP w v (.returned (.int .i64 ((D : Int) + 1))) w3) := ⟨by rw [HM.out.2.2.1, nd_hi (b := 128) (by omega) HM.out.2.1 (by rw [← H1.out.2.1]; omega), H1.out.2.1]; rfl, HB3.out⟩
         clear H1 HB3 HM HT hlt
         generalize cmpI v (10 ^ D) = r at *
         go_wp2
         go_ret
         exact Fin.out)
  · have Con2 : Hid (∀ W, Below w1.heap.size w1 W → Calls Tryz.prog 120 #[.int .i64 ((b : Int) + 1)] W (TvP W (b + 1))) := fun W hW => by
      have hb2 := below_next H1.out.1 hW
      have := digLook_any (b + 1) W (by omega) (by omega) ((HM.out.2.2.2.2.below hb2).raise hb2.size)
      rwa [show (((b + 1 : Nat)) : Int) = (b : Int) + 1 from by omega] at this
    obtain ⟨D2, hD2⟩ : ∃ D2, D2 = dl (b + 1) := ⟨_, rfl⟩
    have HD2 := hide hD2
    clear hD2
    have hlt : (b : Int) < 128 := by omega
    have hltn : b < 128 := by omega
    have c1 := Cell.out w1 (Below.refl _ _)
    go_wp2_with fail
    have hwb : IntKind.i64.wrap ((b : Int) + 1) = (b : Int) + 1 := by rw [IntKind.wrap_i64]; omega
    go_region_with ((go_at_call 120; go_loud (refine (Con2.out _ ?_).mono ?_; exact below_drewN w1 _; rintro e w2 ⟨g2, A2, c2, v2, rfl, hg2, ho2, hB2, hbel2⟩; have hb2 : Below w1.heap.size w1 w2 := ⟨hbel2.os, hbel2.tape, hbel2.output, hbel2.size, hbel2.block⟩; have k1 : w2.cell? ⟨g2, 0, none⟩ = some (.int .i64 (D2 : Int)) := (by rw [HD2.out]; exact hB2.cell 0); have k2 := Cell.out w2 hb2; have H2 := hide hb2; clear hg2 ho2 hB2 hbel2 hb2)))
    all_goals clear c1 hwb Con2
    all_goals by_cases he : D2 = D
    all_goals first
      | (have e1 : ((D2 : Int) == (D : Int)) = true := by rw [he]; simp
         have Fin : Hid (FigP w v (.returned (.int .i64 (D : Int))) w2) := ⟨by rw [HM.out.2.2.1, nd_same HM.out.1 HM.out.2.1 (by rw [← HD2.out, ← H1.out.2.1]; exact he), H1.out.2.1], below_next H1.out.1 H2.out⟩
         clear H1 H2 HM HT he HD2 k1 Sw Cm Cell
         go_wp2
         go_ret
         exact Fin.out)
      | skip
    all_goals have e1 : ((D2 : Int) == (D : Int)) = false := beq_eq_false_iff_ne.2 (by omega)
    all_goals clear he k1 HD2
    all_goals go_wp2_with fail
    all_goals refine (Sw.out _ H2.out).mono ?_
    all_goals rintro e w3 ⟨rfl, rfl⟩
    all_goals go_wp2_with fail
    all_goals refine (Cm.out _ H2.out).mono ?_
    all_goals rintro e w3 ⟨rfl, hbel3⟩
    all_goals have hb3 : Below w1.heap.size w1 w3 := below_next H2.out hbel3
    all_goals have k3 := Cell.out w3 hb3
    all_goals have HB3 := hide (below_next H1.out.1 hb3)
    all_goals clear hbel3 hb3 Sw Cm Cell
    all_goals by_cases hlt : v < 10 ^ D
    all_goals first
      | (rw [cmpI_lt hlt]
         have Fin : Hid (FigP w v (.returned (.int .i64 (D : Int))) w3) := ⟨by rw [HM.out.2.2.1, nd_lo HM.out.1 (by rw [← H1.out.2.1]; exact hlt), H1.out.2.1], HB3.out⟩
         clear H1 HB3 HM HT hlt
         go_wp2
         go_ret
         exact Fin.out)
      | (obtain ⟨r0, r1⟩ := cmpI_ge hlt
         have hD39 : (D : Int) ≤ 39 := by have := H1.out.2.1; have := dl_le (i := b) (by omega); omega
         have Fin : Hid (FigP w v (.returned (.int .i64 ((D : Int) + 1))) w3) := ⟨by rw [HM.out.2.2.1, nd_hi (b := b) (by omega) HM.out.2.1 (by rw [← H1.out.2.1]; omega), H1.out.2.1]; rfl, HB3.out⟩
         clear H1 HB3 HM HT hlt
         generalize cmpI v (10 ^ D) = r at *
         go_wp2
         go_ret
         exact Fin.out)
end Go.Proofs.YtfkcobdkgjhfaaaGreatDoor

/- Walks: apd.NumDigits of a number of more than 128 bits; whatever the number. -/
set_option linter.unusedVariables false
set_option linter.unusedSimpArgs false
namespace Go.Proofs.YtfkcobdkgjhfaaaGreatDoor
open Go.RowKit

theorem len_of_blen {v k : Nat} (h : blen v ≤ 64 * k) : (digs 18446744073709551616 v).length ≤ k := by
  refine digs_length_le (by omega) (Nat.lt_of_lt_of_le (blen_hi v) ?_)
  have : (2 : Nat) ^ blen v ≤ 2 ^ (64 * k) := Nat.pow_le_pow_right (by omega) h
  rwa [Nat.pow_mul] at this

theorem pow_len {i v k : Nat} (hi : 1 ≤ i) (h : 10 ^ (i - 1) ≤ v) (hk : (digs 18446744073709551616 v).length ≤ k) : (digs 18446744073709551616 (10 ^ i)).length ≤ k + 1 := by
  have h1 := lt_of_digs_length (b := 18446744073709551616) (by omega) hk
  refine digs_length_le (by omega) ?_
  rw [show i = i - 1 + 1 by omega, Nat.pow_succ, Nat.pow_succ]
  omega

set_option maxHeartbeats 2000000 in
set_option maxRecDepth 100000 in
theorem numD_high (g o : Nat) (t : TypeId) (cs : Array Value) (A : Option Addr) (c v : Nat) (w : World) (hx : BigAt w g o t cs A c v) (hbl : 128 < blen v) (hbh : blen v ≤ 1280) (hv : VarsL w w.heap.size) :
    Calls Tryz.prog 92 #[.pointer (some ⟨g, o, none⟩)] w (FigP w v) := by
  have hv0 : 0 < v := by
    rcases Nat.eq_zero_or_pos v with h | h
    · rw [h, blen_zero] at hbl; omega
    · exact h
  have hlv : (digs 18446744073709551616 v).length ≤ 20 := len_of_blen (by omega)
  have con := bbitLen_any g o A _ c _ w ((hx.blk.cell _).trans hx.c1) hx.rd rfl (by omega) (dig_digs (by omega) _) (canon_digs (by omega) _)
  rw [dval_digs (by omega)] at con
  obtain ⟨q, i, hq, hi, hlo, hhi, hib, hi1, hi4⟩ := fq_spec (b := blen v) hbh
  have hip := hi1 (by omega)
  clear hi1
  have h1 : 10 ^ (i - 1) ≤ v := Nat.le_trans hlo (blen_lo hv0)
  have h2 : v < 10 ^ (i + 1) := Nat.lt_of_lt_of_le (blen_hi v) hhi
  have hf : figs v = (digs 10 v).length := by rw [figs, if_neg (by omega)]
  have a1 : ∀ W, (binOp .quo 174 (.float .f64 (floatOfInt .f64 ((blen v : Nat) : Int))) (.float .f64 4614662735865160561)).run Tryz.prog W = .ok (.float .f64 q) W := fun W => run_float_arith W .quo _ .f64 _ _ _ hq
  have a2 : ∀ W, (convert 174 2 (.float .f64 q)).run Tryz.prog W = .ok (.int .i64 (i : Int)) W := fun W => run_convert_float_int W _ _ .f64 .i64 _ _ (by rw [Tryz.underlying174]; rfl) Tryz.underlying2 hi
  have Con := hide con
  obtain ⟨gt, hgt⟩ : ∃ g, g = w.heap.size := ⟨_, rfl⟩
  obtain ⟨W1, hW1⟩ : ∃ W1, W1 = w.alloc (.cells #[.bool false, .slice none 0 0, .bool false] 69) := ⟨_, rfl⟩
  have hb1 : Below w.heap.size w W1 := by rw [hW1]; exact below_al (Below.refl _ _) _
  have hB1 : Blk W1 gt 69 #[.bool false, .slice none 0 0, .bool false] := by rw [hW1, hgt]; exact Blk.new w _ _
  have hsz : 10 ^ (i / 2) < 18446744073709551616 ^ 11 := Nat.lt_of_le_of_lt (Nat.pow_le_pow_right (by omega) (show i / 2 ≤ 200 by omega)) (by decide)
  have Con2 := hide (tabExp_any w.heap.size gt false false (.slice none 0 0) 0 i W1 hB1 (Own.nil _ _).room hb1.size (by omega) (by omega) hsz (hv.v.below hb1))
  have HX := hide (And.intro hx (And.intro hb1 (And.intro hgt hlv)))
  have HW := hide hW1
  have HM := hide (And.intro h1 (And.intro h2 hf))
  have b0 : (((blen v : Nat) : Int) == 0) = false := beq_eq_false_iff_ne.2 (by omega)
  have hbl' : ¬ ((blen v : Nat) : Int) ≤ 128 := by omega
  have hvl : 0 < (digs 18446744073709551616 v).length := List.length_pos_iff.2 (digs_ne_nil (by omega) hv0)
  have hi4' : (i : Int) ≤ 400 := by omega
  clear con hx hq hi hlo hhi hib h1 h2 hf hb1 hB1 hsz hv hgt hlv hW1
  generalize blen v = b at *
  go_enter Tryz.func92, Tryz.ntmps92
  go_wp2_with fail
  refine (Con.out).mono ?_
  rintro e w0 ⟨rfl, hw0⟩
  rw [hw0]
  clear Con hw0
  go_wp2_with fail
  rw [← HW.out, ← HX.out.2.2.1]
  refine (Con2.out).mono ?_
  rintro e w2 ⟨rfl, A2, c2, ho2, hk2, hB2, hF2⟩
  have hb2 : Below w.heap.size w w2 := HX.out.2.1.trans (hF2.below HX.out.2.1.size (fun k hk => by
    rcases hk with rfl | hk
    · exact Nat.le_of_eq HX.out.2.2.1.symm
    · cases hk))
  have hd21 : (digs 18446744073709551616 (10 ^ i)).length ≤ 21 := pow_len hip HM.out.1 HX.out.2.2.2
  have hx2 := HX.out.1.below hb2
  have Sg := hide (bsign_any g o false A (digs 18446744073709551616 v).length c w2 ((hx2.blk.cell _).trans hx2.c0) ((hx2.blk.cell _).trans hx2.c1) ((hx2.blk.cell _).trans hx2.c2))
  rw [sgnI_pos (Nat.ne_of_gt hvl)] at Sg
  have Cm := hide (bigcmp_any g o gt 0 _ _ _ _ _ _ _ _ v (10 ^ i) w2 hx2 ⟨hB2, rfl, rfl, rfl, ho2.rd⟩ (by
    intro e
    injection e with e1
    have := HX.out.1.blk.lt
    have := HX.out.2.2.1
    omega) (by have := HX.out.2.2.2; omega) (by omega))
  have H2 := hide hb2
  clear hb2 hd21 hx2 ho2 hk2 hB2 hF2 Con2
  go_wp2_with fail
  refine (Sg.out).mono ?_
  rintro e w3 ⟨rfl, rfl⟩
  clear Sg
  go_wp2_with fail
  refine (Cm.out).mono ?_
  rintro e w3 ⟨rfl, hb3⟩
  have HB3 := hide (below_next H2.out hb3)
  clear hb3 Cm H2 HX HW
  by_cases hlt : v < 10 ^ i
  · rw [cmpI_lt hlt]
    have Fin : Hid (FigP w v (.returned (.int .i64 (i : Int))) w3) := ⟨by
      rw [HM.out.2.2]
      have := digs_length_of (b := 10) (k := i - 1) (by omega) HM.out.1 (by rw [show i - 1 + 1 = i by omega]; exact hlt)
      rw [this, show i - 1 + 1 = i by omega], HB3.out⟩
    clear HM hlt HB3
    go_wp2
    go_ret
    exact Fin.out
  · obtain ⟨r0, r1⟩ := cmpI_ge hlt
    have Fin : Hid (FigP w v (.returned (.int .i64 ((i : Int) + 1))) w3) := ⟨by
      rw [HM.out.2.2]
      have := digs_length_of (b := 10) (k := i) (by omega) (by omega) HM.out.2.1
      rw [this]; rfl, HB3.out⟩
    clear HM hlt HB3
    generalize cmpI v (10 ^ i) = r at *
    go_wp2
    go_ret
    exact Fin.out

theorem numD_any (g o : Nat) (t : TypeId) (cs : Array Value) (A : Option Addr) (c v : Nat) (w : World) (hx : BigAt w g o t cs A c v) (hbh : blen v ≤ 1280) (hv : VarsL w w.heap.size) :
    Calls Tryz.prog 92 #[.pointer (some ⟨g, o, none⟩)] w (FigP w v) := by
  rcases Nat.eq_zero_or_pos v with rfl | h0
  · exact numD_zero g o t cs A c w hx
  by_cases hbl : blen v ≤ 128
  · exact numD_low g o t cs A c v w hx h0 hbl hv
  · exact numD_high g o t cs A c v w hx (by omega) hbh hv
end Go.Proofs.YtfkcobdkgjhfaaaGreatDoor
