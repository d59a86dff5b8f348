/- Walks: setBigWithPow, tableExp10, ZZPower, the thin package's Power. -/
import Derived.Test.YtamjfjomehcikaaGreatDoorExp4
import Derived.Test.YtamjfjomehcikaaGreatDoorBig2
set_option linter.unusedVariables false
set_option linter.unusedSimpArgs false
namespace Go.Proofs.YtamjfjomehcikaaGreatDoor
open Go.RowKit

/-- 10 to the power of n, laid into the BigInt in block gz. -/
def PowP (w : World) (base gz : Nat) (vz : Value) (n : Nat) (v : Value) (e : Ending) (w' : World) : Prop :=
  e = .returned v ∧ ∃ A c, Own w' base (.slice A (digs 18446744073709551616 (10 ^ n)).length c) (digs 18446744073709551616 (10 ^ n)) ∧
    ((Value.slice A (digs 18446744073709551616 (10 ^ n)).length c).ownBlock = vz.ownBlock ∨ ∃ k, (Value.slice A (digs 18446744073709551616 (10 ^ n)).length c).ownBlock = some k ∧ w.heap.size ≤ k) ∧
    Blk w' gz 76 #[.bool false, .slice A (digs 18446744073709551616 (10 ^ n)).length c, .bool false] ∧ Fr w w' (fun k => k = gz ∨ vz.ownBlock = some k)

set_option maxHeartbeats 1000000 in
set_option maxRecDepth 20000 in
theorem setPow_any (base gz : Nat) (nz mi : Bool) (vz : Value) (mz n : Nat) (w : World) (hz : Blk w gz 76 #[.bool nz, vz, .bool mi]) (hzr : Room w base vz mz) (hb : base ≤ w.heap.size) (hgz : base ≤ gz) (hn : n < 9223372036854775808) (hsz : 10 ^ (n / 2) < 18446744073709551616 ^ 11) (hv : Vars w base) :
    Calls Tryz.prog 46 #[.pointer (some ⟨gz, 0, none⟩), .int .i64 (n : Int)] w (PowP w base gz vz n (.tuple #[])) := by
  obtain ⟨gt, hgt⟩ : ∃ gt, gt = w.heap.size := ⟨_, rfl⟩
  obtain ⟨W, hW⟩ : ∃ W, W = w.alloc (.cells #[.bool false, .slice none 0 0, .bool false] 76) := ⟨_, rfl⟩
  have hbW : Below w.heap.size w W := by rw [hW]; exact below_al (Below.refl _ _) _
  have hsW : W.heap.size = gt + 1 := by rw [hW, hgt]; simp
  have htW : Blk W gt 76 #[.bool false, .slice none 0 0, .bool false] := by rw [hW, hgt]; exact Blk.new w _ _
  have con := bsetInt64_any gt gt 0 76 #[.bool false, .slice none 0 0, .bool false] false false (.slice none 0 0) 0 (n : Int) W htW rfl rfl rfl (Own.nil _ _).room (by decide) (by omega) (by omega) (by omega)
  rw [decide_eq_false (by omega : ¬ (n : Int) < 0), Int.natAbs_natCast] at con
  have Con := hide con
  have HX := hide (And.intro hz (And.intro hzr (And.intro hv (And.intro hsz (And.intro hbW (And.intro hsW hgt))))))
  have HW := hide hW
  clear con hz hzr hv hsz hbW hsW htW
  obtain ⟨ni, hni⟩ : ∃ ni : Int, ni = (n : Int) := ⟨_, rfl⟩
  rw [← hni] at Con ⊢
  clear hni
  go_enter Tryz.func46, Tryz.ntmps46
  go_wp2_with fail
  rw [← hgt, ← hW]
  clear hgt hW
  refine (Con.out).mono ?_
  rintro e w1 ⟨rfl, B, d, hown, _, hblk, hfr⟩
  have hfr1 : Below gt W w1 := hfr.below (by have := HX.out.2.2.2.2.2.1; omega) (fun k hk => by rcases hk with rfl | hk; exact Nat.le_refl _; cases hk)
  have hsz1 := hfr1.size
  have hb1 : Below w.heap.size w w1 := HX.out.2.2.2.2.1.trans (by have := HX.out.2.2.2.2.2.2; rw [← this]; exact hfr1)
  have Ten := hide (ten_any w1)
  have HT := hide (And.intro hown (And.intro (show Blk w1 gt 76 #[.bool false, .slice B (digs 18446744073709551616 n).length d, .bool false] from hblk) hb1))
  clear hown hblk hfr hfr1 hb1 Con
  go_wp2_with fail
  refine (Ten.out).mono ?_
  rintro e w2 ⟨g10, A, c, rfl, hg10, hown10, hblk10, hbel⟩
  have hb2 : Below w.heap.size w w2 := below_next HT.out.2.2 hbel
  have hgzl : gz < w.heap.size := HX.out.1.lt
  have hgte := HX.out.2.2.2.2.2.2
  have hsW := HX.out.2.2.2.2.2.1
  have hvl : ∀ k, vz.ownBlock = some k → k < w.heap.size := fun k hk => (HX.out.2.1.lt hk).2
  have con2 := bexp_any base w1.heap.size gt gz 0 g10 0 gt 0 76 76 76 _ _ _ nz mi vz mz 10 n _ A B c d w2
    (HX.out.1.below hb2) rfl rfl rfl (HX.out.2.1.fr (Fr.of_below hb2 (fun _ => False)) (fun _ _ h => h)) (by decide) hblk10 rfl rfl hown10 (by decide) (HT.out.2.1.below hbel) rfl rfl (HT.out.1.below hbel) (by decide)
    (fun k hk h2 => by have := hvl k hk; have := (hown10.lt h2).1; omega) (fun k hk h2 => by have := hvl k hk; have := (HT.out.1.lt h2).1; omega) (by omega) (by omega) (by have := hb2.size; omega) hgz (by omega) (by omega) (by omega) HX.out.2.2.2.1 (HX.out.2.2.1.below hb2)
  have Con2 := hide con2
  have Hb2 := hide hb2
  clear con2 hb2 hown10 hblk10 hbel hgzl hvl HT Ten hg10 hsz1 hsW hgte
  go_wp2_with fail
  refine (Con2.out).mono ?_
  rintro e w3 ⟨rfl, A3, c3, ho3, hk3, hB3, hF3⟩
  have Fin : Hid (PowP w base gz vz n (.tuple #[]) (.returned (.tuple #[])) w3) :=
    ⟨rfl, A3, c3, ho3, hk3.imp id (fun ⟨k, a, b⟩ => ⟨k, a, by have := Hb2.out.size; omega⟩), hB3, Fr.step (Fr.of_below Hb2.out _) hF3 (fun _ _ h => h)⟩
  clear ho3 hk3 hB3 hF3 Hb2 Con2 HX HW
  go_wp2
  go_end0
  exact Fin.out

theorem tabExp_any (base gz : Nat) (nz mi : Bool) (vz : Value) (mz n : Nat) (w : World) (hz : Blk w gz 76 #[.bool nz, vz, .bool mi]) (hzr : Room w base vz mz) (hb : base ≤ w.heap.size) (hgz : base ≤ gz) (hn : n < 9223372036854775808) (hsz : 10 ^ (n / 2) < 18446744073709551616 ^ 11) (hv : Vars w base) :
    Calls Tryz.prog 34 #[.int .i64 (n : Int), .pointer (some ⟨gz, 0, none⟩)] w (PowP w base gz vz n (.pointer (some ⟨gz, 0, none⟩))) := by
  have Con := hide (setPow_any base gz nz mi vz mz n w hz hzr hb hgz hn hsz hv)
  clear hz hzr hv hsz
  obtain ⟨ni, hni⟩ : ∃ ni : Int, ni = (n : Int) := ⟨_, rfl⟩
  rw [← hni] at Con ⊢
  clear hni
  go_enter Tryz.func34, Tryz.ntmps34
  go_wp2_with fail
  refine (Con.out).mono ?_
  rintro e w1 ⟨rfl, h⟩
  have Fin : Hid (PowP w base gz vz n (.pointer (some ⟨gz, 0, none⟩)) (.returned (.pointer (some ⟨gz, 0, none⟩))) w1) := ⟨rfl, h⟩
  clear h Con
  go_wp2
  go_ret
  exact Fin.out

theorem zzPower_any (n : Nat) (w : World) (hn : n < 9223372036854775808) (hsz : 10 ^ (n / 2) < 18446744073709551616 ^ 11) (hv : Vars w w.heap.size) :
    Calls Tryz.prog 22 #[.int .i64 (n : Int)] w (NewBigP w (digs 18446744073709551616 (10 ^ n))) := by
  obtain ⟨gt, hgt⟩ : ∃ gt, gt = w.heap.size := ⟨_, rfl⟩
  obtain ⟨W, hW⟩ : ∃ W, W = w.alloc (.cells #[.bool false, .slice none 0 0, .bool false] 76) := ⟨_, rfl⟩
  have hbW : Below w.heap.size w W := by rw [hW]; exact below_al (Below.refl _ _) _
  have htW : Blk W gt 76 #[.bool false, .slice none 0 0, .bool false] := by rw [hW, hgt]; exact Blk.new w _ _
  have Con := hide (tabExp_any w.heap.size gt false false (.slice none 0 0) 0 n W htW (Own.nil _ _).room hbW.size (by omega) hn hsz (hv.below hbW))
  have HB := hide (And.intro hbW hgt)
  clear hbW htW hv hsz
  obtain ⟨ni, hni⟩ : ∃ ni : Int, ni = (n : Int) := ⟨_, rfl⟩
  rw [← hni] at Con ⊢
  clear hni
  go_enter Tryz.func22, Tryz.ntmps22
  go_wp2_with fail
  rw [← hgt, ← hW]
  clear hgt hW
  refine (Con.out).mono ?_
  rintro e w1 ⟨rfl, A, c, ho, _, hB, hF⟩
  have Fin : Hid (NewBigP w (digs 18446744073709551616 (10 ^ n)) (.returned (.pointer (some ⟨gt, 0, none⟩))) w1) :=
    ⟨gt, A, c, rfl, by rw [HB.out.2]; exact Nat.le_refl _, ho, hB, HB.out.1.trans (hF.below HB.out.1.size (fun k hk => by rcases hk with rfl | hk; exact Nat.le_of_eq HB.out.2.symm; cases hk))⟩
  clear ho hB hF HB Con
  go_wp2
  go_ret
  exact Fin.out

theorem OwnU.lower2 {w : World} {base base' : Nat} {v : Value} {xs : List Nat} (h : OwnU w base v xs) (hb : base' ≤ base) : OwnU w base' v xs := by
  obtain ⟨h1, h2⟩ := h
  refine ⟨h1, ?_⟩
  rcases h2 with h2 | ⟨g, cap, cur, rfl, hg, r⟩
  · exact .inl h2
  · exact .inr ⟨g, cap, cur, rfl, Nat.le_trans hb hg, r⟩
theorem power_any (n : Nat) (w : World) (hn : n < 9223372036854775808) (hsz : 10 ^ (n / 2) < 18446744073709551616 ^ 11) (hl : (digs 18446744073709551616 (10 ^ n)).length ≤ 1048576) (hv : Vars w w.heap.size) :
    Calls Tryz.prog 8 #[.int .i64 (n : Int)] w (NewU w (digs 18446744073709551616 (10 ^ n))) := by
  have Con := hide (zzPower_any n w hn hsz hv)
  have HL := hide hl
  clear hv hsz hl
  obtain ⟨ni, hni⟩ : ∃ ni : Int, ni = (n : Int) := ⟨_, rfl⟩
  rw [← hni] at Con ⊢
  clear hni
  go_enter Tryz.func8, Tryz.ntmps8
  go_wp2_with fail
  refine (Con.out).mono ?_
  rintro e w1 ⟨g, A, c, rfl, hg, ho, hB, hbel⟩
  have Con2 := hide (words_any g 0 76 _ false _ (digs 18446744073709551616 (10 ^ n)) w1 hB rfl rfl ho.rd (by decide) HL.out)
  have HB := hide hbel
  clear ho hB hbel hg Con HL
  go_wp2_with fail
  refine (Con2.out).mono ?_
  rintro e w2 ⟨R, cr, rfl, ho2, hb2⟩
  have Fin : Hid (NewU w (digs 18446744073709551616 (10 ^ n)) (.returned (.slice R (digs 18446744073709551616 (10 ^ n)).length cr)) w2) :=
    ⟨R, cr, rfl, OwnU.lower2 ho2 HB.out.size, below_next HB.out hb2⟩
  clear ho2 hb2 HB Con2
  generalize (digs 18446744073709551616 (10 ^ n)).length = q at Fin ⊢
  go_wp2
  go_ret
  exact Fin.out
end Go.Proofs.YtamjfjomehcikaaGreatDoor
