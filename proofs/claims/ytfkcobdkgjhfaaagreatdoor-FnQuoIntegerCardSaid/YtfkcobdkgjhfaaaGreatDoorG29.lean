/- Parts of the proofs: Exp4, Exp5, Up1. -/
import Derived.Deep.QuietTactic
import Derived.Test.YtfkcobdkgjhfaaaGreatDoorG7
import Derived.Test.YtfkcobdkgjhfaaaGreatDoorG28
/- Walks: Int.Exp, BigInt.Exp without a modulus, setBigWithPow, tableExp10. -/
set_option linter.unusedVariables false
set_option linter.unusedSimpArgs false
namespace Go.Proofs.YtfkcobdkgjhfaaaGreatDoor
open Go.RowKit

set_option maxHeartbeats 1000000 in
theorem iexp_any (base bx by_ gz oz gx ox gy oy : Nat) (tz tx ty : TypeId) (cz cx cy : Array Value) (nz : Bool) (vz : Value) (mz b n l : Nat) (A B : Option Addr) (c d : Nat) (w : World)
    (hz : Blk w gz tz cz) (hz0 : cz[oz]? = some (.bool nz)) (hz1 : cz[oz + 1]? = some vz) (hzr : Room w base vz mz) (htz : tz ≠ 145)
    (hx : Blk w gx tx cx) (hx0 : cx[ox]? = some (.bool false)) (hx1 : cx[ox + 1]? = some (.slice A 1 c)) (hxr : Own w bx (.slice A 1 c) [b]) (htx : tx ≠ 145)
    (hy : Blk w gy ty cy) (hy0 : cy[oy]? = some (.bool false)) (hy1 : cy[oy + 1]? = some (.slice B l d)) (hyr : Own w by_ (.slice B l d) (digs 18446744073709551616 n)) (hty : ty ≠ 145)
    (hax : Apart vz (.slice A 1 c)) (hay : Apart vz (.slice B l d)) (hne : gz ≠ gx) (hb : base ≤ w.heap.size) (hb2 : 2 ≤ b) (hbl : b < 18446744073709551616) (hnl : n < 18446744073709551616) (hsz : b ^ (n / 2) < 18446744073709551616 ^ 11) (hv : Vars w base) :
    Calls Tryz.prog 164 #[.pointer (some ⟨gz, oz, none⟩), .pointer (some ⟨gx, ox, none⟩), .pointer (some ⟨gy, oy, none⟩), .pointer none, .bool false] w (IntP w base gz oz tz cz vz false (digs 18446744073709551616 (b ^ n))) := by
  have c1 : w.cell? ⟨gz, oz + 1, none⟩ = some vz := (hz.cell _).trans hz1
  have c2 : w.cell? ⟨gx, ox + 1, none⟩ = some (.slice A 1 c) := (hx.cell _).trans hx1
  have c3 : w.cell? ⟨gy, oy, none⟩ = some (.bool false) := (hy.cell _).trans hy0
  have c4 : w.cell? ⟨gy, oy + 1, none⟩ = some (.slice B l d) := (hy.cell _).trans hy1
  have hzne : ∀ k, vz.ownBlock = some k → k ≠ gz := hzr.ne_blk hz htz
  have hxne : ∀ k, vz.ownBlock = some k → k ≠ gx := hzr.ne_blk hx htx
  have con := expNN_any base bx by_ b n l vz mz A B c d w hzr hb hxr hyr hax hay hb2 hbl hnl hsz hv
  have key : ∀ (v : Value) (w1 : World), Fr w w1 (fun k => vz.ownBlock = some k) → w1.cell? ⟨gz, oz + 1, none⟩ = some vz ∧ w1.frozen? ⟨gz, oz + 1, none⟩ = false ∧ (w1.setCell ⟨gz, oz + 1, none⟩ v).cell? ⟨gz, oz + 1, none⟩ = some v ∧
      (w1.setCell ⟨gz, oz + 1, none⟩ v).cell? ⟨gx, ox, none⟩ = some (.bool false) ∧ (w1.setCell ⟨gz, oz + 1, none⟩ v).cell? ⟨gz, oz, none⟩ = some (.bool nz) ∧ (w1.setCell ⟨gz, oz + 1, none⟩ v).frozen? ⟨gz, oz, none⟩ = false ∧
      ((w1.setCell ⟨gz, oz + 1, none⟩ v).setCell ⟨gz, oz, none⟩ (.bool false)).cell? ⟨gz, oz, none⟩ = some (.bool false) := by
    intro v w1 hf
    have b1 : Blk w1 gz tz cz := hz.fr hf (fun h => hzne gz h rfl)
    have b2 : Blk w1 gx tx cx := hx.fr hf (fun h => hxne gx h rfl)
    refine ⟨(b1.cell _).trans hz1, b1.frozen _, ?_, ?_, ?_, ?_, ?_⟩
    · have hlt : oz + 1 < cz.size := (Array.getElem?_eq_some_iff.1 hz1).1
      rw [(b1.set _ _).cell]; simp [hlt]
    · rw [World.cell?_setCell_other _ _ _ _ (by intro e; injection e with e1 e2; omega)]
      exact (b2.cell _).trans hx0
    · rw [World.cell?_setCell_other _ _ _ _ (by intro e; injection e with e1 e2; omega)]
      exact (b1.cell _).trans hz0
    · rw [World.frozen?_setCell]; exact b1.frozen _
    · have hlt : oz < cz.size := (Array.getElem?_eq_some_iff.1 hz0).1
      rw [((b1.set _ _).set _ _).cell]; simp [hlt]
  have fin : ∀ (v : Value) (w1 : World), Own w1 base v (digs 18446744073709551616 (b ^ n)) → (v.ownBlock = vz.ownBlock ∨ ∃ k, v.ownBlock = some k ∧ w.heap.size ≤ k) → Fr w w1 (fun k => vz.ownBlock = some k) →
      IntP w base gz oz tz cz vz false (digs 18446744073709551616 (b ^ n)) (.returned (.pointer (some ⟨gz, oz, none⟩))) ((w1.setCell ⟨gz, oz + 1, none⟩ v).setCell ⟨gz, oz, none⟩ (.bool false)) := by
    intro v w1 hr hrb hf
    have b1 : Blk w1 gz tz cz := hz.fr hf (fun h => hzne gz h rfl)
    refine ⟨rfl, v, ?_, hrb, (b1.set _ _).set _ _, ?_⟩
    · have hg : ∀ k, v.ownBlock = some k → k ≠ gz := hr.room.ne_blk b1 htz
      exact (hr.fr (Fr.setCell (Fr.refl w1 (fun k => k = gz)) (p := ⟨gz, oz + 1, none⟩) (fun _ => rfl) v) hg).fr (Fr.setCell (Fr.refl _ (fun k => k = gz)) (p := ⟨gz, oz, none⟩) (fun _ => rfl) _) hg
    · exact ((hf.mono (fun k _ h => .inr h)).setCell (p := ⟨gz, oz + 1, none⟩) (fun _ => .inl rfl) _).setCell (p := ⟨gz, oz, none⟩) (fun _ => .inl rfl) _
  have hp : 0 < (digs 18446744073709551616 (b ^ n)).length := List.length_pos_iff.2 (digs_ne_nil (by omega) (Nat.pow_pos (by omega)))
  have Con := hide con
  have Key := hide key
  have Fin := hide fin
  have HP := hide hp
  clear hz hz0 hz1 hx hx0 hx1 hy hy0 hy1 key fin hzne hxne con hzr hxr hyr hax hay hp hv hsz
  go_enter Tryz.func164, Tryz.ntmps164
  go_wp2_with fail
  refine (Con.out).mono ?_
  rintro e w1 ⟨R, cr, rfl, hr, hrb, hf⟩
  obtain ⟨k1, k2, k3, k4, k5, k6, k7⟩ := Key.out (.slice R (digs 18446744073709551616 (b ^ n)).length cr) w1 hf
  have HF := hide (Fin.out (.slice R (digs 18446744073709551616 (b ^ n)).length cr) w1 hr hrb hf)
  have hp := HP.out
  clear hr hrb hf Con Key Fin HP
  generalize (digs 18446744073709551616 (b ^ n)).length = q at hp k1 k2 k3 k4 k5 k6 k7 HF ⊢
  go_wp2
  go_ret
  exact HF.out

theorem iExp_any (base bx by_ gz oz gx ox gy oy : Nat) (tz tx ty : TypeId) (cz cx cy : Array Value) (nz : Bool) (vz : Value) (mz b n l : Nat) (A B : Option Addr) (c d : Nat) (w : World)
    (hz : Blk w gz tz cz) (hz0 : cz[oz]? = some (.bool nz)) (hz1 : cz[oz + 1]? = some vz) (hzr : Room w base vz mz) (htz : tz ≠ 145)
    (hx : Blk w gx tx cx) (hx0 : cx[ox]? = some (.bool false)) (hx1 : cx[ox + 1]? = some (.slice A 1 c)) (hxr : Own w bx (.slice A 1 c) [b]) (htx : tx ≠ 145)
    (hy : Blk w gy ty cy) (hy0 : cy[oy]? = some (.bool false)) (hy1 : cy[oy + 1]? = some (.slice B l d)) (hyr : Own w by_ (.slice B l d) (digs 18446744073709551616 n)) (hty : ty ≠ 145)
    (hax : Apart vz (.slice A 1 c)) (hay : Apart vz (.slice B l d)) (hne : gz ≠ gx) (hb : base ≤ w.heap.size) (hb2 : 2 ≤ b) (hbl : b < 18446744073709551616) (hnl : n < 18446744073709551616) (hsz : b ^ (n / 2) < 18446744073709551616 ^ 11) (hv : Vars w base) :
    Calls Tryz.prog 140 #[.pointer (some ⟨gz, oz, none⟩), .pointer (some ⟨gx, ox, none⟩), .pointer (some ⟨gy, oy, none⟩), .pointer none] w (IntP w base gz oz tz cz vz false (digs 18446744073709551616 (b ^ n))) := by
  have Con := hide (iexp_any base bx by_ gz oz gx ox gy oy tz tx ty cz cx cy nz vz mz b n l A B c d w hz hz0 hz1 hzr htz hx hx0 hx1 hxr htx hy hy0 hy1 hyr hty hax hay hne hb hb2 hbl hnl hsz hv)
  clear hz hz0 hz1 hzr hx hx0 hx1 hxr hy hy0 hy1 hyr hax hay hv hsz
  go_enter Tryz.func140, Tryz.ntmps140
  go_wp2_with fail
  refine (Con.out).mono ?_
  rintro e w1 HI
  have HI2 := hide HI
  obtain ⟨rfl, _⟩ := HI
  clear Con
  go_wp2
  go_ret
  exact HI2.out

set_option maxHeartbeats 1000000 in
theorem bexp_any (base bx by_ gz oz gx ox gy oy : Nat) (tz tx ty : TypeId) (cz cx cy : Array Value) (nz mi : Bool) (vz : Value) (mz b n l : Nat) (A B : Option Addr) (c d : Nat) (w : World)
    (hz : Blk w gz tz cz) (hz0 : cz[oz]? = some (.bool nz)) (hz1 : cz[oz + 1]? = some vz) (hz2 : cz[oz + 2]? = some (.bool mi)) (hzr : Room w base vz mz) (htz : tz ≠ 145)
    (hx : Blk w gx tx cx) (hx0 : cx[ox]? = some (.bool false)) (hx1 : cx[ox + 1]? = some (.slice A 1 c)) (hxr : Own w bx (.slice A 1 c) [b]) (htx : tx ≠ 145)
    (hy : Blk w gy ty cy) (hy0 : cy[oy]? = some (.bool false)) (hy1 : cy[oy + 1]? = some (.slice B l d)) (hyr : Own w by_ (.slice B l d) (digs 18446744073709551616 n)) (hty : ty ≠ 145)
    (hax : Apart vz (.slice A 1 c)) (hay : Apart vz (.slice B l d)) (hne : gz ≠ gx) (hney : gz ≠ gy) (hb : base ≤ w.heap.size) (hgz : base ≤ gz) (hb2 : 2 ≤ b) (hbl : b < 18446744073709551616) (hnl : n < 18446744073709551616) (hsz : b ^ (n / 2) < 18446744073709551616 ^ 11) (hv : Vars w base) :
    Calls Tryz.prog 122 #[.pointer (some ⟨gz, oz, none⟩), .pointer (some ⟨gx, ox, none⟩), .pointer (some ⟨gy, oy, none⟩)] w (BigP w base gz oz tz cz vz false false (digs 18446744073709551616 (b ^ n))) := by
  have c1 : w.cell? ⟨gz, oz + 2, none⟩ = some (.bool mi) := (hz.cell _).trans hz2
  have f1 : w.frozen? ⟨gz, oz + 2, none⟩ = false := hz.frozen _
  have hf0 : Fr w (w.setCell ⟨gz, oz + 2, none⟩ (.bool false)) (fun k => k = gz) := (Fr.refl w (fun k => k = gz)).setCell (p := ⟨gz, oz + 2, none⟩) (fun _ => rfl) _
  have con := iExp_any base bx by_ gz oz gx ox gy oy tz tx ty (cz.setIfInBounds (oz + 2) (.bool false)) cx cy nz vz mz b n l A B c d (w.setCell ⟨gz, oz + 2, none⟩ (.bool false)).drew
    (hz.set _ _) (by rw [getElem?_set_ne (by omega)]; exact hz0) (by rw [getElem?_set_ne (by omega)]; exact hz1) (hzr.fr hf0.drew (hzr.ne_blk hz htz)) htz
    (hx.far (p := ⟨gz, oz + 2, none⟩) (Ne.symm hne) _) hx0 hx1 (hxr.fr hf0.drew (hxr.room.ne_blk hz htz)) htx
    (hy.far (p := ⟨gz, oz + 2, none⟩) (Ne.symm hney) _) hy0 hy1 (hyr.fr hf0.drew (hyr.room.ne_blk hz htz)) hty hax hay hne (by simpa using hb) hb2 hbl hnl hsz (hv.fr hf0.drew (fun k hk => by rw [hk]; exact hgz))
  have fin : ∀ e w', IntP (w.setCell ⟨gz, oz + 2, none⟩ (.bool false)).drew base gz oz tz (cz.setIfInBounds (oz + 2) (.bool false)) vz false (digs 18446744073709551616 (b ^ n)) e w' → BigP w base gz oz tz cz vz false false (digs 18446744073709551616 (b ^ n)) e w' := by
    rintro e w' ⟨he, v, hr, hrb, hB, hF⟩
    obtain ⟨B, d, rfl⟩ := hr.room.slice
    refine ⟨he, B, d, hr, ?_, hB, ?_⟩
    · simpa using hrb
    · exact Fr.step ((hf0.mono (fun k _ h => .inl h)).drew) hF (fun i _ h => h)
  have Con := hide con
  have Fin := hide fin
  clear hz hz0 hz1 hz2 hx hx0 hx1 hy hy0 hy1 con fin hf0 hxr hyr hzr hax hay hv hsz
  go_enter Tryz.func122, Tryz.ntmps122
  go_wp2_with fail
  go_region_with (go_at_call 140; go_loud (refine (Con.out).mono ?_; rintro e w1 HI; have HI2 := hide HI; obtain ⟨rfl, _⟩ := HI))
  all_goals go_wp2
  all_goals go_ret
  all_goals exact Fin.out _ _ HI2.out
end Go.Proofs.YtfkcobdkgjhfaaaGreatDoor

/- Walks: setBigWithPow, tableExp10, ZZPower, the thin package's Power. -/
set_option linter.unusedVariables false
set_option linter.unusedSimpArgs false
namespace Go.Proofs.YtfkcobdkgjhfaaaGreatDoor
open Go.RowKit

/-- 10 to the power of n, laid into the BigInt in block gz. -/
def PowP (w : World) (base gz : Nat) (vz : Value) (n : Nat) (v : Value) (e : Ending) (w' : World) : Prop :=
  e = .returned v ∧ ∃ A c, Own w' base (.slice A (digs 18446744073709551616 (10 ^ n)).length c) (digs 18446744073709551616 (10 ^ n)) ∧
    ((Value.slice A (digs 18446744073709551616 (10 ^ n)).length c).ownBlock = vz.ownBlock ∨ ∃ k, (Value.slice A (digs 18446744073709551616 (10 ^ n)).length c).ownBlock = some k ∧ w.heap.size ≤ k) ∧
    Blk w' gz 69 #[.bool false, .slice A (digs 18446744073709551616 (10 ^ n)).length c, .bool false] ∧ Fr w w' (fun k => k = gz ∨ vz.ownBlock = some k)

set_option maxHeartbeats 1000000 in
set_option maxRecDepth 20000 in
theorem setPow_any (base gz : Nat) (nz mi : Bool) (vz : Value) (mz n : Nat) (w : World) (hz : Blk w gz 69 #[.bool nz, vz, .bool mi]) (hzr : Room w base vz mz) (hb : base ≤ w.heap.size) (hgz : base ≤ gz) (hn : n < 9223372036854775808) (hsz : 10 ^ (n / 2) < 18446744073709551616 ^ 11) (hv : Vars w base) :
    Calls Tryz.prog 93 #[.pointer (some ⟨gz, 0, none⟩), .int .i64 (n : Int)] w (PowP w base gz vz n (.tuple #[])) := by
  obtain ⟨gt, hgt⟩ : ∃ gt, gt = w.heap.size := ⟨_, rfl⟩
  obtain ⟨W, hW⟩ : ∃ W, W = w.alloc (.cells #[.bool false, .slice none 0 0, .bool false] 69) := ⟨_, rfl⟩
  have hbW : Below w.heap.size w W := by rw [hW]; exact below_al (Below.refl _ _) _
  have hsW : W.heap.size = gt + 1 := by rw [hW, hgt]; simp
  have htW : Blk W gt 69 #[.bool false, .slice none 0 0, .bool false] := by rw [hW, hgt]; exact Blk.new w _ _
  have con := bsetInt64_any gt gt 0 69 #[.bool false, .slice none 0 0, .bool false] false false (.slice none 0 0) 0 (n : Int) W htW rfl rfl rfl (Own.nil _ _).room (by decide) (by omega) (by omega) (by omega)
  rw [decide_eq_false (by omega : ¬ (n : Int) < 0), Int.natAbs_natCast] at con
  have Con := hide con
  have HX := hide (And.intro hz (And.intro hzr (And.intro hv (And.intro hsz (And.intro hbW (And.intro hsW hgt))))))
  have HW := hide hW
  clear con hz hzr hv hsz hbW hsW htW
  obtain ⟨ni, hni⟩ : ∃ ni : Int, ni = (n : Int) := ⟨_, rfl⟩
  rw [← hni] at Con ⊢
  clear hni
  go_enter Tryz.func93, Tryz.ntmps93
  go_wp2_with fail
  rw [← hgt, ← hW]
  clear hgt hW
  refine (Con.out).mono ?_
  rintro e w1 ⟨rfl, B, d, hown, _, hblk, hfr⟩
  have hfr1 : Below gt W w1 := hfr.below (by have := HX.out.2.2.2.2.2.1; omega) (fun k hk => by rcases hk with rfl | hk; exact Nat.le_refl _; cases hk)
  have hsz1 := hfr1.size
  have hb1 : Below w.heap.size w w1 := HX.out.2.2.2.2.1.trans (by have := HX.out.2.2.2.2.2.2; rw [← this]; exact hfr1)
  have Ten := hide (ten_any w1)
  have HT := hide (And.intro hown (And.intro (show Blk w1 gt 69 #[.bool false, .slice B (digs 18446744073709551616 n).length d, .bool false] from hblk) hb1))
  clear hown hblk hfr hfr1 hb1 Con
  go_wp2_with fail
  refine (Ten.out).mono ?_
  rintro e w2 ⟨g10, A, c, rfl, hg10, hown10, hblk10, hbel⟩
  have hb2 : Below w.heap.size w w2 := below_next HT.out.2.2 hbel
  have hgzl : gz < w.heap.size := HX.out.1.lt
  have hgte := HX.out.2.2.2.2.2.2
  have hsW := HX.out.2.2.2.2.2.1
  have hvl : ∀ k, vz.ownBlock = some k → k < w.heap.size := fun k hk => (HX.out.2.1.lt hk).2
  have con2 := bexp_any base w1.heap.size gt gz 0 g10 0 gt 0 69 69 69 _ _ _ nz mi vz mz 10 n _ A B c d w2
    (HX.out.1.below hb2) rfl rfl rfl (HX.out.2.1.fr (Fr.of_below hb2 (fun _ => False)) (fun _ _ h => h)) (by decide) hblk10 rfl rfl hown10 (by decide) (HT.out.2.1.below hbel) rfl rfl (HT.out.1.below hbel) (by decide)
    (fun k hk h2 => by have := hvl k hk; have := (hown10.lt h2).1; omega) (fun k hk h2 => by have := hvl k hk; have := (HT.out.1.lt h2).1; omega) (by omega) (by omega) (by have := hb2.size; omega) hgz (by omega) (by omega) (by omega) HX.out.2.2.2.1 (HX.out.2.2.1.below hb2)
  have Con2 := hide con2
  have Hb2 := hide hb2
  clear con2 hb2 hown10 hblk10 hbel hgzl hvl HT Ten hg10 hsz1 hsW hgte
  go_wp2_with fail
  refine (Con2.out).mono ?_
  rintro e w3 ⟨rfl, A3, c3, ho3, hk3, hB3, hF3⟩
  have Fin : Hid (PowP w base gz vz n (.tuple #[]) (.returned (.tuple #[])) w3) :=
    ⟨rfl, A3, c3, ho3, hk3.imp id (fun ⟨k, a, b⟩ => ⟨k, a, by have := Hb2.out.size; omega⟩), hB3, Fr.step (Fr.of_below Hb2.out _) hF3 (fun _ _ h => h)⟩
  clear ho3 hk3 hB3 hF3 Hb2 Con2 HX HW
  go_wp2
  go_end0
  exact Fin.out

theorem tabExp_any (base gz : Nat) (nz mi : Bool) (vz : Value) (mz n : Nat) (w : World) (hz : Blk w gz 69 #[.bool nz, vz, .bool mi]) (hzr : Room w base vz mz) (hb : base ≤ w.heap.size) (hgz : base ≤ gz) (hn : n < 9223372036854775808) (hsz : 10 ^ (n / 2) < 18446744073709551616 ^ 11) (hv : Vars w base) :
    Calls Tryz.prog 53 #[.int .i64 (n : Int), .pointer (some ⟨gz, 0, none⟩)] w (PowP w base gz vz n (.pointer (some ⟨gz, 0, none⟩))) := by
  have Con := hide (setPow_any base gz nz mi vz mz n w hz hzr hb hgz hn hsz hv)
  clear hz hzr hv hsz
  obtain ⟨ni, hni⟩ : ∃ ni : Int, ni = (n : Int) := ⟨_, rfl⟩
  rw [← hni] at Con ⊢
  clear hni
  go_enter Tryz.func53, Tryz.ntmps53
  go_wp2_with fail
  refine (Con.out).mono ?_
  rintro e w1 ⟨rfl, h⟩
  have Fin : Hid (PowP w base gz vz n (.pointer (some ⟨gz, 0, none⟩)) (.returned (.pointer (some ⟨gz, 0, none⟩))) w1) := ⟨rfl, h⟩
  clear h Con
  go_wp2
  go_ret
  exact Fin.out


end Go.Proofs.YtfkcobdkgjhfaaaGreatDoor

/- Walks: upscale, ZZUpscale. -/
set_option linter.unusedVariables false
set_option linter.unusedSimpArgs false
namespace Go.Proofs.YtfkcobdkgjhfaaaGreatDoor
open Go.RowKit

/-- A BigInt that can be read, wherever it lies. -/
def BigU (w : World) (P : Addr) (xs : List Nat) : Prop :=
  ∃ (g o : Nat) (t : TypeId) (cs : Array Value) (A : Option Addr) (c : Nat), P = ⟨g, o, none⟩ ∧ Blk w g t cs ∧ cs[o]? = some (.bool false) ∧ cs[o + 1]? = some (.slice A xs.length c) ∧ RdW w (.slice A xs.length c) xs ∧ t ≠ 145
theorem BigU.below {w w' : World} {P : Addr} {xs : List Nat} (h : BigU w P xs) (hb : Below w.heap.size w w') : BigU w' P xs := by
  obtain ⟨g, o, t, cs, A, c, e, h1, h2, h3, h4, h5⟩ := h
  exact ⟨g, o, t, cs, A, c, e, h1.below hb, h2, h3, RdG.below (k := .u64) h4 hb, h5⟩

/-- Two coefficients at the same exponent. -/
def UpP (w : World) (m : Int) (p q : Nat) (S T : Nat → Prop) (e : Ending) (w' : World) : Prop :=
  ∃ P Q : Addr, e = .returned (.tuple #[.pointer (some P), .pointer (some Q), .int .i32 m, .nilIface]) ∧ BigU w' P (digs 18446744073709551616 p) ∧ BigU w' Q (digs 18446744073709551616 q) ∧ Fr w w' S ∧ T P.block ∧ T Q.block

theorem up_result (a b c d : Value) (tmps : Array Value) (h6 : tmps.getD 6 undef = a) (h7 : tmps.getD 7 undef = b) (h8 : tmps.getD 8 undef = c) (h9 : tmps.getD 9 undef = d) (W : World) :
    (results Tryz.f71 tmps).run Tryz.prog W = .ok (.tuple #[a, b, c, d]) W := by
  have e6 : tmps[6]?.getD undef = a := by simpa using h6
  have e7 : tmps[7]?.getD undef = b := by simpa using h7
  have e8 : tmps[8]?.getD undef = c := by simpa using h8
  have e9 : tmps[9]?.getD undef = d := by simpa using h9
  simp [results, Tryz.results71, go_sem, e6, e7, e8, e9]

set_option maxHeartbeats 1000000 in
set_option maxRecDepth 20000 in
theorem up_eq (ga gb gz : Nat) (na nb : Bool) (ex : Int) (A B : Option Addr) (ca cb a b : Nat) (w : World)
    (ha : Blk w ga 71 (decC 0 na ex false (.slice A (digs 18446744073709551616 a).length ca) false)) (hb : Blk w gb 71 (decC 0 nb ex false (.slice B (digs 18446744073709551616 b).length cb) false))
    (har : RdW w (.slice A (digs 18446744073709551616 a).length ca) (digs 18446744073709551616 a)) (hbr : RdW w (.slice B (digs 18446744073709551616 b).length cb) (digs 18446744073709551616 b)) :
    Calls Tryz.prog 71 #[.pointer (some ⟨ga, 0, none⟩), .pointer (some ⟨gb, 0, none⟩), .pointer (some ⟨gz, 0, none⟩)] w (UpP w ex a b (fun k => k = gz) (fun k => (k = ga ∨ k = gb) ∨ k = gz)) := by
  have a2 : w.cell? ⟨ga, 2, none⟩ = some (.int .i32 ex) := ha.cell 2
  have b2 : w.cell? ⟨gb, 2, none⟩ = some (.int .i32 ex) := hb.cell 2
  have fin : ∀ w' : World, Fr w w' (fun _ => False) → UpP w ex a b (fun k => k = gz) (fun k => (k = ga ∨ k = gb) ∨ k = gz) (.returned (.tuple #[.pointer (some ⟨ga, 3, none⟩), .pointer (some ⟨gb, 3, none⟩), .int .i32 ex, .nilIface])) w' := fun w' hf =>
    ⟨_, _, rfl, ⟨ga, 3, _, _, A, ca, rfl, ha.fr hf (fun h => h), rfl, rfl, har.fr hf (fun _ _ h => h), by decide⟩, ⟨gb, 3, _, _, B, cb, rfl, hb.fr hf (fun h => h), rfl, rfl, hbr.fr hf (fun _ _ h => h), by decide⟩, hf.mono (fun _ _ h => h.elim), .inl (.inl rfl), .inl (.inr rfl)⟩
  have Fin := hide fin
  clear fin ha hb har hbr
  go_enter Tryz.func71, Tryz.ntmps71
  go_wp2_with fail
  go_quiet (fail)
  go_wp2_with fail
  go_quiet (fail)
  go_wp2
  exact bodyPost_ret (up_result _ _ _ _ _ rfl rfl rfl rfl _) rfl (Fin.out _ (((Fr.refl w _).drewN _).drewN _))
end Go.Proofs.YtfkcobdkgjhfaaaGreatDoor
