/- Walks: Int.Exp, BigInt.Exp without a modulus, setBigWithPow, tableExp10. -/
import Derived.Test.YtamjfjomehcikaaGreatDoorExp3
import Derived.Test.YtamjfjomehcikaaGreatDoorNewBig
set_option linter.unusedVariables false
set_option linter.unusedSimpArgs false
namespace Go.Proofs.YtamjfjomehcikaaGreatDoor
open Go.RowKit

set_option maxHeartbeats 1000000 in
theorem iexp_any (base bx by_ gz oz gx ox gy oy : Nat) (tz tx ty : TypeId) (cz cx cy : Array Value) (nz : Bool) (vz : Value) (mz b n l : Nat) (A B : Option Addr) (c d : Nat) (w : World)
    (hz : Blk w gz tz cz) (hz0 : cz[oz]? = some (.bool nz)) (hz1 : cz[oz + 1]? = some vz) (hzr : Room w base vz mz) (htz : tz ≠ 70)
    (hx : Blk w gx tx cx) (hx0 : cx[ox]? = some (.bool false)) (hx1 : cx[ox + 1]? = some (.slice A 1 c)) (hxr : Own w bx (.slice A 1 c) [b]) (htx : tx ≠ 70)
    (hy : Blk w gy ty cy) (hy0 : cy[oy]? = some (.bool false)) (hy1 : cy[oy + 1]? = some (.slice B l d)) (hyr : Own w by_ (.slice B l d) (digs 18446744073709551616 n)) (hty : ty ≠ 70)
    (hax : Apart vz (.slice A 1 c)) (hay : Apart vz (.slice B l d)) (hne : gz ≠ gx) (hb : base ≤ w.heap.size) (hb2 : 2 ≤ b) (hbl : b < 18446744073709551616) (hnl : n < 18446744073709551616) (hsz : b ^ (n / 2) < 18446744073709551616 ^ 11) (hv : Vars w base) :
    Calls Tryz.prog 76 #[.pointer (some ⟨gz, oz, none⟩), .pointer (some ⟨gx, ox, none⟩), .pointer (some ⟨gy, oy, none⟩), .pointer none, .bool false] w (IntP w base gz oz tz cz vz false (digs 18446744073709551616 (b ^ n))) := by
  have c1 : w.cell? ⟨gz, oz + 1, none⟩ = some vz := (hz.cell _).trans hz1
  have c2 : w.cell? ⟨gx, ox + 1, none⟩ = some (.slice A 1 c) := (hx.cell _).trans hx1
  have c3 : w.cell? ⟨gy, oy, none⟩ = some (.bool false) := (hy.cell _).trans hy0
  have c4 : w.cell? ⟨gy, oy + 1, none⟩ = some (.slice B l d) := (hy.cell _).trans hy1
  have hzne : ∀ k, vz.ownBlock = some k → k ≠ gz := hzr.ne_blk hz htz
  have hxne : ∀ k, vz.ownBlock = some k → k ≠ gx := hzr.ne_blk hx htx
  have con := expNN_any base bx by_ b n l vz mz A B c d w hzr hb hxr hyr hax hay hb2 hbl hnl hsz hv
  have key : ∀ (v : Value) (w1 : World), Fr w w1 (fun k => vz.ownBlock = some k) → w1.cell? ⟨gz, oz + 1, none⟩ = some vz ∧ w1.frozen? ⟨gz, oz + 1, none⟩ = false ∧ (w1.setCell ⟨gz, oz + 1, none⟩ v).cell? ⟨gz, oz + 1, none⟩ = some v ∧
      (w1.setCell ⟨gz, oz + 1, none⟩ v).cell? ⟨gx, ox, none⟩ = some (.bool false) ∧ (w1.setCell ⟨gz, oz + 1, none⟩ v).cell? ⟨gz, oz, none⟩ = some (.bool nz) ∧ (w1.setCell ⟨gz, oz + 1, none⟩ v).frozen? ⟨gz, oz, none⟩ = false ∧
      ((w1.setCell ⟨gz, oz + 1, none⟩ v).setCell ⟨gz, oz, none⟩ (.bool false)).cell? ⟨gz, oz, none⟩ = some (.bool false) := by
    intro v w1 hf
    have b1 : Blk w1 gz tz cz := hz.fr hf (fun h => hzne gz h rfl)
    have b2 : Blk w1 gx tx cx := hx.fr hf (fun h => hxne gx h rfl)
    refine ⟨(b1.cell _).trans hz1, b1.frozen _, ?_, ?_, ?_, ?_, ?_⟩
    · have hlt : oz + 1 < cz.size := (Array.getElem?_eq_some_iff.1 hz1).1
      rw [(b1.set _ _).cell]; simp [hlt]
    · rw [World.cell?_setCell_other _ _ _ _ (by intro e; injection e with e1 e2; omega)]
      exact (b2.cell _).trans hx0
    · rw [World.cell?_setCell_other _ _ _ _ (by intro e; injection e with e1 e2; omega)]
      exact (b1.cell _).trans hz0
    · rw [World.frozen?_setCell]; exact b1.frozen _
    · have hlt : oz < cz.size := (Array.getElem?_eq_some_iff.1 hz0).1
      rw [((b1.set _ _).set _ _).cell]; simp [hlt]
  have fin : ∀ (v : Value) (w1 : World), Own w1 base v (digs 18446744073709551616 (b ^ n)) → (v.ownBlock = vz.ownBlock ∨ ∃ k, v.ownBlock = some k ∧ w.heap.size ≤ k) → Fr w w1 (fun k => vz.ownBlock = some k) →
      IntP w base gz oz tz cz vz false (digs 18446744073709551616 (b ^ n)) (.returned (.pointer (some ⟨gz, oz, none⟩))) ((w1.setCell ⟨gz, oz + 1, none⟩ v).setCell ⟨gz, oz, none⟩ (.bool false)) := by
    intro v w1 hr hrb hf
    have b1 : Blk w1 gz tz cz := hz.fr hf (fun h => hzne gz h rfl)
    refine ⟨rfl, v, ?_, hrb, (b1.set _ _).set _ _, ?_⟩
    · have hg : ∀ k, v.ownBlock = some k → k ≠ gz := hr.room.ne_blk b1 htz
      exact (hr.fr (Fr.setCell (Fr.refl w1 (fun k => k = gz)) (p := ⟨gz, oz + 1, none⟩) (fun _ => rfl) v) hg).fr (Fr.setCell (Fr.refl _ (fun k => k = gz)) (p := ⟨gz, oz, none⟩) (fun _ => rfl) _) hg
    · exact ((hf.mono (fun k _ h => .inr h)).setCell (p := ⟨gz, oz + 1, none⟩) (fun _ => .inl rfl) _).setCell (p := ⟨gz, oz, none⟩) (fun _ => .inl rfl) _
  have hp : 0 < (digs 18446744073709551616 (b ^ n)).length := List.length_pos_iff.2 (digs_ne_nil (by omega) (Nat.pow_pos (by omega)))
  have Con := hide con
  have Key := hide key
  have Fin := hide fin
  have HP := hide hp
  clear hz hz0 hz1 hx hx0 hx1 hy hy0 hy1 key fin hzne hxne con hzr hxr hyr hax hay hp hv hsz
  go_enter Tryz.func76, Tryz.ntmps76
  go_wp2_with fail
  refine (Con.out).mono ?_
  rintro e w1 ⟨R, cr, rfl, hr, hrb, hf⟩
  obtain ⟨k1, k2, k3, k4, k5, k6, k7⟩ := Key.out (.slice R (digs 18446744073709551616 (b ^ n)).length cr) w1 hf
  have HF := hide (Fin.out (.slice R (digs 18446744073709551616 (b ^ n)).length cr) w1 hr hrb hf)
  have hp := HP.out
  clear hr hrb hf Con Key Fin HP
  generalize (digs 18446744073709551616 (b ^ n)).length = q at hp k1 k2 k3 k4 k5 k6 k7 HF ⊢
  go_wp2
  go_ret
  exact HF.out

theorem iExp_any (base bx by_ gz oz gx ox gy oy : Nat) (tz tx ty : TypeId) (cz cx cy : Array Value) (nz : Bool) (vz : Value) (mz b n l : Nat) (A B : Option Addr) (c d : Nat) (w : World)
    (hz : Blk w gz tz cz) (hz0 : cz[oz]? = some (.bool nz)) (hz1 : cz[oz + 1]? = some vz) (hzr : Room w base vz mz) (htz : tz ≠ 70)
    (hx : Blk w gx tx cx) (hx0 : cx[ox]? = some (.bool false)) (hx1 : cx[ox + 1]? = some (.slice A 1 c)) (hxr : Own w bx (.slice A 1 c) [b]) (htx : tx ≠ 70)
    (hy : Blk w gy ty cy) (hy0 : cy[oy]? = some (.bool false)) (hy1 : cy[oy + 1]? = some (.slice B l d)) (hyr : Own w by_ (.slice B l d) (digs 18446744073709551616 n)) (hty : ty ≠ 70)
    (hax : Apart vz (.slice A 1 c)) (hay : Apart vz (.slice B l d)) (hne : gz ≠ gx) (hb : base ≤ w.heap.size) (hb2 : 2 ≤ b) (hbl : b < 18446744073709551616) (hnl : n < 18446744073709551616) (hsz : b ^ (n / 2) < 18446744073709551616 ^ 11) (hv : Vars w base) :
    Calls Tryz.prog 67 #[.pointer (some ⟨gz, oz, none⟩), .pointer (some ⟨gx, ox, none⟩), .pointer (some ⟨gy, oy, none⟩), .pointer none] w (IntP w base gz oz tz cz vz false (digs 18446744073709551616 (b ^ n))) := by
  have Con := hide (iexp_any base bx by_ gz oz gx ox gy oy tz tx ty cz cx cy nz vz mz b n l A B c d w hz hz0 hz1 hzr htz hx hx0 hx1 hxr htx hy hy0 hy1 hyr hty hax hay hne hb hb2 hbl hnl hsz hv)
  clear hz hz0 hz1 hzr hx hx0 hx1 hxr hy hy0 hy1 hyr hax hay hv hsz
  go_enter Tryz.func67, Tryz.ntmps67
  go_wp2_with fail
  refine (Con.out).mono ?_
  rintro e w1 HI
  have HI2 := hide HI
  obtain ⟨rfl, _⟩ := HI
  clear Con
  go_wp2
  go_ret
  exact HI2.out

set_option maxHeartbeats 1000000 in
theorem bexp_any (base bx by_ gz oz gx ox gy oy : Nat) (tz tx ty : TypeId) (cz cx cy : Array Value) (nz mi : Bool) (vz : Value) (mz b n l : Nat) (A B : Option Addr) (c d : Nat) (w : World)
    (hz : Blk w gz tz cz) (hz0 : cz[oz]? = some (.bool nz)) (hz1 : cz[oz + 1]? = some vz) (hz2 : cz[oz + 2]? = some (.bool mi)) (hzr : Room w base vz mz) (htz : tz ≠ 70)
    (hx : Blk w gx tx cx) (hx0 : cx[ox]? = some (.bool false)) (hx1 : cx[ox + 1]? = some (.slice A 1 c)) (hxr : Own w bx (.slice A 1 c) [b]) (htx : tx ≠ 70)
    (hy : Blk w gy ty cy) (hy0 : cy[oy]? = some (.bool false)) (hy1 : cy[oy + 1]? = some (.slice B l d)) (hyr : Own w by_ (.slice B l d) (digs 18446744073709551616 n)) (hty : ty ≠ 70)
    (hax : Apart vz (.slice A 1 c)) (hay : Apart vz (.slice B l d)) (hne : gz ≠ gx) (hney : gz ≠ gy) (hb : base ≤ w.heap.size) (hgz : base ≤ gz) (hb2 : 2 ≤ b) (hbl : b < 18446744073709551616) (hnl : n < 18446744073709551616) (hsz : b ^ (n / 2) < 18446744073709551616 ^ 11) (hv : Vars w base) :
    Calls Tryz.prog 54 #[.pointer (some ⟨gz, oz, none⟩), .pointer (some ⟨gx, ox, none⟩), .pointer (some ⟨gy, oy, none⟩)] w (BigP w base gz oz tz cz vz false false (digs 18446744073709551616 (b ^ n))) := by
  have c1 : w.cell? ⟨gz, oz + 2, none⟩ = some (.bool mi) := (hz.cell _).trans hz2
  have f1 : w.frozen? ⟨gz, oz + 2, none⟩ = false := hz.frozen _
  have hf0 : Fr w (w.setCell ⟨gz, oz + 2, none⟩ (.bool false)) (fun k => k = gz) := (Fr.refl w (fun k => k = gz)).setCell (p := ⟨gz, oz + 2, none⟩) (fun _ => rfl) _
  have con := iExp_any base bx by_ gz oz gx ox gy oy tz tx ty (cz.setIfInBounds (oz + 2) (.bool false)) cx cy nz vz mz b n l A B c d (w.setCell ⟨gz, oz + 2, none⟩ (.bool false)).drew
    (hz.set _ _) (by rw [getElem?_set_ne (by omega)]; exact hz0) (by rw [getElem?_set_ne (by omega)]; exact hz1) (hzr.fr hf0.drew (hzr.ne_blk hz htz)) htz
    (hx.far (p := ⟨gz, oz + 2, none⟩) (Ne.symm hne) _) hx0 hx1 (hxr.fr hf0.drew (hxr.room.ne_blk hz htz)) htx
    (hy.far (p := ⟨gz, oz + 2, none⟩) (Ne.symm hney) _) hy0 hy1 (hyr.fr hf0.drew (hyr.room.ne_blk hz htz)) hty hax hay hne (by simpa using hb) hb2 hbl hnl hsz (hv.fr hf0.drew (fun k hk => by rw [hk]; exact hgz))
  have fin : ∀ e w', IntP (w.setCell ⟨gz, oz + 2, none⟩ (.bool false)).drew base gz oz tz (cz.setIfInBounds (oz + 2) (.bool false)) vz false (digs 18446744073709551616 (b ^ n)) e w' → BigP w base gz oz tz cz vz false false (digs 18446744073709551616 (b ^ n)) e w' := by
    rintro e w' ⟨he, v, hr, hrb, hB, hF⟩
    obtain ⟨B, d, rfl⟩ := hr.room.slice
    refine ⟨he, B, d, hr, ?_, hB, ?_⟩
    · simpa using hrb
    · exact Fr.step ((hf0.mono (fun k _ h => .inl h)).drew) hF (fun i _ h => h)
  have Con := hide con
  have Fin := hide fin
  clear hz hz0 hz1 hz2 hx hx0 hx1 hy hy0 hy1 con fin hf0 hxr hyr hzr hax hay hv hsz
  go_enter Tryz.func54, Tryz.ntmps54
  go_wp2_with fail
  go_region_with (go_at_call 67; go_loud (refine (Con.out).mono ?_; rintro e w1 HI; have HI2 := hide HI; obtain ⟨rfl, _⟩ := HI))
  all_goals go_wp2
  all_goals go_ret
  all_goals exact Fin.out _ _ HI2.out
end Go.Proofs.YtamjfjomehcikaaGreatDoor
