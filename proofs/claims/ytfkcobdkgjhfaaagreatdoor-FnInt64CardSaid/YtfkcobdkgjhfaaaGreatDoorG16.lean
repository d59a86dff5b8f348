/- Parts of the proofs: NewBig, Exp4, IntW, Lsh3, Bits3. -/
import Derived.Test.YtfkcobdkgjhfaaaGreatDoorG6
import Derived.Test.YtfkcobdkgjhfaaaGreatDoorG10
import Derived.Test.YtfkcobdkgjhfaaaGreatDoorG11
import Derived.Test.YtfkcobdkgjhfaaaGreatDoorG15
/- Walks: NewBigInt, bigFive, bigTen. -/
set_option linter.unusedVariables false
set_option linter.unusedSimpArgs false
namespace Go.Proofs.YtfkcobdkgjhfaaaGreatDoor
open Go.RowKit

set_option maxHeartbeats 500000 in
theorem newBig_any (x : Nat) (w : World) (hx : x < 9223372036854775808) :
    Calls Tryz.prog 103 #[.int .i64 (x : Int)] w (NewBigP w (digs 18446744073709551616 x)) := by
  have con := isetInt64_any w.heap.size w.heap.size 0 69 #[.bool false, .slice none 0 0, .bool false] false (.slice none 0 0) 0 (x : Int) (w.alloc (.cells #[.bool false, .slice none 0 0, .bool false] 69))
    (Blk.new w _ _) rfl rfl (Own.nil _ _).room (by decide) (by simp) (by omega) (by omega)
  rw [decide_eq_false (by omega : ¬ (x : Int) < 0), Int.natAbs_natCast] at con
  have fin : ∀ e w', IntP (w.alloc (.cells #[.bool false, .slice none 0 0, .bool false] 69)) w.heap.size w.heap.size 0 69 #[.bool false, .slice none 0 0, .bool false] (.slice none 0 0) false (digs 18446744073709551616 x) e w' →
      NewBigP w (digs 18446744073709551616 x) (.returned (.pointer (some ⟨w.heap.size, 0, none⟩))) w' := by
    rintro e w' ⟨_, v, hr, hrb, hB, hF⟩
    obtain ⟨A, c, rfl⟩ := hr.room.slice
    refine ⟨_, A, c, rfl, Nat.le_refl _, hr, hB, ?_⟩
    exact ((Below.refl w.heap.size w).alloc (Nat.le_refl _) _).trans (hF.below (by simp) (fun k hk => by rcases hk with rfl | h; exact Nat.le_refl _; cases h))
  have Con := hide con
  have Fin := hide fin
  clear con fin
  obtain ⟨xi, hxi⟩ : ∃ xi : Int, xi = (x : Int) := ⟨_, rfl⟩
  rw [← hxi] at Con ⊢
  clear hxi
  go_enter Tryz.func103, Tryz.ntmps103
  go_wp2_with fail
  refine (Con.out).mono ?_
  rintro e w1 HI
  have HI2 := hide (Fin.out _ _ HI)
  obtain ⟨rfl, _⟩ := HI
  clear Con Fin
  go_wp2
  go_ret
  exact HI2.out
theorem five_any (w : World) : Calls Tryz.prog 184 #[] w (NewBigP w [5]) := by
  have con := newBig_any 5 w (by omega)
  rw [digs_word (by omega) (by omega)] at con
  have Con := hide con
  clear con
  go_enter Tryz.func184, Tryz.ntmps184
  go_wp2_with fail
  refine (Con.out).mono ?_
  rintro e w1 ⟨g, A, c, rfl, h⟩
  have fin : NewBigP w [5] (.returned (.pointer (some ⟨g, 0, none⟩))) w1 := ⟨g, A, c, rfl, h⟩
  have Fin := hide fin
  clear fin h Con
  go_wp2
  go_ret
  exact Fin.out
theorem ten_any (w : World) : Calls Tryz.prog 67 #[] w (NewBigP w [10]) := by
  have con := newBig_any 10 w (by omega)
  rw [digs_word (by omega) (by omega)] at con
  have Con := hide con
  clear con
  go_enter Tryz.func67, Tryz.ntmps67
  go_wp2_with fail
  refine (Con.out).mono ?_
  rintro e w1 ⟨g, A, c, rfl, h⟩
  have fin : NewBigP w [10] (.returned (.pointer (some ⟨g, 0, none⟩))) w1 := ⟨g, A, c, rfl, h⟩
  have Fin := hide fin
  clear fin h Con
  go_wp2
  go_ret
  exact Fin.out

end Go.Proofs.YtfkcobdkgjhfaaaGreatDoor

/- Walks: Int.Exp, BigInt.Exp without a modulus, setBigWithPow, tableExp10. -/
set_option linter.unusedVariables false
set_option linter.unusedSimpArgs false
namespace Go.Proofs.YtfkcobdkgjhfaaaGreatDoor
open Go.RowKit

set_option maxHeartbeats 1000000 in
theorem iexp_any (base bx by_ gz oz gx ox gy oy : Nat) (tz tx ty : TypeId) (cz cx cy : Array Value) (nz : Bool) (vz : Value) (mz b n l : Nat) (A B : Option Addr) (c d : Nat) (w : World)
    (hz : Blk w gz tz cz) (hz0 : cz[oz]? = some (.bool nz)) (hz1 : cz[oz + 1]? = some vz) (hzr : Room w base vz mz) (htz : tz ≠ 145)
    (hx : Blk w gx tx cx) (hx0 : cx[ox]? = some (.bool false)) (hx1 : cx[ox + 1]? = some (.slice A 1 c)) (hxr : Own w bx (.slice A 1 c) [b]) (htx : tx ≠ 145)
    (hy : Blk w gy ty cy) (hy0 : cy[oy]? = some (.bool false)) (hy1 : cy[oy + 1]? = some (.slice B l d)) (hyr : Own w by_ (.slice B l d) (digs 18446744073709551616 n)) (hty : ty ≠ 145)
    (hax : Apart vz (.slice A 1 c)) (hay : Apart vz (.slice B l d)) (hne : gz ≠ gx) (hb : base ≤ w.heap.size) (hb2 : 2 ≤ b) (hbl : b < 18446744073709551616) (hnl : n < 18446744073709551616) (hsz : b ^ (n / 2) < 18446744073709551616 ^ 11) (hv : Vars w base) :
    Calls Tryz.prog 164 #[.pointer (some ⟨gz, oz, none⟩), .pointer (some ⟨gx, ox, none⟩), .pointer (some ⟨gy, oy, none⟩), .pointer none, .bool false] w (IntP w base gz oz tz cz vz false (digs 18446744073709551616 (b ^ n))) := by
  have c1 : w.cell? ⟨gz, oz + 1, none⟩ = some vz := (hz.cell _).trans hz1
  have c2 : w.cell? ⟨gx, ox + 1, none⟩ = some (.slice A 1 c) := (hx.cell _).trans hx1
  have c3 : w.cell? ⟨gy, oy, none⟩ = some (.bool false) := (hy.cell _).trans hy0
  have c4 : w.cell? ⟨gy, oy + 1, none⟩ = some (.slice B l d) := (hy.cell _).trans hy1
  have hzne : ∀ k, vz.ownBlock = some k → k ≠ gz := hzr.ne_blk hz htz
  have hxne : ∀ k, vz.ownBlock = some k → k ≠ gx := hzr.ne_blk hx htx
  have con := expNN_any base bx by_ b n l vz mz A B c d w hzr hb hxr hyr hax hay hb2 hbl hnl hsz hv
  have key : ∀ (v : Value) (w1 : World), Fr w w1 (fun k => vz.ownBlock = some k) → w1.cell? ⟨gz, oz + 1, none⟩ = some vz ∧ w1.frozen? ⟨gz, oz + 1, none⟩ = false ∧ (w1.setCell ⟨gz, oz + 1, none⟩ v).cell? ⟨gz, oz + 1, none⟩ = some v ∧
      (w1.setCell ⟨gz, oz + 1, none⟩ v).cell? ⟨gx, ox, none⟩ = some (.bool false) ∧ (w1.setCell ⟨gz, oz + 1, none⟩ v).cell? ⟨gz, oz, none⟩ = some (.bool nz) ∧ (w1.setCell ⟨gz, oz + 1, none⟩ v).frozen? ⟨gz, oz, none⟩ = false ∧
      ((w1.setCell ⟨gz, oz + 1, none⟩ v).setCell ⟨gz, oz, none⟩ (.bool false)).cell? ⟨gz, oz, none⟩ = some (.bool false) := by
    intro v w1 hf
    have b1 : Blk w1 gz tz cz := hz.fr hf (fun h => hzne gz h rfl)
    have b2 : Blk w1 gx tx cx := hx.fr hf (fun h => hxne gx h rfl)
    refine ⟨(b1.cell _).trans hz1, b1.frozen _, ?_, ?_, ?_, ?_, ?_⟩
    · have hlt : oz + 1 < cz.size := (Array.getElem?_eq_some_iff.1 hz1).1
      rw [(b1.set _ _).cell]; simp [hlt]
    · rw [World.cell?_setCell_other _ _ _ _ (by intro e; injection e with e1 e2; omega)]
      exact (b2.cell _).trans hx0
    · rw [World.cell?_setCell_other _ _ _ _ (by intro e; injection e with e1 e2; omega)]
      exact (b1.cell _).trans hz0
    · rw [World.frozen?_setCell]; exact b1.frozen _
    · have hlt : oz < cz.size := (Array.getElem?_eq_some_iff.1 hz0).1
      rw [((b1.set _ _).set _ _).cell]; simp [hlt]
  have fin : ∀ (v : Value) (w1 : World), Own w1 base v (digs 18446744073709551616 (b ^ n)) → (v.ownBlock = vz.ownBlock ∨ ∃ k, v.ownBlock = some k ∧ w.heap.size ≤ k) → Fr w w1 (fun k => vz.ownBlock = some k) →
      IntP w base gz oz tz cz vz false (digs 18446744073709551616 (b ^ n)) (.returned (.pointer (some ⟨gz, oz, none⟩))) ((w1.setCell ⟨gz, oz + 1, none⟩ v).setCell ⟨gz, oz, none⟩ (.bool false)) := by
    intro v w1 hr hrb hf
    have b1 : Blk w1 gz tz cz := hz.fr hf (fun h => hzne gz h rfl)
    refine ⟨rfl, v, ?_, hrb, (b1.set _ _).set _ _, ?_⟩
    · have hg : ∀ k, v.ownBlock = some k → k ≠ gz := hr.room.ne_blk b1 htz
      exact (hr.fr (Fr.setCell (Fr.refl w1 (fun k => k = gz)) (p := ⟨gz, oz + 1, none⟩) (fun _ => rfl) v) hg).fr (Fr.setCell (Fr.refl _ (fun k => k = gz)) (p := ⟨gz, oz, none⟩) (fun _ => rfl) _) hg
    · exact ((hf.mono (fun k _ h => .inr h)).setCell (p := ⟨gz, oz + 1, none⟩) (fun _ => .inl rfl) _).setCell (p := ⟨gz, oz, none⟩) (fun _ => .inl rfl) _
  have hp : 0 < (digs 18446744073709551616 (b ^ n)).length := List.length_pos_iff.2 (digs_ne_nil (by omega) (Nat.pow_pos (by omega)))
  have Con := hide con
  have Key := hide key
  have Fin := hide fin
  have HP := hide hp
  clear hz hz0 hz1 hx hx0 hx1 hy hy0 hy1 key fin hzne hxne con hzr hxr hyr hax hay hp hv hsz
  go_enter Tryz.func164, Tryz.ntmps164
  go_wp2_with fail
  refine (Con.out).mono ?_
  rintro e w1 ⟨R, cr, rfl, hr, hrb, hf⟩
  obtain ⟨k1, k2, k3, k4, k5, k6, k7⟩ := Key.out (.slice R (digs 18446744073709551616 (b ^ n)).length cr) w1 hf
  have HF := hide (Fin.out (.slice R (digs 18446744073709551616 (b ^ n)).length cr) w1 hr hrb hf)
  have hp := HP.out
  clear hr hrb hf Con Key Fin HP
  generalize (digs 18446744073709551616 (b ^ n)).length = q at hp k1 k2 k3 k4 k5 k6 k7 HF ⊢
  go_wp2
  go_ret
  exact HF.out

theorem iExp_any (base bx by_ gz oz gx ox gy oy : Nat) (tz tx ty : TypeId) (cz cx cy : Array Value) (nz : Bool) (vz : Value) (mz b n l : Nat) (A B : Option Addr) (c d : Nat) (w : World)
    (hz : Blk w gz tz cz) (hz0 : cz[oz]? = some (.bool nz)) (hz1 : cz[oz + 1]? = some vz) (hzr : Room w base vz mz) (htz : tz ≠ 145)
    (hx : Blk w gx tx cx) (hx0 : cx[ox]? = some (.bool false)) (hx1 : cx[ox + 1]? = some (.slice A 1 c)) (hxr : Own w bx (.slice A 1 c) [b]) (htx : tx ≠ 145)
    (hy : Blk w gy ty cy) (hy0 : cy[oy]? = some (.bool false)) (hy1 : cy[oy + 1]? = some (.slice B l d)) (hyr : Own w by_ (.slice B l d) (digs 18446744073709551616 n)) (hty : ty ≠ 145)
    (hax : Apart vz (.slice A 1 c)) (hay : Apart vz (.slice B l d)) (hne : gz ≠ gx) (hb : base ≤ w.heap.size) (hb2 : 2 ≤ b) (hbl : b < 18446744073709551616) (hnl : n < 18446744073709551616) (hsz : b ^ (n / 2) < 18446744073709551616 ^ 11) (hv : Vars w base) :
    Calls Tryz.prog 140 #[.pointer (some ⟨gz, oz, none⟩), .pointer (some ⟨gx, ox, none⟩), .pointer (some ⟨gy, oy, none⟩), .pointer none] w (IntP w base gz oz tz cz vz false (digs 18446744073709551616 (b ^ n))) := by
  have Con := hide (iexp_any base bx by_ gz oz gx ox gy oy tz tx ty cz cx cy nz vz mz b n l A B c d w hz hz0 hz1 hzr htz hx hx0 hx1 hxr htx hy hy0 hy1 hyr hty hax hay hne hb hb2 hbl hnl hsz hv)
  clear hz hz0 hz1 hzr hx hx0 hx1 hxr hy hy0 hy1 hyr hax hay hv hsz
  go_enter Tryz.func140, Tryz.ntmps140
  go_wp2_with fail
  refine (Con.out).mono ?_
  rintro e w1 HI
  have HI2 := hide HI
  obtain ⟨rfl, _⟩ := HI
  clear Con
  go_wp2
  go_ret
  exact HI2.out

set_option maxHeartbeats 1000000 in
theorem bexp_any (base bx by_ gz oz gx ox gy oy : Nat) (tz tx ty : TypeId) (cz cx cy : Array Value) (nz mi : Bool) (vz : Value) (mz b n l : Nat) (A B : Option Addr) (c d : Nat) (w : World)
    (hz : Blk w gz tz cz) (hz0 : cz[oz]? = some (.bool nz)) (hz1 : cz[oz + 1]? = some vz) (hz2 : cz[oz + 2]? = some (.bool mi)) (hzr : Room w base vz mz) (htz : tz ≠ 145)
    (hx : Blk w gx tx cx) (hx0 : cx[ox]? = some (.bool false)) (hx1 : cx[ox + 1]? = some (.slice A 1 c)) (hxr : Own w bx (.slice A 1 c) [b]) (htx : tx ≠ 145)
    (hy : Blk w gy ty cy) (hy0 : cy[oy]? = some (.bool false)) (hy1 : cy[oy + 1]? = some (.slice B l d)) (hyr : Own w by_ (.slice B l d) (digs 18446744073709551616 n)) (hty : ty ≠ 145)
    (hax : Apart vz (.slice A 1 c)) (hay : Apart vz (.slice B l d)) (hne : gz ≠ gx) (hney : gz ≠ gy) (hb : base ≤ w.heap.size) (hgz : base ≤ gz) (hb2 : 2 ≤ b) (hbl : b < 18446744073709551616) (hnl : n < 18446744073709551616) (hsz : b ^ (n / 2) < 18446744073709551616 ^ 11) (hv : Vars w base) :
    Calls Tryz.prog 122 #[.pointer (some ⟨gz, oz, none⟩), .pointer (some ⟨gx, ox, none⟩), .pointer (some ⟨gy, oy, none⟩)] w (BigP w base gz oz tz cz vz false false (digs 18446744073709551616 (b ^ n))) := by
  have c1 : w.cell? ⟨gz, oz + 2, none⟩ = some (.bool mi) := (hz.cell _).trans hz2
  have f1 : w.frozen? ⟨gz, oz + 2, none⟩ = false := hz.frozen _
  have hf0 : Fr w (w.setCell ⟨gz, oz + 2, none⟩ (.bool false)) (fun k => k = gz) := (Fr.refl w (fun k => k = gz)).setCell (p := ⟨gz, oz + 2, none⟩) (fun _ => rfl) _
  have con := iExp_any base bx by_ gz oz gx ox gy oy tz tx ty (cz.setIfInBounds (oz + 2) (.bool false)) cx cy nz vz mz b n l A B c d (w.setCell ⟨gz, oz + 2, none⟩ (.bool false)).drew
    (hz.set _ _) (by rw [getElem?_set_ne (by omega)]; exact hz0) (by rw [getElem?_set_ne (by omega)]; exact hz1) (hzr.fr hf0.drew (hzr.ne_blk hz htz)) htz
    (hx.far (p := ⟨gz, oz + 2, none⟩) (Ne.symm hne) _) hx0 hx1 (hxr.fr hf0.drew (hxr.room.ne_blk hz htz)) htx
    (hy.far (p := ⟨gz, oz + 2, none⟩) (Ne.symm hney) _) hy0 hy1 (hyr.fr hf0.drew (hyr.room.ne_blk hz htz)) hty hax hay hne (by simpa using hb) hb2 hbl hnl hsz (hv.fr hf0.drew (fun k hk => by rw [hk]; exact hgz))
  have fin : ∀ e w', IntP (w.setCell ⟨gz, oz + 2, none⟩ (.bool false)).drew base gz oz tz (cz.setIfInBounds (oz + 2) (.bool false)) vz false (digs 18446744073709551616 (b ^ n)) e w' → BigP w base gz oz tz cz vz false false (digs 18446744073709551616 (b ^ n)) e w' := by
    rintro e w' ⟨he, v, hr, hrb, hB, hF⟩
    obtain ⟨B, d, rfl⟩ := hr.room.slice
    refine ⟨he, B, d, hr, ?_, hB, ?_⟩
    · simpa using hrb
    · exact Fr.step ((hf0.mono (fun k _ h => .inl h)).drew) hF (fun i _ h => h)
  have Con := hide con
  have Fin := hide fin
  clear hz hz0 hz1 hz2 hx hx0 hx1 hy hy0 hy1 con fin hf0 hxr hyr hzr hax hay hv hsz
  go_enter Tryz.func122, Tryz.ntmps122
  go_wp2_with fail
  go_region_with (go_at_call 140; go_loud (refine (Con.out).mono ?_; rintro e w1 HI; have HI2 := hide HI; obtain ⟨rfl, _⟩ := HI))
  all_goals go_wp2
  all_goals go_ret
  all_goals exact Fin.out _ _ HI2.out
end Go.Proofs.YtfkcobdkgjhfaaaGreatDoor

/- Small laws for the writing of an Int: its row first, then its sign. -/
set_option linter.unusedVariables false
set_option linter.unusedSimpArgs false
namespace Go.Proofs.YtfkcobdkgjhfaaaGreatDoor
open Go.RowKit

/-- What can be read while an Int is written. -/
theorem int_key {w w1 : World} {g o : Nat} {t : TypeId} {cs : Array Value} {nz : Bool} {vz : Value} (hz : Blk w g t cs) (hz0 : cs[o]? = some (.bool nz)) (hz1 : cs[o + 1]? = some vz) (hzne : ∀ k, vz.ownBlock = some k → k ≠ g) (v : Value) (hf : Fr w w1 (fun k => vz.ownBlock = some k)) :
    w1.cell? ⟨g, o + 1, none⟩ = some vz ∧ w1.frozen? ⟨g, o + 1, none⟩ = false ∧ (w1.setCell ⟨g, o + 1, none⟩ v).cell? ⟨g, o + 1, none⟩ = some v ∧ (w1.setCell ⟨g, o + 1, none⟩ v).cell? ⟨g, o, none⟩ = some (.bool nz) ∧ (w1.setCell ⟨g, o + 1, none⟩ v).frozen? ⟨g, o, none⟩ = false := by
  have b1 : Blk w1 g t cs := hz.fr hf (fun h => hzne g h rfl)
  refine ⟨(b1.cell _).trans hz1, b1.frozen _, ?_, ?_, ?_⟩
  · have hlt : o + 1 < cs.size := (Array.getElem?_eq_some_iff.1 hz1).1
    rw [(b1.set _ _).cell]; simp [hlt]
  · rw [World.cell?_setCell_other _ _ _ _ (by intro e; injection e with e1 e2; omega)]
    exact (b1.cell _).trans hz0
  · rw [World.frozen?_setCell]; exact b1.frozen _

/-- What is left when it is written; the world between may have drawn. -/
theorem int_fin {w w1 w2 : World} {base g o : Nat} {t : TypeId} {cs : Array Value} {vz : Value} {xs : List Nat} (hz : Blk w g t cs) (ht : t ≠ 145) (hzne : ∀ k, vz.ownBlock = some k → k ≠ g) (v : Value) (n : Bool) (hw2 : w2 = w1.setCell ⟨g, o + 1, none⟩ v ∨ w2 = (w1.setCell ⟨g, o + 1, none⟩ v).drew) (hr : Own w1 base v xs) (hrb : v.ownBlock = vz.ownBlock ∨ ∃ k, v.ownBlock = some k ∧ w.heap.size ≤ k) (hf : Fr w w1 (fun k => vz.ownBlock = some k)) :
    IntP w base g o t cs vz n xs (.returned (.pointer (some ⟨g, o, none⟩))) (w2.setCell ⟨g, o, none⟩ (.bool n)) := by
  have b1 : Blk w1 g t cs := hz.fr hf (fun h => hzne g h rfl)
  have hg : ∀ k, v.ownBlock = some k → k ≠ g := hr.room.ne_blk b1 ht
  have hF2 : Fr w1 w2 (fun k => k = g) := by
    rcases hw2 with rfl | rfl
    · exact Fr.setCell (Fr.refl w1 (fun k => k = g)) (p := ⟨g, o + 1, none⟩) (fun _ => rfl) v
    · exact (Fr.setCell (Fr.refl w1 (fun k => k = g)) (p := ⟨g, o + 1, none⟩) (fun _ => rfl) v).drew
  have hB2 : Blk w2 g t (cs.setIfInBounds (o + 1) v) := by
    rcases hw2 with rfl | rfl
    · exact b1.set _ _
    · exact b1.set _ _
  refine ⟨rfl, v, ?_, hrb, hB2.set _ _, ?_⟩
  · exact (hr.fr hF2 hg).fr (Fr.setCell (Fr.refl _ (fun k => k = g)) (p := ⟨g, o, none⟩) (fun _ => rfl) _) hg
  · exact (Fr.step (hf.mono (fun k _ h => .inr h)) hF2 (fun i _ h => .inl h)).setCell (p := ⟨g, o, none⟩) (fun _ => .inl rfl) _

/-- From an Int to the BigInt round it, whose mark has been struck. -/
theorem big_fin {w W : World} {base g o : Nat} {t : TypeId} {cs : Array Value} {vz : Value} {n mi : Bool} {xs : List Nat} (hW : W = w.setCell ⟨g, o + 2, none⟩ (.bool mi) ∨ W = (w.setCell ⟨g, o + 2, none⟩ (.bool mi)).drew) {e : Ending} {w' : World} (h : IntP W base g o t (cs.setIfInBounds (o + 2) (.bool mi)) vz n xs e w') : BigP w base g o t cs vz n mi xs e w' := by
  obtain ⟨he, v, hr, hrb, hB, hF⟩ := h
  obtain ⟨A, c, rfl⟩ := hr.room.slice
  have hf0 : Fr w W (fun k => k = g) := by
    rcases hW with rfl | rfl
    · exact (Fr.refl w (fun k => k = g)).setCell (p := ⟨g, o + 2, none⟩) (fun _ => rfl) _
    · exact ((Fr.refl w (fun k => k = g)).setCell (p := ⟨g, o + 2, none⟩) (fun _ => rfl) _).drew
  have hs : W.heap.size = w.heap.size := by rcases hW with rfl | rfl <;> simp
  exact ⟨he, A, c, hr, by rw [hs] at hrb; exact hrb, hB, Fr.step (hf0.mono (fun k _ h => .inl h)) hF (fun i _ h => h)⟩
end Go.Proofs.YtfkcobdkgjhfaaaGreatDoor

/- Walks: Int.Lsh, BigInt.Lsh of 1 in its own place. -/
set_option linter.unusedVariables false
set_option linter.unusedSimpArgs false
namespace Go.Proofs.YtfkcobdkgjhfaaaGreatDoor
open Go.RowKit

set_option maxHeartbeats 1000000 in
theorem iLsh_any (base g o gx c s : Nat) (t : TypeId) (cs : Array Value) (w : World) (hz : Blk w g t cs) (hz0 : cs[o]? = some (.bool false)) (hz1 : cs[o + 1]? = some (.slice (some ⟨gx, 0, none⟩) 1 c)) (hr : Own w base (.slice (some ⟨gx, 0, none⟩) 1 c) [1]) (ht : t ≠ 145) (hb : base ≤ w.heap.size) (hs : s ≤ 127) :
    Calls Tryz.prog 162 #[.pointer (some ⟨g, o, none⟩), .pointer (some ⟨g, o, none⟩), .int .u64 (s : Int)] w (IntP w base g o t cs (.slice (some ⟨gx, 0, none⟩) 1 c) false (digs 18446744073709551616 (2 ^ s))) := by
  have c1 : w.cell? ⟨g, o + 1, none⟩ = some (.slice (some ⟨gx, 0, none⟩) 1 c) := (hz.cell _).trans hz1
  have hzne : ∀ k, (Value.slice (some ⟨gx, 0, none⟩) 1 c).ownBlock = some k → k ≠ g := hr.room.ne_blk hz ht
  have Con := hide (nlsh_any base gx c s w.drew hr hb hs)
  have Key := hide (fun v w1 hf => int_key (w1 := w1) hz hz0 hz1 hzne v hf)
  have Fin := hide (fun v w1 w2 h1 h2 h3 h4 => int_fin (base := base) (w1 := w1) (w2 := w2) (o := o) (xs := digs 18446744073709551616 (2 ^ s)) hz ht hzne v false h1 h2 h3 h4)
  clear hz hz0 hz1 hr hzne
  generalize digs 18446744073709551616 (2 ^ s) = D at *
  go_enter Tryz.func162, Tryz.ntmps162
  go_wp2_with fail
  go_region_with (go_at_call 186; go_loud (refine (Con.out).mono ?_; rintro e w1 ⟨R, cr, rfl, hr, hrb, hf⟩; obtain ⟨k1, k2, k3, k4, k5⟩ := Key.out (.slice R D.length cr) w1 ⟨hf.os, hf.tape, hf.output, hf.size, hf.block⟩; have HF := hide (fun w2 h => Fin.out (.slice R D.length cr) w1 w2 h hr hrb ⟨hf.os, hf.tape, hf.output, hf.size, hf.block⟩); clear hr hrb hf))
  all_goals clear Con Key Fin c1
  all_goals generalize D.length = q at k1 k2 k3 k4 k5 HF ⊢
  all_goals go_wp2
  all_goals go_ret
  all_goals exact HF.out _ (.inl rfl)
set_option maxHeartbeats 1000000 in
theorem bLsh_any (base g gx c s : Nat) (w : World) (hz : Blk w g 69 #[.bool false, .slice (some ⟨gx, 0, none⟩) 1 c, .bool false]) (hr : Own w base (.slice (some ⟨gx, 0, none⟩) 1 c) [1]) (hb : base ≤ w.heap.size) (hs : s ≤ 127) :
    Calls Tryz.prog 137 #[.pointer (some ⟨g, 0, none⟩), .pointer (some ⟨g, 0, none⟩), .int .u64 (s : Int)] w (BigP w base g 0 69 #[.bool false, .slice (some ⟨gx, 0, none⟩) 1 c, .bool false] (.slice (some ⟨gx, 0, none⟩) 1 c) false false (digs 18446744073709551616 (2 ^ s))) := by
  have c1 : w.cell? ⟨g, 2, none⟩ = some (.bool false) := hz.cell 2
  have f1 : w.frozen? ⟨g, 2, none⟩ = false := hz.frozen _
  have hf0 : Fr w (w.setCell ⟨g, 2, none⟩ (.bool false)).drew (fun k => k = g) := ((Fr.refl w (fun k => k = g)).setCell (p := ⟨g, 2, none⟩) (fun _ => rfl) _).drew
  have con := iLsh_any base g 0 gx c s 69 #[.bool false, .slice (some ⟨gx, 0, none⟩) 1 c, .bool false] (w.setCell ⟨g, 2, none⟩ (.bool false)).drew (hz.set 2 (.bool false)) rfl rfl (hr.fr hf0 (hr.room.ne_blk hz (by decide))) (by decide) (by simpa using hb) hs
  have fin := fun e w' h => big_fin (mi := false) (W := (w.setCell ⟨g, 2, none⟩ (.bool false)).drew) (w := w) (base := base) (g := g) (o := 0) (t := 69) (cs := #[.bool false, .slice (some ⟨gx, 0, none⟩) 1 c, .bool false]) (vz := .slice (some ⟨gx, 0, none⟩) 1 c) (n := false) (xs := digs 18446744073709551616 (2 ^ s)) (.inr rfl) (e := e) (w' := w') h
  have Con := hide con
  have Fin := hide fin
  clear hz con fin hf0 hr
  generalize digs 18446744073709551616 (2 ^ s) = D at *
  go_enter Tryz.func137, Tryz.ntmps137
  go_wp2_with fail
  go_region_with (go_at_call 162; go_loud (refine (Con.out).mono ?_; rintro e w1 HI; have HI2 := hide HI; obtain ⟨rfl, _⟩ := HI))
  all_goals go_wp2
  all_goals go_ret
  all_goals exact Fin.out _ _ HI2.out
end Go.Proofs.YtfkcobdkgjhfaaaGreatDoor

/- Walks: bitsDiv, reciprocalWord, divWW. -/
set_option linter.unusedVariables false
set_option linter.unusedSimpArgs false
namespace Go.Proofs.YtfkcobdkgjhfaaaGreatDoor
open Go.RowKit

theorem bitsDiv_any (hi lo y : Nat) (w : World) (hy : y < 18446744073709551616) (hlo : lo < 18446744073709551616) (hhi : hi < y) :
    Calls Tryz.prog 191 #[.int .u64 (hi : Int), .int .u64 (lo : Int), .int .u64 (y : Int)] w (DivP hi lo y w) := by
  have Con := hide (bitsDiv64_any hi lo y w hy hlo hhi)
  go_enter Tryz.func191, Tryz.ntmps191
  go_wp2_with fail
  refine (Con.out).mono ?_
  rintro e w1 ⟨q, r, rfl, h1, h2⟩
  have HF := hide (And.intro h1 h2)
  clear h1 h2
  go_wp2
  go_ret2
  exact ⟨q, r, rfl, HF.out.1, HF.out.2⟩

theorem u64_not (d : Nat) (h : d < 18446744073709551616) : bits .xor .u64 IntKind.u64.max (d : Int) = ((18446744073709551615 - d : Nat) : Int) := by
  show IntKind.u64.wrap ((BitVec.ofInt 64 IntKind.u64.max ^^^ BitVec.ofInt 64 (d : Int)).toNat : Int) = _
  have e : BitVec.ofInt 64 IntKind.u64.max = BitVec.allOnes 64 := by decide
  rw [e, BitVec.allOnes_xor, BitVec.toNat_not, ofInt_u64 d h, IntKind.wrap_u64]
  omega

/-- The reciprocal of a word, shifted. -/
def recN (y : Nat) : Nat := 340282366920938463463374607431768211455 / (y * 2 ^ nlzN y) - 18446744073709551616
theorem rec_spec (y : Nat) (h0 : 0 < y) (hy : y < 18446744073709551616) : ((18446744073709551615 - y * 2 ^ nlzN y) * 18446744073709551616 + 18446744073709551615) / (y * 2 ^ nlzN y) = recN y := by
  obtain ⟨hn, h1, h2⟩ := nlz_spec y h0 hy
  unfold recN
  generalize y * 2 ^ nlzN y = d at *
  have e : 340282366920938463463374607431768211455 = ((18446744073709551615 - d) * 18446744073709551616 + 18446744073709551615) + d * 18446744073709551616 := by
    omega
  rw [e, Nat.add_mul_div_left _ _ (by omega), Nat.add_sub_cancel]

theorem recip_any (y : Nat) (w : World) (h0 : 0 < y) (hy : y < 18446744073709551616) :
    Calls Tryz.prog 192 #[.int .u64 (y : Int)] w fun e w' => ∃ m : Nat, e = .returned (.int .u64 (m : Int)) ∧ Hid (m = recN y) ∧ Below w.heap.size w w' := by
  obtain ⟨hn, h1, h2⟩ := nlz_spec y h0 hy
  have hr := rec_spec y h0 hy
  have Con := hide (nlz_any y hy w)
  obtain ⟨n, hn'⟩ : ∃ n, n = nlzN y := ⟨_, rfl⟩
  obtain ⟨d, hd⟩ : ∃ d, d = y * 2 ^ nlzN y := ⟨_, rfl⟩
  obtain ⟨c, hc⟩ : ∃ c, c = 18446744073709551615 - d := ⟨_, rfl⟩
  rw [← hd] at h1 h2 hr
  rw [← hc] at hr
  have f1 : IntKind.u64.wrap ((y : Int) * 2 ^ n) = (d : Int) := by
    rw [show ((y : Int) * 2 ^ n) = ((y * 2 ^ n : Nat) : Int) by simp, hn', ← hd, wrpN, Nat.mod_eq_of_lt h2]
  have f2 : bits .xor .u64 IntKind.u64.max (d : Int) = (c : Int) := by rw [u64_not d h2, ← hc]
  rw [← hn'] at hn
  have con2 := bitsDiv_any c 18446744073709551615 d w h2 (by omega) (by omega)
  rw [← hn'] at Con
  have Con2 := hide con2
  have HR := hide hr
  clear hn' hd hc hr con2
  go_enter Tryz.func192, Tryz.ntmps192
  go_wp2_with fail
  refine (Con.out).mono ?_
  rintro e w1 ⟨rfl, rfl⟩
  go_wp2_with fail
  refine (Con2.out).mono ?_
  rintro e w2 ⟨q, r, rfl, h3, h4⟩
  have HF : Hid (q = recN y ∧ Below w1.heap.size w1 w2) := ⟨h3.out.1.trans HR.out, h4⟩
  clear h3 h4
  go_wp2
  go_ret
  exact ⟨q, rfl, HF.out.1, HF.out.2⟩
end Go.Proofs.YtfkcobdkgjhfaaaGreatDoor
