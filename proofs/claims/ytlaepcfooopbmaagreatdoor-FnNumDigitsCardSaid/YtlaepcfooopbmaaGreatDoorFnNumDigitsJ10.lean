/- Parts of the proof of 'laws.FnNumDigits': Exp4, IntW, Lsh3, Bits3, Bits4, DivD. -/
import Derived.Test.YtlaepcfooopbmaaGreatDoorFnNumDigitsJ1
import Derived.Test.YtlaepcfooopbmaaGreatDoorFnNumDigitsJ2
import Derived.Test.YtlaepcfooopbmaaGreatDoorFnNumDigitsJ3
import Derived.Test.YtlaepcfooopbmaaGreatDoorFnNumDigitsJ4
import Derived.Test.YtlaepcfooopbmaaGreatDoorFnNumDigitsJ5
import Derived.Test.YtlaepcfooopbmaaGreatDoorFnNumDigitsJ6
import Derived.Test.YtlaepcfooopbmaaGreatDoorFnNumDigitsJ7
import Derived.Test.YtlaepcfooopbmaaGreatDoorFnNumDigitsJ8
import Derived.Test.YtlaepcfooopbmaaGreatDoorFnNumDigitsJ9
/- Walks: Int.Exp, BigInt.Exp without a modulus, setBigWithPow, tableExp10. -/
set_option linter.unusedVariables false
set_option linter.unusedSimpArgs false
namespace Go.Proofs.YtlaepcfooopbmaaGreatDoor
open Go.RowKit

set_option maxHeartbeats 1000000 in
theorem iexp_any (base bx by_ gz oz gx ox gy oy : Nat) (tz tx ty : TypeId) (cz cx cy : Array Value) (nz : Bool) (vz : Value) (mz b n l : Nat) (A B : Option Addr) (c d : Nat) (w : World)
    (hz : Blk w gz tz cz) (hz0 : cz[oz]? = some (.bool nz)) (hz1 : cz[oz + 1]? = some vz) (hzr : Room w base vz mz) (htz : tz ≠ 84)
    (hx : Blk w gx tx cx) (hx0 : cx[ox]? = some (.bool false)) (hx1 : cx[ox + 1]? = some (.slice A 1 c)) (hxr : Own w bx (.slice A 1 c) [b]) (htx : tx ≠ 84)
    (hy : Blk w gy ty cy) (hy0 : cy[oy]? = some (.bool false)) (hy1 : cy[oy + 1]? = some (.slice B l d)) (hyr : Own w by_ (.slice B l d) (digs 18446744073709551616 n)) (hty : ty ≠ 84)
    (hax : Apart vz (.slice A 1 c)) (hay : Apart vz (.slice B l d)) (hne : gz ≠ gx) (hb : base ≤ w.heap.size) (hb2 : 2 ≤ b) (hbl : b < 18446744073709551616) (hnl : n < 18446744073709551616) (hsz : b ^ (n / 2) < 18446744073709551616 ^ 11) (hv : Vars w base) :
    Calls Tryz.prog 95 #[.pointer (some ⟨gz, oz, none⟩), .pointer (some ⟨gx, ox, none⟩), .pointer (some ⟨gy, oy, none⟩), .pointer none, .bool false] w (IntP w base gz oz tz cz vz false (digs 18446744073709551616 (b ^ n))) := by
  have c1 : w.cell? ⟨gz, oz + 1, none⟩ = some vz := (hz.cell _).trans hz1
  have c2 : w.cell? ⟨gx, ox + 1, none⟩ = some (.slice A 1 c) := (hx.cell _).trans hx1
  have c3 : w.cell? ⟨gy, oy, none⟩ = some (.bool false) := (hy.cell _).trans hy0
  have c4 : w.cell? ⟨gy, oy + 1, none⟩ = some (.slice B l d) := (hy.cell _).trans hy1
  have hzne : ∀ k, vz.ownBlock = some k → k ≠ gz := hzr.ne_blk hz htz
  have hxne : ∀ k, vz.ownBlock = some k → k ≠ gx := hzr.ne_blk hx htx
  have con := expNN_any base bx by_ b n l vz mz A B c d w hzr hb hxr hyr hax hay hb2 hbl hnl hsz hv
  have key : ∀ (v : Value) (w1 : World), Fr w w1 (fun k => vz.ownBlock = some k) → w1.cell? ⟨gz, oz + 1, none⟩ = some vz ∧ w1.frozen? ⟨gz, oz + 1, none⟩ = false ∧ (w1.setCell ⟨gz, oz + 1, none⟩ v).cell? ⟨gz, oz + 1, none⟩ = some v ∧
      (w1.setCell ⟨gz, oz + 1, none⟩ v).cell? ⟨gx, ox, none⟩ = some (.bool false) ∧ (w1.setCell ⟨gz, oz + 1, none⟩ v).cell? ⟨gz, oz, none⟩ = some (.bool nz) ∧ (w1.setCell ⟨gz, oz + 1, none⟩ v).frozen? ⟨gz, oz, none⟩ = false ∧
      ((w1.setCell ⟨gz, oz + 1, none⟩ v).setCell ⟨gz, oz, none⟩ (.bool false)).cell? ⟨gz, oz, none⟩ = some (.bool false) := by
    intro v w1 hf
    have b1 : Blk w1 gz tz cz := hz.fr hf (fun h => hzne gz h rfl)
    have b2 : Blk w1 gx tx cx := hx.fr hf (fun h => hxne gx h rfl)
    refine ⟨(b1.cell _).trans hz1, b1.frozen _, ?_, ?_, ?_, ?_, ?_⟩
    · have hlt : oz + 1 < cz.size := (Array.getElem?_eq_some_iff.1 hz1).1
      rw [(b1.set _ _).cell]; simp [hlt]
    · rw [World.cell?_setCell_other _ _ _ _ (by intro e; injection e with e1 e2; omega)]
      exact (b2.cell _).trans hx0
    · rw [World.cell?_setCell_other _ _ _ _ (by intro e; injection e with e1 e2; omega)]
      exact (b1.cell _).trans hz0
    · rw [World.frozen?_setCell]; exact b1.frozen _
    · have hlt : oz < cz.size := (Array.getElem?_eq_some_iff.1 hz0).1
      rw [((b1.set _ _).set _ _).cell]; simp [hlt]
  have fin : ∀ (v : Value) (w1 : World), Own w1 base v (digs 18446744073709551616 (b ^ n)) → (v.ownBlock = vz.ownBlock ∨ ∃ k, v.ownBlock = some k ∧ w.heap.size ≤ k) → Fr w w1 (fun k => vz.ownBlock = some k) →
      IntP w base gz oz tz cz vz false (digs 18446744073709551616 (b ^ n)) (.returned (.pointer (some ⟨gz, oz, none⟩))) ((w1.setCell ⟨gz, oz + 1, none⟩ v).setCell ⟨gz, oz, none⟩ (.bool false)) := by
    intro v w1 hr hrb hf
    have b1 : Blk w1 gz tz cz := hz.fr hf (fun h => hzne gz h rfl)
    refine ⟨rfl, v, ?_, hrb, (b1.set _ _).set _ _, ?_⟩
    · have hg : ∀ k, v.ownBlock = some k → k ≠ gz := hr.room.ne_blk b1 htz
      exact (hr.fr (Fr.setCell (Fr.refl w1 (fun k => k = gz)) (p := ⟨gz, oz + 1, none⟩) (fun _ => rfl) v) hg).fr (Fr.setCell (Fr.refl _ (fun k => k = gz)) (p := ⟨gz, oz, none⟩) (fun _ => rfl) _) hg
    · exact ((hf.mono (fun k _ h => .inr h)).setCell (p := ⟨gz, oz + 1, none⟩) (fun _ => .inl rfl) _).setCell (p := ⟨gz, oz, none⟩) (fun _ => .inl rfl) _
  have hp : 0 < (digs 18446744073709551616 (b ^ n)).length := List.length_pos_iff.2 (digs_ne_nil (by omega) (Nat.pow_pos (by omega)))
  have Con := hide con
  have Key := hide key
  have Fin := hide fin
  have HP := hide hp
  clear hz hz0 hz1 hx hx0 hx1 hy hy0 hy1 key fin hzne hxne con hzr hxr hyr hax hay hp hv hsz
  go_enter Tryz.func95, Tryz.ntmps95
  go_wp2_with fail
  refine (Con.out).mono ?_
  rintro e w1 ⟨R, cr, rfl, hr, hrb, hf⟩
  obtain ⟨k1, k2, k3, k4, k5, k6, k7⟩ := Key.out (.slice R (digs 18446744073709551616 (b ^ n)).length cr) w1 hf
  have HF := hide (Fin.out (.slice R (digs 18446744073709551616 (b ^ n)).length cr) w1 hr hrb hf)
  have hp := HP.out
  clear hr hrb hf Con Key Fin HP
  generalize (digs 18446744073709551616 (b ^ n)).length = q at hp k1 k2 k3 k4 k5 k6 k7 HF ⊢
  go_wp2
  go_ret
  exact HF.out

theorem iExp_any (base bx by_ gz oz gx ox gy oy : Nat) (tz tx ty : TypeId) (cz cx cy : Array Value) (nz : Bool) (vz : Value) (mz b n l : Nat) (A B : Option Addr) (c d : Nat) (w : World)
    (hz : Blk w gz tz cz) (hz0 : cz[oz]? = some (.bool nz)) (hz1 : cz[oz + 1]? = some vz) (hzr : Room w base vz mz) (htz : tz ≠ 84)
    (hx : Blk w gx tx cx) (hx0 : cx[ox]? = some (.bool false)) (hx1 : cx[ox + 1]? = some (.slice A 1 c)) (hxr : Own w bx (.slice A 1 c) [b]) (htx : tx ≠ 84)
    (hy : Blk w gy ty cy) (hy0 : cy[oy]? = some (.bool false)) (hy1 : cy[oy + 1]? = some (.slice B l d)) (hyr : Own w by_ (.slice B l d) (digs 18446744073709551616 n)) (hty : ty ≠ 84)
    (hax : Apart vz (.slice A 1 c)) (hay : Apart vz (.slice B l d)) (hne : gz ≠ gx) (hb : base ≤ w.heap.size) (hb2 : 2 ≤ b) (hbl : b < 18446744073709551616) (hnl : n < 18446744073709551616) (hsz : b ^ (n / 2) < 18446744073709551616 ^ 11) (hv : Vars w base) :
    Calls Tryz.prog 83 #[.pointer (some ⟨gz, oz, none⟩), .pointer (some ⟨gx, ox, none⟩), .pointer (some ⟨gy, oy, none⟩), .pointer none] w (IntP w base gz oz tz cz vz false (digs 18446744073709551616 (b ^ n))) := by
  have Con := hide (iexp_any base bx by_ gz oz gx ox gy oy tz tx ty cz cx cy nz vz mz b n l A B c d w hz hz0 hz1 hzr htz hx hx0 hx1 hxr htx hy hy0 hy1 hyr hty hax hay hne hb hb2 hbl hnl hsz hv)
  clear hz hz0 hz1 hzr hx hx0 hx1 hxr hy hy0 hy1 hyr hax hay hv hsz
  go_enter Tryz.func83, Tryz.ntmps83
  go_wp2_with fail
  refine (Con.out).mono ?_
  rintro e w1 HI
  have HI2 := hide HI
  obtain ⟨rfl, _⟩ := HI
  clear Con
  go_wp2
  go_ret
  exact HI2.out

set_option maxHeartbeats 1000000 in
theorem bexp_any (base bx by_ gz oz gx ox gy oy : Nat) (tz tx ty : TypeId) (cz cx cy : Array Value) (nz mi : Bool) (vz : Value) (mz b n l : Nat) (A B : Option Addr) (c d : Nat) (w : World)
    (hz : Blk w gz tz cz) (hz0 : cz[oz]? = some (.bool nz)) (hz1 : cz[oz + 1]? = some vz) (hz2 : cz[oz + 2]? = some (.bool mi)) (hzr : Room w base vz mz) (htz : tz ≠ 84)
    (hx : Blk w gx tx cx) (hx0 : cx[ox]? = some (.bool false)) (hx1 : cx[ox + 1]? = some (.slice A 1 c)) (hxr : Own w bx (.slice A 1 c) [b]) (htx : tx ≠ 84)
    (hy : Blk w gy ty cy) (hy0 : cy[oy]? = some (.bool false)) (hy1 : cy[oy + 1]? = some (.slice B l d)) (hyr : Own w by_ (.slice B l d) (digs 18446744073709551616 n)) (hty : ty ≠ 84)
    (hax : Apart vz (.slice A 1 c)) (hay : Apart vz (.slice B l d)) (hne : gz ≠ gx) (hney : gz ≠ gy) (hb : base ≤ w.heap.size) (hgz : base ≤ gz) (hb2 : 2 ≤ b) (hbl : b < 18446744073709551616) (hnl : n < 18446744073709551616) (hsz : b ^ (n / 2) < 18446744073709551616 ^ 11) (hv : Vars w base) :
    Calls Tryz.prog 65 #[.pointer (some ⟨gz, oz, none⟩), .pointer (some ⟨gx, ox, none⟩), .pointer (some ⟨gy, oy, none⟩)] w (BigP w base gz oz tz cz vz false false (digs 18446744073709551616 (b ^ n))) := by
  have c1 : w.cell? ⟨gz, oz + 2, none⟩ = some (.bool mi) := (hz.cell _).trans hz2
  have f1 : w.frozen? ⟨gz, oz + 2, none⟩ = false := hz.frozen _
  have hf0 : Fr w (w.setCell ⟨gz, oz + 2, none⟩ (.bool false)) (fun k => k = gz) := (Fr.refl w (fun k => k = gz)).setCell (p := ⟨gz, oz + 2, none⟩) (fun _ => rfl) _
  have con := iExp_any base bx by_ gz oz gx ox gy oy tz tx ty (cz.setIfInBounds (oz + 2) (.bool false)) cx cy nz vz mz b n l A B c d (w.setCell ⟨gz, oz + 2, none⟩ (.bool false)).drew
    (hz.set _ _) (by rw [getElem?_set_ne (by omega)]; exact hz0) (by rw [getElem?_set_ne (by omega)]; exact hz1) (hzr.fr hf0.drew (hzr.ne_blk hz htz)) htz
    (hx.far (p := ⟨gz, oz + 2, none⟩) (Ne.symm hne) _) hx0 hx1 (hxr.fr hf0.drew (hxr.room.ne_blk hz htz)) htx
    (hy.far (p := ⟨gz, oz + 2, none⟩) (Ne.symm hney) _) hy0 hy1 (hyr.fr hf0.drew (hyr.room.ne_blk hz htz)) hty hax hay hne (by simpa using hb) hb2 hbl hnl hsz (hv.fr hf0.drew (fun k hk => by rw [hk]; exact hgz))
  have fin : ∀ e w', IntP (w.setCell ⟨gz, oz + 2, none⟩ (.bool false)).drew base gz oz tz (cz.setIfInBounds (oz + 2) (.bool false)) vz false (digs 18446744073709551616 (b ^ n)) e w' → BigP w base gz oz tz cz vz false false (digs 18446744073709551616 (b ^ n)) e w' := by
    rintro e w' ⟨he, v, hr, hrb, hB, hF⟩
    obtain ⟨B, d, rfl⟩ := hr.room.slice
    refine ⟨he, B, d, hr, ?_, hB, ?_⟩
    · simpa using hrb
    · exact Fr.step ((hf0.mono (fun k _ h => .inl h)).drew) hF (fun i _ h => h)
  have Con := hide con
  have Fin := hide fin
  clear hz hz0 hz1 hz2 hx hx0 hx1 hy hy0 hy1 con fin hf0 hxr hyr hzr hax hay hv hsz
  go_enter Tryz.func65, Tryz.ntmps65
  go_wp2_with fail
  go_region_with (go_at_call 83; go_loud (refine (Con.out).mono ?_; rintro e w1 HI; have HI2 := hide HI; obtain ⟨rfl, _⟩ := HI))
  all_goals go_wp2
  all_goals go_ret
  all_goals exact Fin.out _ _ HI2.out
end Go.Proofs.YtlaepcfooopbmaaGreatDoor

/- Small laws for the writing of an Int: its row first, then its sign. -/
set_option linter.unusedVariables false
set_option linter.unusedSimpArgs false
namespace Go.Proofs.YtlaepcfooopbmaaGreatDoor
open Go.RowKit

/-- What can be read while an Int is written. -/
theorem int_key {w w1 : World} {g o : Nat} {t : TypeId} {cs : Array Value} {nz : Bool} {vz : Value} (hz : Blk w g t cs) (hz0 : cs[o]? = some (.bool nz)) (hz1 : cs[o + 1]? = some vz) (hzne : ∀ k, vz.ownBlock = some k → k ≠ g) (v : Value) (hf : Fr w w1 (fun k => vz.ownBlock = some k)) :
    w1.cell? ⟨g, o + 1, none⟩ = some vz ∧ w1.frozen? ⟨g, o + 1, none⟩ = false ∧ (w1.setCell ⟨g, o + 1, none⟩ v).cell? ⟨g, o + 1, none⟩ = some v ∧ (w1.setCell ⟨g, o + 1, none⟩ v).cell? ⟨g, o, none⟩ = some (.bool nz) ∧ (w1.setCell ⟨g, o + 1, none⟩ v).frozen? ⟨g, o, none⟩ = false := by
  have b1 : Blk w1 g t cs := hz.fr hf (fun h => hzne g h rfl)
  refine ⟨(b1.cell _).trans hz1, b1.frozen _, ?_, ?_, ?_⟩
  · have hlt : o + 1 < cs.size := (Array.getElem?_eq_some_iff.1 hz1).1
    rw [(b1.set _ _).cell]; simp [hlt]
  · rw [World.cell?_setCell_other _ _ _ _ (by intro e; injection e with e1 e2; omega)]
    exact (b1.cell _).trans hz0
  · rw [World.frozen?_setCell]; exact b1.frozen _

/-- What is left when it is written; the world between may have drawn. -/
theorem int_fin {w w1 w2 : World} {base g o : Nat} {t : TypeId} {cs : Array Value} {vz : Value} {xs : List Nat} (hz : Blk w g t cs) (ht : t ≠ 84) (hzne : ∀ k, vz.ownBlock = some k → k ≠ g) (v : Value) (n : Bool) (hw2 : w2 = w1.setCell ⟨g, o + 1, none⟩ v ∨ w2 = (w1.setCell ⟨g, o + 1, none⟩ v).drew) (hr : Own w1 base v xs) (hrb : v.ownBlock = vz.ownBlock ∨ ∃ k, v.ownBlock = some k ∧ w.heap.size ≤ k) (hf : Fr w w1 (fun k => vz.ownBlock = some k)) :
    IntP w base g o t cs vz n xs (.returned (.pointer (some ⟨g, o, none⟩))) (w2.setCell ⟨g, o, none⟩ (.bool n)) := by
  have b1 : Blk w1 g t cs := hz.fr hf (fun h => hzne g h rfl)
  have hg : ∀ k, v.ownBlock = some k → k ≠ g := hr.room.ne_blk b1 ht
  have hF2 : Fr w1 w2 (fun k => k = g) := by
    rcases hw2 with rfl | rfl
    · exact Fr.setCell (Fr.refl w1 (fun k => k = g)) (p := ⟨g, o + 1, none⟩) (fun _ => rfl) v
    · exact (Fr.setCell (Fr.refl w1 (fun k => k = g)) (p := ⟨g, o + 1, none⟩) (fun _ => rfl) v).drew
  have hB2 : Blk w2 g t (cs.setIfInBounds (o + 1) v) := by
    rcases hw2 with rfl | rfl
    · exact b1.set _ _
    · exact b1.set _ _
  refine ⟨rfl, v, ?_, hrb, hB2.set _ _, ?_⟩
  · exact (hr.fr hF2 hg).fr (Fr.setCell (Fr.refl _ (fun k => k = g)) (p := ⟨g, o, none⟩) (fun _ => rfl) _) hg
  · exact (Fr.step (hf.mono (fun k _ h => .inr h)) hF2 (fun i _ h => .inl h)).setCell (p := ⟨g, o, none⟩) (fun _ => .inl rfl) _

/-- From an Int to the BigInt round it, whose mark has been struck. -/
theorem big_fin {w W : World} {base g o : Nat} {t : TypeId} {cs : Array Value} {vz : Value} {n mi : Bool} {xs : List Nat} (hW : W = w.setCell ⟨g, o + 2, none⟩ (.bool mi) ∨ W = (w.setCell ⟨g, o + 2, none⟩ (.bool mi)).drew) {e : Ending} {w' : World} (h : IntP W base g o t (cs.setIfInBounds (o + 2) (.bool mi)) vz n xs e w') : BigP w base g o t cs vz n mi xs e w' := by
  obtain ⟨he, v, hr, hrb, hB, hF⟩ := h
  obtain ⟨A, c, rfl⟩ := hr.room.slice
  have hf0 : Fr w W (fun k => k = g) := by
    rcases hW with rfl | rfl
    · exact (Fr.refl w (fun k => k = g)).setCell (p := ⟨g, o + 2, none⟩) (fun _ => rfl) _
    · exact ((Fr.refl w (fun k => k = g)).setCell (p := ⟨g, o + 2, none⟩) (fun _ => rfl) _).drew
  have hs : W.heap.size = w.heap.size := by rcases hW with rfl | rfl <;> simp
  exact ⟨he, A, c, hr, by rw [hs] at hrb; exact hrb, hB, Fr.step (hf0.mono (fun k _ h => .inl h)) hF (fun i _ h => h)⟩
end Go.Proofs.YtlaepcfooopbmaaGreatDoor

/- Walks: Int.Lsh, BigInt.Lsh of 1 in its own place. -/
set_option linter.unusedVariables false
set_option linter.unusedSimpArgs false
namespace Go.Proofs.YtlaepcfooopbmaaGreatDoor
open Go.RowKit

set_option maxHeartbeats 1000000 in
theorem iLsh_any (base g o gx c s : Nat) (t : TypeId) (cs : Array Value) (w : World) (hz : Blk w g t cs) (hz0 : cs[o]? = some (.bool false)) (hz1 : cs[o + 1]? = some (.slice (some ⟨gx, 0, none⟩) 1 c)) (hr : Own w base (.slice (some ⟨gx, 0, none⟩) 1 c) [1]) (ht : t ≠ 84) (hb : base ≤ w.heap.size) (hs : s ≤ 127) :
    Calls Tryz.prog 81 #[.pointer (some ⟨g, o, none⟩), .pointer (some ⟨g, o, none⟩), .int .u64 (s : Int)] w (IntP w base g o t cs (.slice (some ⟨gx, 0, none⟩) 1 c) false (digs 18446744073709551616 (2 ^ s))) := by
  have c1 : w.cell? ⟨g, o + 1, none⟩ = some (.slice (some ⟨gx, 0, none⟩) 1 c) := (hz.cell _).trans hz1
  have hzne : ∀ k, (Value.slice (some ⟨gx, 0, none⟩) 1 c).ownBlock = some k → k ≠ g := hr.room.ne_blk hz ht
  have Con := hide (nlsh_any base gx c s w.drew hr hb hs)
  have Key := hide (fun v w1 hf => int_key (w1 := w1) hz hz0 hz1 hzne v hf)
  have Fin := hide (fun v w1 w2 h1 h2 h3 h4 => int_fin (base := base) (w1 := w1) (w2 := w2) (o := o) (xs := digs 18446744073709551616 (2 ^ s)) hz ht hzne v false h1 h2 h3 h4)
  clear hz hz0 hz1 hr hzne
  generalize digs 18446744073709551616 (2 ^ s) = D at *
  go_enter Tryz.func81, Tryz.ntmps81
  go_wp2_with fail
  go_region_with (go_at_call 93; go_loud (refine (Con.out).mono ?_; rintro e w1 ⟨R, cr, rfl, hr, hrb, hf⟩; obtain ⟨k1, k2, k3, k4, k5⟩ := Key.out (.slice R D.length cr) w1 ⟨hf.os, hf.tape, hf.output, hf.size, hf.block⟩; have HF := hide (fun w2 h => Fin.out (.slice R D.length cr) w1 w2 h hr hrb ⟨hf.os, hf.tape, hf.output, hf.size, hf.block⟩); clear hr hrb hf))
  all_goals clear Con Key Fin c1
  all_goals generalize D.length = q at k1 k2 k3 k4 k5 HF ⊢
  all_goals go_wp2
  all_goals go_ret
  all_goals exact HF.out _ (.inl rfl)
set_option maxHeartbeats 1000000 in
theorem bLsh_any (base g gx c s : Nat) (w : World) (hz : Blk w g 77 #[.bool false, .slice (some ⟨gx, 0, none⟩) 1 c, .bool false]) (hr : Own w base (.slice (some ⟨gx, 0, none⟩) 1 c) [1]) (hb : base ≤ w.heap.size) (hs : s ≤ 127) :
    Calls Tryz.prog 62 #[.pointer (some ⟨g, 0, none⟩), .pointer (some ⟨g, 0, none⟩), .int .u64 (s : Int)] w (BigP w base g 0 77 #[.bool false, .slice (some ⟨gx, 0, none⟩) 1 c, .bool false] (.slice (some ⟨gx, 0, none⟩) 1 c) false false (digs 18446744073709551616 (2 ^ s))) := by
  have c1 : w.cell? ⟨g, 2, none⟩ = some (.bool false) := hz.cell 2
  have f1 : w.frozen? ⟨g, 2, none⟩ = false := hz.frozen _
  have hf0 : Fr w (w.setCell ⟨g, 2, none⟩ (.bool false)).drew (fun k => k = g) := ((Fr.refl w (fun k => k = g)).setCell (p := ⟨g, 2, none⟩) (fun _ => rfl) _).drew
  have con := iLsh_any base g 0 gx c s 77 #[.bool false, .slice (some ⟨gx, 0, none⟩) 1 c, .bool false] (w.setCell ⟨g, 2, none⟩ (.bool false)).drew (hz.set 2 (.bool false)) rfl rfl (hr.fr hf0 (hr.room.ne_blk hz (by decide))) (by decide) (by simpa using hb) hs
  have fin := fun e w' h => big_fin (mi := false) (W := (w.setCell ⟨g, 2, none⟩ (.bool false)).drew) (w := w) (base := base) (g := g) (o := 0) (t := 77) (cs := #[.bool false, .slice (some ⟨gx, 0, none⟩) 1 c, .bool false]) (vz := .slice (some ⟨gx, 0, none⟩) 1 c) (n := false) (xs := digs 18446744073709551616 (2 ^ s)) (.inr rfl) (e := e) (w' := w') h
  have Con := hide con
  have Fin := hide fin
  clear hz con fin hf0 hr
  generalize digs 18446744073709551616 (2 ^ s) = D at *
  go_enter Tryz.func62, Tryz.ntmps62
  go_wp2_with fail
  go_region_with (go_at_call 81; go_loud (refine (Con.out).mono ?_; rintro e w1 HI; have HI2 := hide HI; obtain ⟨rfl, _⟩ := HI))
  all_goals go_wp2
  all_goals go_ret
  all_goals exact Fin.out _ _ HI2.out
end Go.Proofs.YtlaepcfooopbmaaGreatDoor

/- Walks: bitsDiv, reciprocalWord, divWW. -/
set_option linter.unusedVariables false
set_option linter.unusedSimpArgs false
namespace Go.Proofs.YtlaepcfooopbmaaGreatDoor
open Go.RowKit

theorem bitsDiv_any (hi lo y : Nat) (w : World) (hy : y < 18446744073709551616) (hlo : lo < 18446744073709551616) (hhi : hi < y) :
    Calls Tryz.prog 206 #[.int .u64 (hi : Int), .int .u64 (lo : Int), .int .u64 (y : Int)] w (DivP hi lo y w) := by
  have Con := hide (bitsDiv64_any hi lo y w hy hlo hhi)
  go_enter Tryz.func206, Tryz.ntmps206
  go_wp2_with fail
  refine (Con.out).mono ?_
  rintro e w1 ⟨q, r, rfl, h1, h2⟩
  have HF := hide (And.intro h1 h2)
  clear h1 h2
  go_wp2
  go_ret2
  exact ⟨q, r, rfl, HF.out.1, HF.out.2⟩

theorem u64_not (d : Nat) (h : d < 18446744073709551616) : bits .xor .u64 IntKind.u64.max (d : Int) = ((18446744073709551615 - d : Nat) : Int) := by
  show IntKind.u64.wrap ((BitVec.ofInt 64 IntKind.u64.max ^^^ BitVec.ofInt 64 (d : Int)).toNat : Int) = _
  have e : BitVec.ofInt 64 IntKind.u64.max = BitVec.allOnes 64 := by decide
  rw [e, BitVec.allOnes_xor, BitVec.toNat_not, ofInt_u64 d h, IntKind.wrap_u64]
  omega

/-- The reciprocal of a word, shifted. -/
def recN (y : Nat) : Nat := 340282366920938463463374607431768211455 / (y * 2 ^ nlzN y) - 18446744073709551616
theorem rec_spec (y : Nat) (h0 : 0 < y) (hy : y < 18446744073709551616) : ((18446744073709551615 - y * 2 ^ nlzN y) * 18446744073709551616 + 18446744073709551615) / (y * 2 ^ nlzN y) = recN y := by
  obtain ⟨hn, h1, h2⟩ := nlz_spec y h0 hy
  unfold recN
  generalize y * 2 ^ nlzN y = d at *
  have e : 340282366920938463463374607431768211455 = ((18446744073709551615 - d) * 18446744073709551616 + 18446744073709551615) + d * 18446744073709551616 := by
    omega
  rw [e, Nat.add_mul_div_left _ _ (by omega), Nat.add_sub_cancel]

theorem recip_any (y : Nat) (w : World) (h0 : 0 < y) (hy : y < 18446744073709551616) :
    Calls Tryz.prog 207 #[.int .u64 (y : Int)] w fun e w' => ∃ m : Nat, e = .returned (.int .u64 (m : Int)) ∧ Hid (m = recN y) ∧ Below w.heap.size w w' := by
  obtain ⟨hn, h1, h2⟩ := nlz_spec y h0 hy
  have hr := rec_spec y h0 hy
  have Con := hide (nlz_any y hy w)
  obtain ⟨n, hn'⟩ : ∃ n, n = nlzN y := ⟨_, rfl⟩
  obtain ⟨d, hd⟩ : ∃ d, d = y * 2 ^ nlzN y := ⟨_, rfl⟩
  obtain ⟨c, hc⟩ : ∃ c, c = 18446744073709551615 - d := ⟨_, rfl⟩
  rw [← hd] at h1 h2 hr
  rw [← hc] at hr
  have f1 : IntKind.u64.wrap ((y : Int) * 2 ^ n) = (d : Int) := by
    rw [show ((y : Int) * 2 ^ n) = ((y * 2 ^ n : Nat) : Int) by simp, hn', ← hd, wrpN, Nat.mod_eq_of_lt h2]
  have f2 : bits .xor .u64 IntKind.u64.max (d : Int) = (c : Int) := by rw [u64_not d h2, ← hc]
  rw [← hn'] at hn
  have con2 := bitsDiv_any c 18446744073709551615 d w h2 (by omega) (by omega)
  rw [← hn'] at Con
  have Con2 := hide con2
  have HR := hide hr
  clear hn' hd hc hr con2
  go_enter Tryz.func207, Tryz.ntmps207
  go_wp2_with fail
  refine (Con.out).mono ?_
  rintro e w1 ⟨rfl, rfl⟩
  go_wp2_with fail
  refine (Con2.out).mono ?_
  rintro e w2 ⟨q, r, rfl, h3, h4⟩
  have HF : Hid (q = recN y ∧ Below w1.heap.size w1 w2) := ⟨h3.out.1.trans HR.out, h4⟩
  clear h3 h4
  go_wp2
  go_ret
  exact ⟨q, rfl, HF.out.1, HF.out.2⟩
end Go.Proofs.YtlaepcfooopbmaaGreatDoor

/- Walks: divWW. -/
set_option linter.unusedVariables false
set_option linter.unusedSimpArgs false
namespace Go.Proofs.YtlaepcfooopbmaaGreatDoor
open Go.RowKit

theorem join_half {u l n1 n0 : Nat} (h1 : n1 = l / 4294967296) (h0 : n0 = l % 4294967296) : u * 18446744073709551616 + l = (u * 4294967296 + n1) * 4294967296 + n0 := by omega
theorem recN_lt (y : Nat) (h0 : 0 < y) (hy : y < 18446744073709551616) : recN y < 18446744073709551616 := by
  obtain ⟨hn, h1, h2⟩ := nlz_spec y h0 hy
  unfold recN
  generalize y * 2 ^ nlzN y = d at *
  have : 340282366920938463463374607431768211455 / d < 2 * 18446744073709551616 := by
    rw [Nat.div_lt_iff_lt_mul (by omega)]
    omega
  omega

set_option maxHeartbeats 600000 in
set_option maxRecDepth 20000 in
theorem divWW_any (x1 x0 y m : Nat) (w : World) (hy : y < 18446744073709551616) (hx0 : x0 < 18446744073709551616) (hx1 : x1 < y) (hmr : m = recN y) :
    Calls Tryz.prog 208 #[.int .u64 (x1 : Int), .int .u64 (x0 : Int), .int .u64 (y : Int), .int .u64 (m : Int)] w (DivP x1 x0 y w) := by
  have hm : m < 18446744073709551616 := by rw [hmr]; exact recN_lt y (by omega) hy
  have Con := hide (nlz_any y hy w)
  obtain ⟨n, d, a, b, u, l, y1, y0, n1, n0, hn, hn63, S⟩ := split_of x1 x0 y hy hx0 hx1
  have gd : 9223372036854775808 ≤ d := by have := S.hd; have := S.h2; omega
  have gd1 : d < 18446744073709551616 := by have := S.hd; have := S.h2; omega
  have gu := S.hu
  have gl : l < 18446744073709551616 := by have := S.F8; have := S.h2; omega
  have HM : Hid (m = 340282366920938463463374607431768211455 / d - 18446744073709551616) := by
    show m = _
    rw [hmr, S.hdy, hn]; rfl
  have HT : Hid (u * 18446744073709551616 + l = (x1 * 18446744073709551616 + x0) * 2 ^ n ∧ d = y * 2 ^ n) := by
    refine ⟨?_, S.hdy⟩
    have e1 := S.hN
    have e2 := S.F8
    have e3 := S.F9
    rw [show (4294967295 : Int) = ((4294967295 : Nat) : Int) from rfl, u64_and_nat _ _ gl (by omega), nat_low32] at e3
    rw [← e1]
    clear e1 Con HM hm
    exact join_half (by omega) (by omega)
  rw [← hn] at Con
  obtain ⟨F1, F2, F3, F4, F5, F6, F7, F8, F9, -, -, -, -, -⟩ := S
  clear hmr F6 F7 F8 F9
  by_cases hz : n = 0
  · have z1 : d = y := by have := HT.out.2; rw [this, hz]; simp
    have z2 : u = x1 ∧ l = x0 := by
      have h1 := HT.out.1
      rw [hz] at h1
      have h2 : (x1 * 18446744073709551616 + x0) * 2 ^ 0 = x1 * 18446744073709551616 + x0 := by simp
      rw [h2] at h1
      omega
    obtain ⟨z2, z3⟩ := z2
    subst z1 z2 z3
    subst hz
    clear F1 F2 F3 F4 F5 hn
    go_enter Tryz.func208, Tryz.ntmps208
    go_wp2_with fail
    refine (Con.out).mono ?_
    rintro e w1 ⟨rfl, rfl⟩
    go_wp2_with fail
    refine (mul_any m u hm (by omega) _).mono ?_
    rintro e w2 ⟨th, tl, rfl, q1, rfl⟩
    go_wp2_with fail
    refine (add_any tl l 0 (by omega) _).mono ?_
    rintro e w3 ⟨s1, cc, rfl, q2, rfl⟩
    have hcc : cc ≤ 1 := by have := q1.out.2; have := q2.out.2; omega
    go_wp2_with fail
    refine (add_any th u cc hcc _).mono ?_
    rintro e w4 ⟨t, t', rfl, q3, rfl⟩
    have ht : t < 18446744073709551616 := by have := q3.out.1; omega
    go_wp2_with fail
    refine (mul_any d t (by omega) ht _).mono ?_
    rintro e w5 ⟨dq1, dq0, rfl, q4, rfl⟩
    go_wp2_with fail
    refine (sub_any l dq0 0 (by omega) _).mono ?_
    rintro e w6 ⟨r0, bb, rfl, q5, rfl⟩
    have hbb : bb ≤ 1 := by have := q5.out.2; unfold bor at this; split at this <;> omega
    go_wp2_with fail
    refine (sub_any u dq1 bb hbb _).mono ?_
    rintro e w7 ⟨r1, r1', rfl, q6, rfl⟩
    obtain ⟨_, r, hr, hrl, hr0, hr1⟩ := divww_math gd gd1 gu gl HM.out q1.out q2.out q3.out.1 q4.out q5.out.1 q5.out.2 q6.out.1
    have hT := HT.out
    have fin : ∀ q rr Rf : Nat, u * 18446744073709551616 + l = d * q + rr → rr < d → Rf = rr / 2 ^ 0 → ∀ W : World, DivP u l d W (.returned (.tuple #[.int .u64 (q : Int), .int .u64 (Rf : Int)])) W := by
      intro q rr Rf k1 k2 k3 W
      obtain ⟨z1, z2⟩ := dww_fix (by omega : 0 < d) k1 k2
      refine ⟨q, Rf, rfl, ⟨?_, ?_⟩, Below.refl _ _⟩
      · exact z1
      · rw [k3, z2]; simp
    have Fin := hide fin
    have HR := hide (And.intro hr (And.intro hrl (And.intro hr0 hr1)))
    clear fin hT hr hrl hr0 hr1 q1 q2 q3 q4 q5 q6
    by_cases k1 : r1 = 0
    · have k1b : ((r1 : Int) != 0) = false := by subst k1; rfl
      have k1c : ((r1 : Int) == 0) = true := by subst k1; rfl
      by_cases k2 : r0 < d
      · skip
        have HF := hide (Fin.out t r0 r0 (by have := HR.out; omega) k2 (by simp))
        have k2i : ¬ ((d : Int) ≤ r0) := by omega
        clear k1 k2 Fin HR
        go_wp2
        go_ret2
        exact HF.out _
      · obtain ⟨rf, hrf⟩ : ∃ z, z = r0 - d := ⟨_, rfl⟩
        skip
        obtain ⟨tf, htf⟩ : ∃ z, z = t + 1 := ⟨_, rfl⟩
        have e0 : u * 18446744073709551616 + l = d * tf + rf := by
          have := HR.out
          rw [htf, Nat.mul_add, Nat.mul_one]
          omega
        have htb : tf < 18446744073709551616 := by
          have : d * tf < d * 18446744073709551616 := by omega
          exact Nat.lt_of_mul_lt_mul_left this
        have v2 : IntKind.u64.wrap ((r0 : Int) - (d : Int)) = (rf : Int) := by rw [IntKind.wrap_u64]; have := HR.out; omega
        have v3 : IntKind.u64.wrap ((t : Int) + 1) = (tf : Int) := by rw [IntKind.wrap_u64]; omega
        have HF := hide (Fin.out tf rf rf e0 (by have := HR.out; omega) (by simp))
        have k2i : ((d : Int) ≤ r0) := by omega
        clear hrf htf e0 htb k1 k2 Fin HR
        go_wp2
        go_ret2
        exact HF.out _
    · have k1b : ((r1 : Int) != 0) = true := by rw [bne_iff_ne]; omega
      have k1c : ((r1 : Int) == 0) = false := beq_eq_false_iff_ne.2 (by omega)
      obtain ⟨ra, hra⟩ : ∃ z, z = r - d := ⟨_, rfl⟩
      obtain ⟨ta, hta⟩ : ∃ z, z = t + 1 := ⟨_, rfl⟩
      have e0 : u * 18446744073709551616 + l = d * ta + ra := by
        have := HR.out
        rw [hta, Nat.mul_add, Nat.mul_one]
        omega
      have htb : ta < 18446744073709551616 := by
        have : d * ta < d * 18446744073709551616 := by omega
        exact Nat.lt_of_mul_lt_mul_left this
      have v2 : IntKind.u64.wrap ((r0 : Int) - (d : Int)) = (ra : Int) := by rw [IntKind.wrap_u64]; have := HR.out; omega
      have v3 : IntKind.u64.wrap ((t : Int) + 1) = (ta : Int) := by rw [IntKind.wrap_u64]; omega
      have hrab : ra < 18446744073709551616 := by have := HR.out; omega
      by_cases k2 : ra < d
      · skip
        have HF := hide (Fin.out ta ra ra e0 k2 (by simp))
        have k2i : ¬ ((d : Int) ≤ ra) := by omega
        clear hra hta e0 htb hrab k1 k2 Fin HR
        go_wp2
        go_ret2
        exact HF.out _
      · obtain ⟨rf, hrf⟩ : ∃ z, z = ra - d := ⟨_, rfl⟩
        skip
        obtain ⟨tf, htf⟩ : ∃ z, z = ta + 1 := ⟨_, rfl⟩
        have e1 : u * 18446744073709551616 + l = d * tf + rf := by
          rw [htf, Nat.mul_add, Nat.mul_one]
          omega
        have htb2 : tf < 18446744073709551616 := by
          have : d * tf < d * 18446744073709551616 := by omega
          exact Nat.lt_of_mul_lt_mul_left this
        have v4 : IntKind.u64.wrap ((ra : Int) - (d : Int)) = (rf : Int) := by rw [IntKind.wrap_u64]; omega
        have v5 : IntKind.u64.wrap ((ta : Int) + 1) = (tf : Int) := by rw [IntKind.wrap_u64]; omega
        have HF := hide (Fin.out tf rf rf e1 (by omega) (by simp))
        have k2i : ((d : Int) ≤ ra) := by omega
        clear hrf htf hra hta e0 htb e1 htb2 hrab k1 k2 Fin HR
        go_wp2
        go_ret2
        exact HF.out _
  · have hnb : ((n : Int) != 0) = true := by rw [bne_iff_ne]; omega
    clear hn
    go_enter Tryz.func208, Tryz.ntmps208
    go_wp2_with fail
    refine (Con.out).mono ?_
    rintro e w1 ⟨rfl, rfl⟩
    go_wp2_with fail
    refine (mul_any m u hm (by omega) _).mono ?_
    rintro e w2 ⟨th, tl, rfl, q1, rfl⟩
    go_wp2_with fail
    refine (add_any tl l 0 (by omega) _).mono ?_
    rintro e w3 ⟨s1, cc, rfl, q2, rfl⟩
    have hcc : cc ≤ 1 := by have := q1.out.2; have := q2.out.2; omega
    go_wp2_with fail
    refine (add_any th u cc hcc _).mono ?_
    rintro e w4 ⟨t, t', rfl, q3, rfl⟩
    have ht : t < 18446744073709551616 := by have := q3.out.1; omega
    go_wp2_with fail
    refine (mul_any d t (by omega) ht _).mono ?_
    rintro e w5 ⟨dq1, dq0, rfl, q4, rfl⟩
    go_wp2_with fail
    refine (sub_any l dq0 0 (by omega) _).mono ?_
    rintro e w6 ⟨r0, bb, rfl, q5, rfl⟩
    have hbb : bb ≤ 1 := by have := q5.out.2; unfold bor at this; split at this <;> omega
    go_wp2_with fail
    refine (sub_any u dq1 bb hbb _).mono ?_
    rintro e w7 ⟨r1, r1', rfl, q6, rfl⟩
    obtain ⟨_, r, hr, hrl, hr0, hr1⟩ := divww_math gd gd1 gu gl HM.out q1.out q2.out q3.out.1 q4.out q5.out.1 q5.out.2 q6.out.1
    have hT := HT.out
    have fin : ∀ q rr Rf : Nat, u * 18446744073709551616 + l = d * q + rr → rr < d → Rf = rr / 2 ^ n → ∀ W : World, DivP x1 x0 y W (.returned (.tuple #[.int .u64 (q : Int), .int .u64 (Rf : Int)])) W := by
      intro q rr Rf k1 k2 k3 W
      obtain ⟨z1, z2⟩ := dww_fix (by omega : 0 < d) k1 k2
      refine ⟨q, Rf, rfl, ⟨?_, ?_⟩, Below.refl _ _⟩
      · rw [z1, hT.1, hT.2, Nat.mul_div_mul_right _ _ (Nat.two_pow_pos n)]
      · rw [k3, z2, hT.1, hT.2, Nat.mul_mod_mul_right, Nat.mul_div_cancel _ (Nat.two_pow_pos n)]
    have Fin := hide fin
    have HR := hide (And.intro hr (And.intro hrl (And.intro hr0 hr1)))
    clear fin hT hr hrl hr0 hr1 q1 q2 q3 q4 q5 q6
    by_cases k1 : r1 = 0
    · have k1b : ((r1 : Int) != 0) = false := by subst k1; rfl
      have k1c : ((r1 : Int) == 0) = true := by subst k1; rfl
      by_cases k2 : r0 < d
      · obtain ⟨Rf, hRf⟩ : ∃ z, z = r0 / 2 ^ n := ⟨_, rfl⟩
        have v1 : (r0 : Int) / 2 ^ n = (Rf : Int) := by rw [hRf]; simp
        have HF := hide (Fin.out t r0 Rf (by have := HR.out; omega) k2 hRf)
        have k2i : ¬ ((d : Int) ≤ r0) := by omega
        clear hRf k1 k2 Fin HR
        go_wp2
        go_ret2
        exact HF.out _
      · obtain ⟨rf, hrf⟩ : ∃ z, z = r0 - d := ⟨_, rfl⟩
        obtain ⟨Rf, hRf⟩ : ∃ z, z = rf / 2 ^ n := ⟨_, rfl⟩
        obtain ⟨tf, htf⟩ : ∃ z, z = t + 1 := ⟨_, rfl⟩
        have e0 : u * 18446744073709551616 + l = d * tf + rf := by
          have := HR.out
          rw [htf, Nat.mul_add, Nat.mul_one]
          omega
        have htb : tf < 18446744073709551616 := by
          have : d * tf < d * 18446744073709551616 := by omega
          exact Nat.lt_of_mul_lt_mul_left this
        have v1 : (rf : Int) / 2 ^ n = (Rf : Int) := by rw [hRf]; simp
        have v2 : IntKind.u64.wrap ((r0 : Int) - (d : Int)) = (rf : Int) := by rw [IntKind.wrap_u64]; have := HR.out; omega
        have v3 : IntKind.u64.wrap ((t : Int) + 1) = (tf : Int) := by rw [IntKind.wrap_u64]; omega
        have HF := hide (Fin.out tf rf Rf e0 (by have := HR.out; omega) hRf)
        have k2i : ((d : Int) ≤ r0) := by omega
        clear hRf hrf htf e0 htb k1 k2 Fin HR
        go_wp2
        go_ret2
        exact HF.out _
    · have k1b : ((r1 : Int) != 0) = true := by rw [bne_iff_ne]; omega
      have k1c : ((r1 : Int) == 0) = false := beq_eq_false_iff_ne.2 (by omega)
      obtain ⟨ra, hra⟩ : ∃ z, z = r - d := ⟨_, rfl⟩
      obtain ⟨ta, hta⟩ : ∃ z, z = t + 1 := ⟨_, rfl⟩
      have e0 : u * 18446744073709551616 + l = d * ta + ra := by
        have := HR.out
        rw [hta, Nat.mul_add, Nat.mul_one]
        omega
      have htb : ta < 18446744073709551616 := by
        have : d * ta < d * 18446744073709551616 := by omega
        exact Nat.lt_of_mul_lt_mul_left this
      have v2 : IntKind.u64.wrap ((r0 : Int) - (d : Int)) = (ra : Int) := by rw [IntKind.wrap_u64]; have := HR.out; omega
      have v3 : IntKind.u64.wrap ((t : Int) + 1) = (ta : Int) := by rw [IntKind.wrap_u64]; omega
      have hrab : ra < 18446744073709551616 := by have := HR.out; omega
      by_cases k2 : ra < d
      · obtain ⟨Rf, hRf⟩ : ∃ z, z = ra / 2 ^ n := ⟨_, rfl⟩
        have v1 : (ra : Int) / 2 ^ n = (Rf : Int) := by rw [hRf]; simp
        have HF := hide (Fin.out ta ra Rf e0 k2 hRf)
        have k2i : ¬ ((d : Int) ≤ ra) := by omega
        clear hRf hra hta e0 htb hrab k1 k2 Fin HR
        go_wp2
        go_ret2
        exact HF.out _
      · obtain ⟨rf, hrf⟩ : ∃ z, z = ra - d := ⟨_, rfl⟩
        obtain ⟨Rf, hRf⟩ : ∃ z, z = rf / 2 ^ n := ⟨_, rfl⟩
        obtain ⟨tf, htf⟩ : ∃ z, z = ta + 1 := ⟨_, rfl⟩
        have e1 : u * 18446744073709551616 + l = d * tf + rf := by
          rw [htf, Nat.mul_add, Nat.mul_one]
          omega
        have htb2 : tf < 18446744073709551616 := by
          have : d * tf < d * 18446744073709551616 := by omega
          exact Nat.lt_of_mul_lt_mul_left this
        have v1 : (rf : Int) / 2 ^ n = (Rf : Int) := by rw [hRf]; simp
        have v4 : IntKind.u64.wrap ((ra : Int) - (d : Int)) = (rf : Int) := by rw [IntKind.wrap_u64]; omega
        have v5 : IntKind.u64.wrap ((ta : Int) + 1) = (tf : Int) := by rw [IntKind.wrap_u64]; omega
        have HF := hide (Fin.out tf rf Rf e1 (by omega) hRf)
        have k2i : ((d : Int) ≤ ra) := by omega
        clear hRf hrf htf hra hta e0 htb e1 htb2 hrab k1 k2 Fin HR
        go_wp2
        go_ret2
        exact HF.out _
end Go.Proofs.YtlaepcfooopbmaaGreatDoor

/- The division of a row of words by one word, as a plain function. -/
set_option linter.unusedVariables false
set_option linter.unusedSimpArgs false
namespace Go.Proofs.YtlaepcfooopbmaaGreatDoor

/-- Quotient's words (lowest first, as many as there are) and what is left. -/
def divD (y : Nat) : List Nat → List Nat × Nat
  | [] => ([], 0)
  | x :: xs => let p := divD y xs; ((p.2 * 18446744073709551616 + x) / y :: p.1, (p.2 * 18446744073709551616 + x) % y)

theorem divD_length (y : Nat) : ∀ xs, (divD y xs).1.length = xs.length
  | [] => rfl
  | x :: xs => by simp [divD, divD_length y xs]
theorem divD_rest {y : Nat} (hy : 0 < y) : ∀ xs, (divD y xs).2 < y
  | [] => hy
  | x :: xs => Nat.mod_lt _ hy
theorem divD_dig {y : Nat} (hy : 0 < y) : ∀ xs, Dig 18446744073709551616 xs → Dig 18446744073709551616 (divD y xs).1
  | [], _ => fun d hd => by simp [divD] at hd
  | x :: xs, h => by
    intro d hd
    simp only [divD, List.mem_cons] at hd
    rcases hd with rfl | hd
    · have h1 := divD_rest hy xs
      have h2 : x < 18446744073709551616 := h x (by simp)
      rw [Nat.div_lt_iff_lt_mul hy]
      have : ((divD y xs).2 + 1) * 18446744073709551616 ≤ y * 18446744073709551616 := Nat.mul_le_mul_right _ h1
      omega
    · exact divD_dig hy xs (fun e he => h e (by simp [he])) d hd
theorem divD_val (y : Nat) : ∀ xs, dval 18446744073709551616 xs = y * dval 18446744073709551616 (divD y xs).1 + (divD y xs).2
  | [] => by simp [dval, divD]
  | x :: xs => by
    have h1 := divD_val y xs
    have h2 := Nat.div_add_mod ((divD y xs).2 * 18446744073709551616 + x) y
    simp only [divD, dval]
    rw [h1]
    generalize (divD y xs).1 = q at *
    generalize (divD y xs).2 = r at *
    generalize (r * 18446744073709551616 + x) / y = a at *
    generalize (r * 18446744073709551616 + x) % y = b at *
    have e : y * (a + 18446744073709551616 * dval 18446744073709551616 q) = y * a + 18446744073709551616 * (y * dval 18446744073709551616 q) := by
      rw [Nat.mul_add, Nat.mul_left_comm]
    omega
theorem divD_quo {y : Nat} (hy : 0 < y) (xs : List Nat) : dval 18446744073709551616 (divD y xs).1 = dval 18446744073709551616 xs / y ∧ (divD y xs).2 = dval 18446744073709551616 xs % y :=
  dww_fix hy (divD_val y xs) (divD_rest hy xs)
end Go.Proofs.YtlaepcfooopbmaaGreatDoor
