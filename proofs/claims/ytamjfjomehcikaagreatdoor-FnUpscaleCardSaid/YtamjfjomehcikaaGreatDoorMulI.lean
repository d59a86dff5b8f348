/- Walks: Int.Mul and BigInt.Mul, the second factor the receiver itself. -/
import Derived.Test.YtamjfjomehcikaaGreatDoorMul4
set_option linter.unusedVariables false
set_option linter.unusedSimpArgs false
namespace Go.Proofs.YtamjfjomehcikaaGreatDoor
open Go.RowKit

theorem eql_Int (w : World) {a b : Addr} {ca cb : Array Value} {ta tb : TypeId} (hne : a ≠ b) (ha : Blk w a.block ta ca) (hb : Blk w b.block tb cb) :
    (binOp .eql 67 (.pointer (some a)) (.pointer (some b))).run Tryz.prog w = .ok (.bool false) w := by
  obtain ⟨j, hj, hs⟩ := Option.map_eq_some_iff.1 infoInt
  exact run_eql_ptr_other w Tryz.underlying67 hj (by rw [hs]; decide) hne ha hb

set_option maxHeartbeats 2000000 in
theorem imul_self (base bx gz oz gx ox : Nat) (tz tx : TypeId) (cz cx : Array Value) (l d : Nat) (B : Option Addr) (ys : List Nat) (A : Option Addr) (n c : Nat) (xs : List Nat) (w : World)
    (hz : Blk w gz tz cz) (hz0 : cz[oz]? = some (.bool false)) (hz1 : cz[oz + 1]? = some (.slice B l d)) (hzr : Own w base (.slice B l d) ys) (htz : tz ≠ 70)
    (hx : Blk w gx tx cx) (hx0 : cx[ox]? = some (.bool false)) (hx1 : cx[ox + 1]? = some (.slice A n c)) (hxr : Own w bx (.slice A n c) xs) (htx : tx ≠ 70)
    (hax : Apart (.slice B l d) (.slice A n c)) (hne : gz ≠ gx) (hb : base ≤ w.heap.size) (hn : n = xs.length) (hl : l = ys.length) (hn39 : n ≤ 39) (hl39 : l ≤ 39)
    (hdx : Dig 18446744073709551616 xs) (hdy : Dig 18446744073709551616 ys) (hcx : Canon xs) (hcy : Canon ys) (hv : Vars w base) :
    Calls Tryz.prog 71 #[.pointer (some ⟨gz, oz, none⟩), .pointer none, .pointer (some ⟨gx, ox, none⟩), .pointer (some ⟨gz, oz, none⟩)] w fun e w' => e = .returned (.tuple #[]) ∧
      IntP w base gz oz tz cz (.slice B l d) false (digs 18446744073709551616 (dval 18446744073709551616 xs * dval 18446744073709551616 ys)) (.returned (.pointer (some ⟨gz, oz, none⟩))) w' := by
  have hcmp := eql_Int w (a := ⟨gx, ox, none⟩) (b := ⟨gz, oz, none⟩) (by intro e; injection e with e1 e2; omega) hx hz
  have c1 : w.cell? ⟨gz, oz + 1, none⟩ = some (.slice B l d) := (hz.cell _).trans hz1
  have c2 : w.cell? ⟨gx, ox + 1, none⟩ = some (.slice A n c) := (hx.cell _).trans hx1
  have hzne : ∀ k, (Value.slice B l d).ownBlock = some k → k ≠ gz := hzr.room.ne_blk hz htz
  have hxne : ∀ k, (Value.slice B l d).ownBlock = some k → k ≠ gx := hzr.room.ne_blk hx htx
  have con := mul_any2 base bx base n l (.slice B l d) (.pointer none) l A B c d xs ys w.drew hzr.room_n hb hxr hzr hn hl hn39 hl39 (.inl hax) (.inr rfl) hdx hdy hcx hcy ⟨hv.c0, hv.c1, hv.c2, hv.l⟩
  have key : ∀ (v : Value) (w1 : World), Fr w w1 (fun k => (Value.slice B l d).ownBlock = some k) → w1.cell? ⟨gz, oz + 1, none⟩ = some (.slice B l d) ∧ w1.frozen? ⟨gz, oz + 1, none⟩ = false ∧ (w1.setCell ⟨gz, oz + 1, none⟩ v).cell? ⟨gz, oz + 1, none⟩ = some v ∧
      (w1.setCell ⟨gz, oz + 1, none⟩ v).cell? ⟨gx, ox, none⟩ = some (.bool false) ∧ (w1.setCell ⟨gz, oz + 1, none⟩ v).cell? ⟨gz, oz, none⟩ = some (.bool false) ∧ (w1.setCell ⟨gz, oz + 1, none⟩ v).frozen? ⟨gz, oz, none⟩ = false ∧
      ((w1.setCell ⟨gz, oz + 1, none⟩ v).setCell ⟨gz, oz, none⟩ (.bool false)).cell? ⟨gz, oz + 1, none⟩ = some v ∧ ((w1.setCell ⟨gz, oz + 1, none⟩ v).setCell ⟨gz, oz, none⟩ (.bool false)).cell? ⟨gx, ox, none⟩ = some (.bool false) ∧ ((w1.setCell ⟨gz, oz + 1, none⟩ v).setCell ⟨gz, oz, none⟩ (.bool false)).cell? ⟨gz, oz, none⟩ = some (.bool false) := by
    intro v w1 hf
    have b1 : Blk w1 gz tz cz := hz.fr hf (fun h => hzne gz h rfl)
    have b2 : Blk w1 gx tx cx := hx.fr hf (fun h => hxne gx h rfl)
    refine ⟨(b1.cell _).trans hz1, b1.frozen _, ?_, ?_, ?_, ?_, ?_, ?_, ?_⟩
    · have hlt : oz + 1 < cz.size := (Array.getElem?_eq_some_iff.1 hz1).1
      rw [(b1.set _ _).cell]; simp [hlt]
    · rw [World.cell?_setCell_other _ _ _ _ (by intro e; injection e with e1 e2; omega)]
      exact (b2.cell _).trans hx0
    · rw [World.cell?_setCell_other _ _ _ _ (by intro e; injection e with e1 e2; omega)]
      exact (b1.cell _).trans hz0
    · rw [World.frozen?_setCell]; exact b1.frozen _
    · have hlt : oz + 1 < cz.size := (Array.getElem?_eq_some_iff.1 hz1).1
      rw [((b1.set _ _).set _ _).cell]; simp [Array.getElem?_setIfInBounds, hlt]
    · rw [World.cell?_setCell_other _ _ _ _ (by intro e; injection e with e1 e2; omega), World.cell?_setCell_other _ _ _ _ (by intro e; injection e with e1 e2; omega)]
      exact (b2.cell _).trans hx0
    · have hlt : oz < cz.size := (Array.getElem?_eq_some_iff.1 hz0).1
      rw [((b1.set _ _).set _ _).cell]; simp [Array.getElem?_setIfInBounds, hlt]
  have fin : ∀ (v : Value) (w1 w2 : World), w2 = w1.setCell ⟨gz, oz + 1, none⟩ v ∨ w2 = (w1.setCell ⟨gz, oz + 1, none⟩ v).drew → Own w1 base v (digs 18446744073709551616 (dval 18446744073709551616 xs * dval 18446744073709551616 ys)) → (v.ownBlock = (Value.slice B l d).ownBlock ∨ ∃ k, v.ownBlock = some k ∧ w.heap.size ≤ k) → Fr w w1 (fun k => (Value.slice B l d).ownBlock = some k) →
      IntP w base gz oz tz cz (.slice B l d) false (digs 18446744073709551616 (dval 18446744073709551616 xs * dval 18446744073709551616 ys)) (.returned (.pointer (some ⟨gz, oz, none⟩))) (w2.setCell ⟨gz, oz, none⟩ (.bool false)) := by
    intro v w1 w2 hw2 hr hrb hf
    have b1 : Blk w1 gz tz cz := hz.fr hf (fun h => hzne gz h rfl)
    have hg : ∀ k, v.ownBlock = some k → k ≠ gz := hr.room.ne_blk b1 htz
    have hF2 : Fr w1 w2 (fun k => k = gz) := by
      rcases hw2 with rfl | rfl
      · exact Fr.setCell (Fr.refl w1 (fun k => k = gz)) (p := ⟨gz, oz + 1, none⟩) (fun _ => rfl) v
      · exact (Fr.setCell (Fr.refl w1 (fun k => k = gz)) (p := ⟨gz, oz + 1, none⟩) (fun _ => rfl) v).drew
    have hB2 : Blk w2 gz tz (cz.setIfInBounds (oz + 1) v) := by
      rcases hw2 with rfl | rfl
      · exact b1.set _ _
      · exact b1.set _ _
    refine ⟨rfl, v, ?_, hrb, hB2.set _ _, ?_⟩
    · exact (hr.fr hF2 hg).fr (Fr.setCell (Fr.refl _ (fun k => k = gz)) (p := ⟨gz, oz, none⟩) (fun _ => rfl) _) hg
    · exact (Fr.step (hf.mono (fun k _ h => .inr h)) hF2 (fun i _ h => .inl h)).setCell (p := ⟨gz, oz, none⟩) (fun _ => .inl rfl) _
  have Con := hide con
  have Key := hide key
  have Fin := hide fin
  clear hz hz0 hz1 hx hx0 hx1 key fin hzne hxne con hzr hxr hax hn hl hdx hdy hcx hcy hv
  go_enter Tryz.func71, Tryz.ntmps71
  go_wp2_with fail
  go_region_with (go_at_call 78; go_loud (refine (Con.out).mono ?_; rintro e w1 ⟨R, cr, rfl, hr, hrb, hf⟩; obtain ⟨k1, k2, k3, k4, k5, k6, k7, k8, k9⟩ := Key.out (.slice R (digs 18446744073709551616 (dval 18446744073709551616 xs * dval 18446744073709551616 ys)).length cr) w1 ⟨hf.os, hf.tape, hf.output, hf.size, hf.block⟩; have HF := hide (fun w2 h => Fin.out (.slice R (digs 18446744073709551616 (dval 18446744073709551616 xs * dval 18446744073709551616 ys)).length cr) w1 w2 h hr hrb ⟨hf.os, hf.tape, hf.output, hf.size, hf.block⟩); clear hr hrb hf))
  all_goals clear Con Key Fin c1 c2
  all_goals generalize (digs 18446744073709551616 (dval 18446744073709551616 xs * dval 18446744073709551616 ys)).length = q at k1 k2 k3 k4 k5 k6 k7 k8 k9 HF ⊢
  all_goals go_wp2_with fail
  all_goals rcases (show (0 < q ∧ decide ((0 : Int) < (q : Int)) = true ∧ decide (0 < q) = true) ∨ (¬ 0 < q ∧ decide ((0 : Int) < (q : Int)) = false ∧ decide (0 < q) = false) from by
    by_cases h : 0 < q
    · exact .inl ⟨h, decide_eq_true (by omega), decide_eq_true h⟩
    · exact .inr ⟨h, decide_eq_false (by omega), decide_eq_false h⟩) with ⟨hq, hq1, hq2⟩ | ⟨hq, hq1, hq2⟩
  all_goals first
    | (have hq3 := hq; have hq4 : 0 < q := hq3; go_region_held3 (fun W => W.cell? ⟨gz, oz + 1, none⟩ = some (.slice R q cr) ∧ W.cell? ⟨gx, ox, none⟩ = some (.bool false) ∧ W.cell? ⟨gz, oz, none⟩ = some (.bool false)) (first | exact ⟨k3, k4, k5⟩ | exact ⟨k7, k8, k9⟩ | go_keep) (fail))
    | go_region
  all_goals go_wp2
  all_goals go_end0
  all_goals exact ⟨rfl, HF.out _ (.inr rfl)⟩

theorem iMul_self (base bx gz oz gx ox : Nat) (tz tx : TypeId) (cz cx : Array Value) (l d : Nat) (B : Option Addr) (ys : List Nat) (A : Option Addr) (n c : Nat) (xs : List Nat) (w : World)
    (hz : Blk w gz tz cz) (hz0 : cz[oz]? = some (.bool false)) (hz1 : cz[oz + 1]? = some (.slice B l d)) (hzr : Own w base (.slice B l d) ys) (htz : tz ≠ 70)
    (hx : Blk w gx tx cx) (hx0 : cx[ox]? = some (.bool false)) (hx1 : cx[ox + 1]? = some (.slice A n c)) (hxr : Own w bx (.slice A n c) xs) (htx : tx ≠ 70)
    (hax : Apart (.slice B l d) (.slice A n c)) (hne : gz ≠ gx) (hb : base ≤ w.heap.size) (hn : n = xs.length) (hl : l = ys.length) (hn39 : n ≤ 39) (hl39 : l ≤ 39)
    (hdx : Dig 18446744073709551616 xs) (hdy : Dig 18446744073709551616 ys) (hcx : Canon xs) (hcy : Canon ys) (hv : Vars w base) :
    Calls Tryz.prog 62 #[.pointer (some ⟨gz, oz, none⟩), .pointer (some ⟨gx, ox, none⟩), .pointer (some ⟨gz, oz, none⟩)] w (IntP w base gz oz tz cz (.slice B l d) false (digs 18446744073709551616 (dval 18446744073709551616 xs * dval 18446744073709551616 ys))) := by
  have Con := hide (imul_self base bx gz oz gx ox tz tx cz cx l d B ys A n c xs w hz hz0 hz1 hzr htz hx hx0 hx1 hxr htx hax hne hb hn hl hn39 hl39 hdx hdy hcx hcy hv)
  clear hz hz0 hz1 hzr hx hx0 hx1 hxr hax hv hn hl hdx hdy hcx hcy
  go_enter Tryz.func62, Tryz.ntmps62
  go_wp2_with fail
  refine (Con.out).mono ?_
  rintro e w1 ⟨rfl, h⟩
  have HI := hide h
  clear h Con
  go_wp2
  go_ret
  exact HI.out

set_option maxHeartbeats 1000000 in
theorem bmul_self (base bx gz oz gx ox : Nat) (tz tx : TypeId) (cz cx : Array Value) (l d : Nat) (B : Option Addr) (ys : List Nat) (A : Option Addr) (n c : Nat) (xs : List Nat) (mi : Bool) (w : World)
    (hz : Blk w gz tz cz) (hz0 : cz[oz]? = some (.bool false)) (hz1 : cz[oz + 1]? = some (.slice B l d)) (hz2 : cz[oz + 2]? = some (.bool mi)) (hzr : Own w base (.slice B l d) ys) (htz : tz ≠ 70)
    (hx : Blk w gx tx cx) (hx0 : cx[ox]? = some (.bool false)) (hx1 : cx[ox + 1]? = some (.slice A n c)) (hxr : Own w bx (.slice A n c) xs) (htx : tx ≠ 70)
    (hax : Apart (.slice B l d) (.slice A n c)) (hne : gz ≠ gx) (hb : base ≤ w.heap.size) (hgz : base ≤ gz) (hn : n = xs.length) (hl : l = ys.length) (hn39 : n ≤ 39) (hl39 : l ≤ 39)
    (hdx : Dig 18446744073709551616 xs) (hdy : Dig 18446744073709551616 ys) (hcx : Canon xs) (hcy : Canon ys) (hv : Vars w base) :
    Calls Tryz.prog 48 #[.pointer (some ⟨gz, oz, none⟩), .pointer (some ⟨gx, ox, none⟩), .pointer (some ⟨gz, oz, none⟩)] w (BigP w base gz oz tz cz (.slice B l d) false false (digs 18446744073709551616 (dval 18446744073709551616 xs * dval 18446744073709551616 ys))) := by
  have c1 : w.cell? ⟨gz, oz + 2, none⟩ = some (.bool mi) := (hz.cell _).trans hz2
  have f1 : w.frozen? ⟨gz, oz + 2, none⟩ = false := hz.frozen _
  have hf0 : Fr w (w.setCell ⟨gz, oz + 2, none⟩ (.bool false)) (fun k => k = gz) := (Fr.refl w (fun k => k = gz)).setCell (p := ⟨gz, oz + 2, none⟩) (fun _ => rfl) _
  have con := iMul_self base bx gz oz gx ox tz tx (cz.setIfInBounds (oz + 2) (.bool false)) cx l d B ys A n c xs (w.setCell ⟨gz, oz + 2, none⟩ (.bool false)).drew
    (hz.set _ _) (by rw [getElem?_set_ne (by omega)]; exact hz0) (by rw [getElem?_set_ne (by omega)]; exact hz1) (hzr.fr hf0.drew (hzr.room.ne_blk hz htz)) htz
    (hx.far (p := ⟨gz, oz + 2, none⟩) (Ne.symm hne) _) hx0 hx1 (hxr.fr hf0.drew (hxr.room.ne_blk hz htz)) htx hax hne (by simpa using hb) hn hl hn39 hl39 hdx hdy hcx hcy (hv.fr hf0.drew (fun k hk => by rw [hk]; exact hgz))
  have fin : ∀ e w', IntP (w.setCell ⟨gz, oz + 2, none⟩ (.bool false)).drew base gz oz tz (cz.setIfInBounds (oz + 2) (.bool false)) (.slice B l d) false (digs 18446744073709551616 (dval 18446744073709551616 xs * dval 18446744073709551616 ys)) e w' → BigP w base gz oz tz cz (.slice B l d) false false (digs 18446744073709551616 (dval 18446744073709551616 xs * dval 18446744073709551616 ys)) e w' := by
    rintro e w' ⟨he, v, hr, hrb, hB, hF⟩
    obtain ⟨B, d, rfl⟩ := hr.room.slice
    refine ⟨he, B, d, hr, ?_, hB, ?_⟩
    · simpa using hrb
    · exact Fr.step ((hf0.mono (fun k _ h => .inl h)).drew) hF (fun i _ h => h)
  have Con := hide con
  have Fin := hide fin
  clear hz hz0 hz1 hz2 hx hx0 hx1 con fin hf0 hxr hzr hax hv hn hl hdx hdy hcx hcy
  go_enter Tryz.func48, Tryz.ntmps48
  go_wp2_with fail
  go_region_with (go_at_call 62; go_loud (refine (Con.out).mono ?_; rintro e w1 HI; have HI2 := hide HI; obtain ⟨rfl, _⟩ := HI))
  all_goals go_wp2
  all_goals go_ret
  all_goals exact Fin.out _ _ HI2.out
end Go.Proofs.YtamjfjomehcikaaGreatDoor
