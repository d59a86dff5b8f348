/- Parts of the proofs: MulJ, DecCmp3. -/
import Derived.Test.YtfkcobdkgjhfaaaGreatDoorG36
/- Walks: Int.Mul and BigInt.Mul, the first factor the receiver itself (printed by gen-mulj.py). -/
set_option linter.unusedVariables false
set_option linter.unusedSimpArgs false
namespace Go.Proofs.YtfkcobdkgjhfaaaGreatDoor
open Go.RowKit

set_option maxHeartbeats 2000000 in
theorem imul_first (base bx gz oz gx ox : Nat) (tz tx : TypeId) (cz cx : Array Value) (l d : Nat) (B : Option Addr) (ys : List Nat) (A : Option Addr) (n c : Nat) (xs : List Nat) (w : World)
    (hz : Blk w gz tz cz) (hz0 : cz[oz]? = some (.bool false)) (hz1 : cz[oz + 1]? = some (.slice B l d)) (hzr : Own w base (.slice B l d) ys) (htz : tz ≠ 145)
    (hx : Blk w gx tx cx) (hx0 : cx[ox]? = some (.bool false)) (hx1 : cx[ox + 1]? = some (.slice A n c)) (hxr : Own w bx (.slice A n c) xs) (htx : tx ≠ 145)
    (hax : Apart (.slice B l d) (.slice A n c)) (hne : gz ≠ gx) (hb : base ≤ w.heap.size) (hn : n = xs.length) (hl : l = ys.length) (hn39 : n ≤ 39) (hl39 : l ≤ 39)
    (hdx : Dig 18446744073709551616 xs) (hdy : Dig 18446744073709551616 ys) (hcx : Canon xs) (hcy : Canon ys) (hv : Vars w base) :
    Calls Tryz.prog 146 #[.pointer (some ⟨gz, oz, none⟩), .pointer none, .pointer (some ⟨gz, oz, none⟩), .pointer (some ⟨gx, ox, none⟩)] w fun e w' => e = .returned (.tuple #[]) ∧
      IntP w base gz oz tz cz (.slice B l d) false (digs 18446744073709551616 (dval 18446744073709551616 ys * dval 18446744073709551616 xs)) (.returned (.pointer (some ⟨gz, oz, none⟩))) w' := by
  have hcmp := eql_Int w (a := ⟨gz, oz, none⟩) (b := ⟨gx, ox, none⟩) (by intro e; injection e with e1 e2; omega) hz hx
  have c1 : w.cell? ⟨gz, oz + 1, none⟩ = some (.slice B l d) := (hz.cell _).trans hz1
  have c2 : w.cell? ⟨gx, ox + 1, none⟩ = some (.slice A n c) := (hx.cell _).trans hx1
  have hzne : ∀ k, (Value.slice B l d).ownBlock = some k → k ≠ gz := hzr.room.ne_blk hz htz
  have hxne : ∀ k, (Value.slice B l d).ownBlock = some k → k ≠ gx := hzr.room.ne_blk hx htx
  have con := mul_any2 base base bx l n (.slice B l d) (.pointer none) l B A d c ys xs w.drew hzr.room_n hb hzr hxr hl hn hl39 hn39 (.inr rfl) (.inl hax) hdy hdx hcy hcx ⟨hv.c0, hv.c1, hv.c2, hv.l⟩
  have key : ∀ (v : Value) (w1 : World), Fr w w1 (fun k => (Value.slice B l d).ownBlock = some k) → w1.cell? ⟨gz, oz + 1, none⟩ = some (.slice B l d) ∧ w1.frozen? ⟨gz, oz + 1, none⟩ = false ∧ (w1.setCell ⟨gz, oz + 1, none⟩ v).cell? ⟨gz, oz + 1, none⟩ = some v ∧
      (w1.setCell ⟨gz, oz + 1, none⟩ v).cell? ⟨gx, ox, none⟩ = some (.bool false) ∧ (w1.setCell ⟨gz, oz + 1, none⟩ v).cell? ⟨gz, oz, none⟩ = some (.bool false) ∧ (w1.setCell ⟨gz, oz + 1, none⟩ v).frozen? ⟨gz, oz, none⟩ = false ∧
      ((w1.setCell ⟨gz, oz + 1, none⟩ v).setCell ⟨gz, oz, none⟩ (.bool false)).cell? ⟨gz, oz + 1, none⟩ = some v ∧ ((w1.setCell ⟨gz, oz + 1, none⟩ v).setCell ⟨gz, oz, none⟩ (.bool false)).cell? ⟨gx, ox, none⟩ = some (.bool false) ∧ ((w1.setCell ⟨gz, oz + 1, none⟩ v).setCell ⟨gz, oz, none⟩ (.bool false)).cell? ⟨gz, oz, none⟩ = some (.bool false) := by
    intro v w1 hf
    have b1 : Blk w1 gz tz cz := hz.fr hf (fun h => hzne gz h rfl)
    have b2 : Blk w1 gx tx cx := hx.fr hf (fun h => hxne gx h rfl)
    refine ⟨(b1.cell _).trans hz1, b1.frozen _, ?_, ?_, ?_, ?_, ?_, ?_, ?_⟩
    · have hlt : oz + 1 < cz.size := (Array.getElem?_eq_some_iff.1 hz1).1
      rw [(b1.set _ _).cell]; simp [hlt]
    · rw [World.cell?_setCell_other _ _ _ _ (by intro e; injection e with e1 e2; omega)]
      exact (b2.cell _).trans hx0
    · rw [World.cell?_setCell_other _ _ _ _ (by intro e; injection e with e1 e2; omega)]
      exact (b1.cell _).trans hz0
    · rw [World.frozen?_setCell]; exact b1.frozen _
    · have hlt : oz + 1 < cz.size := (Array.getElem?_eq_some_iff.1 hz1).1
      rw [((b1.set _ _).set _ _).cell]; simp [Array.getElem?_setIfInBounds, hlt]
    · rw [World.cell?_setCell_other _ _ _ _ (by intro e; injection e with e1 e2; omega), World.cell?_setCell_other _ _ _ _ (by intro e; injection e with e1 e2; omega)]
      exact (b2.cell _).trans hx0
    · have hlt : oz < cz.size := (Array.getElem?_eq_some_iff.1 hz0).1
      rw [((b1.set _ _).set _ _).cell]; simp [Array.getElem?_setIfInBounds, hlt]
  have fin : ∀ (v : Value) (w1 w2 : World), w2 = w1.setCell ⟨gz, oz + 1, none⟩ v ∨ w2 = (w1.setCell ⟨gz, oz + 1, none⟩ v).drew → Own w1 base v (digs 18446744073709551616 (dval 18446744073709551616 ys * dval 18446744073709551616 xs)) → (v.ownBlock = (Value.slice B l d).ownBlock ∨ ∃ k, v.ownBlock = some k ∧ w.heap.size ≤ k) → Fr w w1 (fun k => (Value.slice B l d).ownBlock = some k) →
      IntP w base gz oz tz cz (.slice B l d) false (digs 18446744073709551616 (dval 18446744073709551616 ys * dval 18446744073709551616 xs)) (.returned (.pointer (some ⟨gz, oz, none⟩))) (w2.setCell ⟨gz, oz, none⟩ (.bool false)) := by
    intro v w1 w2 hw2 hr hrb hf
    have b1 : Blk w1 gz tz cz := hz.fr hf (fun h => hzne gz h rfl)
    have hg : ∀ k, v.ownBlock = some k → k ≠ gz := hr.room.ne_blk b1 htz
    have hF2 : Fr w1 w2 (fun k => k = gz) := by
      rcases hw2 with rfl | rfl
      · exact Fr.setCell (Fr.refl w1 (fun k => k = gz)) (p := ⟨gz, oz + 1, none⟩) (fun _ => rfl) v
      · exact (Fr.setCell (Fr.refl w1 (fun k => k = gz)) (p := ⟨gz, oz + 1, none⟩) (fun _ => rfl) v).drew
    have hB2 : Blk w2 gz tz (cz.setIfInBounds (oz + 1) v) := by
      rcases hw2 with rfl | rfl
      · exact b1.set _ _
      · exact b1.set _ _
    refine ⟨rfl, v, ?_, hrb, hB2.set _ _, ?_⟩
    · exact (hr.fr hF2 hg).fr (Fr.setCell (Fr.refl _ (fun k => k = gz)) (p := ⟨gz, oz, none⟩) (fun _ => rfl) _) hg
    · exact (Fr.step (hf.mono (fun k _ h => .inr h)) hF2 (fun i _ h => .inl h)).setCell (p := ⟨gz, oz, none⟩) (fun _ => .inl rfl) _
  have Con := hide con
  have Key := hide key
  have Fin := hide fin
  clear hz hz0 hz1 hx hx0 hx1 key fin hzne hxne con hzr hxr hax hn hl hdx hdy hcx hcy hv
  go_enter Tryz.func146, Tryz.ntmps146
  go_wp2_with fail
  go_region_with (go_at_call 177; go_loud (refine (Con.out).mono ?_; rintro e w1 ⟨R, cr, rfl, hr, hrb, hf⟩; obtain ⟨k1, k2, k3, k4, k5, k6, k7, k8, k9⟩ := Key.out (.slice R (digs 18446744073709551616 (dval 18446744073709551616 ys * dval 18446744073709551616 xs)).length cr) w1 ⟨hf.os, hf.tape, hf.output, hf.size, hf.block⟩; have HF := hide (fun w2 h => Fin.out (.slice R (digs 18446744073709551616 (dval 18446744073709551616 ys * dval 18446744073709551616 xs)).length cr) w1 w2 h hr hrb ⟨hf.os, hf.tape, hf.output, hf.size, hf.block⟩); clear hr hrb hf))
  all_goals clear Con Key Fin c1 c2
  all_goals generalize (digs 18446744073709551616 (dval 18446744073709551616 ys * dval 18446744073709551616 xs)).length = q at k1 k2 k3 k4 k5 k6 k7 k8 k9 HF ⊢
  all_goals go_wp2_with fail
  all_goals rcases (show (0 < q ∧ decide ((0 : Int) < (q : Int)) = true ∧ decide (0 < q) = true) ∨ (¬ 0 < q ∧ decide ((0 : Int) < (q : Int)) = false ∧ decide (0 < q) = false) from by
    by_cases h : 0 < q
    · exact .inl ⟨h, decide_eq_true (by omega), decide_eq_true h⟩
    · exact .inr ⟨h, decide_eq_false (by omega), decide_eq_false h⟩) with ⟨hq, hq1, hq2⟩ | ⟨hq, hq1, hq2⟩
  all_goals first
    | (have hq3 := hq; have hq4 : 0 < q := hq3; go_region_held3 (fun W => W.cell? ⟨gz, oz + 1, none⟩ = some (.slice R q cr) ∧ W.cell? ⟨gx, ox, none⟩ = some (.bool false) ∧ W.cell? ⟨gz, oz, none⟩ = some (.bool false)) (first | exact ⟨k3, k4, k5⟩ | exact ⟨k7, k8, k9⟩ | go_keep) (fail))
    | go_region
  all_goals go_wp2
  all_goals go_end0
  all_goals exact ⟨rfl, HF.out _ (.inr rfl)⟩

theorem iMul_first (base bx gz oz gx ox : Nat) (tz tx : TypeId) (cz cx : Array Value) (l d : Nat) (B : Option Addr) (ys : List Nat) (A : Option Addr) (n c : Nat) (xs : List Nat) (w : World)
    (hz : Blk w gz tz cz) (hz0 : cz[oz]? = some (.bool false)) (hz1 : cz[oz + 1]? = some (.slice B l d)) (hzr : Own w base (.slice B l d) ys) (htz : tz ≠ 145)
    (hx : Blk w gx tx cx) (hx0 : cx[ox]? = some (.bool false)) (hx1 : cx[ox + 1]? = some (.slice A n c)) (hxr : Own w bx (.slice A n c) xs) (htx : tx ≠ 145)
    (hax : Apart (.slice B l d) (.slice A n c)) (hne : gz ≠ gx) (hb : base ≤ w.heap.size) (hn : n = xs.length) (hl : l = ys.length) (hn39 : n ≤ 39) (hl39 : l ≤ 39)
    (hdx : Dig 18446744073709551616 xs) (hdy : Dig 18446744073709551616 ys) (hcx : Canon xs) (hcy : Canon ys) (hv : Vars w base) :
    Calls Tryz.prog 127 #[.pointer (some ⟨gz, oz, none⟩), .pointer (some ⟨gz, oz, none⟩), .pointer (some ⟨gx, ox, none⟩)] w (IntP w base gz oz tz cz (.slice B l d) false (digs 18446744073709551616 (dval 18446744073709551616 ys * dval 18446744073709551616 xs))) := by
  have Con := hide (imul_first base bx gz oz gx ox tz tx cz cx l d B ys A n c xs w hz hz0 hz1 hzr htz hx hx0 hx1 hxr htx hax hne hb hn hl hn39 hl39 hdx hdy hcx hcy hv)
  clear hz hz0 hz1 hzr hx hx0 hx1 hxr hax hv hn hl hdx hdy hcx hcy
  go_enter Tryz.func127, Tryz.ntmps127
  go_wp2_with fail
  refine (Con.out).mono ?_
  rintro e w1 ⟨rfl, h⟩
  have HI := hide h
  clear h Con
  go_wp2
  go_ret
  exact HI.out

set_option maxHeartbeats 1000000 in
theorem bmul_first (base bx gz oz gx ox : Nat) (tz tx : TypeId) (cz cx : Array Value) (l d : Nat) (B : Option Addr) (ys : List Nat) (A : Option Addr) (n c : Nat) (xs : List Nat) (mi : Bool) (w : World)
    (hz : Blk w gz tz cz) (hz0 : cz[oz]? = some (.bool false)) (hz1 : cz[oz + 1]? = some (.slice B l d)) (hz2 : cz[oz + 2]? = some (.bool mi)) (hzr : Own w base (.slice B l d) ys) (htz : tz ≠ 145)
    (hx : Blk w gx tx cx) (hx0 : cx[ox]? = some (.bool false)) (hx1 : cx[ox + 1]? = some (.slice A n c)) (hxr : Own w bx (.slice A n c) xs) (htx : tx ≠ 145)
    (hax : Apart (.slice B l d) (.slice A n c)) (hne : gz ≠ gx) (hb : base ≤ w.heap.size) (hgz : base ≤ gz) (hn : n = xs.length) (hl : l = ys.length) (hn39 : n ≤ 39) (hl39 : l ≤ 39)
    (hdx : Dig 18446744073709551616 xs) (hdy : Dig 18446744073709551616 ys) (hcx : Canon xs) (hcy : Canon ys) (hv : Vars w base) :
    Calls Tryz.prog 109 #[.pointer (some ⟨gz, oz, none⟩), .pointer (some ⟨gz, oz, none⟩), .pointer (some ⟨gx, ox, none⟩)] w (BigP w base gz oz tz cz (.slice B l d) false false (digs 18446744073709551616 (dval 18446744073709551616 ys * dval 18446744073709551616 xs))) := by
  have c1 : w.cell? ⟨gz, oz + 2, none⟩ = some (.bool mi) := (hz.cell _).trans hz2
  have f1 : w.frozen? ⟨gz, oz + 2, none⟩ = false := hz.frozen _
  have hf0 : Fr w (w.setCell ⟨gz, oz + 2, none⟩ (.bool false)) (fun k => k = gz) := (Fr.refl w (fun k => k = gz)).setCell (p := ⟨gz, oz + 2, none⟩) (fun _ => rfl) _
  have con := iMul_first base bx gz oz gx ox tz tx (cz.setIfInBounds (oz + 2) (.bool false)) cx l d B ys A n c xs (w.setCell ⟨gz, oz + 2, none⟩ (.bool false)).drew
    (hz.set _ _) (by rw [getElem?_set_ne (by omega)]; exact hz0) (by rw [getElem?_set_ne (by omega)]; exact hz1) (hzr.fr hf0.drew (hzr.room.ne_blk hz htz)) htz
    (hx.far (p := ⟨gz, oz + 2, none⟩) (Ne.symm hne) _) hx0 hx1 (hxr.fr hf0.drew (hxr.room.ne_blk hz htz)) htx hax hne (by simpa using hb) hn hl hn39 hl39 hdx hdy hcx hcy (hv.fr hf0.drew (fun k hk => by rw [hk]; exact hgz))
  have fin : ∀ e w', IntP (w.setCell ⟨gz, oz + 2, none⟩ (.bool false)).drew base gz oz tz (cz.setIfInBounds (oz + 2) (.bool false)) (.slice B l d) false (digs 18446744073709551616 (dval 18446744073709551616 ys * dval 18446744073709551616 xs)) e w' → BigP w base gz oz tz cz (.slice B l d) false false (digs 18446744073709551616 (dval 18446744073709551616 ys * dval 18446744073709551616 xs)) e w' := by
    rintro e w' ⟨he, v, hr, hrb, hB, hF⟩
    obtain ⟨B, d, rfl⟩ := hr.room.slice
    refine ⟨he, B, d, hr, ?_, hB, ?_⟩
    · simpa using hrb
    · exact Fr.step ((hf0.mono (fun k _ h => .inl h)).drew) hF (fun i _ h => h)
  have Con := hide con
  have Fin := hide fin
  clear hz hz0 hz1 hz2 hx hx0 hx1 con fin hf0 hxr hzr hax hv hn hl hdx hdy hcx hcy
  go_enter Tryz.func109, Tryz.ntmps109
  go_wp2_with fail
  go_region_with (go_at_call 127; go_loud (refine (Con.out).mono ?_; rintro e w1 HI; have HI2 := hide HI; obtain ⟨rfl, _⟩ := HI))
  all_goals go_wp2
  all_goals go_ret
  all_goals exact Fin.out _ _ HI2.out
end Go.Proofs.YtfkcobdkgjhfaaaGreatDoor

/- Walks: a number times a power of 10 (Set, tableExp10, Mul), as contracts one in the other; Decimal.Cmp where the figures do not tell. (The walks are printed by gen-dcmp.py.) -/
set_option linter.unusedVariables false
set_option linter.unusedSimpArgs false
namespace Go.Proofs.YtfkcobdkgjhfaaaGreatDoor
open Go.RowKit

def MulC (base g1 g2 v : Nat) (w8 : World) : Prop :=
  ∀ W, Fr w8 W (fun _ => False) → Calls Tryz.prog 109 #[.pointer (some ⟨g1, 0, none⟩), .pointer (some ⟨g1, 0, none⟩), .pointer (some ⟨g2, 0, none⟩)] W (fun e w3 => e = .returned (.pointer (some ⟨g1, 0, none⟩)) ∧ Fr W w3 (fun k => base ≤ k) ∧ ∃ cs A c, BigAt w3 g1 0 69 cs A c v)
def TabC (base g1 g2 s v : Nat) (w7 : World) : Prop :=
  ∀ W, Fr w7 W (fun _ => False) → Calls Tryz.prog 53 #[.int .i64 (s : Int), .pointer (some ⟨g2, 0, none⟩)] W (fun e w8 => e = .returned (.pointer (some ⟨g2, 0, none⟩)) ∧ Fr W w8 (fun k => base ≤ k) ∧ MulC base g1 g2 v w8)

theorem setBig_get {cz : Array Value} (hsz : 2 < cz.size) (r : Value) : (setBig cz 0 false r false)[0]? = some (.bool false) ∧ (setBig cz 0 false r false)[0 + 1]? = some r ∧ (setBig cz 0 false r false)[0 + 2]? = some (.bool false) := by
  have h0 : 0 < cz.size := by omega
  have h1 : 1 < cz.size := by omega
  simp [setBig, setInt, Array.getElem?_setIfInBounds, h0, h1, hsz]
theorem row_ge {w : World} {base : Nat} {v vz : Value} {xs : List Nat} (ho : Own w base v xs) (k : Nat) (h : v.ownBlock = some k) : base ≤ k := (ho.lt h).1

theorem scale_mul (base g1 g2 s b : Nat) (cz : Array Value) (A : Option Addr) (c : Nat) (R : Option Addr) (cr : Nat) (w8 : World)
    (hz : Blk w8 g1 69 cz) (z0 : cz[0]? = some (.bool false)) (z1 : cz[0 + 1]? = some (.slice A (digs 18446744073709551616 b).length c)) (z2 : cz[0 + 2]? = some (.bool false)) (ho : Own w8 base (.slice A (digs 18446744073709551616 b).length c) (digs 18446744073709551616 b))
    (hx : Blk w8 g2 69 #[.bool false, .slice R (digs 18446744073709551616 (10 ^ s)).length cr, .bool false]) (hxo : Own w8 base (.slice R (digs 18446744073709551616 (10 ^ s)).length cr) (digs 18446744073709551616 (10 ^ s)))
    (hap : Apart (.slice A (digs 18446744073709551616 b).length c) (.slice R (digs 18446744073709551616 (10 ^ s)).length cr)) (hne : g1 ≠ g2) (hb : base ≤ w8.heap.size) (hg1 : base ≤ g1) (hs : s ≤ 100) (hl : (digs 18446744073709551616 b).length ≤ 3) (hv : Vars w8 base) : MulC base g1 g2 (b * 10 ^ s) w8 := by
  intro W hW
  have hpl : (digs 18446744073709551616 (10 ^ s)).length ≤ 22 := digs_length_le (by omega) (by rw [show 22 = 11 + 11 from rfl, Nat.pow_add]; exact pow_half_lt (q := 200) (by omega) (by decide))
  have con := bmul_first base base g1 0 g2 0 _ _ cz _ _ c A (digs 18446744073709551616 b) R _ cr (digs 18446744073709551616 (10 ^ s)) false W (hz.fr hW (fun h => h)) z0 z1 z2 (ho.fr hW (fun _ _ h => h)) (by decide)
    (hx.fr hW (fun h => h)) rfl rfl (hxo.fr hW (fun _ _ h => h)) (by decide) hap hne (Nat.le_trans hb hW.size) hg1 rfl rfl (by omega) (by omega) (dig_digs (by omega) _) (dig_digs (by omega) _) (canon_digs (by omega) _) (canon_digs (by omega) _) (hv.fr hW (fun _ h => h.elim))
  rw [dval_digs (by omega), dval_digs (by omega)] at con
  have hsz := (Array.getElem?_eq_some_iff.1 z2).1
  refine con.mono ?_
  rintro e w3 ⟨rfl, A3, c3, ho3, _, hB3, hF3⟩
  refine ⟨rfl, hF3.mono (fun k _ hk => ?_), _, A3, c3, ⟨hB3, ?_, ?_, ?_, ho3.rd⟩⟩
  · rcases hk with hk | hk
    · rw [hk]; exact hg1
    · exact (ho.lt hk).1
  · exact (setBig_get hsz _).1
  · exact (setBig_get hsz _).2.1
  · exact (setBig_get hsz _).2.2

theorem scale_tab (base g1 g2 s b : Nat) (cz : Array Value) (A : Option Addr) (c : Nat) (w7 : World)
    (hz : Blk w7 g1 69 cz) (z0 : cz[0]? = some (.bool false)) (z1 : cz[0 + 1]? = some (.slice A (digs 18446744073709551616 b).length c)) (z2 : cz[0 + 2]? = some (.bool false)) (ho : Own w7 base (.slice A (digs 18446744073709551616 b).length c) (digs 18446744073709551616 b))
    (hx : Blk w7 g2 69 #[.bool false, .slice none 0 0, .bool false]) (hne : g1 ≠ g2) (hb : base ≤ w7.heap.size) (hg1 : base ≤ g1) (hg2 : base ≤ g2) (hs : s ≤ 100) (hl : (digs 18446744073709551616 b).length ≤ 3) (hv : Vars w7 base) : TabC base g1 g2 s (b * 10 ^ s) w7 := by
  intro W hW
  have hx' := hx.fr hW (fun h => h)
  refine (tabExp_any base g2 false false (.slice none 0 0) 0 s W hx' (Own.nil _ _).room (Nat.le_trans hb hW.size) hg2 (by omega) (pow10_lt (n := 200) (by omega) (by decide)) (hv.fr hW (fun _ h => h.elim))).mono ?_
  rintro e w8 ⟨rfl, R, cr, hr, hrb, hB, hF⟩
  have hF' : Fr W w8 (fun k => k = g2) := hF.mono (fun k _ hk => by rcases hk with h | h; exact h; cases h)
  have hF7 : Fr w7 w8 (fun k => k = g2) := Fr.step (hW.mono (fun _ _ h => h.elim)) hF' (fun _ _ h => h)
  refine ⟨rfl, hF'.mono (fun k _ hk => by rw [hk]; exact hg2), ?_⟩
  refine scale_mul base g1 g2 s b cz A c R cr w8 (hz.fr hF7 hne) z0 z1 z2 (ho.fr hF7 (fun k hk => ho.room.ne_blk hx (by decide) k hk)) hB hr (fun k hk e => ?_) hne (Nat.le_trans hb (Nat.le_trans hW.size hF'.size)) hg1 hs hl (hv.fr hF7 (fun k hk => by rw [hk]; exact hg2))
  have h1 := (ho.lt hk).2
  have h2 := hW.size
  rcases hrb with h | ⟨j, h3, h4⟩
  · rw [e] at h; cases h
  · rw [e] at h3
    have e2 : k = j := by injection h3
    omega

theorem scale_set (base g1 g2 gx s b : Nat) (n : Bool) (ex : Int) (B : Option Addr) (cb : Nat) (w6 : World)
    (hz : Blk w6 g1 69 #[.bool false, .slice none 0 0, .bool false]) (hx : Blk w6 g2 69 #[.bool false, .slice none 0 0, .bool false]) (hD : DecAt w6 gx n ex B cb b) (hxb : ∀ k, (Value.slice B (digs 18446744073709551616 b).length cb).ownBlock = some k → k ≠ g1) (hgx : gx ≠ g1)
    (hne : g1 ≠ g2) (hb : base ≤ w6.heap.size) (hg1 : base ≤ g1) (hg2 : base ≤ g2) (hs : s ≤ 100) (hl : (digs 18446744073709551616 b).length ≤ 3) (hv : Vars w6 base) :
    Calls Tryz.prog 48 #[.pointer (some ⟨g1, 0, none⟩), .pointer (some ⟨gx, 3, none⟩)] w6 (fun e w7 => e = .returned (.pointer (some ⟨g1, 0, none⟩)) ∧ Fr w6 w7 (fun k => base ≤ k) ∧ TabC base g1 g2 s (b * 10 ^ s) w7) := by
  refine (bset_any base g1 0 gx 3 _ _ _ _ false false false false (.slice none 0 0) _ 0 (digs 18446744073709551616 b) w6 hz rfl rfl rfl (Own.nil _ _).room (by decide) hD.blk rfl rfl rfl hD.rd hxb (by decide) (Ne.symm hgx) hb (by omega)).mono ?_
  rintro e w7 ⟨rfl, A, c, ho, _, hB, hF⟩
  have hF' : Fr w6 w7 (fun k => k = g1) := hF.mono (fun k _ hk => by rcases hk with h | h; exact h; cases h)
  refine ⟨rfl, hF'.mono (fun k _ hk => by rw [hk]; exact hg1), ?_⟩
  exact scale_tab base g1 g2 s b _ A c w7 hB rfl rfl rfl ho (hx.fr hF' (Ne.symm hne)) hne (Nat.le_trans hb hF'.size) hg1 hg2 hs hl (hv.fr hF' (fun k hk => by rw [hk]; exact hg1))
end Go.Proofs.YtfkcobdkgjhfaaaGreatDoor
