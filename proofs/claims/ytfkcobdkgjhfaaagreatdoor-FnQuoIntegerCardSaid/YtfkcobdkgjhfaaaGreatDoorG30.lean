/- Parts of the proofs: MulI, Up2, Up3. -/
import Derived.Deep.RegionHeld3
import Derived.Deep.RegionWith
import Derived.Test.YtfkcobdkgjhfaaaGreatDoorG14
import Derived.Test.YtfkcobdkgjhfaaaGreatDoorG29
/- Walks: Int.Mul and BigInt.Mul, the second factor the receiver itself. -/
set_option linter.unusedVariables false
set_option linter.unusedSimpArgs false
namespace Go.Proofs.YtfkcobdkgjhfaaaGreatDoor
open Go.RowKit

theorem eql_Int (w : World) {a b : Addr} {ca cb : Array Value} {ta tb : TypeId} (hne : a ≠ b) (ha : Blk w a.block ta ca) (hb : Blk w b.block tb cb) :
    (binOp .eql 143 (.pointer (some a)) (.pointer (some b))).run Tryz.prog w = .ok (.bool false) w := by
  obtain ⟨j, hj, hs⟩ := Option.map_eq_some_iff.1 infoInt
  exact run_eql_ptr_other w Tryz.underlying143 hj (by rw [hs]; decide) hne ha hb

set_option maxHeartbeats 2000000 in
theorem imul_self (base bx gz oz gx ox : Nat) (tz tx : TypeId) (cz cx : Array Value) (l d : Nat) (B : Option Addr) (ys : List Nat) (A : Option Addr) (n c : Nat) (xs : List Nat) (w : World)
    (hz : Blk w gz tz cz) (hz0 : cz[oz]? = some (.bool false)) (hz1 : cz[oz + 1]? = some (.slice B l d)) (hzr : Own w base (.slice B l d) ys) (htz : tz ≠ 145)
    (hx : Blk w gx tx cx) (hx0 : cx[ox]? = some (.bool false)) (hx1 : cx[ox + 1]? = some (.slice A n c)) (hxr : Own w bx (.slice A n c) xs) (htx : tx ≠ 145)
    (hax : Apart (.slice B l d) (.slice A n c)) (hne : gz ≠ gx) (hb : base ≤ w.heap.size) (hn : n = xs.length) (hl : l = ys.length) (hn39 : n ≤ 39) (hl39 : l ≤ 39)
    (hdx : Dig 18446744073709551616 xs) (hdy : Dig 18446744073709551616 ys) (hcx : Canon xs) (hcy : Canon ys) (hv : Vars w base) :
    Calls Tryz.prog 146 #[.pointer (some ⟨gz, oz, none⟩), .pointer none, .pointer (some ⟨gx, ox, none⟩), .pointer (some ⟨gz, oz, none⟩)] w fun e w' => e = .returned (.tuple #[]) ∧
      IntP w base gz oz tz cz (.slice B l d) false (digs 18446744073709551616 (dval 18446744073709551616 xs * dval 18446744073709551616 ys)) (.returned (.pointer (some ⟨gz, oz, none⟩))) w' := by
  have hcmp := eql_Int w (a := ⟨gx, ox, none⟩) (b := ⟨gz, oz, none⟩) (by intro e; injection e with e1 e2; omega) hx hz
  have c1 : w.cell? ⟨gz, oz + 1, none⟩ = some (.slice B l d) := (hz.cell _).trans hz1
  have c2 : w.cell? ⟨gx, ox + 1, none⟩ = some (.slice A n c) := (hx.cell _).trans hx1
  have hzne : ∀ k, (Value.slice B l d).ownBlock = some k → k ≠ gz := hzr.room.ne_blk hz htz
  have hxne : ∀ k, (Value.slice B l d).ownBlock = some k → k ≠ gx := hzr.room.ne_blk hx htx
  have con := mul_any2 base bx base n l (.slice B l d) (.pointer none) l A B c d xs ys w.drew hzr.room_n hb hxr hzr hn hl hn39 hl39 (.inl hax) (.inr rfl) hdx hdy hcx hcy ⟨hv.c0, hv.c1, hv.c2, hv.l⟩
  have key : ∀ (v : Value) (w1 : World), Fr w w1 (fun k => (Value.slice B l d).ownBlock = some k) → w1.cell? ⟨gz, oz + 1, none⟩ = some (.slice B l d) ∧ w1.frozen? ⟨gz, oz + 1, none⟩ = false ∧ (w1.setCell ⟨gz, oz + 1, none⟩ v).cell? ⟨gz, oz + 1, none⟩ = some v ∧
      (w1.setCell ⟨gz, oz + 1, none⟩ v).cell? ⟨gx, ox, none⟩ = some (.bool false) ∧ (w1.setCell ⟨gz, oz + 1, none⟩ v).cell? ⟨gz, oz, none⟩ = some (.bool false) ∧ (w1.setCell ⟨gz, oz + 1, none⟩ v).frozen? ⟨gz, oz, none⟩ = false ∧
      ((w1.setCell ⟨gz, oz + 1, none⟩ v).setCell ⟨gz, oz, none⟩ (.bool false)).cell? ⟨gz, oz + 1, none⟩ = some v ∧ ((w1.setCell ⟨gz, oz + 1, none⟩ v).setCell ⟨gz, oz, none⟩ (.bool false)).cell? ⟨gx, ox, none⟩ = some (.bool false) ∧ ((w1.setCell ⟨gz, oz + 1, none⟩ v).setCell ⟨gz, oz, none⟩ (.bool false)).cell? ⟨gz, oz, none⟩ = some (.bool false) := by
    intro v w1 hf
    have b1 : Blk w1 gz tz cz := hz.fr hf (fun h => hzne gz h rfl)
    have b2 : Blk w1 gx tx cx := hx.fr hf (fun h => hxne gx h rfl)
    refine ⟨(b1.cell _).trans hz1, b1.frozen _, ?_, ?_, ?_, ?_, ?_, ?_, ?_⟩
    · have hlt : oz + 1 < cz.size := (Array.getElem?_eq_some_iff.1 hz1).1
      rw [(b1.set _ _).cell]; simp [hlt]
    · rw [World.cell?_setCell_other _ _ _ _ (by intro e; injection e with e1 e2; omega)]
      exact (b2.cell _).trans hx0
    · rw [World.cell?_setCell_other _ _ _ _ (by intro e; injection e with e1 e2; omega)]
      exact (b1.cell _).trans hz0
    · rw [World.frozen?_setCell]; exact b1.frozen _
    · have hlt : oz + 1 < cz.size := (Array.getElem?_eq_some_iff.1 hz1).1
      rw [((b1.set _ _).set _ _).cell]; simp [Array.getElem?_setIfInBounds, hlt]
    · rw [World.cell?_setCell_other _ _ _ _ (by intro e; injection e with e1 e2; omega), World.cell?_setCell_other _ _ _ _ (by intro e; injection e with e1 e2; omega)]
      exact (b2.cell _).trans hx0
    · have hlt : oz < cz.size := (Array.getElem?_eq_some_iff.1 hz0).1
      rw [((b1.set _ _).set _ _).cell]; simp [Array.getElem?_setIfInBounds, hlt]
  have fin : ∀ (v : Value) (w1 w2 : World), w2 = w1.setCell ⟨gz, oz + 1, none⟩ v ∨ w2 = (w1.setCell ⟨gz, oz + 1, none⟩ v).drew → Own w1 base v (digs 18446744073709551616 (dval 18446744073709551616 xs * dval 18446744073709551616 ys)) → (v.ownBlock = (Value.slice B l d).ownBlock ∨ ∃ k, v.ownBlock = some k ∧ w.heap.size ≤ k) → Fr w w1 (fun k => (Value.slice B l d).ownBlock = some k) →
      IntP w base gz oz tz cz (.slice B l d) false (digs 18446744073709551616 (dval 18446744073709551616 xs * dval 18446744073709551616 ys)) (.returned (.pointer (some ⟨gz, oz, none⟩))) (w2.setCell ⟨gz, oz, none⟩ (.bool false)) := by
    intro v w1 w2 hw2 hr hrb hf
    have b1 : Blk w1 gz tz cz := hz.fr hf (fun h => hzne gz h rfl)
    have hg : ∀ k, v.ownBlock = some k → k ≠ gz := hr.room.ne_blk b1 htz
    have hF2 : Fr w1 w2 (fun k => k = gz) := by
      rcases hw2 with rfl | rfl
      · exact Fr.setCell (Fr.refl w1 (fun k => k = gz)) (p := ⟨gz, oz + 1, none⟩) (fun _ => rfl) v
      · exact (Fr.setCell (Fr.refl w1 (fun k => k = gz)) (p := ⟨gz, oz + 1, none⟩) (fun _ => rfl) v).drew
    have hB2 : Blk w2 gz tz (cz.setIfInBounds (oz + 1) v) := by
      rcases hw2 with rfl | rfl
      · exact b1.set _ _
      · exact b1.set _ _
    refine ⟨rfl, v, ?_, hrb, hB2.set _ _, ?_⟩
    · exact (hr.fr hF2 hg).fr (Fr.setCell (Fr.refl _ (fun k => k = gz)) (p := ⟨gz, oz, none⟩) (fun _ => rfl) _) hg
    · exact (Fr.step (hf.mono (fun k _ h => .inr h)) hF2 (fun i _ h => .inl h)).setCell (p := ⟨gz, oz, none⟩) (fun _ => .inl rfl) _
  have Con := hide con
  have Key := hide key
  have Fin := hide fin
  clear hz hz0 hz1 hx hx0 hx1 key fin hzne hxne con hzr hxr hax hn hl hdx hdy hcx hcy hv
  go_enter Tryz.func146, Tryz.ntmps146
  go_wp2_with fail
  go_region_with (go_at_call 177; go_loud (refine (Con.out).mono ?_; rintro e w1 ⟨R, cr, rfl, hr, hrb, hf⟩; obtain ⟨k1, k2, k3, k4, k5, k6, k7, k8, k9⟩ := Key.out (.slice R (digs 18446744073709551616 (dval 18446744073709551616 xs * dval 18446744073709551616 ys)).length cr) w1 ⟨hf.os, hf.tape, hf.output, hf.size, hf.block⟩; have HF := hide (fun w2 h => Fin.out (.slice R (digs 18446744073709551616 (dval 18446744073709551616 xs * dval 18446744073709551616 ys)).length cr) w1 w2 h hr hrb ⟨hf.os, hf.tape, hf.output, hf.size, hf.block⟩); clear hr hrb hf))
  all_goals clear Con Key Fin c1 c2
  all_goals generalize (digs 18446744073709551616 (dval 18446744073709551616 xs * dval 18446744073709551616 ys)).length = q at k1 k2 k3 k4 k5 k6 k7 k8 k9 HF ⊢
  all_goals go_wp2_with fail
  all_goals rcases (show (0 < q ∧ decide ((0 : Int) < (q : Int)) = true ∧ decide (0 < q) = true) ∨ (¬ 0 < q ∧ decide ((0 : Int) < (q : Int)) = false ∧ decide (0 < q) = false) from by
    by_cases h : 0 < q
    · exact .inl ⟨h, decide_eq_true (by omega), decide_eq_true h⟩
    · exact .inr ⟨h, decide_eq_false (by omega), decide_eq_false h⟩) with ⟨hq, hq1, hq2⟩ | ⟨hq, hq1, hq2⟩
  all_goals first
    | (have hq3 := hq; have hq4 : 0 < q := hq3; go_region_held3 (fun W => W.cell? ⟨gz, oz + 1, none⟩ = some (.slice R q cr) ∧ W.cell? ⟨gx, ox, none⟩ = some (.bool false) ∧ W.cell? ⟨gz, oz, none⟩ = some (.bool false)) (first | exact ⟨k3, k4, k5⟩ | exact ⟨k7, k8, k9⟩ | go_keep) (fail))
    | go_region
  all_goals go_wp2
  all_goals go_end0
  all_goals exact ⟨rfl, HF.out _ (.inr rfl)⟩

theorem iMul_self (base bx gz oz gx ox : Nat) (tz tx : TypeId) (cz cx : Array Value) (l d : Nat) (B : Option Addr) (ys : List Nat) (A : Option Addr) (n c : Nat) (xs : List Nat) (w : World)
    (hz : Blk w gz tz cz) (hz0 : cz[oz]? = some (.bool false)) (hz1 : cz[oz + 1]? = some (.slice B l d)) (hzr : Own w base (.slice B l d) ys) (htz : tz ≠ 145)
    (hx : Blk w gx tx cx) (hx0 : cx[ox]? = some (.bool false)) (hx1 : cx[ox + 1]? = some (.slice A n c)) (hxr : Own w bx (.slice A n c) xs) (htx : tx ≠ 145)
    (hax : Apart (.slice B l d) (.slice A n c)) (hne : gz ≠ gx) (hb : base ≤ w.heap.size) (hn : n = xs.length) (hl : l = ys.length) (hn39 : n ≤ 39) (hl39 : l ≤ 39)
    (hdx : Dig 18446744073709551616 xs) (hdy : Dig 18446744073709551616 ys) (hcx : Canon xs) (hcy : Canon ys) (hv : Vars w base) :
    Calls Tryz.prog 127 #[.pointer (some ⟨gz, oz, none⟩), .pointer (some ⟨gx, ox, none⟩), .pointer (some ⟨gz, oz, none⟩)] w (IntP w base gz oz tz cz (.slice B l d) false (digs 18446744073709551616 (dval 18446744073709551616 xs * dval 18446744073709551616 ys))) := by
  have Con := hide (imul_self base bx gz oz gx ox tz tx cz cx l d B ys A n c xs w hz hz0 hz1 hzr htz hx hx0 hx1 hxr htx hax hne hb hn hl hn39 hl39 hdx hdy hcx hcy hv)
  clear hz hz0 hz1 hzr hx hx0 hx1 hxr hax hv hn hl hdx hdy hcx hcy
  go_enter Tryz.func127, Tryz.ntmps127
  go_wp2_with fail
  refine (Con.out).mono ?_
  rintro e w1 ⟨rfl, h⟩
  have HI := hide h
  clear h Con
  go_wp2
  go_ret
  exact HI.out

set_option maxHeartbeats 1000000 in
theorem bmul_self (base bx gz oz gx ox : Nat) (tz tx : TypeId) (cz cx : Array Value) (l d : Nat) (B : Option Addr) (ys : List Nat) (A : Option Addr) (n c : Nat) (xs : List Nat) (mi : Bool) (w : World)
    (hz : Blk w gz tz cz) (hz0 : cz[oz]? = some (.bool false)) (hz1 : cz[oz + 1]? = some (.slice B l d)) (hz2 : cz[oz + 2]? = some (.bool mi)) (hzr : Own w base (.slice B l d) ys) (htz : tz ≠ 145)
    (hx : Blk w gx tx cx) (hx0 : cx[ox]? = some (.bool false)) (hx1 : cx[ox + 1]? = some (.slice A n c)) (hxr : Own w bx (.slice A n c) xs) (htx : tx ≠ 145)
    (hax : Apart (.slice B l d) (.slice A n c)) (hne : gz ≠ gx) (hb : base ≤ w.heap.size) (hgz : base ≤ gz) (hn : n = xs.length) (hl : l = ys.length) (hn39 : n ≤ 39) (hl39 : l ≤ 39)
    (hdx : Dig 18446744073709551616 xs) (hdy : Dig 18446744073709551616 ys) (hcx : Canon xs) (hcy : Canon ys) (hv : Vars w base) :
    Calls Tryz.prog 109 #[.pointer (some ⟨gz, oz, none⟩), .pointer (some ⟨gx, ox, none⟩), .pointer (some ⟨gz, oz, none⟩)] w (BigP w base gz oz tz cz (.slice B l d) false false (digs 18446744073709551616 (dval 18446744073709551616 xs * dval 18446744073709551616 ys))) := by
  have c1 : w.cell? ⟨gz, oz + 2, none⟩ = some (.bool mi) := (hz.cell _).trans hz2
  have f1 : w.frozen? ⟨gz, oz + 2, none⟩ = false := hz.frozen _
  have hf0 : Fr w (w.setCell ⟨gz, oz + 2, none⟩ (.bool false)) (fun k => k = gz) := (Fr.refl w (fun k => k = gz)).setCell (p := ⟨gz, oz + 2, none⟩) (fun _ => rfl) _
  have con := iMul_self base bx gz oz gx ox tz tx (cz.setIfInBounds (oz + 2) (.bool false)) cx l d B ys A n c xs (w.setCell ⟨gz, oz + 2, none⟩ (.bool false)).drew
    (hz.set _ _) (by rw [getElem?_set_ne (by omega)]; exact hz0) (by rw [getElem?_set_ne (by omega)]; exact hz1) (hzr.fr hf0.drew (hzr.room.ne_blk hz htz)) htz
    (hx.far (p := ⟨gz, oz + 2, none⟩) (Ne.symm hne) _) hx0 hx1 (hxr.fr hf0.drew (hxr.room.ne_blk hz htz)) htx hax hne (by simpa using hb) hn hl hn39 hl39 hdx hdy hcx hcy (hv.fr hf0.drew (fun k hk => by rw [hk]; exact hgz))
  have fin : ∀ e w', IntP (w.setCell ⟨gz, oz + 2, none⟩ (.bool false)).drew base gz oz tz (cz.setIfInBounds (oz + 2) (.bool false)) (.slice B l d) false (digs 18446744073709551616 (dval 18446744073709551616 xs * dval 18446744073709551616 ys)) e w' → BigP w base gz oz tz cz (.slice B l d) false false (digs 18446744073709551616 (dval 18446744073709551616 xs * dval 18446744073709551616 ys)) e w' := by
    rintro e w' ⟨he, v, hr, hrb, hB, hF⟩
    obtain ⟨B, d, rfl⟩ := hr.room.slice
    refine ⟨he, B, d, hr, ?_, hB, ?_⟩
    · simpa using hrb
    · exact Fr.step ((hf0.mono (fun k _ h => .inl h)).drew) hF (fun i _ h => h)
  have Con := hide con
  have Fin := hide fin
  clear hz hz0 hz1 hz2 hx hx0 hx1 con fin hf0 hxr hzr hax hv hn hl hdx hdy hcx hcy
  go_enter Tryz.func109, Tryz.ntmps109
  go_wp2_with fail
  go_region_with (go_at_call 127; go_loud (refine (Con.out).mono ?_; rintro e w1 HI; have HI2 := hide HI; obtain ⟨rfl, _⟩ := HI))
  all_goals go_wp2
  all_goals go_ret
  all_goals exact Fin.out _ _ HI2.out
end Go.Proofs.YtfkcobdkgjhfaaaGreatDoor

/- Walks: upscale at unlike exponents. (Printed by gen-up.py.) -/
set_option linter.unusedVariables false
set_option linter.unusedSimpArgs false
namespace Go.Proofs.YtfkcobdkgjhfaaaGreatDoor
open Go.RowKit


set_option maxHeartbeats 1000000 in
set_option maxRecDepth 20000 in
theorem up_gt (ga gb gz bh s : Nat) (na nb : Bool) (ea eb : Int) (A B : Option Addr) (ca cb a b : Nat) (w : World)
    (ha : Blk w ga 71 (decC 0 na ea false (.slice A (digs 18446744073709551616 a).length ca) false)) (hb : Blk w gb 71 (decC 0 nb eb false (.slice B (digs 18446744073709551616 b).length cb) false))
    (hhr : Own w bh (.slice A (digs 18446744073709551616 a).length ca) (digs 18446744073709551616 a)) (hlr : RdW w (.slice B (digs 18446744073709551616 b).length cb) (digs 18446744073709551616 b)) (hlz : ∀ k, (Value.slice B (digs 18446744073709551616 b).length cb).ownBlock = some k → k ≠ gz)
    (hz : Blk w gz 69 #[.bool false, .slice none 0 0, .bool false]) (hga : ga ≠ gz) (hgb : gb ≠ gz) (hv : Vars w gz) (hs : ea - eb = (s : Int)) (hs1 : 1 ≤ s) (hs2 : s ≤ 400) (h3 : (digs 18446744073709551616 a).length ≤ 3) (he : -1000000 ≤ ea ∧ ea ≤ 1000000 ∧ -1000000 ≤ eb ∧ eb ≤ 1000000) :
    Calls Tryz.prog 71 #[.pointer (some ⟨ga, 0, none⟩), .pointer (some ⟨gb, 0, none⟩), .pointer (some ⟨gz, 0, none⟩)] w (UpP w eb (a * 10 ^ s) (b) (fun k => k = gz) (fun k => (k = ga ∨ k = gb) ∨ k = gz)) := by
  have a2 : w.cell? ⟨ga, 2, none⟩ = some (.int .i32 ea) := ha.cell 2
  have b2 : w.cell? ⟨gb, 2, none⟩ = some (.int .i32 eb) := hb.cell 2
  have ne : (ea == eb) = false := beq_eq_false_iff_ne.2 (by omega)
  obtain ⟨q1, q2, q3, q4⟩ := he
  have hh := ha
  have hl := hb
  have hgl := hgb
  have hpl : (digs 18446744073709551616 (10 ^ s)).length ≤ 22 := digs_length_le (by omega) (by rw [show 22 = 11 + 11 from rfl, Nat.pow_add]; exact pow_half_lt (q := 200) (by omega) (by decide))
  have con := fun n : Nat => tabExp_any gz gz false false (.slice none 0 0) 0 s (w.drewN n) hz (Own.nil _ _).room (Nat.le_of_lt hz.lt) (Nat.le_refl _) (by omega) (pow10_lt (n := 200) (by omega) (by decide)) ⟨hv.c0, hv.c1, hv.c2, hv.l⟩
  have Con := hide con
  have HX := hide (And.intro hh (And.intro hhr (And.intro hv (And.intro hz (And.intro hpl h3)))))
  have HL := hide (And.intro hl (And.intro hlr (And.intro hlz hgl)))
  have hzl := hz.lt
  have HZ := hide hzl
  have HG := hide hga
  clear ha hb hh hl hhr hlr hlz hz hga hgb hgl hv con hpl h3 hzl
  go_enter Tryz.func71, Tryz.ntmps71
  go_wp2_with fail
  go_quiet (fail)
  go_wp2_with fail
  go_quiet (fail)
  go_wp2_with fail
  go_quiet (fail)
  go_wp2_with fail
  refine (Con.out _).mono ?_
  rintro e w1 ⟨rfl, R, cr, hr, hrb, hB, hF⟩
  have hF1 : Fr w w1 (fun k => k = gz) := (Fr.step ((Fr.refl w (fun k => k = gz)).drewN _) hF (fun i _ h => by rcases h with h | h; exact h; cases h))
  have hnew : ∀ k, (Value.slice R (digs 18446744073709551616 (10 ^ s)).length cr).ownBlock = some k → w.heap.size ≤ k := by
    intro k hk
    rcases hrb with h | ⟨j, h1, h2⟩
    · rw [hk] at h; cases h
    · rw [hk] at h1
      have e : k = j := by injection h1
      rw [e]; exact h2
  have hxr := HX.out.2.1.fr hF1 (HX.out.2.1.room.ne_blk HX.out.2.2.2.1 (by decide))
  have con2 := bmul_self gz bh gz 0 ga 3 69 71 _ _ _ cr R (digs 18446744073709551616 (10 ^ s)) A _ ca (digs 18446744073709551616 a) false w1 hB rfl rfl rfl hr (by decide)
    (HX.out.1.fr hF1 HG.out) rfl rfl hxr (by decide) (fun k hk h2 => by have := hnew k hk; have := (HX.out.2.1.lt h2).2; omega) (Ne.symm HG.out) (by have := hB.lt; omega) (Nat.le_refl _) rfl rfl (by have := HX.out.2.2.2.2.2; omega) (by have := HX.out.2.2.2.2.1; omega)
    (dig_digs (by omega) _) (dig_digs (by omega) _) (canon_digs (by omega) _) (canon_digs (by omega) _) (HX.out.2.2.1.fr hF1 (fun k hk => by rw [hk]; exact Nat.le_refl _))
  rw [dval_digs (by omega), dval_digs (by omega)] at con2
  have Con2 := hide con2
  have HF1 := hide (And.intro hF1 hnew)
  clear con2 hF1 hnew hxr hr hrb hB hF Con
  go_wp2_with fail
  refine (Con2.out).mono ?_
  rintro e w2 ⟨rfl, R2, c2, hr, hrb, hB, hF⟩
  have hf : Fr w w2 (fun k => k = gz) := Fr.step HF1.out.1 hF (fun i hi h => by
    rcases h with h | h
    · exact h
    · have := HF1.out.2 i h; omega)
  have fin : ∀ w' : World, Fr w2 w' (fun _ => False) → UpP w eb (a * 10 ^ s) (b) (fun k => k = gz) (fun k => (k = ga ∨ k = gb) ∨ k = gz) (.returned (.tuple #[.pointer (some ⟨gz, 0, none⟩), .pointer (some ⟨gb, 3, none⟩), .int .i32 eb, .nilIface])) w' := by
    intro w' hf'
    have hfw := Fr.step hf hf' (fun _ _ h => h.elim)
    refine ⟨_, _, rfl, ?_, ?_, hfw, by first | exact .inr rfl | exact .inl (.inl rfl) | exact .inl (.inr rfl), by first | exact .inr rfl | exact .inl (.inl rfl) | exact .inl (.inr rfl)⟩
    · exact ⟨gz, 0, _, _, R2, c2, rfl, Blk.fr (t := 69) hB hf' (fun h => h), rfl, rfl, hr.rd.fr hf' (fun _ _ h => h), by decide⟩
    · exact ⟨gb, 3, _, _, B, cb, rfl, HL.out.1.fr hfw HL.out.2.2.2, rfl, rfl, HL.out.2.1.fr hfw (fun k hk h => HL.out.2.2.1 k hk h), by decide⟩
  have e2 : w2.cell? ⟨gb, 2, none⟩ = some (.int .i32 eb) := (HL.out.1.fr hf HL.out.2.2.2).cell 2
  have Fin := hide fin
  clear fin hf hr hrb hB hF HF1 Con2 HX HL HZ HG a2 b2
  go_wp2_with fail
  go_quiet (fail)
  go_wp2
  exact bodyPost_ret (up_result _ _ _ _ _ rfl rfl rfl rfl _) rfl (Fin.out _ ((Fr.refl w2 _).drewN _))

set_option maxHeartbeats 1000000 in
set_option maxRecDepth 20000 in
theorem up_lt (ga gb gz bh s : Nat) (na nb : Bool) (ea eb : Int) (A B : Option Addr) (ca cb a b : Nat) (w : World)
    (ha : Blk w ga 71 (decC 0 na ea false (.slice A (digs 18446744073709551616 a).length ca) false)) (hb : Blk w gb 71 (decC 0 nb eb false (.slice B (digs 18446744073709551616 b).length cb) false))
    (hhr : Own w bh (.slice B (digs 18446744073709551616 b).length cb) (digs 18446744073709551616 b)) (hlr : RdW w (.slice A (digs 18446744073709551616 a).length ca) (digs 18446744073709551616 a)) (hlz : ∀ k, (Value.slice A (digs 18446744073709551616 a).length ca).ownBlock = some k → k ≠ gz)
    (hz : Blk w gz 69 #[.bool false, .slice none 0 0, .bool false]) (hga : ga ≠ gz) (hgb : gb ≠ gz) (hv : Vars w gz) (hs : eb - ea = (s : Int)) (hs1 : 1 ≤ s) (hs2 : s ≤ 400) (h3 : (digs 18446744073709551616 b).length ≤ 3) (he : -1000000 ≤ ea ∧ ea ≤ 1000000 ∧ -1000000 ≤ eb ∧ eb ≤ 1000000) :
    Calls Tryz.prog 71 #[.pointer (some ⟨ga, 0, none⟩), .pointer (some ⟨gb, 0, none⟩), .pointer (some ⟨gz, 0, none⟩)] w (UpP w ea (a) (b * 10 ^ s) (fun k => k = gz) (fun k => (k = ga ∨ k = gb) ∨ k = gz)) := by
  have a2 : w.cell? ⟨ga, 2, none⟩ = some (.int .i32 ea) := ha.cell 2
  have b2 : w.cell? ⟨gb, 2, none⟩ = some (.int .i32 eb) := hb.cell 2
  have ne : (ea == eb) = false := beq_eq_false_iff_ne.2 (by omega)
  obtain ⟨q1, q2, q3, q4⟩ := he
  have hh := hb
  have hl := ha
  have hgl := hga
  have hpl : (digs 18446744073709551616 (10 ^ s)).length ≤ 22 := digs_length_le (by omega) (by rw [show 22 = 11 + 11 from rfl, Nat.pow_add]; exact pow_half_lt (q := 200) (by omega) (by decide))
  have con := fun n : Nat => tabExp_any gz gz false false (.slice none 0 0) 0 s (w.drewN n) hz (Own.nil _ _).room (Nat.le_of_lt hz.lt) (Nat.le_refl _) (by omega) (pow10_lt (n := 200) (by omega) (by decide)) ⟨hv.c0, hv.c1, hv.c2, hv.l⟩
  have Con := hide con
  have HX := hide (And.intro hh (And.intro hhr (And.intro hv (And.intro hz (And.intro hpl h3)))))
  have HL := hide (And.intro hl (And.intro hlr (And.intro hlz hgl)))
  have hzl := hz.lt
  have HZ := hide hzl
  have HG := hide hgb
  clear ha hb hh hl hhr hlr hlz hz hga hgb hgl hv con hpl h3 hzl
  go_enter Tryz.func71, Tryz.ntmps71
  go_wp2_with fail
  go_quiet (fail)
  go_wp2_with fail
  go_quiet (fail)
  go_wp2_with fail
  go_quiet (fail)
  go_wp2_with fail
  refine (Con.out _).mono ?_
  rintro e w1 ⟨rfl, R, cr, hr, hrb, hB, hF⟩
  have hF1 : Fr w w1 (fun k => k = gz) := (Fr.step ((Fr.refl w (fun k => k = gz)).drewN _) hF (fun i _ h => by rcases h with h | h; exact h; cases h))
  have hnew : ∀ k, (Value.slice R (digs 18446744073709551616 (10 ^ s)).length cr).ownBlock = some k → w.heap.size ≤ k := by
    intro k hk
    rcases hrb with h | ⟨j, h1, h2⟩
    · rw [hk] at h; cases h
    · rw [hk] at h1
      have e : k = j := by injection h1
      rw [e]; exact h2
  have hxr := HX.out.2.1.fr hF1 (HX.out.2.1.room.ne_blk HX.out.2.2.2.1 (by decide))
  have con2 := bmul_self gz bh gz 0 gb 3 69 71 _ _ _ cr R (digs 18446744073709551616 (10 ^ s)) B _ cb (digs 18446744073709551616 b) false w1 hB rfl rfl rfl hr (by decide)
    (HX.out.1.fr hF1 HG.out) rfl rfl hxr (by decide) (fun k hk h2 => by have := hnew k hk; have := (HX.out.2.1.lt h2).2; omega) (Ne.symm HG.out) (by have := hB.lt; omega) (Nat.le_refl _) rfl rfl (by have := HX.out.2.2.2.2.2; omega) (by have := HX.out.2.2.2.2.1; omega)
    (dig_digs (by omega) _) (dig_digs (by omega) _) (canon_digs (by omega) _) (canon_digs (by omega) _) (HX.out.2.2.1.fr hF1 (fun k hk => by rw [hk]; exact Nat.le_refl _))
  rw [dval_digs (by omega), dval_digs (by omega)] at con2
  have Con2 := hide con2
  have HF1 := hide (And.intro hF1 hnew)
  clear con2 hF1 hnew hxr hr hrb hB hF Con
  go_wp2_with fail
  refine (Con2.out).mono ?_
  rintro e w2 ⟨rfl, R2, c2, hr, hrb, hB, hF⟩
  have hf : Fr w w2 (fun k => k = gz) := Fr.step HF1.out.1 hF (fun i hi h => by
    rcases h with h | h
    · exact h
    · have := HF1.out.2 i h; omega)
  have fin : ∀ w' : World, Fr w2 w' (fun _ => False) → UpP w ea (a) (b * 10 ^ s) (fun k => k = gz) (fun k => (k = ga ∨ k = gb) ∨ k = gz) (.returned (.tuple #[.pointer (some ⟨ga, 3, none⟩), .pointer (some ⟨gz, 0, none⟩), .int .i32 ea, .nilIface])) w' := by
    intro w' hf'
    have hfw := Fr.step hf hf' (fun _ _ h => h.elim)
    refine ⟨_, _, rfl, ?_, ?_, hfw, by first | exact .inr rfl | exact .inl (.inl rfl) | exact .inl (.inr rfl), by first | exact .inr rfl | exact .inl (.inl rfl) | exact .inl (.inr rfl)⟩
    · exact ⟨ga, 3, _, _, A, ca, rfl, HL.out.1.fr hfw HL.out.2.2.2, rfl, rfl, HL.out.2.1.fr hfw (fun k hk h => HL.out.2.2.1 k hk h), by decide⟩
    · exact ⟨gz, 0, _, _, R2, c2, rfl, Blk.fr (t := 69) hB hf' (fun h => h), rfl, rfl, hr.rd.fr hf' (fun _ _ h => h), by decide⟩
  have e2 : w2.cell? ⟨ga, 2, none⟩ = some (.int .i32 ea) := (HL.out.1.fr hf HL.out.2.2.2).cell 2
  have Fin := hide fin
  clear fin hf hr hrb hB hF HF1 Con2 HX HL HZ HG a2 b2
  go_wp2_with fail
  go_quiet (fail)
  go_wp2
  exact bodyPost_ret (up_result _ _ _ _ _ rfl rfl rfl rfl _) rfl (Fin.out _ ((Fr.refl w2 _).drewN _))
end Go.Proofs.YtfkcobdkgjhfaaaGreatDoor

/- Walks: upscale whatever the exponents; ZZUpscale; the thin package's Upscale. -/
set_option linter.unusedVariables false
set_option linter.unusedSimpArgs false
namespace Go.Proofs.YtfkcobdkgjhfaaaGreatDoor
open Go.RowKit

theorem up_any (ga gb gz sa sb bha bhb : Nat) (na nb : Bool) (m : Int) (A B : Option Addr) (ca cb a b : Nat) (w : World)
    (ha : Blk w ga 71 (decC 0 na (m + sa) false (.slice A (digs 18446744073709551616 a).length ca) false)) (hb : Blk w gb 71 (decC 0 nb (m + sb) false (.slice B (digs 18446744073709551616 b).length cb) false))
    (har : Own w bha (.slice A (digs 18446744073709551616 a).length ca) (digs 18446744073709551616 a)) (hbr : Own w bhb (.slice B (digs 18446744073709551616 b).length cb) (digs 18446744073709551616 b))
    (hz : Blk w gz 69 #[.bool false, .slice none 0 0, .bool false]) (hga : ga ≠ gz) (hgb : gb ≠ gz) (hv : Vars w gz) (hs : sa = 0 ∨ sb = 0) (hsa : sa ≤ 400) (hsb : sb ≤ 400) (hm : -1000 ≤ m ∧ m ≤ 1000) (h3 : (digs 18446744073709551616 a).length ≤ 3) (h3b : (digs 18446744073709551616 b).length ≤ 3) :
    Calls Tryz.prog 71 #[.pointer (some ⟨ga, 0, none⟩), .pointer (some ⟨gb, 0, none⟩), .pointer (some ⟨gz, 0, none⟩)] w (UpP w m (a * 10 ^ sa) (b * 10 ^ sb) (fun k => k = gz) (fun k => (k = ga ∨ k = gb) ∨ k = gz)) := by
  have hza := har.room.ne_blk hz (by decide)
  have hzb := hbr.room.ne_blk hz (by decide)
  rcases Nat.eq_zero_or_pos sa with rfl | h1
  · rw [Nat.pow_zero, Nat.mul_one]
    rcases Nat.eq_zero_or_pos sb with rfl | h2
    · rw [Nat.pow_zero, Nat.mul_one]
      have e : m + ((0 : Nat) : Int) = m := by omega
      rw [e] at ha hb
      exact up_eq ga gb gz na nb m A B ca cb a b w ha hb har.rd hbr.rd
    · have e : m + ((0 : Nat) : Int) = m := by omega
      rw [e] at ha
      exact up_lt ga gb gz bhb sb na nb m (m + sb) A B ca cb a b w ha hb hbr har.rd hza hz hga hgb hv (by omega) h2 hsb h3b (by omega)
  · have hs0 : sb = 0 := by omega
    subst hs0
    rw [Nat.pow_zero, Nat.mul_one]
    have e : m + ((0 : Nat) : Int) = m := by omega
    rw [e] at hb
    exact up_gt ga gb gz bha sa na nb (m + sa) m A B ca cb a b w ha hb har hbr.rd hzb hz hga hgb hv (by omega) h1 hsa h3 (by omega)


end Go.Proofs.YtfkcobdkgjhfaaaGreatDoor
