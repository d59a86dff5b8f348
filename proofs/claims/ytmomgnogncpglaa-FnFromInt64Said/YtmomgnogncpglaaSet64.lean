/- Walks: nat's setWord, setUint64; Int's and BigInt's SetInt64, Abs; Decimal's setCoefficient, SetFinite, SetInt64. -/
import Derived.Test.YtmomgnogncpglaaDec3
set_option linter.unusedVariables false
set_option linter.unusedSimpArgs false
namespace Go.Proofs.Ytmomgnogncpglaa
open Go.RowKit

theorem digs_word {x : Nat} (h : x < 18446744073709551616) (h0 : x ≠ 0) : digs 18446744073709551616 x = [x] := by
  rw [digs_pos (by omega) (by omega), Nat.div_eq_of_lt h, digs_zero, Nat.mod_eq_of_lt h]

theorem setWord_any (base : Nat) (z : Value) (m x : Nat) (w : World) (hz : Room w base z m) (hb : base ≤ w.heap.size) (hx : x < 18446744073709551616) :
    Calls Try.prog 56 #[z, .int .u64 (x : Int)] w (SetP w base z (digs 18446744073709551616 x)) := by
  by_cases h0 : x = 0
  · subst h0
    obtain ⟨A, cap, rfl⟩ := hz.slice
    have H : SetP w base (.slice A m cap) (digs 18446744073709551616 0) (.returned (.slice A 0 cap)) w := by
      rw [digs_zero]
      exact ⟨A, cap, rfl, (room_cut hz (Nat.zero_le _)).empty, .inl (by cases A <;> rfl), Fr.refl _ _⟩
    have HH := hide H
    clear H hz
    go_enter Try.func56, Try.ntmps56
    go_wp2
    go_ret
    exact HH.out
  · have b0 : ((x : Int) == 0) = false := beq_eq_false_iff_ne.2 (by omega)
    have hd := digs_word hx h0
    have HD := hide hd
    clear hd h0
    have con := make_any base z m 1 w hz hb (by omega) (by omega)
    have Con := hide con
    clear con hz
    go_enter Try.func56, Try.ntmps56
    go_wp2_with fail
    refine (Con.out).mono ?_
    rintro e w1 ⟨r, rfl, hr, hrb, hbel⟩
    rcases hr.form with ⟨_, h1⟩ | ⟨g', cap, cur, rfl, hg, hh, ha, hcap, hs⟩
    · simp at h1
    · have ha1 : 1 ≤ cap := by simpa using ha
      obtain ⟨u, c0⟩ : ∃ u, w1.cell? ⟨g', 0, none⟩ = some u := ⟨_, (hh.cell 0).trans (Array.getElem?_eq_getElem (by omega))⟩
      have f0 := hh.frozen 0
      have H : SetP w base z (digs 18446744073709551616 x) (.returned (.slice (some ⟨g', 0, none⟩) 1 cap)) (w1.setCell ⟨g', 0, none⟩ (.int .u64 (x : Int))) := by
        rw [HD.out]
        refine ⟨_, cap, rfl, Own.mk hg (hh.set 0 _) ha1 hcap (by simpa using hs) ?_, hrb.imp id (fun h => ⟨_, h, Nat.le_refl _⟩), (Fr.of_below hbel _).setCell (p := ⟨g', 0, none⟩) (fun hlt => ?_) _⟩
        · obtain ⟨l⟩ := cur
          cases l with
          | nil => simp at hs; omega
          | cons a l => simp [wv]
        · rcases hrb with h | h
          · exact h.symm
          · simp [Value.ownBlock] at h; simp at hlt; omega
      have HH := hide H
      clear H hr hrb hbel hh hs
      go_wp2
      go_ret
      exact HH.out

theorem setUint64_any (base : Nat) (z : Value) (m x : Nat) (w : World) (hz : Room w base z m) (hb : base ≤ w.heap.size) (hx : x < 18446744073709551616) :
    Calls Try.prog 55 #[z, .int .u64 (x : Int)] w (SetP w base z (digs 18446744073709551616 x)) := by
  have Con := hide (setWord_any base z m x w hz hb hx)
  clear hz
  obtain ⟨y, hy⟩ : ∃ y : Int, y = (x : Int) := ⟨_, rfl⟩
  rw [← hy] at Con ⊢
  clear hy
  go_enter Try.func55, Try.ntmps55
  go_wp2_with fail
  refine (Con.out).mono ?_
  rintro e w1 ⟨A, c, rfl, h⟩
  have HH : SetP w base z (digs 18446744073709551616 x) (.returned (.slice A (digs 18446744073709551616 x).length c)) w1 := ⟨A, c, rfl, h⟩
  have H2 := hide HH
  clear HH h
  go_wp2
  go_ret
  exact H2.out

set_option maxHeartbeats 1000000 in
theorem isetInt64_any (base gz oz : Nat) (tz : TypeId) (cz : Array Value) (nz : Bool) (vz : Value) (m : Nat) (x : Int) (w : World)
    (hz : Blk w gz tz cz) (hz0 : cz[oz]? = some (.bool nz)) (hz1 : cz[oz + 1]? = some vz) (hzr : Room w base vz m) (htz : tz ≠ 75) (hb : base ≤ w.heap.size) (hx0 : -9223372036854775808 ≤ x) (hx1 : x < 9223372036854775808) :
    Calls Try.prog 52 #[.pointer (some ⟨gz, oz, none⟩), .int .i64 x] w (IntP w base gz oz tz cz vz (decide (x < 0)) (digs 18446744073709551616 x.natAbs)) := by
  have c1 : w.cell? ⟨gz, oz + 1, none⟩ = some vz := (hz.cell _).trans hz1
  have hzne : ∀ k, vz.ownBlock = some k → k ≠ gz := hzr.ne_blk hz htz
  have key : ∀ (r : Value) (w1 : World), Fr w w1 (fun k => vz.ownBlock = some k) → w1.cell? ⟨gz, oz + 1, none⟩ = some vz ∧ w1.frozen? ⟨gz, oz + 1, none⟩ = false ∧
      (w1.setCell ⟨gz, oz + 1, none⟩ r).cell? ⟨gz, oz, none⟩ = some (.bool nz) ∧ (w1.setCell ⟨gz, oz + 1, none⟩ r).frozen? ⟨gz, oz, none⟩ = false := by
    intro r w1 hf
    have b1 : Blk w1 gz tz cz := hz.fr hf (fun h => hzne gz h rfl)
    refine ⟨(b1.cell _).trans hz1, b1.frozen _, ?_, ?_⟩
    · rw [World.cell?_setCell_other _ _ _ _ (by intro e; injection e with e1 e2; omega)]
      exact (b1.cell _).trans hz0
    · rw [World.frozen?_setCell]; exact b1.frozen _
  have fin : ∀ (n : Bool) (r : Value) (w1 : World) (xs : List Nat), Own w1 base r xs → (r.ownBlock = vz.ownBlock ∨ ∃ k, r.ownBlock = some k ∧ w.heap.size ≤ k) → Fr w w1 (fun k => vz.ownBlock = some k) →
      IntP w base gz oz tz cz vz n xs (.returned (.pointer (some ⟨gz, oz, none⟩))) ((w1.setCell ⟨gz, oz + 1, none⟩ r).setCell ⟨gz, oz, none⟩ (.bool n)) := by
    intro n r w1 xs hr hrb hf
    have b1 : Blk w1 gz tz cz := hz.fr hf (fun h => hzne gz h rfl)
    refine ⟨rfl, r, ?_, hrb, (b1.set _ _).set _ _, ?_⟩
    · have hg : ∀ k, r.ownBlock = some k → k ≠ gz := hr.room.ne_blk b1 htz
      exact (hr.fr (Fr.setCell (Fr.refl w1 (fun k => k = gz)) (p := ⟨gz, oz + 1, none⟩) (fun _ => rfl) r) hg).fr (Fr.setCell (Fr.refl _ (fun k => k = gz)) (p := ⟨gz, oz, none⟩) (fun _ => rfl) _) hg
    · exact ((hf.mono (fun k _ h => .inr h)).setCell (p := ⟨gz, oz + 1, none⟩) (fun _ => .inl rfl) _).setCell (p := ⟨gz, oz, none⟩) (fun _ => .inl rfl) _
  have con := setUint64_any base vz m x.natAbs w hzr hb (by omega)
  have Key := hide key
  have Fin := hide fin
  clear hz hz0 hz1 key fin hzne hzr
  by_cases hneg : x < 0
  · have e1 : IntKind.u64.wrap (wrap64 (-x)) = (x.natAbs : Int) := by simp [IntKind.wrap, IntKind.signed, IntKind.bits, wrap64]; omega
    rw [← e1] at con
    have Con := hide con
    rw [decide_eq_true hneg]
    clear con e1
    go_enter Try.func52, Try.ntmps52
    go_wp2_with fail
    refine (Con.out).mono ?_
    rintro e w1 ⟨A, c, rfl, hr, hrb, hf⟩
    obtain ⟨k1, k2, k3, k4⟩ := Key.out (.slice A (digs 18446744073709551616 x.natAbs).length c) w1 hf
    have HF := hide (Fin.out true (.slice A (digs 18446744073709551616 x.natAbs).length c) w1 _ hr hrb hf)
    clear hr hrb hf
    go_wp2
    go_ret
    exact HF.out
  · have e1 : (x.natAbs : Int) = x := by omega
    rw [e1] at con
    have Con := hide con
    rw [decide_eq_false hneg]
    clear con e1
    go_enter Try.func52, Try.ntmps52
    go_wp2_with fail
    refine (Con.out).mono ?_
    rintro e w1 ⟨A, c, rfl, hr, hrb, hf⟩
    obtain ⟨k1, k2, k3, k4⟩ := Key.out (.slice A (digs 18446744073709551616 x.natAbs).length c) w1 hf
    have HF := hide (Fin.out false (.slice A (digs 18446744073709551616 x.natAbs).length c) w1 _ hr hrb hf)
    clear hr hrb hf
    go_wp2
    go_ret
    exact HF.out
set_option maxHeartbeats 800000 in
theorem bsetInt64_any (base gz oz : Nat) (tz : TypeId) (cz : Array Value) (nz mz : Bool) (vz : Value) (m : Nat) (x : Int) (w : World)
    (hz : Blk w gz tz cz) (hz0 : cz[oz]? = some (.bool nz)) (hz1 : cz[oz + 1]? = some vz) (hz2 : cz[oz + 2]? = some (.bool mz)) (hzr : Room w base vz m) (htz : tz ≠ 75) (hb : base ≤ w.heap.size) (hx0 : -9223372036854775808 ≤ x) (hx1 : x < 9223372036854775808) :
    Calls Try.prog 47 #[.pointer (some ⟨gz, oz, none⟩), .int .i64 x] w (BigP w base gz oz tz cz vz (decide (x < 0)) false (digs 18446744073709551616 x.natAbs)) := by
  have c1 : w.cell? ⟨gz, oz + 2, none⟩ = some (.bool mz) := (hz.cell _).trans hz2
  have f1 : w.frozen? ⟨gz, oz + 2, none⟩ = false := hz.frozen _
  have hf0 : Fr w (w.setCell ⟨gz, oz + 2, none⟩ (.bool false)) (fun k => k = gz) := (Fr.refl w (fun k => k = gz)).setCell (p := ⟨gz, oz + 2, none⟩) (fun _ => rfl) _
  have con := isetInt64_any base gz oz tz (cz.setIfInBounds (oz + 2) (.bool false)) nz vz m x (w.setCell ⟨gz, oz + 2, none⟩ (.bool false))
    (hz.set _ _) (by rw [getElem?_set_ne (by omega)]; exact hz0) (by rw [getElem?_set_ne (by omega)]; exact hz1) (hzr.fr hf0 (hzr.ne_blk hz htz)) htz (by simpa using hb) hx0 hx1
  have fin : ∀ e w', IntP (w.setCell ⟨gz, oz + 2, none⟩ (.bool false)) base gz oz tz (cz.setIfInBounds (oz + 2) (.bool false)) vz (decide (x < 0)) (digs 18446744073709551616 x.natAbs) e w' → BigP w base gz oz tz cz vz (decide (x < 0)) false (digs 18446744073709551616 x.natAbs) e w' := by
    rintro e w' ⟨he, r, hr, hrb, hB, hF⟩
    obtain ⟨A, c, rfl⟩ := hr.room.slice
    refine ⟨he, A, c, hr, ?_, hB, ?_⟩
    · simpa using hrb
    · exact Fr.step (hf0.mono (fun k _ h => .inl h)) hF (fun i _ h => h)
  have Con := hide con
  have Fin := hide fin
  clear hz hz0 hz1 hz2 con fin hf0 hzr
  go_enter Try.func47, Try.ntmps47
  go_wp2_with fail
  refine (Con.out).mono ?_
  rintro e w1 HI
  have HI2 := hide HI
  obtain ⟨rfl, _⟩ := HI
  go_wp2
  go_ret
  exact Fin.out _ _ HI2.out

theorem run_neq_ptr_same {P : Program} (w : World) {tp te : TypeId} {j : TypeInfo} (a : Addr) (hp : P.underlying tp = some (.pointer te)) (hte : P.info? te = some j) :
    (binOp .neq tp (.pointer (some a)) (.pointer (some a))).run P w = .ok (.bool false) w := by
  have h : ∀ d : Nat, (Op.equalIn (d + 1) tp (.pointer (some a)) (.pointer (some a))).run P w = .ok true w := fun d => by
    simp [Op.equalIn, run_underlying hp, sizeOf, typeInfo, hte, run_sameAddr_same]
  simp only [binOp]
  simp [Op.equal, Op.maxDepth, h 9999]

theorem iset_same (g o : Nat) (w : World) : Calls Try.prog 43 #[.pointer (some ⟨g, o, none⟩), .pointer (some ⟨g, o, none⟩)] w fun e w' => e = .returned (.pointer (some ⟨g, o, none⟩)) ∧ w = w' := by
  obtain ⟨j, hj, hs⟩ := Option.map_eq_some_iff.1 infoInt
  have hcmp := run_neq_ptr_same w ⟨g, o, none⟩ Try.underlying72 hj
  clear hj hs
  go_enter Try.func43, Try.ntmps43
  go_wp2
  go_ret
  exact ⟨rfl, rfl⟩

theorem iabs_same (g o : Nat) (b : Bool) (w : World) (h : w.cell? ⟨g, o, none⟩ = some (.bool b)) (hf : w.frozen? ⟨g, o, none⟩ = false) :
    Calls Try.prog 53 #[.pointer (some ⟨g, o, none⟩), .pointer (some ⟨g, o, none⟩)] w fun e w' => e = .returned (.pointer (some ⟨g, o, none⟩)) ∧ w' = w.setCell ⟨g, o, none⟩ (.bool false) := by
  have Con := hide (iset_same g o w)
  go_enter Try.func53, Try.ntmps53
  go_wp2_with fail
  refine (Con.out).mono ?_
  rintro e w1 ⟨rfl, rfl⟩
  go_wp2
  go_ret
  exact ⟨rfl, rfl⟩

theorem babs_same (g o : Nat) (b m : Bool) (w : World) (h : w.cell? ⟨g, o, none⟩ = some (.bool b)) (hf : w.frozen? ⟨g, o, none⟩ = false) (h2 : w.cell? ⟨g, o + 2, none⟩ = some (.bool m)) (hf2 : w.frozen? ⟨g, o + 2, none⟩ = false) :
    Calls Try.prog 48 #[.pointer (some ⟨g, o, none⟩), .pointer (some ⟨g, o, none⟩)] w fun e w' => e = .returned (.pointer (some ⟨g, o, none⟩)) ∧ w' = (w.setCell ⟨g, o + 2, none⟩ (.bool false)).drew.setCell ⟨g, o, none⟩ (.bool false) := by
  have con := iabs_same g o b (w.setCell ⟨g, o + 2, none⟩ (.bool false)).drew (by show (w.setCell ⟨g, o + 2, none⟩ (.bool false)).cell? _ = _; rw [World.cell?_setCell_other _ _ _ _ (by intro e; injection e with e1 e2; omega)]; exact h) (by show (w.setCell ⟨g, o + 2, none⟩ (.bool false)).frozen? _ = _; rw [World.frozen?_setCell]; exact hf)
  have Con := hide con
  clear con
  go_enter Try.func48, Try.ntmps48
  go_wp2_with fail
  go_region_with (go_at_call 53; go_loud (refine (Con.out).mono ?_; rintro e w1 ⟨rfl, rfl⟩))
  all_goals go_wp2
  all_goals go_ret
  all_goals exact ⟨rfl, rfl⟩

/-- A coefficient, set. -/
def CoefP (w : World) (base g : Nat) (neg : Bool) (exp : Int) (vz : Value) (xs : List Nat) (e : Ending) (w' : World) : Prop :=
  ∃ v A c, e = .returned v ∧ Own w' base (.slice A xs.length c) xs ∧ ((Value.slice A xs.length c).ownBlock = vz.ownBlock ∨ ∃ k, (Value.slice A xs.length c).ownBlock = some k ∧ w.heap.size ≤ k) ∧
    Blk w' g 60 (decC 0 neg exp false (.slice A xs.length c) false) ∧ Fr w w' (fun k => k = g ∨ vz.ownBlock = some k)

set_option maxHeartbeats 1000000 in
theorem setCoef_any (base gz : Nat) (fz : Int) (nz : Bool) (ez : Int) (bz : Bool) (vz : Value) (mz : Bool) (m : Nat) (x : Int) (w : World)
    (hz : Blk w gz 60 (decC fz nz ez bz vz mz)) (hzr : Room w base vz m) (hb : base ≤ w.heap.size) (hx0 : -9223372036854775808 ≤ x) (hx1 : x < 9223372036854775808) :
    Calls Try.prog 38 #[.pointer (some ⟨gz, 0, none⟩), .int .i64 x] w (CoefP w base gz (decide (x < 0)) ez vz (digs 18446744073709551616 x.natAbs)) := by
  have z1 : w.cell? ⟨gz, 1, none⟩ = some (.bool nz) := hz.cell 1
  have f1 := hz.frozen 1
  have hfW : Fr w (w.setCell ⟨gz, 1, none⟩ (.bool (decide (x < 0)))) (fun k => k = gz) := (Fr.refl w (fun k => k = gz)).setCell (p := ⟨gz, 1, none⟩) (fun _ => rfl) _
  have hzW : Blk (w.setCell ⟨gz, 1, none⟩ (.bool (decide (x < 0)))) gz 60 (decC fz (decide (x < 0)) ez bz vz mz) := hz.set 1 _
  have con := bsetInt64_any base gz 3 60 (decC fz (decide (x < 0)) ez bz vz mz) bz mz vz m x (w.setCell ⟨gz, 1, none⟩ (.bool (decide (x < 0)))) hzW rfl rfl rfl (hzr.fr hfW (hzr.ne_blk hz (by decide))) (by decide) (by simpa using hb) hx0 hx1
  have fin : ∀ (w2 : World) (A : Option Addr) (c : Nat), Own w2 base (.slice A (digs 18446744073709551616 x.natAbs).length c) (digs 18446744073709551616 x.natAbs) → ((Value.slice A (digs 18446744073709551616 x.natAbs).length c).ownBlock = vz.ownBlock ∨ ∃ k, (Value.slice A (digs 18446744073709551616 x.natAbs).length c).ownBlock = some k ∧ w.heap.size ≤ k) →
      Blk w2 gz 60 (decC fz (decide (x < 0)) ez (decide (x < 0)) (.slice A (digs 18446744073709551616 x.natAbs).length c) false) → Fr w w2 (fun k => k = gz ∨ vz.ownBlock = some k) →
      ∀ W, W = ((w2.drew.setCell ⟨gz, 5, none⟩ (.bool false)).drew.setCell ⟨gz, 3, none⟩ (.bool false)) → W.cell? ⟨gz, 0, none⟩ = some (.int .i8 fz) ∧ W.frozen? ⟨gz, 0, none⟩ = false ∧
        Hid (∀ v, CoefP w base gz (decide (x < 0)) ez vz (digs 18446744073709551616 x.natAbs) (.returned v) (W.setCell ⟨gz, 0, none⟩ (.int .i8 0))) := by
    rintro w2 A c hr hrb hB hF W rfl
    have hg : ∀ k, (Value.slice A (digs 18446744073709551616 x.natAbs).length c).ownBlock = some k → k ≠ gz := hr.room.ne_blk hB (by decide)
    have f3 : Fr w2 ((w2.drew.setCell ⟨gz, 5, none⟩ (.bool false)).drew.setCell ⟨gz, 3, none⟩ (.bool false)) (fun k => k = gz) := (((Fr.refl w2 (fun k => k = gz)).drew.setCell (p := ⟨gz, 5, none⟩) (fun _ => rfl) _).drew).setCell (p := ⟨gz, 3, none⟩) (fun _ => rfl) _
    have hB3 : Blk ((w2.drew.setCell ⟨gz, 5, none⟩ (.bool false)).drew.setCell ⟨gz, 3, none⟩ (.bool false)) gz 60 (decC fz (decide (x < 0)) ez false (.slice A (digs 18446744073709551616 x.natAbs).length c) false) := by
      have a1 : Blk w2.drew gz 60 (decC fz (decide (x < 0)) ez (decide (x < 0)) (.slice A (digs 18446744073709551616 x.natAbs).length c) false) := hB
      have a2 := a1.set 5 (.bool false)
      have a3 : Blk (w2.drew.setCell ⟨gz, 5, none⟩ (.bool false)).drew gz _ _ := a2
      exact a3.set 3 (.bool false)
    refine ⟨hB3.cell 0, hB3.frozen 0, fun v => ⟨v, A, c, rfl, ?_, hrb, hB3.set 0 _, ?_⟩⟩
    · exact (hr.fr f3 hg).fr ((Fr.refl _ (fun k => k = gz)).setCell (p := ⟨gz, 0, none⟩) (fun _ => rfl) _) hg
    · exact (Fr.step hF f3 (fun i _ h => .inl h)).setCell (p := ⟨gz, 0, none⟩) (fun _ => .inl rfl) _
  have Con := hide con
  have Fin := hide fin
  have HW := hide hfW
  clear hz hzr hzW con fin hfW
  go_enter Try.func38, Try.ntmps38
  go_wp2_with fail
  refine (Con.out).mono ?_
  rintro e w2 ⟨rfl, A, c, hr, hrb, hB, hF⟩
  have hB2 : Blk w2 gz 60 (decC fz (decide (x < 0)) ez (decide (x < 0)) (.slice A (digs 18446744073709551616 x.natAbs).length c) false) := hB
  have Fin1 := hide (Fin.out w2 A c hr (by simpa using hrb) hB2 (Fr.step (HW.out.mono (fun k _ h => .inl h)) hF (fun i _ h => h)))
  have con2 := babs_same gz 3 (decide (x < 0)) false w2.drew (hB2.cell 3) (hB2.frozen 3) (hB2.cell 5) (hB2.frozen 5)
  have Con2 := hide con2
  clear hr hrb hB hF hB2 con2 Con Fin HW
  go_wp2_with fail
  go_region_with (go_at_call 48; go_loud (refine (Con2.out).mono ?_; rintro e w3 ⟨rfl, hw3⟩; obtain ⟨k1, k2, Fin2⟩ := Fin1.out w3 hw3; clear hw3))
  all_goals go_wp2
  all_goals go_end0
  all_goals exact Fin2.out _
set_option maxHeartbeats 1000000 in
theorem setFinite_any (base gz : Nat) (fz : Int) (nz : Bool) (ez : Int) (bz : Bool) (vz : Value) (mz : Bool) (m : Nat) (x ex : Int) (w : World)
    (hz : Blk w gz 60 (decC fz nz ez bz vz mz)) (hzr : Room w base vz m) (hb : base ≤ w.heap.size) (hx0 : -9223372036854775808 ≤ x) (hx1 : x < 9223372036854775808) :
    Calls Try.prog 29 #[.pointer (some ⟨gz, 0, none⟩), .int .i64 x, .int .i32 ex] w (DsetP w base gz 0 (decide (x < 0)) ex false vz false (digs 18446744073709551616 x.natAbs)) := by
  have Con := hide (setCoef_any base gz fz nz ez bz vz mz m x w hz hzr hb hx0 hx1)
  clear hz hzr
  go_enter Try.func29, Try.ntmps29
  go_wp2_with fail
  refine (Con.out).mono ?_
  rintro e w1 ⟨v, A, c, rfl, hr, hrb, hB, hF⟩
  have c2 : w1.cell? ⟨gz, 2, none⟩ = some (.int .i32 ez) := hB.cell 2
  have f2 := hB.frozen 2
  have hg : ∀ k, (Value.slice A (digs 18446744073709551616 x.natAbs).length c).ownBlock = some k → k ≠ gz := hr.room.ne_blk hB (by decide)
  have fin : DsetP w base gz 0 (decide (x < 0)) ex false vz false (digs 18446744073709551616 x.natAbs) (.returned (.pointer (some ⟨gz, 0, none⟩))) (w1.setCell ⟨gz, 2, none⟩ (.int .i32 ex)) :=
    ⟨rfl, A, c, hr.fr ((Fr.refl w1 (fun k => k = gz)).setCell (p := ⟨gz, 2, none⟩) (fun _ => rfl) _) hg, hrb, hB.set 2 _, hF.setCell (p := ⟨gz, 2, none⟩) (fun _ => .inl rfl) _⟩
  have Fin := hide fin
  clear fin hr hrb hB hF hg Con
  go_wp2
  go_ret
  exact Fin.out

theorem setInt64_any (base gz : Nat) (fz : Int) (nz : Bool) (ez : Int) (bz : Bool) (vz : Value) (mz : Bool) (m : Nat) (x : Int) (w : World)
    (hz : Blk w gz 60 (decC fz nz ez bz vz mz)) (hzr : Room w base vz m) (hb : base ≤ w.heap.size) (hx0 : -9223372036854775808 ≤ x) (hx1 : x < 9223372036854775808) :
    Calls Try.prog 28 #[.pointer (some ⟨gz, 0, none⟩), .int .i64 x] w (DsetP w base gz 0 (decide (x < 0)) 0 false vz false (digs 18446744073709551616 x.natAbs)) := by
  have Con := hide (setFinite_any base gz fz nz ez bz vz mz m x 0 w hz hzr hb hx0 hx1)
  clear hz hzr
  go_enter Try.func28, Try.ntmps28
  go_wp2_with fail
  refine (Con.out).mono ?_
  rintro e w1 HI
  have HI2 := hide HI
  obtain ⟨rfl, _⟩ := HI
  go_wp2
  go_ret
  exact HI2.out
end Go.Proofs.Ytmomgnogncpglaa
