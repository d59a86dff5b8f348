/- Parts of the proofs: Set64, DivQR. -/
import Derived.Test.YtfkcobdkgjhfaaaGreatDoorG5
import Derived.Test.YtfkcobdkgjhfaaaGreatDoorG7
/- Walks: nat's setWord, setUint64; Int's and BigInt's SetInt64, Abs; Decimal's setCoefficient, SetFinite, SetInt64. -/
set_option linter.unusedVariables false
set_option linter.unusedSimpArgs false
namespace Go.Proofs.YtfkcobdkgjhfaaaGreatDoor
open Go.RowKit

theorem digs_word {x : Nat} (h : x < 18446744073709551616) (h0 : x ≠ 0) : digs 18446744073709551616 x = [x] := by
  rw [digs_pos (by omega) (by omega), Nat.div_eq_of_lt h, digs_zero, Nat.mod_eq_of_lt h]

theorem setWord_any (base : Nat) (z : Value) (m x : Nat) (w : World) (hz : Room w base z m) (hb : base ≤ w.heap.size) (hx : x < 18446744073709551616) :
    Calls Tryz.prog 135 #[z, .int .u64 (x : Int)] w (SetP w base z (digs 18446744073709551616 x)) := by
  by_cases h0 : x = 0
  · subst h0
    obtain ⟨A, cap, rfl⟩ := hz.slice
    have H : SetP w base (.slice A m cap) (digs 18446744073709551616 0) (.returned (.slice A 0 cap)) w := by
      rw [digs_zero]
      exact ⟨A, cap, rfl, (room_cut hz (Nat.zero_le _)).empty, .inl (by cases A <;> rfl), Fr.refl _ _⟩
    have HH := hide H
    clear H hz
    go_enter Tryz.func135, Tryz.ntmps135
    go_wp2
    go_ret
    exact HH.out
  · have b0 : ((x : Int) == 0) = false := beq_eq_false_iff_ne.2 (by omega)
    have hd := digs_word hx h0
    have HD := hide hd
    clear hd h0
    have con := make_any base z m 1 w hz hb (by omega) (by omega)
    have Con := hide con
    clear con hz
    go_enter Tryz.func135, Tryz.ntmps135
    go_wp2_with fail
    refine (Con.out).mono ?_
    rintro e w1 ⟨r, rfl, hr, hrb, hbel⟩
    rcases hr.form with ⟨_, h1⟩ | ⟨g', cap, cur, rfl, hg, hh, ha, hcap, hs⟩
    · simp at h1
    · have ha1 : 1 ≤ cap := by simpa using ha
      obtain ⟨u, c0⟩ : ∃ u, w1.cell? ⟨g', 0, none⟩ = some u := ⟨_, (hh.cell 0).trans (Array.getElem?_eq_getElem (by omega))⟩
      have f0 := hh.frozen 0
      have H : SetP w base z (digs 18446744073709551616 x) (.returned (.slice (some ⟨g', 0, none⟩) 1 cap)) (w1.setCell ⟨g', 0, none⟩ (.int .u64 (x : Int))) := by
        rw [HD.out]
        refine ⟨_, cap, rfl, Own.mk hg (hh.set 0 _) ha1 hcap (by simpa using hs) ?_, hrb.imp id (fun h => ⟨_, h, Nat.le_refl _⟩), (Fr.of_below hbel _).setCell (p := ⟨g', 0, none⟩) (fun hlt => ?_) _⟩
        · obtain ⟨l⟩ := cur
          cases l with
          | nil => simp at hs; omega
          | cons a l => simp [wv]
        · rcases hrb with h | h
          · exact h.symm
          · simp [Value.ownBlock] at h; simp at hlt; omega
      have HH := hide H
      clear H hr hrb hbel hh hs
      go_wp2
      go_ret
      exact HH.out

theorem setUint64_any (base : Nat) (z : Value) (m x : Nat) (w : World) (hz : Room w base z m) (hb : base ≤ w.heap.size) (hx : x < 18446744073709551616) :
    Calls Tryz.prog 118 #[z, .int .u64 (x : Int)] w (SetP w base z (digs 18446744073709551616 x)) := by
  have Con := hide (setWord_any base z m x w hz hb hx)
  clear hz
  obtain ⟨y, hy⟩ : ∃ y : Int, y = (x : Int) := ⟨_, rfl⟩
  rw [← hy] at Con ⊢
  clear hy
  go_enter Tryz.func118, Tryz.ntmps118
  go_wp2_with fail
  refine (Con.out).mono ?_
  rintro e w1 ⟨A, c, rfl, h⟩
  have HH : SetP w base z (digs 18446744073709551616 x) (.returned (.slice A (digs 18446744073709551616 x).length c)) w1 := ⟨A, c, rfl, h⟩
  have H2 := hide HH
  clear HH h
  go_wp2
  go_ret
  exact H2.out

set_option maxHeartbeats 1000000 in
theorem isetInt64_any (base gz oz : Nat) (tz : TypeId) (cz : Array Value) (nz : Bool) (vz : Value) (m : Nat) (x : Int) (w : World)
    (hz : Blk w gz tz cz) (hz0 : cz[oz]? = some (.bool nz)) (hz1 : cz[oz + 1]? = some vz) (hzr : Room w base vz m) (htz : tz ≠ 145) (hb : base ≤ w.heap.size) (hx0 : -9223372036854775808 ≤ x) (hx1 : x < 9223372036854775808) :
    Calls Tryz.prog 90 #[.pointer (some ⟨gz, oz, none⟩), .int .i64 x] w (IntP w base gz oz tz cz vz (decide (x < 0)) (digs 18446744073709551616 x.natAbs)) := by
  have c1 : w.cell? ⟨gz, oz + 1, none⟩ = some vz := (hz.cell _).trans hz1
  have hzne : ∀ k, vz.ownBlock = some k → k ≠ gz := hzr.ne_blk hz htz
  have key : ∀ (r : Value) (w1 : World), Fr w w1 (fun k => vz.ownBlock = some k) → w1.cell? ⟨gz, oz + 1, none⟩ = some vz ∧ w1.frozen? ⟨gz, oz + 1, none⟩ = false ∧
      (w1.setCell ⟨gz, oz + 1, none⟩ r).cell? ⟨gz, oz, none⟩ = some (.bool nz) ∧ (w1.setCell ⟨gz, oz + 1, none⟩ r).frozen? ⟨gz, oz, none⟩ = false := by
    intro r w1 hf
    have b1 : Blk w1 gz tz cz := hz.fr hf (fun h => hzne gz h rfl)
    refine ⟨(b1.cell _).trans hz1, b1.frozen _, ?_, ?_⟩
    · rw [World.cell?_setCell_other _ _ _ _ (by intro e; injection e with e1 e2; omega)]
      exact (b1.cell _).trans hz0
    · rw [World.frozen?_setCell]; exact b1.frozen _
  have fin : ∀ (n : Bool) (r : Value) (w1 : World) (xs : List Nat), Own w1 base r xs → (r.ownBlock = vz.ownBlock ∨ ∃ k, r.ownBlock = some k ∧ w.heap.size ≤ k) → Fr w w1 (fun k => vz.ownBlock = some k) →
      IntP w base gz oz tz cz vz n xs (.returned (.pointer (some ⟨gz, oz, none⟩))) ((w1.setCell ⟨gz, oz + 1, none⟩ r).setCell ⟨gz, oz, none⟩ (.bool n)) := by
    intro n r w1 xs hr hrb hf
    have b1 : Blk w1 gz tz cz := hz.fr hf (fun h => hzne gz h rfl)
    refine ⟨rfl, r, ?_, hrb, (b1.set _ _).set _ _, ?_⟩
    · have hg : ∀ k, r.ownBlock = some k → k ≠ gz := hr.room.ne_blk b1 htz
      exact (hr.fr (Fr.setCell (Fr.refl w1 (fun k => k = gz)) (p := ⟨gz, oz + 1, none⟩) (fun _ => rfl) r) hg).fr (Fr.setCell (Fr.refl _ (fun k => k = gz)) (p := ⟨gz, oz, none⟩) (fun _ => rfl) _) hg
    · exact ((hf.mono (fun k _ h => .inr h)).setCell (p := ⟨gz, oz + 1, none⟩) (fun _ => .inl rfl) _).setCell (p := ⟨gz, oz, none⟩) (fun _ => .inl rfl) _
  have con := setUint64_any base vz m x.natAbs w hzr hb (by omega)
  have Key := hide key
  have Fin := hide fin
  clear hz hz0 hz1 key fin hzne hzr
  by_cases hneg : x < 0
  · have e1 : IntKind.u64.wrap (wrap64 (-x)) = (x.natAbs : Int) := by simp [IntKind.wrap, IntKind.signed, IntKind.bits, wrap64]; omega
    rw [← e1] at con
    have Con := hide con
    rw [decide_eq_true hneg]
    clear con e1
    go_enter Tryz.func90, Tryz.ntmps90
    go_wp2_with fail
    refine (Con.out).mono ?_
    rintro e w1 ⟨A, c, rfl, hr, hrb, hf⟩
    obtain ⟨k1, k2, k3, k4⟩ := Key.out (.slice A (digs 18446744073709551616 x.natAbs).length c) w1 hf
    have HF := hide (Fin.out true (.slice A (digs 18446744073709551616 x.natAbs).length c) w1 _ hr hrb hf)
    clear hr hrb hf
    go_wp2
    go_ret
    exact HF.out
  · have e1 : (x.natAbs : Int) = x := by omega
    rw [e1] at con
    have Con := hide con
    rw [decide_eq_false hneg]
    clear con e1
    go_enter Tryz.func90, Tryz.ntmps90
    go_wp2_with fail
    refine (Con.out).mono ?_
    rintro e w1 ⟨A, c, rfl, hr, hrb, hf⟩
    obtain ⟨k1, k2, k3, k4⟩ := Key.out (.slice A (digs 18446744073709551616 x.natAbs).length c) w1 hf
    have HF := hide (Fin.out false (.slice A (digs 18446744073709551616 x.natAbs).length c) w1 _ hr hrb hf)
    clear hr hrb hf
    go_wp2
    go_ret
    exact HF.out
set_option maxHeartbeats 800000 in
theorem bsetInt64_any (base gz oz : Nat) (tz : TypeId) (cz : Array Value) (nz mz : Bool) (vz : Value) (m : Nat) (x : Int) (w : World)
    (hz : Blk w gz tz cz) (hz0 : cz[oz]? = some (.bool nz)) (hz1 : cz[oz + 1]? = some vz) (hz2 : cz[oz + 2]? = some (.bool mz)) (hzr : Room w base vz m) (htz : tz ≠ 145) (hb : base ≤ w.heap.size) (hx0 : -9223372036854775808 ≤ x) (hx1 : x < 9223372036854775808) :
    Calls Tryz.prog 50 #[.pointer (some ⟨gz, oz, none⟩), .int .i64 x] w (BigP w base gz oz tz cz vz (decide (x < 0)) false (digs 18446744073709551616 x.natAbs)) := by
  have c1 : w.cell? ⟨gz, oz + 2, none⟩ = some (.bool mz) := (hz.cell _).trans hz2
  have f1 : w.frozen? ⟨gz, oz + 2, none⟩ = false := hz.frozen _
  have hf0 : Fr w (w.setCell ⟨gz, oz + 2, none⟩ (.bool false)) (fun k => k = gz) := (Fr.refl w (fun k => k = gz)).setCell (p := ⟨gz, oz + 2, none⟩) (fun _ => rfl) _
  have con := isetInt64_any base gz oz tz (cz.setIfInBounds (oz + 2) (.bool false)) nz vz m x (w.setCell ⟨gz, oz + 2, none⟩ (.bool false))
    (hz.set _ _) (by rw [getElem?_set_ne (by omega)]; exact hz0) (by rw [getElem?_set_ne (by omega)]; exact hz1) (hzr.fr hf0 (hzr.ne_blk hz htz)) htz (by simpa using hb) hx0 hx1
  have fin : ∀ e w', IntP (w.setCell ⟨gz, oz + 2, none⟩ (.bool false)) base gz oz tz (cz.setIfInBounds (oz + 2) (.bool false)) vz (decide (x < 0)) (digs 18446744073709551616 x.natAbs) e w' → BigP w base gz oz tz cz vz (decide (x < 0)) false (digs 18446744073709551616 x.natAbs) e w' := by
    rintro e w' ⟨he, r, hr, hrb, hB, hF⟩
    obtain ⟨A, c, rfl⟩ := hr.room.slice
    refine ⟨he, A, c, hr, ?_, hB, ?_⟩
    · simpa using hrb
    · exact Fr.step (hf0.mono (fun k _ h => .inl h)) hF (fun i _ h => h)
  have Con := hide con
  have Fin := hide fin
  clear hz hz0 hz1 hz2 con fin hf0 hzr
  go_enter Tryz.func50, Tryz.ntmps50
  go_wp2_with fail
  refine (Con.out).mono ?_
  rintro e w1 HI
  have HI2 := hide HI
  obtain ⟨rfl, _⟩ := HI
  go_wp2
  go_ret
  exact Fin.out _ _ HI2.out

theorem run_neq_ptr_same {P : Program} (w : World) {tp te : TypeId} {j : TypeInfo} (a : Addr) (hp : P.underlying tp = some (.pointer te)) (hte : P.info? te = some j) :
    (binOp .neq tp (.pointer (some a)) (.pointer (some a))).run P w = .ok (.bool false) w := by
  have h : ∀ d : Nat, (Op.equalIn (d + 1) tp (.pointer (some a)) (.pointer (some a))).run P w = .ok true w := fun d => by
    simp [Op.equalIn, run_underlying hp, sizeOf, typeInfo, hte, run_sameAddr_same]
  simp only [binOp]
  simp [Op.equal, Op.maxDepth, h 9999]

theorem iset_same (g o : Nat) (w : World) : Calls Tryz.prog 87 #[.pointer (some ⟨g, o, none⟩), .pointer (some ⟨g, o, none⟩)] w fun e w' => e = .returned (.pointer (some ⟨g, o, none⟩)) ∧ w = w' := by
  obtain ⟨j, hj, hs⟩ := Option.map_eq_some_iff.1 infoInt
  have hcmp := run_neq_ptr_same w ⟨g, o, none⟩ Tryz.underlying143 hj
  clear hj hs
  go_enter Tryz.func87, Tryz.ntmps87
  go_wp2
  go_ret
  exact ⟨rfl, rfl⟩

theorem iabs_same (g o : Nat) (b : Bool) (w : World) (h : w.cell? ⟨g, o, none⟩ = some (.bool b)) (hf : w.frozen? ⟨g, o, none⟩ = false) :
    Calls Tryz.prog 139 #[.pointer (some ⟨g, o, none⟩), .pointer (some ⟨g, o, none⟩)] w fun e w' => e = .returned (.pointer (some ⟨g, o, none⟩)) ∧ w' = w.setCell ⟨g, o, none⟩ (.bool false) := by
  have Con := hide (iset_same g o w)
  go_enter Tryz.func139, Tryz.ntmps139
  go_wp2_with fail
  refine (Con.out).mono ?_
  rintro e w1 ⟨rfl, rfl⟩
  go_wp2
  go_ret
  exact ⟨rfl, rfl⟩

theorem babs_same (g o : Nat) (b m : Bool) (w : World) (h : w.cell? ⟨g, o, none⟩ = some (.bool b)) (hf : w.frozen? ⟨g, o, none⟩ = false) (h2 : w.cell? ⟨g, o + 2, none⟩ = some (.bool m)) (hf2 : w.frozen? ⟨g, o + 2, none⟩ = false) :
    Calls Tryz.prog 121 #[.pointer (some ⟨g, o, none⟩), .pointer (some ⟨g, o, none⟩)] w fun e w' => e = .returned (.pointer (some ⟨g, o, none⟩)) ∧ w' = (w.setCell ⟨g, o + 2, none⟩ (.bool false)).drew.setCell ⟨g, o, none⟩ (.bool false) := by
  have con := iabs_same g o b (w.setCell ⟨g, o + 2, none⟩ (.bool false)).drew (by show (w.setCell ⟨g, o + 2, none⟩ (.bool false)).cell? _ = _; rw [World.cell?_setCell_other _ _ _ _ (by intro e; injection e with e1 e2; omega)]; exact h) (by show (w.setCell ⟨g, o + 2, none⟩ (.bool false)).frozen? _ = _; rw [World.frozen?_setCell]; exact hf)
  have Con := hide con
  clear con
  go_enter Tryz.func121, Tryz.ntmps121
  go_wp2_with fail
  go_region_with (go_at_call 139; go_loud (refine (Con.out).mono ?_; rintro e w1 ⟨rfl, rfl⟩))
  all_goals go_wp2
  all_goals go_ret
  all_goals exact ⟨rfl, rfl⟩

/-- A coefficient, set. -/
def CoefP (w : World) (base g : Nat) (neg : Bool) (exp : Int) (vz : Value) (xs : List Nat) (e : Ending) (w' : World) : Prop :=
  ∃ v A c, e = .returned v ∧ Own w' base (.slice A xs.length c) xs ∧ ((Value.slice A xs.length c).ownBlock = vz.ownBlock ∨ ∃ k, (Value.slice A xs.length c).ownBlock = some k ∧ w.heap.size ≤ k) ∧
    Blk w' g 71 (decC 0 neg exp false (.slice A xs.length c) false) ∧ Fr w w' (fun k => k = g ∨ vz.ownBlock = some k)

set_option maxHeartbeats 1000000 in
theorem setCoef_any (base gz : Nat) (fz : Int) (nz : Bool) (ez : Int) (bz : Bool) (vz : Value) (mz : Bool) (m : Nat) (x : Int) (w : World)
    (hz : Blk w gz 71 (decC fz nz ez bz vz mz)) (hzr : Room w base vz m) (hb : base ≤ w.heap.size) (hx0 : -9223372036854775808 ≤ x) (hx1 : x < 9223372036854775808) :
    Calls Tryz.prog 124 #[.pointer (some ⟨gz, 0, none⟩), .int .i64 x] w (CoefP w base gz (decide (x < 0)) ez vz (digs 18446744073709551616 x.natAbs)) := by
  have z1 : w.cell? ⟨gz, 1, none⟩ = some (.bool nz) := hz.cell 1
  have f1 := hz.frozen 1
  have hfW : Fr w (w.setCell ⟨gz, 1, none⟩ (.bool (decide (x < 0)))) (fun k => k = gz) := (Fr.refl w (fun k => k = gz)).setCell (p := ⟨gz, 1, none⟩) (fun _ => rfl) _
  have hzW : Blk (w.setCell ⟨gz, 1, none⟩ (.bool (decide (x < 0)))) gz 71 (decC fz (decide (x < 0)) ez bz vz mz) := hz.set 1 _
  have con := bsetInt64_any base gz 3 71 (decC fz (decide (x < 0)) ez bz vz mz) bz mz vz m x (w.setCell ⟨gz, 1, none⟩ (.bool (decide (x < 0)))) hzW rfl rfl rfl (hzr.fr hfW (hzr.ne_blk hz (by decide))) (by decide) (by simpa using hb) hx0 hx1
  have fin : ∀ (w2 : World) (A : Option Addr) (c : Nat), Own w2 base (.slice A (digs 18446744073709551616 x.natAbs).length c) (digs 18446744073709551616 x.natAbs) → ((Value.slice A (digs 18446744073709551616 x.natAbs).length c).ownBlock = vz.ownBlock ∨ ∃ k, (Value.slice A (digs 18446744073709551616 x.natAbs).length c).ownBlock = some k ∧ w.heap.size ≤ k) →
      Blk w2 gz 71 (decC fz (decide (x < 0)) ez (decide (x < 0)) (.slice A (digs 18446744073709551616 x.natAbs).length c) false) → Fr w w2 (fun k => k = gz ∨ vz.ownBlock = some k) →
      ∀ W, W = ((w2.drew.setCell ⟨gz, 5, none⟩ (.bool false)).drew.setCell ⟨gz, 3, none⟩ (.bool false)) → W.cell? ⟨gz, 0, none⟩ = some (.int .i8 fz) ∧ W.frozen? ⟨gz, 0, none⟩ = false ∧
        Hid (∀ v, CoefP w base gz (decide (x < 0)) ez vz (digs 18446744073709551616 x.natAbs) (.returned v) (W.setCell ⟨gz, 0, none⟩ (.int .i8 0))) := by
    rintro w2 A c hr hrb hB hF W rfl
    have hg : ∀ k, (Value.slice A (digs 18446744073709551616 x.natAbs).length c).ownBlock = some k → k ≠ gz := hr.room.ne_blk hB (by decide)
    have f3 : Fr w2 ((w2.drew.setCell ⟨gz, 5, none⟩ (.bool false)).drew.setCell ⟨gz, 3, none⟩ (.bool false)) (fun k => k = gz) := (((Fr.refl w2 (fun k => k = gz)).drew.setCell (p := ⟨gz, 5, none⟩) (fun _ => rfl) _).drew).setCell (p := ⟨gz, 3, none⟩) (fun _ => rfl) _
    have hB3 : Blk ((w2.drew.setCell ⟨gz, 5, none⟩ (.bool false)).drew.setCell ⟨gz, 3, none⟩ (.bool false)) gz 71 (decC fz (decide (x < 0)) ez false (.slice A (digs 18446744073709551616 x.natAbs).length c) false) := by
      have a1 : Blk w2.drew gz 71 (decC fz (decide (x < 0)) ez (decide (x < 0)) (.slice A (digs 18446744073709551616 x.natAbs).length c) false) := hB
      have a2 := a1.set 5 (.bool false)
      have a3 : Blk (w2.drew.setCell ⟨gz, 5, none⟩ (.bool false)).drew gz _ _ := a2
      exact a3.set 3 (.bool false)
    refine ⟨hB3.cell 0, hB3.frozen 0, fun v => ⟨v, A, c, rfl, ?_, hrb, hB3.set 0 _, ?_⟩⟩
    · exact (hr.fr f3 hg).fr ((Fr.refl _ (fun k => k = gz)).setCell (p := ⟨gz, 0, none⟩) (fun _ => rfl) _) hg
    · exact (Fr.step hF f3 (fun i _ h => .inl h)).setCell (p := ⟨gz, 0, none⟩) (fun _ => .inl rfl) _
  have Con := hide con
  have Fin := hide fin
  have HW := hide hfW
  clear hz hzr hzW con fin hfW
  go_enter Tryz.func124, Tryz.ntmps124
  go_wp2_with fail
  refine (Con.out).mono ?_
  rintro e w2 ⟨rfl, A, c, hr, hrb, hB, hF⟩
  have hB2 : Blk w2 gz 71 (decC fz (decide (x < 0)) ez (decide (x < 0)) (.slice A (digs 18446744073709551616 x.natAbs).length c) false) := hB
  have Fin1 := hide (Fin.out w2 A c hr (by simpa using hrb) hB2 (Fr.step (HW.out.mono (fun k _ h => .inl h)) hF (fun i _ h => h)))
  have con2 := babs_same gz 3 (decide (x < 0)) false w2.drew (hB2.cell 3) (hB2.frozen 3) (hB2.cell 5) (hB2.frozen 5)
  have Con2 := hide con2
  clear hr hrb hB hF hB2 con2 Con Fin HW
  go_wp2_with fail
  go_region_with (go_at_call 121; go_loud (refine (Con2.out).mono ?_; rintro e w3 ⟨rfl, hw3⟩; obtain ⟨k1, k2, Fin2⟩ := Fin1.out w3 hw3; clear hw3))
  all_goals go_wp2
  all_goals go_end0
  all_goals exact Fin2.out _
set_option maxHeartbeats 1000000 in
theorem setFinite_any (base gz : Nat) (fz : Int) (nz : Bool) (ez : Int) (bz : Bool) (vz : Value) (mz : Bool) (m : Nat) (x ex : Int) (w : World)
    (hz : Blk w gz 71 (decC fz nz ez bz vz mz)) (hzr : Room w base vz m) (hb : base ≤ w.heap.size) (hx0 : -9223372036854775808 ≤ x) (hx1 : x < 9223372036854775808) :
    Calls Tryz.prog 98 #[.pointer (some ⟨gz, 0, none⟩), .int .i64 x, .int .i32 ex] w (DsetP w base gz 0 (decide (x < 0)) ex false vz false (digs 18446744073709551616 x.natAbs)) := by
  have Con := hide (setCoef_any base gz fz nz ez bz vz mz m x w hz hzr hb hx0 hx1)
  clear hz hzr
  go_enter Tryz.func98, Tryz.ntmps98
  go_wp2_with fail
  refine (Con.out).mono ?_
  rintro e w1 ⟨v, A, c, rfl, hr, hrb, hB, hF⟩
  have c2 : w1.cell? ⟨gz, 2, none⟩ = some (.int .i32 ez) := hB.cell 2
  have f2 := hB.frozen 2
  have hg : ∀ k, (Value.slice A (digs 18446744073709551616 x.natAbs).length c).ownBlock = some k → k ≠ gz := hr.room.ne_blk hB (by decide)
  have fin : DsetP w base gz 0 (decide (x < 0)) ex false vz false (digs 18446744073709551616 x.natAbs) (.returned (.pointer (some ⟨gz, 0, none⟩))) (w1.setCell ⟨gz, 2, none⟩ (.int .i32 ex)) :=
    ⟨rfl, A, c, hr.fr ((Fr.refl w1 (fun k => k = gz)).setCell (p := ⟨gz, 2, none⟩) (fun _ => rfl) _) hg, hrb, hB.set 2 _, hF.setCell (p := ⟨gz, 2, none⟩) (fun _ => .inl rfl) _⟩
  have Fin := hide fin
  clear fin hr hrb hB hF hg Con
  go_wp2
  go_ret
  exact Fin.out

theorem setInt64_any (base gz : Nat) (fz : Int) (nz : Bool) (ez : Int) (bz : Bool) (vz : Value) (mz : Bool) (m : Nat) (x : Int) (w : World)
    (hz : Blk w gz 71 (decC fz nz ez bz vz mz)) (hzr : Room w base vz m) (hb : base ≤ w.heap.size) (hx0 : -9223372036854775808 ≤ x) (hx1 : x < 9223372036854775808) :
    Calls Tryz.prog 62 #[.pointer (some ⟨gz, 0, none⟩), .int .i64 x] w (DsetP w base gz 0 (decide (x < 0)) 0 false vz false (digs 18446744073709551616 x.natAbs)) := by
  have Con := hide (setFinite_any base gz fz nz ez bz vz mz m x 0 w hz hzr hb hx0 hx1)
  clear hz hzr
  go_enter Tryz.func62, Tryz.ntmps62
  go_wp2_with fail
  refine (Con.out).mono ?_
  rintro e w1 HI
  have HI2 := hide HI
  obtain ⟨rfl, _⟩ := HI
  go_wp2
  go_ret
  exact HI2.out
end Go.Proofs.YtfkcobdkgjhfaaaGreatDoor

/- Walk: nat.div by one word, with a place for the quotient and one for the rest. -/
set_option linter.unusedVariables false
set_option linter.unusedSimpArgs false
namespace Go.Proofs.YtfkcobdkgjhfaaaGreatDoor
open Go.RowKit

/-- Behind 'z.div(nil, z2, u, v)', v of one word: the quotient in z's block or a new one, the rest in z2's or a new one. -/
def QrP (w : World) (base : Nat) (z z2 : Value) (a y : Nat) (e : Ending) (w' : World) : Prop :=
  ∃ (Q R : Option Addr) (cq cr : Nat), e = .returned (.tuple #[.slice Q (digs 18446744073709551616 (a / y)).length cq, .slice R (digs 18446744073709551616 (a % y)).length cr]) ∧
    Own w' base (.slice Q (digs 18446744073709551616 (a / y)).length cq) (digs 18446744073709551616 (a / y)) ∧ Own w' base (.slice R (digs 18446744073709551616 (a % y)).length cr) (digs 18446744073709551616 (a % y)) ∧
    ((Value.slice Q (digs 18446744073709551616 (a / y)).length cq).ownBlock = z.ownBlock ∨ ∃ k, (Value.slice Q (digs 18446744073709551616 (a / y)).length cq).ownBlock = some k ∧ w.heap.size ≤ k) ∧
    ((Value.slice R (digs 18446744073709551616 (a % y)).length cr).ownBlock = z2.ownBlock ∨ ∃ k, (Value.slice R (digs 18446744073709551616 (a % y)).length cr).ownBlock = some k ∧ w.heap.size ≤ k) ∧
    (∀ k, (Value.slice Q (digs 18446744073709551616 (a / y)).length cq).ownBlock = some k → (Value.slice R (digs 18446744073709551616 (a % y)).length cr).ownBlock ≠ some k) ∧
    Fr w w' (fun k => z.ownBlock = some k ∨ z2.ownBlock = some k)

set_option maxHeartbeats 1000000 in
set_option maxRecDepth 20000 in
theorem divQR_any (base : Nat) (z z2 : Value) (m m2 y : Nat) (A : Option Addr) (c a : Nat) (gv ov cv : Nat) (w : World) (hz : Room w base z m) (hz2 : Room w base z2 m2) (hzz : ∀ k, z.ownBlock = some k → z2.ownBlock ≠ some k) (hb : base ≤ w.heap.size) (hnb : (digs 18446744073709551616 a).length ≤ 1099511627776) (ha : 0 < a)
    (hx : RdW w (.slice A (digs 18446744073709551616 a).length c) (digs 18446744073709551616 a)) (hxb : ∀ k, (Value.slice A (digs 18446744073709551616 a).length c).ownBlock = some k → z.ownBlock ≠ some k) (hv : w.cell? ⟨gv, ov, none⟩ = some (.int .u64 (y : Int))) (hy1 : 1 < y) (hy : y < 18446744073709551616) :
    Calls Tryz.prog 123 #[z, .pointer none, z2, .slice A (digs 18446744073709551616 a).length c, .slice (some ⟨gv, ov, none⟩) 1 cv] w (QrP w base z z2 a y) := by
  have hn1 : 1 ≤ (digs 18446744073709551616 a).length := List.length_pos_iff.2 (digs_ne_nil (by omega) ha)
  have con := divW_any base (digs 18446744073709551616 a).length z m y A c (digs 18446744073709551616 a) w hz hb rfl hnb hn1 hx hxb hy1 hy (dig_digs (by omega) _)
  have ht : trimz (divD y (digs 18446744073709551616 a)).1 = digs 18446744073709551616 (a / y) := by
    have h := (divD_quo (y := y) (by omega) (digs 18446744073709551616 a)).1
    rw [dval_digs (by omega)] at h
    rw [← h, digs_dval_trim (by omega) (divD_dig (by omega) _ (dig_digs (by omega) _))]
  have hr : (divD y (digs 18446744073709551616 a)).2 = a % y := by
    have h := (divD_quo (y := y) (by omega) (digs 18446744073709551616 a)).2
    rwa [dval_digs (by omega)] at h
  unfold DivWP at con
  rw [ht, hr] at con
  have Con := hide con
  have HZ := hide (And.intro hz2 (And.intro hzz (And.intro hb (And.intro hz hy))))
  have hay : a % y < 18446744073709551616 := by have := Nat.mod_lt a (show y > 0 by omega); omega
  have HAY := hide hay
  clear hx hxb hz hz2 hzz con ht hr hn1 hb hay ha
  go_enter_defers Tryz.func123, Tryz.ntmps123
  go_wp2_with fail
  refine (Con.out).mono ?_
  rintro e w1 ⟨Q, cq, rr, rfl, hrr, hown, hblk, hfr⟩
  have hrr' : rr = a % y := hrr.out
  subst hrr'
  have hz1 : Room w1 base z2 m2 := HZ.out.1.fr hfr (fun k hk h => HZ.out.2.1 k h hk)
  have con2 := setWord_any base z2 m2 (a % y) w1 hz1 (Nat.le_trans HZ.out.2.2.1 hfr.size) HAY.out
  have Con2 := hide con2
  have HF := hide hfr
  have HO := hide (And.intro hown hblk)
  clear con2 hz1 hown hblk hfr Con hrr
  go_wp2_with fail
  refine (Con2.out).mono ?_
  rintro e w2 ⟨R, cr, rfl, hr2, hb2, hf2⟩
  have hQ : ∀ k, (Value.slice Q (digs 18446744073709551616 (a / y)).length cq).ownBlock = some k → z2.ownBlock ≠ some k := fun k hk h => by
    rcases HO.out.2 with h1 | ⟨k', h1, h2⟩
    · exact HZ.out.2.1 k (h1 ▸ hk) h
    · rw [h1] at hk
      obtain rfl := Option.some.inj hk
      have := (HZ.out.1.lt h).2
      omega
  have hs := HF.out.size
  have Fin : Hid (QrP w base z z2 a y (.returned (.tuple #[.slice Q (digs 18446744073709551616 (a / y)).length cq, .slice R (digs 18446744073709551616 (a % y)).length cr])) w2) := by
    refine ⟨Q, R, cq, cr, rfl, HO.out.1.fr hf2 hQ, hr2, HO.out.2, hb2.imp id (fun ⟨k, h1, h2⟩ => ⟨k, h1, by omega⟩), fun k hk h => ?_, Fr.step (HF.out.mono (fun _ _ h => .inl h)) hf2 (fun _ _ h => .inr h)⟩
    rcases hb2 with h1 | ⟨k', h1, h2⟩
    · exact hQ k hk (h1 ▸ h)
    · rw [h1] at h
      obtain rfl := Option.some.inj h
      have := (HO.out.1.lt hk).2
      omega
  clear hr2 hb2 hf2 Con2 hQ hs HO HF HZ
  generalize (digs 18446744073709551616 (a / y)).length = nq at *
  generalize (digs 18446744073709551616 (a % y)).length = nr at *
  go_wp2
  refine ⟨_, results_tmp2 (t := 10) (u := 11) rfl _ _ _, ?_⟩
  exact Fin.out
end Go.Proofs.YtfkcobdkgjhfaaaGreatDoor
