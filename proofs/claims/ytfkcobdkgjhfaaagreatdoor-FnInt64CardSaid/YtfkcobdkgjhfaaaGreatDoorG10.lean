/- Parts of the proofs: Set64, Mul1, Own2. -/
import Derived.Test.YtfkcobdkgjhfaaaGreatDoorG7
import Derived.Test.YtfkcobdkgjhfaaaGreatDoorG8
import Derived.Test.YtfkcobdkgjhfaaaGreatDoorG9
/- Walks: nat's setWord, setUint64; Int's and BigInt's SetInt64, Abs; Decimal's setCoefficient, SetFinite, SetInt64. -/
set_option linter.unusedVariables false
set_option linter.unusedSimpArgs false
namespace Go.Proofs.YtfkcobdkgjhfaaaGreatDoor
open Go.RowKit

theorem digs_word {x : Nat} (h : x < 18446744073709551616) (h0 : x ≠ 0) : digs 18446744073709551616 x = [x] := by
  rw [digs_pos (by omega) (by omega), Nat.div_eq_of_lt h, digs_zero, Nat.mod_eq_of_lt h]

theorem setWord_any (base : Nat) (z : Value) (m x : Nat) (w : World) (hz : Room w base z m) (hb : base ≤ w.heap.size) (hx : x < 18446744073709551616) :
    Calls Tryz.prog 135 #[z, .int .u64 (x : Int)] w (SetP w base z (digs 18446744073709551616 x)) := by
  by_cases h0 : x = 0
  · subst h0
    obtain ⟨A, cap, rfl⟩ := hz.slice
    have H : SetP w base (.slice A m cap) (digs 18446744073709551616 0) (.returned (.slice A 0 cap)) w := by
      rw [digs_zero]
      exact ⟨A, cap, rfl, (room_cut hz (Nat.zero_le _)).empty, .inl (by cases A <;> rfl), Fr.refl _ _⟩
    have HH := hide H
    clear H hz
    go_enter Tryz.func135, Tryz.ntmps135
    go_wp2
    go_ret
    exact HH.out
  · have b0 : ((x : Int) == 0) = false := beq_eq_false_iff_ne.2 (by omega)
    have hd := digs_word hx h0
    have HD := hide hd
    clear hd h0
    have con := make_any base z m 1 w hz hb (by omega) (by omega)
    have Con := hide con
    clear con hz
    go_enter Tryz.func135, Tryz.ntmps135
    go_wp2_with fail
    refine (Con.out).mono ?_
    rintro e w1 ⟨r, rfl, hr, hrb, hbel⟩
    rcases hr.form with ⟨_, h1⟩ | ⟨g', cap, cur, rfl, hg, hh, ha, hcap, hs⟩
    · simp at h1
    · have ha1 : 1 ≤ cap := by simpa using ha
      obtain ⟨u, c0⟩ : ∃ u, w1.cell? ⟨g', 0, none⟩ = some u := ⟨_, (hh.cell 0).trans (Array.getElem?_eq_getElem (by omega))⟩
      have f0 := hh.frozen 0
      have H : SetP w base z (digs 18446744073709551616 x) (.returned (.slice (some ⟨g', 0, none⟩) 1 cap)) (w1.setCell ⟨g', 0, none⟩ (.int .u64 (x : Int))) := by
        rw [HD.out]
        refine ⟨_, cap, rfl, Own.mk hg (hh.set 0 _) ha1 hcap (by simpa using hs) ?_, hrb.imp id (fun h => ⟨_, h, Nat.le_refl _⟩), (Fr.of_below hbel _).setCell (p := ⟨g', 0, none⟩) (fun hlt => ?_) _⟩
        · obtain ⟨l⟩ := cur
          cases l with
          | nil => simp at hs; omega
          | cons a l => simp [wv]
        · rcases hrb with h | h
          · exact h.symm
          · simp [Value.ownBlock] at h; simp at hlt; omega
      have HH := hide H
      clear H hr hrb hbel hh hs
      go_wp2
      go_ret
      exact HH.out

theorem setUint64_any (base : Nat) (z : Value) (m x : Nat) (w : World) (hz : Room w base z m) (hb : base ≤ w.heap.size) (hx : x < 18446744073709551616) :
    Calls Tryz.prog 118 #[z, .int .u64 (x : Int)] w (SetP w base z (digs 18446744073709551616 x)) := by
  have Con := hide (setWord_any base z m x w hz hb hx)
  clear hz
  obtain ⟨y, hy⟩ : ∃ y : Int, y = (x : Int) := ⟨_, rfl⟩
  rw [← hy] at Con ⊢
  clear hy
  go_enter Tryz.func118, Tryz.ntmps118
  go_wp2_with fail
  refine (Con.out).mono ?_
  rintro e w1 ⟨A, c, rfl, h⟩
  have HH : SetP w base z (digs 18446744073709551616 x) (.returned (.slice A (digs 18446744073709551616 x).length c)) w1 := ⟨A, c, rfl, h⟩
  have H2 := hide HH
  clear HH h
  go_wp2
  go_ret
  exact H2.out

set_option maxHeartbeats 1000000 in
theorem isetInt64_any (base gz oz : Nat) (tz : TypeId) (cz : Array Value) (nz : Bool) (vz : Value) (m : Nat) (x : Int) (w : World)
    (hz : Blk w gz tz cz) (hz0 : cz[oz]? = some (.bool nz)) (hz1 : cz[oz + 1]? = some vz) (hzr : Room w base vz m) (htz : tz ≠ 145) (hb : base ≤ w.heap.size) (hx0 : -9223372036854775808 ≤ x) (hx1 : x < 9223372036854775808) :
    Calls Tryz.prog 90 #[.pointer (some ⟨gz, oz, none⟩), .int .i64 x] w (IntP w base gz oz tz cz vz (decide (x < 0)) (digs 18446744073709551616 x.natAbs)) := by
  have c1 : w.cell? ⟨gz, oz + 1, none⟩ = some vz := (hz.cell _).trans hz1
  have hzne : ∀ k, vz.ownBlock = some k → k ≠ gz := hzr.ne_blk hz htz
  have key : ∀ (r : Value) (w1 : World), Fr w w1 (fun k => vz.ownBlock = some k) → w1.cell? ⟨gz, oz + 1, none⟩ = some vz ∧ w1.frozen? ⟨gz, oz + 1, none⟩ = false ∧
      (w1.setCell ⟨gz, oz + 1, none⟩ r).cell? ⟨gz, oz, none⟩ = some (.bool nz) ∧ (w1.setCell ⟨gz, oz + 1, none⟩ r).frozen? ⟨gz, oz, none⟩ = false := by
    intro r w1 hf
    have b1 : Blk w1 gz tz cz := hz.fr hf (fun h => hzne gz h rfl)
    refine ⟨(b1.cell _).trans hz1, b1.frozen _, ?_, ?_⟩
    · rw [World.cell?_setCell_other _ _ _ _ (by intro e; injection e with e1 e2; omega)]
      exact (b1.cell _).trans hz0
    · rw [World.frozen?_setCell]; exact b1.frozen _
  have fin : ∀ (n : Bool) (r : Value) (w1 : World) (xs : List Nat), Own w1 base r xs → (r.ownBlock = vz.ownBlock ∨ ∃ k, r.ownBlock = some k ∧ w.heap.size ≤ k) → Fr w w1 (fun k => vz.ownBlock = some k) →
      IntP w base gz oz tz cz vz n xs (.returned (.pointer (some ⟨gz, oz, none⟩))) ((w1.setCell ⟨gz, oz + 1, none⟩ r).setCell ⟨gz, oz, none⟩ (.bool n)) := by
    intro n r w1 xs hr hrb hf
    have b1 : Blk w1 gz tz cz := hz.fr hf (fun h => hzne gz h rfl)
    refine ⟨rfl, r, ?_, hrb, (b1.set _ _).set _ _, ?_⟩
    · have hg : ∀ k, r.ownBlock = some k → k ≠ gz := hr.room.ne_blk b1 htz
      exact (hr.fr (Fr.setCell (Fr.refl w1 (fun k => k = gz)) (p := ⟨gz, oz + 1, none⟩) (fun _ => rfl) r) hg).fr (Fr.setCell (Fr.refl _ (fun k => k = gz)) (p := ⟨gz, oz, none⟩) (fun _ => rfl) _) hg
    · exact ((hf.mono (fun k _ h => .inr h)).setCell (p := ⟨gz, oz + 1, none⟩) (fun _ => .inl rfl) _).setCell (p := ⟨gz, oz, none⟩) (fun _ => .inl rfl) _
  have con := setUint64_any base vz m x.natAbs w hzr hb (by omega)
  have Key := hide key
  have Fin := hide fin
  clear hz hz0 hz1 key fin hzne hzr
  by_cases hneg : x < 0
  · have e1 : IntKind.u64.wrap (wrap64 (-x)) = (x.natAbs : Int) := by simp [IntKind.wrap, IntKind.signed, IntKind.bits, wrap64]; omega
    rw [← e1] at con
    have Con := hide con
    rw [decide_eq_true hneg]
    clear con e1
    go_enter Tryz.func90, Tryz.ntmps90
    go_wp2_with fail
    refine (Con.out).mono ?_
    rintro e w1 ⟨A, c, rfl, hr, hrb, hf⟩
    obtain ⟨k1, k2, k3, k4⟩ := Key.out (.slice A (digs 18446744073709551616 x.natAbs).length c) w1 hf
    have HF := hide (Fin.out true (.slice A (digs 18446744073709551616 x.natAbs).length c) w1 _ hr hrb hf)
    clear hr hrb hf
    go_wp2
    go_ret
    exact HF.out
  · have e1 : (x.natAbs : Int) = x := by omega
    rw [e1] at con
    have Con := hide con
    rw [decide_eq_false hneg]
    clear con e1
    go_enter Tryz.func90, Tryz.ntmps90
    go_wp2_with fail
    refine (Con.out).mono ?_
    rintro e w1 ⟨A, c, rfl, hr, hrb, hf⟩
    obtain ⟨k1, k2, k3, k4⟩ := Key.out (.slice A (digs 18446744073709551616 x.natAbs).length c) w1 hf
    have HF := hide (Fin.out false (.slice A (digs 18446744073709551616 x.natAbs).length c) w1 _ hr hrb hf)
    clear hr hrb hf
    go_wp2
    go_ret
    exact HF.out
set_option maxHeartbeats 800000 in
theorem bsetInt64_any (base gz oz : Nat) (tz : TypeId) (cz : Array Value) (nz mz : Bool) (vz : Value) (m : Nat) (x : Int) (w : World)
    (hz : Blk w gz tz cz) (hz0 : cz[oz]? = some (.bool nz)) (hz1 : cz[oz + 1]? = some vz) (hz2 : cz[oz + 2]? = some (.bool mz)) (hzr : Room w base vz m) (htz : tz ≠ 145) (hb : base ≤ w.heap.size) (hx0 : -9223372036854775808 ≤ x) (hx1 : x < 9223372036854775808) :
    Calls Tryz.prog 50 #[.pointer (some ⟨gz, oz, none⟩), .int .i64 x] w (BigP w base gz oz tz cz vz (decide (x < 0)) false (digs 18446744073709551616 x.natAbs)) := by
  have c1 : w.cell? ⟨gz, oz + 2, none⟩ = some (.bool mz) := (hz.cell _).trans hz2
  have f1 : w.frozen? ⟨gz, oz + 2, none⟩ = false := hz.frozen _
  have hf0 : Fr w (w.setCell ⟨gz, oz + 2, none⟩ (.bool false)) (fun k => k = gz) := (Fr.refl w (fun k => k = gz)).setCell (p := ⟨gz, oz + 2, none⟩) (fun _ => rfl) _
  have con := isetInt64_any base gz oz tz (cz.setIfInBounds (oz + 2) (.bool false)) nz vz m x (w.setCell ⟨gz, oz + 2, none⟩ (.bool false))
    (hz.set _ _) (by rw [getElem?_set_ne (by omega)]; exact hz0) (by rw [getElem?_set_ne (by omega)]; exact hz1) (hzr.fr hf0 (hzr.ne_blk hz htz)) htz (by simpa using hb) hx0 hx1
  have fin : ∀ e w', IntP (w.setCell ⟨gz, oz + 2, none⟩ (.bool false)) base gz oz tz (cz.setIfInBounds (oz + 2) (.bool false)) vz (decide (x < 0)) (digs 18446744073709551616 x.natAbs) e w' → BigP w base gz oz tz cz vz (decide (x < 0)) false (digs 18446744073709551616 x.natAbs) e w' := by
    rintro e w' ⟨he, r, hr, hrb, hB, hF⟩
    obtain ⟨A, c, rfl⟩ := hr.room.slice
    refine ⟨he, A, c, hr, ?_, hB, ?_⟩
    · simpa using hrb
    · exact Fr.step (hf0.mono (fun k _ h => .inl h)) hF (fun i _ h => h)
  have Con := hide con
  have Fin := hide fin
  clear hz hz0 hz1 hz2 con fin hf0 hzr
  go_enter Tryz.func50, Tryz.ntmps50
  go_wp2_with fail
  refine (Con.out).mono ?_
  rintro e w1 HI
  have HI2 := hide HI
  obtain ⟨rfl, _⟩ := HI
  go_wp2
  go_ret
  exact Fin.out _ _ HI2.out

theorem run_neq_ptr_same {P : Program} (w : World) {tp te : TypeId} {j : TypeInfo} (a : Addr) (hp : P.underlying tp = some (.pointer te)) (hte : P.info? te = some j) :
    (binOp .neq tp (.pointer (some a)) (.pointer (some a))).run P w = .ok (.bool false) w := by
  have h : ∀ d : Nat, (Op.equalIn (d + 1) tp (.pointer (some a)) (.pointer (some a))).run P w = .ok true w := fun d => by
    simp [Op.equalIn, run_underlying hp, sizeOf, typeInfo, hte, run_sameAddr_same]
  simp only [binOp]
  simp [Op.equal, Op.maxDepth, h 9999]

theorem iset_same (g o : Nat) (w : World) : Calls Tryz.prog 87 #[.pointer (some ⟨g, o, none⟩), .pointer (some ⟨g, o, none⟩)] w fun e w' => e = .returned (.pointer (some ⟨g, o, none⟩)) ∧ w = w' := by
  obtain ⟨j, hj, hs⟩ := Option.map_eq_some_iff.1 infoInt
  have hcmp := run_neq_ptr_same w ⟨g, o, none⟩ Tryz.underlying143 hj
  clear hj hs
  go_enter Tryz.func87, Tryz.ntmps87
  go_wp2
  go_ret
  exact ⟨rfl, rfl⟩

theorem iabs_same (g o : Nat) (b : Bool) (w : World) (h : w.cell? ⟨g, o, none⟩ = some (.bool b)) (hf : w.frozen? ⟨g, o, none⟩ = false) :
    Calls Tryz.prog 139 #[.pointer (some ⟨g, o, none⟩), .pointer (some ⟨g, o, none⟩)] w fun e w' => e = .returned (.pointer (some ⟨g, o, none⟩)) ∧ w' = w.setCell ⟨g, o, none⟩ (.bool false) := by
  have Con := hide (iset_same g o w)
  go_enter Tryz.func139, Tryz.ntmps139
  go_wp2_with fail
  refine (Con.out).mono ?_
  rintro e w1 ⟨rfl, rfl⟩
  go_wp2
  go_ret
  exact ⟨rfl, rfl⟩

theorem babs_same (g o : Nat) (b m : Bool) (w : World) (h : w.cell? ⟨g, o, none⟩ = some (.bool b)) (hf : w.frozen? ⟨g, o, none⟩ = false) (h2 : w.cell? ⟨g, o + 2, none⟩ = some (.bool m)) (hf2 : w.frozen? ⟨g, o + 2, none⟩ = false) :
    Calls Tryz.prog 121 #[.pointer (some ⟨g, o, none⟩), .pointer (some ⟨g, o, none⟩)] w fun e w' => e = .returned (.pointer (some ⟨g, o, none⟩)) ∧ w' = (w.setCell ⟨g, o + 2, none⟩ (.bool false)).drew.setCell ⟨g, o, none⟩ (.bool false) := by
  have con := iabs_same g o b (w.setCell ⟨g, o + 2, none⟩ (.bool false)).drew (by show (w.setCell ⟨g, o + 2, none⟩ (.bool false)).cell? _ = _; rw [World.cell?_setCell_other _ _ _ _ (by intro e; injection e with e1 e2; omega)]; exact h) (by show (w.setCell ⟨g, o + 2, none⟩ (.bool false)).frozen? _ = _; rw [World.frozen?_setCell]; exact hf)
  have Con := hide con
  clear con
  go_enter Tryz.func121, Tryz.ntmps121
  go_wp2_with fail
  go_region_with (go_at_call 139; go_loud (refine (Con.out).mono ?_; rintro e w1 ⟨rfl, rfl⟩))
  all_goals go_wp2
  all_goals go_ret
  all_goals exact ⟨rfl, rfl⟩

/-- A coefficient, set. -/
def CoefP (w : World) (base g : Nat) (neg : Bool) (exp : Int) (vz : Value) (xs : List Nat) (e : Ending) (w' : World) : Prop :=
  ∃ v A c, e = .returned v ∧ Own w' base (.slice A xs.length c) xs ∧ ((Value.slice A xs.length c).ownBlock = vz.ownBlock ∨ ∃ k, (Value.slice A xs.length c).ownBlock = some k ∧ w.heap.size ≤ k) ∧
    Blk w' g 71 (decC 0 neg exp false (.slice A xs.length c) false) ∧ Fr w w' (fun k => k = g ∨ vz.ownBlock = some k)

set_option maxHeartbeats 1000000 in
theorem setCoef_any (base gz : Nat) (fz : Int) (nz : Bool) (ez : Int) (bz : Bool) (vz : Value) (mz : Bool) (m : Nat) (x : Int) (w : World)
    (hz : Blk w gz 71 (decC fz nz ez bz vz mz)) (hzr : Room w base vz m) (hb : base ≤ w.heap.size) (hx0 : -9223372036854775808 ≤ x) (hx1 : x < 9223372036854775808) :
    Calls Tryz.prog 124 #[.pointer (some ⟨gz, 0, none⟩), .int .i64 x] w (CoefP w base gz (decide (x < 0)) ez vz (digs 18446744073709551616 x.natAbs)) := by
  have z1 : w.cell? ⟨gz, 1, none⟩ = some (.bool nz) := hz.cell 1
  have f1 := hz.frozen 1
  have hfW : Fr w (w.setCell ⟨gz, 1, none⟩ (.bool (decide (x < 0)))) (fun k => k = gz) := (Fr.refl w (fun k => k = gz)).setCell (p := ⟨gz, 1, none⟩) (fun _ => rfl) _
  have hzW : Blk (w.setCell ⟨gz, 1, none⟩ (.bool (decide (x < 0)))) gz 71 (decC fz (decide (x < 0)) ez bz vz mz) := hz.set 1 _
  have con := bsetInt64_any base gz 3 71 (decC fz (decide (x < 0)) ez bz vz mz) bz mz vz m x (w.setCell ⟨gz, 1, none⟩ (.bool (decide (x < 0)))) hzW rfl rfl rfl (hzr.fr hfW (hzr.ne_blk hz (by decide))) (by decide) (by simpa using hb) hx0 hx1
  have fin : ∀ (w2 : World) (A : Option Addr) (c : Nat), Own w2 base (.slice A (digs 18446744073709551616 x.natAbs).length c) (digs 18446744073709551616 x.natAbs) → ((Value.slice A (digs 18446744073709551616 x.natAbs).length c).ownBlock = vz.ownBlock ∨ ∃ k, (Value.slice A (digs 18446744073709551616 x.natAbs).length c).ownBlock = some k ∧ w.heap.size ≤ k) →
      Blk w2 gz 71 (decC fz (decide (x < 0)) ez (decide (x < 0)) (.slice A (digs 18446744073709551616 x.natAbs).length c) false) → Fr w w2 (fun k => k = gz ∨ vz.ownBlock = some k) →
      ∀ W, W = ((w2.drew.setCell ⟨gz, 5, none⟩ (.bool false)).drew.setCell ⟨gz, 3, none⟩ (.bool false)) → W.cell? ⟨gz, 0, none⟩ = some (.int .i8 fz) ∧ W.frozen? ⟨gz, 0, none⟩ = false ∧
        Hid (∀ v, CoefP w base gz (decide (x < 0)) ez vz (digs 18446744073709551616 x.natAbs) (.returned v) (W.setCell ⟨gz, 0, none⟩ (.int .i8 0))) := by
    rintro w2 A c hr hrb hB hF W rfl
    have hg : ∀ k, (Value.slice A (digs 18446744073709551616 x.natAbs).length c).ownBlock = some k → k ≠ gz := hr.room.ne_blk hB (by decide)
    have f3 : Fr w2 ((w2.drew.setCell ⟨gz, 5, none⟩ (.bool false)).drew.setCell ⟨gz, 3, none⟩ (.bool false)) (fun k => k = gz) := (((Fr.refl w2 (fun k => k = gz)).drew.setCell (p := ⟨gz, 5, none⟩) (fun _ => rfl) _).drew).setCell (p := ⟨gz, 3, none⟩) (fun _ => rfl) _
    have hB3 : Blk ((w2.drew.setCell ⟨gz, 5, none⟩ (.bool false)).drew.setCell ⟨gz, 3, none⟩ (.bool false)) gz 71 (decC fz (decide (x < 0)) ez false (.slice A (digs 18446744073709551616 x.natAbs).length c) false) := by
      have a1 : Blk w2.drew gz 71 (decC fz (decide (x < 0)) ez (decide (x < 0)) (.slice A (digs 18446744073709551616 x.natAbs).length c) false) := hB
      have a2 := a1.set 5 (.bool false)
      have a3 : Blk (w2.drew.setCell ⟨gz, 5, none⟩ (.bool false)).drew gz _ _ := a2
      exact a3.set 3 (.bool false)
    refine ⟨hB3.cell 0, hB3.frozen 0, fun v => ⟨v, A, c, rfl, ?_, hrb, hB3.set 0 _, ?_⟩⟩
    · exact (hr.fr f3 hg).fr ((Fr.refl _ (fun k => k = gz)).setCell (p := ⟨gz, 0, none⟩) (fun _ => rfl) _) hg
    · exact (Fr.step hF f3 (fun i _ h => .inl h)).setCell (p := ⟨gz, 0, none⟩) (fun _ => .inl rfl) _
  have Con := hide con
  have Fin := hide fin
  have HW := hide hfW
  clear hz hzr hzW con fin hfW
  go_enter Tryz.func124, Tryz.ntmps124
  go_wp2_with fail
  refine (Con.out).mono ?_
  rintro e w2 ⟨rfl, A, c, hr, hrb, hB, hF⟩
  have hB2 : Blk w2 gz 71 (decC fz (decide (x < 0)) ez (decide (x < 0)) (.slice A (digs 18446744073709551616 x.natAbs).length c) false) := hB
  have Fin1 := hide (Fin.out w2 A c hr (by simpa using hrb) hB2 (Fr.step (HW.out.mono (fun k _ h => .inl h)) hF (fun i _ h => h)))
  have con2 := babs_same gz 3 (decide (x < 0)) false w2.drew (hB2.cell 3) (hB2.frozen 3) (hB2.cell 5) (hB2.frozen 5)
  have Con2 := hide con2
  clear hr hrb hB hF hB2 con2 Con Fin HW
  go_wp2_with fail
  go_region_with (go_at_call 121; go_loud (refine (Con2.out).mono ?_; rintro e w3 ⟨rfl, hw3⟩; obtain ⟨k1, k2, Fin2⟩ := Fin1.out w3 hw3; clear hw3))
  all_goals go_wp2
  all_goals go_end0
  all_goals exact Fin2.out _
set_option maxHeartbeats 1000000 in
theorem setFinite_any (base gz : Nat) (fz : Int) (nz : Bool) (ez : Int) (bz : Bool) (vz : Value) (mz : Bool) (m : Nat) (x ex : Int) (w : World)
    (hz : Blk w gz 71 (decC fz nz ez bz vz mz)) (hzr : Room w base vz m) (hb : base ≤ w.heap.size) (hx0 : -9223372036854775808 ≤ x) (hx1 : x < 9223372036854775808) :
    Calls Tryz.prog 98 #[.pointer (some ⟨gz, 0, none⟩), .int .i64 x, .int .i32 ex] w (DsetP w base gz 0 (decide (x < 0)) ex false vz false (digs 18446744073709551616 x.natAbs)) := by
  have Con := hide (setCoef_any base gz fz nz ez bz vz mz m x w hz hzr hb hx0 hx1)
  clear hz hzr
  go_enter Tryz.func98, Tryz.ntmps98
  go_wp2_with fail
  refine (Con.out).mono ?_
  rintro e w1 ⟨v, A, c, rfl, hr, hrb, hB, hF⟩
  have c2 : w1.cell? ⟨gz, 2, none⟩ = some (.int .i32 ez) := hB.cell 2
  have f2 := hB.frozen 2
  have hg : ∀ k, (Value.slice A (digs 18446744073709551616 x.natAbs).length c).ownBlock = some k → k ≠ gz := hr.room.ne_blk hB (by decide)
  have fin : DsetP w base gz 0 (decide (x < 0)) ex false vz false (digs 18446744073709551616 x.natAbs) (.returned (.pointer (some ⟨gz, 0, none⟩))) (w1.setCell ⟨gz, 2, none⟩ (.int .i32 ex)) :=
    ⟨rfl, A, c, hr.fr ((Fr.refl w1 (fun k => k = gz)).setCell (p := ⟨gz, 2, none⟩) (fun _ => rfl) _) hg, hrb, hB.set 2 _, hF.setCell (p := ⟨gz, 2, none⟩) (fun _ => .inl rfl) _⟩
  have Fin := hide fin
  clear fin hr hrb hB hF hg Con
  go_wp2
  go_ret
  exact Fin.out

theorem setInt64_any (base gz : Nat) (fz : Int) (nz : Bool) (ez : Int) (bz : Bool) (vz : Value) (mz : Bool) (m : Nat) (x : Int) (w : World)
    (hz : Blk w gz 71 (decC fz nz ez bz vz mz)) (hzr : Room w base vz m) (hb : base ≤ w.heap.size) (hx0 : -9223372036854775808 ≤ x) (hx1 : x < 9223372036854775808) :
    Calls Tryz.prog 62 #[.pointer (some ⟨gz, 0, none⟩), .int .i64 x] w (DsetP w base gz 0 (decide (x < 0)) 0 false vz false (digs 18446744073709551616 x.natAbs)) := by
  have Con := hide (setFinite_any base gz fz nz ez bz vz mz m x 0 w hz hzr hb hx0 hx1)
  clear hz hzr
  go_enter Tryz.func62, Tryz.ntmps62
  go_wp2_with fail
  refine (Con.out).mono ?_
  rintro e w1 HI
  have HI2 := hide HI
  obtain ⟨rfl, _⟩ := HI
  go_wp2
  go_ret
  exact HI2.out
end Go.Proofs.YtfkcobdkgjhfaaaGreatDoor

/- Walks: nat.mulAddWW. -/
set_option linter.unusedVariables false
set_option linter.unusedSimpArgs false
namespace Go.Proofs.YtfkcobdkgjhfaaaGreatDoor
open Go.RowKit

/-- Two rows lie in different blocks. -/
def Apart (z x : Value) : Prop := ∀ k, z.ownBlock = some k → x.ownBlock ≠ some k

/-- What is left by a call that lays a row, split at a place. -/
theorem Blk.split {w : World} {g n : Nat} {t : TypeId} {cur : Array Value} (h : Blk w g t cur) : Blk w g t (([] : List Value) ++ cur.toList.take n ++ cur.toList.drop n).toArray := by
  simpa using h

theorem Own.mk3 {w : World} {base g cap : Nat} {xs : List Nat} {S : List Value} (hg : base ≤ g) (hb : Blk w g 145 (wv xs ++ S).toArray) (hc : xs.length + S.length = cap) (hm : cap ≤ maxLen) : Own w base (.slice (some ⟨g, 0, none⟩) xs.length cap) xs :=
  Own.mk hg hb (by omega) hm (by simp [wv_length]; omega) (by
    have : (wv xs).length = xs.length := wv_length xs
    rw [← this]; simp)

theorem amul_row {d a : Nat} {xs : List Nat} (hd : d < 18446744073709551616) (ha : a < 18446744073709551616) (hx : Dig 18446744073709551616 xs) :
    trimz ((amul 18446744073709551616 d (List.replicate xs.length 0) xs a).1 ++ [(amul 18446744073709551616 d (List.replicate xs.length 0) xs a).2]) = digs 18446744073709551616 (dval 18446744073709551616 xs * d + a) ∧
      (amul 18446744073709551616 d (List.replicate xs.length 0) xs a).1.length = xs.length := by
  have hl : (List.replicate xs.length 0).length = xs.length := List.length_replicate
  have hal := amul_length 18446744073709551616 d (zs := List.replicate xs.length 0) (xs := xs) a hl
  have hv := amul_val 18446744073709551616 d (zs := List.replicate xs.length 0) (xs := xs) a hl
  have hc := amul_carry hd (zs := List.replicate xs.length 0) (xs := xs) a (fun e he => by rw [List.eq_of_mem_replicate he]; omega) hx ha
  have hg := amul_dig (b := 18446744073709551616) (d := d) (by omega) (zs := List.replicate xs.length 0) (xs := xs) a
  refine ⟨?_, hal⟩
  rw [← digs_dval_trim (b := 18446744073709551616) (by omega) (fun e he => ?_), dval_append, hal]
  · rw [dval_replicate_zero, Nat.zero_add] at hv
    rw [← hv]
    simp [dval]
  · rcases List.mem_append.1 he with he | he
    · exact hg e he
    · rw [List.mem_singleton.1 he]; exact hc

set_option maxHeartbeats 1000000 in
set_option maxRecDepth 20000 in
theorem maWW_any (base bx n y r : Nat) (z : Value) (m : Nat) (A : Option Addr) (c : Nat) (xs : List Nat) (w : World) (hz : Room w base z m) (hb : base ≤ w.heap.size) (hx : Own w bx (.slice A n c) xs) (hn : n = xs.length) (hn1 : 1 ≤ n) (hnb : n ≤ 1048576)
    (hal : Apart z (.slice A n c) ∨ z = .slice A m c) (hy1 : 1 ≤ y) (hy : y < 18446744073709551616) (hr : r < 18446744073709551616) (hd : Dig 18446744073709551616 xs) :
    Calls Tryz.prog 210 #[z, .slice A n c, .int .u64 (y : Int), .int .u64 (r : Int)] w (SetP w base z (digs 18446744073709551616 (dval 18446744073709551616 xs * y + r))) := by
  have y0 : ((y : Int) == 0) = false := beq_eq_false_iff_ne.2 (by omega)
  have n0 : ((n : Int) == 0) = false := beq_eq_false_iff_ne.2 (by omega)
  have Con := hide (make_any base z m (n + 1) w hz hb (by omega) (by omega))
  have HX := hide (And.intro hx (And.intro hal (And.intro hd hn)))
  clear hx hal hd hz hn
  go_enter Tryz.func210, Tryz.ntmps210
  go_wp2_with fail
  refine (Con.out).mono ?_
  rintro e w1 ⟨r0, rfl, hr0, hrb, hbel⟩
  rw [show ((n : Int) + 1).toNat = n + 1 by omega] at hr0
  rcases hr0.form with ⟨_, h1⟩ | ⟨g, cap, cur, rfl, hg, hh, ha, hcap, hs⟩
  · omega
  have ha1 : n + 1 ≤ cap := by omega
  have hx1 : RdW w1 (.slice A n c) xs := RdG.below (k := .u64) HX.out.1.rd hbel
  have hxl : ∀ k, (Value.slice A n c).ownBlock = some k → k < w.heap.size := fun k hk => (HX.out.1.lt hk).2
  have hgx : (RdW w1 (.slice A n c) xs ∧ ∀ k, (Value.slice A n c).ownBlock = some k → k ≠ g) ∨ (A = some ⟨g, 0, none⟩ ∧ cur.toList.take n = wv xs) := by
    rcases hrb with h | h
    · rcases HX.out.2.1 with h2 | rfl
      · exact .inl ⟨hx1, fun k hk e => h2 k (h.symm.trans (by rw [← e]; rfl)) hk⟩
      · rcases HX.out.1.form with ⟨_, h3⟩ | ⟨gx, cx, cu, h3, _, h4, _, _, _, h5⟩
        · have := HX.out.2.2.2; rw [h3] at this; simp at this; omega
        · injection h3 with h3 h6 h7
          subst h3
          have e : g = gx := by simpa [Value.ownBlock] using h
          subst e
          have h8 := h4.below hbel
          unfold Blk at h8 hh
          rw [hh] at h8
          injection h8 with h8
          injection h8 with h8
          subst h8
          exact .inr ⟨rfl, by rw [h6]; exact h5⟩
    · have e : g = w.heap.size := by simpa [Value.ownBlock] using h
      exact .inl ⟨hx1, fun k hk e2 => by have := hxl k hk; omega⟩
  have con2 := mav_any g 0 n cap r y [] (cur.toList.drop n) (cur.toList.take n) A c xs w1 hh.split rfl (by rw [List.length_take, Array.length_toList, HX.out.2.2.2.symm]; omega) HX.out.2.2.2 (by omega) (by omega) hgx hr hy HX.out.2.2.1
  have hrow := amul_row (a := r) hy hr HX.out.2.2.1
  rw [← HX.out.2.2.2] at hrow
  obtain ⟨s0, S', hS⟩ : ∃ s0 S', cur.toList.drop n = s0 :: S' := by
    cases hS : cur.toList.drop n with
    | nil => have := congrArg List.length hS; simp at this; omega
    | cons a b => exact ⟨a, b, rfl⟩
  have hcl : (cur.toList.take n).length = n := by simp; omega
  have hSl : n + 1 + S'.length = cap := by have := congrArg List.length hS; simp at this; omega
  have Con2 := hide con2
  have HR := hide (And.intro hrow (And.intro hS (And.intro hrb (And.intro hbel (And.intro hg (And.intro hcap hSl))))))
  clear con2 hrow hS hrb hbel hg hcap hx1 hxl hgx hr0 hh hs hcl hSl Con
  go_wp2_with fail
  refine (Con2.out).mono ?_
  rintro e w2 ⟨q, rfl, hq, hb2, hf2⟩
  rw [HR.out.2.1] at hb2
  have hb3 : Blk w2 g 145 (wv (amul 18446744073709551616 y (List.replicate n 0) xs r).1 ++ s0 :: S').toArray := by simpa using hb2
  obtain ⟨p1, p2, p3⟩ := hb3.part (i := n) (by rw [wv_length, HR.out.1.2])
  have hown : Own (w2.setCell ⟨g, n, none⟩ (.int .u64 (q : Int))) base (.slice (some ⟨g, 0, none⟩) (n + 1) cap) ((amul 18446744073709551616 y (List.replicate n 0) xs r).1 ++ [q]) := by
    have hb4 : Blk (w2.setCell ⟨g, n, none⟩ (.int .u64 (q : Int))) g 145 (wv ((amul 18446744073709551616 y (List.replicate n 0) xs r).1 ++ [q]) ++ S').toArray := by
      have := p3 (.int .u64 (q : Int))
      rw [wv_append]
      simpa [wv] using this
    have := Own.mk3 HR.out.2.2.2.2.1 hb4 (cap := cap) (by rw [List.length_append, HR.out.1.2]; have := HR.out.2.2.2.2.2.2; simp; omega) HR.out.2.2.2.2.2.1
    rwa [List.length_append, HR.out.1.2] at this
  have htr : trimz ((amul 18446744073709551616 y (List.replicate n 0) xs r).1 ++ [q]) = digs 18446744073709551616 (dval 18446744073709551616 xs * y + r) := by rw [hq.out]; exact HR.out.1.1
  have con3 := norm_own base _ _ _ hown
  rw [htr] at con3
  have hF : Fr w (w2.setCell ⟨g, n, none⟩ (.int .u64 (q : Int))) (fun k => z.ownBlock = some k) := by
    have hst : g < w.heap.size → z.ownBlock = some g := fun hlt => by
      rcases HR.out.2.2.1 with h | h
      · exact h.symm
      · have e : g = w.heap.size := by simpa [Value.ownBlock] using h
        omega
    exact (Fr.step (Fr.of_below HR.out.2.2.2.1 _) hf2 (fun i hi (e : i = g) => by subst e; exact hst hi)).setCell (p := ⟨g, n, none⟩) (fun hlt => hst hlt) _
  have Con3 := hide con3
  have HF := hide hF
  have Hb := hide HR.out.2.2.1
  have pf : ∃ u, w2.cell? ⟨g, n, none⟩ = some u := ⟨_, p1⟩
  obtain ⟨u, pu⟩ := pf
  clear con3 hF hown hb2 hb3 hf2 p1 p3 htr hq HR Con2 HX
  go_wp2_with fail
  refine (Con3.out).mono ?_
  rintro e w3 ⟨A3, c3, rfl, hown3, hblk3, rfl⟩
  have Fin : Hid (SetP w base z (digs 18446744073709551616 (dval 18446744073709551616 xs * y + r)) (.returned (.slice A3 (digs 18446744073709551616 (dval 18446744073709551616 xs * y + r)).length c3)) (w2.setCell ⟨g, n, none⟩ (.int .u64 (q : Int)))) := by
    refine ⟨A3, c3, rfl, hown3, ?_, HF.out⟩
    rw [hblk3]
    exact Hb.out.imp id (fun h => ⟨_, h, Nat.le_refl _⟩)
  clear hown3 hblk3 HF Hb Con3
  generalize (digs 18446744073709551616 (dval 18446744073709551616 xs * y + r)).length = l at Fin ⊢
  go_wp2
  go_ret
  exact Fin.out
end Go.Proofs.YtfkcobdkgjhfaaaGreatDoor

/- Small words on rows of the call's own. -/
set_option linter.unusedVariables false
set_option linter.unusedSimpArgs false
namespace Go.Proofs.YtfkcobdkgjhfaaaGreatDoor
open Go.RowKit

theorem run_clear_none (w : World) (A : Option Addr) (c : Nat) (ty : TypeId) : (Builtin.clear_ #[65] ty #[.slice A 0 c]).run Tryz.prog w = .ok (.tuple #[]) w := by
  cases A <;> simp [Builtin.clear_, run_underlying Tryz.underlying65]

theorem own_trim {w : World} {base g n cap : Nat} {xs : List Nat} (h : Own w base (.slice (some ⟨g, 0, none⟩) n cap) xs) : Own w base (.slice (some ⟨g, 0, none⟩) (trimz xs).length cap) (trimz xs) := by
  rcases h.form with ⟨h1, _⟩ | ⟨g', cap', cur, he, hg, hh, a, b, c, d⟩
  · injection h1 with h1; cases h1
  · injection he with e1 e2 e3
    injection e1 with e1
    injection e1 with e1
    subst e1 e3
    have hl := trimz_length_le xs
    refine Own.mk hg hh (by omega) b c ?_
    have e1 : cur.toList.take (trimz xs).length = (cur.toList.take xs.length).take (trimz xs).length := by rw [List.take_take]; congr 1; omega
    rw [e1, d]
    have e2 : (wv xs).take (trimz xs).length = wv (xs.take (trimz xs).length) := by simp [wv]
    rw [e2, take_trimz]
theorem own_caps {w : World} {base g n cap : Nat} {xs : List Nat} (h : Own w base (.slice (some ⟨g, 0, none⟩) n cap) xs) : n = xs.length ∧ n ≤ cap ∧ cap ≤ maxLen := by
  rcases h.form with ⟨h1, _⟩ | ⟨g', cap', cur, he, hg, hh, a, b, c, d⟩
  · injection h1 with h1; cases h1
  · injection he with e1 e2 e3
    subst e3
    exact ⟨e2, by omega, b⟩

/-- A room of m words and more, word by word: what lies there. -/
theorem Room.rows {w : World} {base m : Nat} {v : Value} (h : Room w base v m) (hm : 0 < m) : ∃ (g cap : Nat) (us : List Value), v = .slice (some ⟨g, 0, none⟩) m cap ∧ base ≤ g ∧ g < w.heap.size ∧ Blk w g 145 us.toArray ∧ us.length = cap ∧ m ≤ cap ∧ cap ≤ maxLen := by
  rcases h.form with ⟨_, h1⟩ | ⟨g, cap, cur, rfl, hg, hh, ha, hcap, hs⟩
  · omega
  · exact ⟨g, cap, cur.toList, rfl, hg, hh.lt, by simpa using hh, by simpa using hs, ha, hcap⟩

/-- A row shifted: as many noughts below, then its digits. -/
theorem dval_zeros (b t : Nat) (xs : List Nat) : dval b (List.replicate t 0 ++ xs) = b ^ t * dval b xs := by
  rw [dval_append, dval_replicate_zero, List.length_replicate, Nat.zero_add]
end Go.Proofs.YtfkcobdkgjhfaaaGreatDoor
