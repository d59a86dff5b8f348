/- Walks: nat's setWord, setUint64; Int's and BigInt's SetInt64, Abs; Decimal's setCoefficient, SetFinite, SetInt64. -/
import Derived.Test.YtamjfjomehcikaaGreatDoorDec3
set_option linter.unusedVariables false
set_option linter.unusedSimpArgs false
namespace Go.Proofs.YtamjfjomehcikaaGreatDoor
open Go.RowKit

theorem digs_word {x : Nat} (h : x < 18446744073709551616) (h0 : x ≠ 0) : digs 18446744073709551616 x = [x] := by
  rw [digs_pos (by omega) (by omega), Nat.div_eq_of_lt h, digs_zero, Nat.mod_eq_of_lt h]

theorem setWord_any (base : Nat) (z : Value) (m x : Nat) (w : World) (hz : Room w base z m) (hb : base ≤ w.heap.size) (hx : x < 18446744073709551616) :
    Calls Tryz.prog 81 #[z, .int .u64 (x : Int)] w (SetP w base z (digs 18446744073709551616 x)) := by
  by_cases h0 : x = 0
  · subst h0
    obtain ⟨A, cap, rfl⟩ := hz.slice
    have H : SetP w base (.slice A m cap) (digs 18446744073709551616 0) (.returned (.slice A 0 cap)) w := by
      rw [digs_zero]
      exact ⟨A, cap, rfl, (room_cut hz (Nat.zero_le _)).empty, .inl (by cases A <;> rfl), Fr.refl _ _⟩
    have HH := hide H
    clear H hz
    go_enter Tryz.func81, Tryz.ntmps81
    go_wp2
    go_ret
    exact HH.out
  · have b0 : ((x : Int) == 0) = false := beq_eq_false_iff_ne.2 (by omega)
    have hd := digs_word hx h0
    have HD := hide hd
    clear hd h0
    have con := make_any base z m 1 w hz hb (by omega) (by omega)
    have Con := hide con
    clear con hz
    go_enter Tryz.func81, Tryz.ntmps81
    go_wp2_with fail
    refine (Con.out).mono ?_
    rintro e w1 ⟨r, rfl, hr, hrb, hbel⟩
    rcases hr.form with ⟨_, h1⟩ | ⟨g', cap, cur, rfl, hg, hh, ha, hcap, hs⟩
    · simp at h1
    · have ha1 : 1 ≤ cap := by simpa using ha
      obtain ⟨u, c0⟩ : ∃ u, w1.cell? ⟨g', 0, none⟩ = some u := ⟨_, (hh.cell 0).trans (Array.getElem?_eq_getElem (by omega))⟩
      have f0 := hh.frozen 0
      have H : SetP w base z (digs 18446744073709551616 x) (.returned (.slice (some ⟨g', 0, none⟩) 1 cap)) (w1.setCell ⟨g', 0, none⟩ (.int .u64 (x : Int))) := by
        rw [HD.out]
        refine ⟨_, cap, rfl, Own.mk hg (hh.set 0 _) ha1 hcap (by simpa using hs) ?_, hrb.imp id (fun h => ⟨_, h, Nat.le_refl _⟩), (Fr.of_below hbel _).setCell (p := ⟨g', 0, none⟩) (fun hlt => ?_) _⟩
        · obtain ⟨l⟩ := cur
          cases l with
          | nil => simp at hs; omega
          | cons a l => simp [wv]
        · rcases hrb with h | h
          · exact h.symm
          · simp [Value.ownBlock] at h; simp at hlt; omega
      have HH := hide H
      clear H hr hrb hbel hh hs
      go_wp2
      go_ret
      exact HH.out

theorem setUint64_any (base : Nat) (z : Value) (m x : Nat) (w : World) (hz : Room w base z m) (hb : base ≤ w.heap.size) (hx : x < 18446744073709551616) :
    Calls Tryz.prog 73 #[z, .int .u64 (x : Int)] w (SetP w base z (digs 18446744073709551616 x)) := by
  have Con := hide (setWord_any base z m x w hz hb hx)
  clear hz
  obtain ⟨y, hy⟩ : ∃ y : Int, y = (x : Int) := ⟨_, rfl⟩
  rw [← hy] at Con ⊢
  clear hy
  go_enter Tryz.func73, Tryz.ntmps73
  go_wp2_with fail
  refine (Con.out).mono ?_
  rintro e w1 ⟨A, c, rfl, h⟩
  have HH : SetP w base z (digs 18446744073709551616 x) (.returned (.slice A (digs 18446744073709551616 x).length c)) w1 := ⟨A, c, rfl, h⟩
  have H2 := hide HH
  clear HH h
  go_wp2
  go_ret
  exact H2.out

set_option maxHeartbeats 1000000 in
theorem isetInt64_any (base gz oz : Nat) (tz : TypeId) (cz : Array Value) (nz : Bool) (vz : Value) (m : Nat) (x : Int) (w : World)
    (hz : Blk w gz tz cz) (hz0 : cz[oz]? = some (.bool nz)) (hz1 : cz[oz + 1]? = some vz) (hzr : Room w base vz m) (htz : tz ≠ 70) (hb : base ≤ w.heap.size) (hx0 : -9223372036854775808 ≤ x) (hx1 : x < 9223372036854775808) :
    Calls Tryz.prog 64 #[.pointer (some ⟨gz, oz, none⟩), .int .i64 x] w (IntP w base gz oz tz cz vz (decide (x < 0)) (digs 18446744073709551616 x.natAbs)) := by
  have c1 : w.cell? ⟨gz, oz + 1, none⟩ = some vz := (hz.cell _).trans hz1
  have hzne : ∀ k, vz.ownBlock = some k → k ≠ gz := hzr.ne_blk hz htz
  have key : ∀ (r : Value) (w1 : World), Fr w w1 (fun k => vz.ownBlock = some k) → w1.cell? ⟨gz, oz + 1, none⟩ = some vz ∧ w1.frozen? ⟨gz, oz + 1, none⟩ = false ∧
      (w1.setCell ⟨gz, oz + 1, none⟩ r).cell? ⟨gz, oz, none⟩ = some (.bool nz) ∧ (w1.setCell ⟨gz, oz + 1, none⟩ r).frozen? ⟨gz, oz, none⟩ = false := by
    intro r w1 hf
    have b1 : Blk w1 gz tz cz := hz.fr hf (fun h => hzne gz h rfl)
    refine ⟨(b1.cell _).trans hz1, b1.frozen _, ?_, ?_⟩
    · rw [World.cell?_setCell_other _ _ _ _ (by intro e; injection e with e1 e2; omega)]
      exact (b1.cell _).trans hz0
    · rw [World.frozen?_setCell]; exact b1.frozen _
  have fin : ∀ (n : Bool) (r : Value) (w1 : World) (xs : List Nat), Own w1 base r xs → (r.ownBlock = vz.ownBlock ∨ ∃ k, r.ownBlock = some k ∧ w.heap.size ≤ k) → Fr w w1 (fun k => vz.ownBlock = some k) →
      IntP w base gz oz tz cz vz n xs (.returned (.pointer (some ⟨gz, oz, none⟩))) ((w1.setCell ⟨gz, oz + 1, none⟩ r).setCell ⟨gz, oz, none⟩ (.bool n)) := by
    intro n r w1 xs hr hrb hf
    have b1 : Blk w1 gz tz cz := hz.fr hf (fun h => hzne gz h rfl)
    refine ⟨rfl, r, ?_, hrb, (b1.set _ _).set _ _, ?_⟩
    · have hg : ∀ k, r.ownBlock = some k → k ≠ gz := hr.room.ne_blk b1 htz
      exact (hr.fr (Fr.setCell (Fr.refl w1 (fun k => k = gz)) (p := ⟨gz, oz + 1, none⟩) (fun _ => rfl) r) hg).fr (Fr.setCell (Fr.refl _ (fun k => k = gz)) (p := ⟨gz, oz, none⟩) (fun _ => rfl) _) hg
    · exact ((hf.mono (fun k _ h => .inr h)).setCell (p := ⟨gz, oz + 1, none⟩) (fun _ => .inl rfl) _).setCell (p := ⟨gz, oz, none⟩) (fun _ => .inl rfl) _
  have con := setUint64_any base vz m x.natAbs w hzr hb (by omega)
  have Key := hide key
  have Fin := hide fin
  clear hz hz0 hz1 key fin hzne hzr
  by_cases hneg : x < 0
  · have e1 : IntKind.u64.wrap (wrap64 (-x)) = (x.natAbs : Int) := by simp [IntKind.wrap, IntKind.signed, IntKind.bits, wrap64]; omega
    rw [← e1] at con
    have Con := hide con
    rw [decide_eq_true hneg]
    clear con e1
    go_enter Tryz.func64, Tryz.ntmps64
    go_wp2_with fail
    refine (Con.out).mono ?_
    rintro e w1 ⟨A, c, rfl, hr, hrb, hf⟩
    obtain ⟨k1, k2, k3, k4⟩ := Key.out (.slice A (digs 18446744073709551616 x.natAbs).length c) w1 hf
    have HF := hide (Fin.out true (.slice A (digs 18446744073709551616 x.natAbs).length c) w1 _ hr hrb hf)
    clear hr hrb hf
    go_wp2
    go_ret
    exact HF.out
  · have e1 : (x.natAbs : Int) = x := by omega
    rw [e1] at con
    have Con := hide con
    rw [decide_eq_false hneg]
    clear con e1
    go_enter Tryz.func64, Tryz.ntmps64
    go_wp2_with fail
    refine (Con.out).mono ?_
    rintro e w1 ⟨A, c, rfl, hr, hrb, hf⟩
    obtain ⟨k1, k2, k3, k4⟩ := Key.out (.slice A (digs 18446744073709551616 x.natAbs).length c) w1 hf
    have HF := hide (Fin.out false (.slice A (digs 18446744073709551616 x.natAbs).length c) w1 _ hr hrb hf)
    clear hr hrb hf
    go_wp2
    go_ret
    exact HF.out
set_option maxHeartbeats 800000 in
theorem bsetInt64_any (base gz oz : Nat) (tz : TypeId) (cz : Array Value) (nz mz : Bool) (vz : Value) (m : Nat) (x : Int) (w : World)
    (hz : Blk w gz tz cz) (hz0 : cz[oz]? = some (.bool nz)) (hz1 : cz[oz + 1]? = some vz) (hz2 : cz[oz + 2]? = some (.bool mz)) (hzr : Room w base vz m) (htz : tz ≠ 70) (hb : base ≤ w.heap.size) (hx0 : -9223372036854775808 ≤ x) (hx1 : x < 9223372036854775808) :
    Calls Tryz.prog 53 #[.pointer (some ⟨gz, oz, none⟩), .int .i64 x] w (BigP w base gz oz tz cz vz (decide (x < 0)) false (digs 18446744073709551616 x.natAbs)) := by
  have c1 : w.cell? ⟨gz, oz + 2, none⟩ = some (.bool mz) := (hz.cell _).trans hz2
  have f1 : w.frozen? ⟨gz, oz + 2, none⟩ = false := hz.frozen _
  have hf0 : Fr w (w.setCell ⟨gz, oz + 2, none⟩ (.bool false)) (fun k => k = gz) := (Fr.refl w (fun k => k = gz)).setCell (p := ⟨gz, oz + 2, none⟩) (fun _ => rfl) _
  have con := isetInt64_any base gz oz tz (cz.setIfInBounds (oz + 2) (.bool false)) nz vz m x (w.setCell ⟨gz, oz + 2, none⟩ (.bool false))
    (hz.set _ _) (by rw [getElem?_set_ne (by omega)]; exact hz0) (by rw [getElem?_set_ne (by omega)]; exact hz1) (hzr.fr hf0 (hzr.ne_blk hz htz)) htz (by simpa using hb) hx0 hx1
  have fin : ∀ e w', IntP (w.setCell ⟨gz, oz + 2, none⟩ (.bool false)) base gz oz tz (cz.setIfInBounds (oz + 2) (.bool false)) vz (decide (x < 0)) (digs 18446744073709551616 x.natAbs) e w' → BigP w base gz oz tz cz vz (decide (x < 0)) false (digs 18446744073709551616 x.natAbs) e w' := by
    rintro e w' ⟨he, r, hr, hrb, hB, hF⟩
    obtain ⟨A, c, rfl⟩ := hr.room.slice
    refine ⟨he, A, c, hr, ?_, hB, ?_⟩
    · simpa using hrb
    · exact Fr.step (hf0.mono (fun k _ h => .inl h)) hF (fun i _ h => h)
  have Con := hide con
  have Fin := hide fin
  clear hz hz0 hz1 hz2 con fin hf0 hzr
  go_enter Tryz.func53, Tryz.ntmps53
  go_wp2_with fail
  refine (Con.out).mono ?_
  rintro e w1 HI
  have HI2 := hide HI
  obtain ⟨rfl, _⟩ := HI
  go_wp2
  go_ret
  exact Fin.out _ _ HI2.out

theorem run_neq_ptr_same {P : Program} (w : World) {tp te : TypeId} {j : TypeInfo} (a : Addr) (hp : P.underlying tp = some (.pointer te)) (hte : P.info? te = some j) :
    (binOp .neq tp (.pointer (some a)) (.pointer (some a))).run P w = .ok (.bool false) w := by
  have h : ∀ d : Nat, (Op.equalIn (d + 1) tp (.pointer (some a)) (.pointer (some a))).run P w = .ok true w := fun d => by
    simp [Op.equalIn, run_underlying hp, sizeOf, typeInfo, hte, run_sameAddr_same]
  simp only [binOp]
  simp [Op.equal, Op.maxDepth, h 9999]

theorem iset_same (g o : Nat) (w : World) : Calls Tryz.prog 45 #[.pointer (some ⟨g, o, none⟩), .pointer (some ⟨g, o, none⟩)] w fun e w' => e = .returned (.pointer (some ⟨g, o, none⟩)) ∧ w = w' := by
  obtain ⟨j, hj, hs⟩ := Option.map_eq_some_iff.1 infoInt
  have hcmp := run_neq_ptr_same w ⟨g, o, none⟩ Tryz.underlying67 hj
  clear hj hs
  go_enter Tryz.func45, Tryz.ntmps45
  go_wp2
  go_ret
  exact ⟨rfl, rfl⟩

theorem iabs_same (g o : Nat) (b : Bool) (w : World) (h : w.cell? ⟨g, o, none⟩ = some (.bool b)) (hf : w.frozen? ⟨g, o, none⟩ = false) :
    Calls Tryz.prog 58 #[.pointer (some ⟨g, o, none⟩), .pointer (some ⟨g, o, none⟩)] w fun e w' => e = .returned (.pointer (some ⟨g, o, none⟩)) ∧ w' = w.setCell ⟨g, o, none⟩ (.bool false) := by
  have Con := hide (iset_same g o w)
  go_enter Tryz.func58, Tryz.ntmps58
  go_wp2_with fail
  refine (Con.out).mono ?_
  rintro e w1 ⟨rfl, rfl⟩
  go_wp2
  go_ret
  exact ⟨rfl, rfl⟩

theorem babs_same (g o : Nat) (b m : Bool) (w : World) (h : w.cell? ⟨g, o, none⟩ = some (.bool b)) (hf : w.frozen? ⟨g, o, none⟩ = false) (h2 : w.cell? ⟨g, o + 2, none⟩ = some (.bool m)) (hf2 : w.frozen? ⟨g, o + 2, none⟩ = false) :
    Calls Tryz.prog 41 #[.pointer (some ⟨g, o, none⟩), .pointer (some ⟨g, o, none⟩)] w fun e w' => e = .returned (.pointer (some ⟨g, o, none⟩)) ∧ w' = (w.setCell ⟨g, o + 2, none⟩ (.bool false)).drew.setCell ⟨g, o, none⟩ (.bool false) := by
  have con := iabs_same g o b (w.setCell ⟨g, o + 2, none⟩ (.bool false)).drew (by show (w.setCell ⟨g, o + 2, none⟩ (.bool false)).cell? _ = _; rw [World.cell?_setCell_other _ _ _ _ (by intro e; injection e with e1 e2; omega)]; exact h) (by show (w.setCell ⟨g, o + 2, none⟩ (.bool false)).frozen? _ = _; rw [World.frozen?_setCell]; exact hf)
  have Con := hide con
  clear con
  go_enter Tryz.func41, Tryz.ntmps41
  go_wp2_with fail
  go_region_with (go_at_call 58; go_loud (refine (Con.out).mono ?_; rintro e w1 ⟨rfl, rfl⟩))
  all_goals go_wp2
  all_goals go_ret
  all_goals exact ⟨rfl, rfl⟩


end Go.Proofs.YtamjfjomehcikaaGreatDoor
