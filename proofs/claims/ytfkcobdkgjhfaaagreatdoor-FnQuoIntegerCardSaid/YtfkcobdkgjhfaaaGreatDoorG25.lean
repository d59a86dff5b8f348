/- Parts of the proofs: NCmp, KnDiv0, KnDivO, Own2. -/
import Derived.Test.YtfkcobdkgjhfaaaGreatDoorG5
import Derived.Test.YtfkcobdkgjhfaaaGreatDoorG8
import Derived.Test.YtfkcobdkgjhfaaaGreatDoorG12
import Derived.Test.YtfkcobdkgjhfaaaGreatDoorG13
import Derived.Test.YtfkcobdkgjhfaaaGreatDoorG24
/- Walks: the order of numbers: nat.cmp. -/
set_option linter.unusedVariables false
set_option linter.unusedSimpArgs false
namespace Go.Proofs.YtfkcobdkgjhfaaaGreatDoor
open Go.RowKit

set_option maxHeartbeats 2000000 in
theorem ncmp_any (A B : Option Addr) (c c2 : Nat) (m n : Nat) (w : World) (hx : RdW w (.slice A (digs 18446744073709551616 m).length c) (digs 18446744073709551616 m)) (hy : RdW w (.slice B (digs 18446744073709551616 n).length c2) (digs 18446744073709551616 n)) (hnx : (digs 18446744073709551616 m).length ≤ 1099511627776) (hny : (digs 18446744073709551616 n).length ≤ 1099511627776) :
    Calls Tryz.prog 142 #[.slice A (digs 18446744073709551616 m).length c, .slice B (digs 18446744073709551616 n).length c2] w (CmpP w m n) := by
  have lt1 := len_lt (b := 18446744073709551616) (m := m) (n := n) (by omega)
  have lt2 := len_lt (b := 18446744073709551616) (m := n) (n := m) (by omega)
  have tp1 := fun i => digs_top_lt (b := 18446744073709551616) (m := m) (n := n) (i := i) (by omega)
  have tp2 := fun i => digs_top_lt (b := 18446744073709551616) (m := n) (n := m) (i := i) (by omega)
  have inj : digs 18446744073709551616 m = digs 18446744073709551616 n → m = n := digs_inj (by omega)
  have HXR := hide (RdG.at_ (k := .u64) hx)
  have HYR := hide (RdG.at_ (k := .u64) hy)
  clear hx hy
  generalize digs 18446744073709551616 m = xs at *
  generalize digs 18446744073709551616 n = ys at *
  have HF := hide (And.intro lt1 (And.intro lt2 (And.intro tp1 (And.intro tp2 inj))))
  clear lt1 lt2 tp1 tp2 inj
  by_cases h1 : xs.length < ys.length
  · have fin : CmpP w m n (.returned (.int .i64 (-1))) w := ⟨by rw [cmpI_lt (HF.out.1 h1)], Below.refl _ _⟩
    have Fin := hide fin
    have hne : ((xs.length : Int) == (ys.length : Int)) = false := beq_eq_false_iff_ne.2 (by omega)
    clear fin HF HXR HYR
    go_enter Tryz.func142, Tryz.ntmps142
    go_wp2
    go_ret
    exact Fin.out
  by_cases h2 : ys.length < xs.length
  · have fin : CmpP w m n (.returned (.int .i64 1)) w := ⟨by rw [cmpI_gt (HF.out.2.1 h2)], Below.refl _ _⟩
    have Fin := hide fin
    have hne : ((xs.length : Int) == (ys.length : Int)) = false := beq_eq_false_iff_ne.2 (by omega)
    clear fin HF HXR HYR
    go_enter Tryz.func142, Tryz.ntmps142
    go_wp2
    go_ret
    exact Fin.out
  have hl : xs.length = ys.length := by omega
  have HL := hide hl
  rw [hl] at HXR hnx ⊢
  clear h1 h2 hl hnx
  by_cases h0 : ys.length = 0
  · have fin : CmpP w m n (.returned (.int .i64 0)) w := ⟨by rw [cmpI_eq (HF.out.2.2.2.2 (by
      rw [List.eq_nil_of_length_eq_zero (HL.out.trans h0), List.eq_nil_of_length_eq_zero h0]))], Below.refl _ _⟩
    have Fin := hide fin
    clear fin HF HXR HYR
    rw [h0]
    go_enter Tryz.func142, Tryz.ntmps142
    go_wp2
    go_ret
    exact Fin.out
  have hb0 : ((ys.length : Int) == 0) = false := beq_eq_false_iff_ne.2 (by omega)
  have hpos : 0 < ys.length := by omega
  clear h0
  go_enter Tryz.func142, Tryz.ntmps142
  go_wp2
  go_loopw [7] (fun i wr => ∃ k : Nat, k < ys.length ∧ i = .int .i64 (k : Int) ∧ Hid (∀ j, k < j → j < ys.length → xs.getD j 0 = ys.getD j 0) ∧ Hid (Below w.heap.size w wr)) (fun i _ => (intOf i).toNat)
  case atStart => exact ⟨ys.length - 1, by omega, by first | rfl | (congr 1; omega), fun j h1 h2 => by omega, Below.refl _ _⟩
  case round =>
    obtain ⟨k, hk, rfl, hall, hbel⟩ := hrel
    obtain ⟨g, o, rfl, hg, hc⟩ := HXR.out k (by first | omega | (have := HL.out; omega))
    obtain ⟨g2, o2, rfl, hg2, hc2⟩ := HYR.out k (by omega)
    have hcell : wr.cell? ⟨g, o + k, none⟩ = some (.int .u64 (xs.getD k 0 : Nat)) := (hbel.out.cell hg).trans hc
    have hcell2 : wr.cell? ⟨g2, o2 + k, none⟩ = some (.int .u64 (ys.getD k 0 : Nat)) := (hbel.out.cell hg2).trans hc2
    have hp0 : (0 : Int) ≤ (k : Int) := by omega
    have hp1 : (k : Int) < (ys.length : Int) := by omega
    by_cases h1 : xs.getD k 0 < ys.getD k 0
    · have fin : CmpP w m n (.returned (.int .i64 (-1))) wr.drew.drew := ⟨by rw [cmpI_lt (HF.out.2.2.1 k HL.out (by omega) h1 (fun j a b => hall.out j a b))], hbel.out.drew.drew⟩
      have Fin := hide fin
      clear fin HF HXR HYR hall hbel hc hc2
      generalize xs.getD k 0 = d at *
      generalize ys.getD k 0 = d' at *
      have hlt : ((d : Int) < (d' : Int)) := by omega
      have hne : ((d : Int) == (d' : Int)) = false := beq_eq_false_iff_ne.2 (by omega)
      clear h1
      by_cases hk0 : k = 0
      · subst hk0
        have hcella : wr.cell? ⟨g, o, none⟩ = some (.int .u64 (d : Int)) := hcell
        have hcellb : wr.cell? ⟨g2, o2, none⟩ = some (.int .u64 (d' : Int)) := hcell2
        go_wp2
        go_region
        all_goals go_wp2
        all_goals go_region
        all_goals go_wp2
        all_goals go_ret
        all_goals exact Fin.out
      · have hkp : (0 : Int) < (k : Int) := by omega
        have hkn : 0 < k := by omega
        clear hk0
        go_wp2
        go_region
        all_goals go_wp2
        all_goals go_region
        all_goals go_wp2
        all_goals go_ret
        all_goals exact Fin.out
    by_cases h2 : ys.getD k 0 < xs.getD k 0
    · have fin : CmpP w m n (.returned (.int .i64 1)) wr.drew.drew.drew := ⟨by rw [cmpI_gt (HF.out.2.2.2.1 k HL.out.symm (by rw [HL.out]; omega) h2 (fun j a b => (hall.out j a (by rw [← HL.out]; exact b)).symm))], hbel.out.drew.drew.drew⟩
      have Fin := hide fin
      clear fin HF HXR HYR hall hbel hc hc2
      generalize xs.getD k 0 = d at *
      generalize ys.getD k 0 = d' at *
      have hlt : ((d' : Int) < (d : Int)) := by omega
      have hne : ((d : Int) == (d' : Int)) = false := beq_eq_false_iff_ne.2 (by omega)
      clear h1 h2
      by_cases hk0 : k = 0
      · subst hk0
        have hcella : wr.cell? ⟨g, o, none⟩ = some (.int .u64 (d : Int)) := hcell
        have hcellb : wr.cell? ⟨g2, o2, none⟩ = some (.int .u64 (d' : Int)) := hcell2
        go_wp2
        go_region
        all_goals go_wp2
        all_goals go_region
        all_goals go_wp2
        all_goals go_region
        all_goals go_wp2
        all_goals go_ret
        all_goals exact Fin.out
      · have hkp : (0 : Int) < (k : Int) := by omega
        have hkn : 0 < k := by omega
        clear hk0
        go_wp2
        go_region
        all_goals go_wp2
        all_goals go_region
        all_goals go_wp2
        all_goals go_region
        all_goals go_wp2
        all_goals go_ret
        all_goals exact Fin.out
    have heq : xs.getD k 0 = ys.getD k 0 := by omega
    have hall2 : Hid (∀ j, k ≤ j → j < ys.length → xs.getD j 0 = ys.getD j 0) := fun j a b => by
      rcases Nat.eq_or_lt_of_le a with rfl | h
      · exact heq
      · exact hall.out j h b
    rw [heq] at hcell
    by_cases hk0 : k = 0
    · have fin : CmpP w m n (.returned (.int .i64 0)) wr.drew.drew.drew := ⟨by rw [cmpI_eq (HF.out.2.2.2.2 (list_ext_getD HL.out (fun i hi => hall2.out i (by omega) (by rw [← HL.out]; exact hi))))], hbel.out.drew.drew.drew⟩
      have Fin := hide fin
      subst hk0
      clear fin h1 h2 heq hc hc2 HXR HYR hall hbel HF hall2
      generalize ys.getD 0 0 = d' at *
      have hcella : wr.cell? ⟨g, o, none⟩ = some (.int .u64 (d' : Int)) := hcell
      have hcellb : wr.cell? ⟨g2, o2, none⟩ = some (.int .u64 (d' : Int)) := hcell2
      go_wp2
      go_region
      all_goals go_wp2
      all_goals go_region
      all_goals go_wp2
      all_goals go_region
      all_goals go_wp2
      all_goals go_ret
      all_goals exact Fin.out
    · have hbe : Hid (Below w.heap.size w wr.drew) := hbel.out.drew
      have hkp : (0 : Int) < (k : Int) := by omega
      have hkn : 0 < k := by omega
      clear hk0 h1 h2 heq hc hc2 HXR HYR hall hbel HF
      generalize ys.getD k 0 = d' at *
      go_wp2
      go_region
      all_goals go_wp2
      all_goals go_roundw
      case rel => exact ⟨k - 1, by omega, by congr 1; omega, fun j a b => hall2.out j (by omega) b, hbe⟩
      case measure => simp [intOf]; omega
end Go.Proofs.YtfkcobdkgjhfaaaGreatDoor

/- Walk: nat.div of a number that is below its divisor of several words. -/
set_option linter.unusedVariables false
set_option linter.unusedSimpArgs false
namespace Go.Proofs.YtfkcobdkgjhfaaaGreatDoor
open Go.RowKit

set_option maxHeartbeats 1000000 in
set_option maxRecDepth 20000 in
theorem divLt_any (base : Nat) (z z2 : Value) (mz m2 y : Nat) (A B : Option Addr) (c cv a : Nat) (w : World) (hz : Room w base z mz) (hz2 : Room w base z2 m2) (hzz : ∀ k, z.ownBlock = some k → z2.ownBlock ≠ some k) (hb : base ≤ w.heap.size) (hna : (digs 18446744073709551616 a).length ≤ 1000) (hny : (digs 18446744073709551616 y).length ≤ 1000) (hn2 : 2 ≤ (digs 18446744073709551616 y).length) (hlt : a < y)
    (hx : RdW w (.slice A (digs 18446744073709551616 a).length c) (digs 18446744073709551616 a)) (hy : RdW w (.slice B (digs 18446744073709551616 y).length cv) (digs 18446744073709551616 y)) :
    Calls Tryz.prog 123 #[z, .pointer none, z2, .slice A (digs 18446744073709551616 a).length c, .slice B (digs 18446744073709551616 y).length cv] w (QrP w base z z2 a y) := by
  have con1 := ncmp_any A B c cv a y w hx hy (by omega) (by omega)
  unfold CmpP at con1
  rw [cmpI_lt hlt] at con1
  have con2 : ∀ W, Below w.heap.size w W → Calls Tryz.prog 116 #[z2, .slice A (digs 18446744073709551616 a).length c] W (SetP W base z2 (digs 18446744073709551616 a)) := fun W hW => set_any base z2 m2 (.slice A (digs 18446744073709551616 a).length c) (digs 18446744073709551616 a) W (hz2.fr (Fr.of_below hW (fun _ => False)) (fun _ _ h => h)) (RdG.below (k := .u64) hx hW) (Nat.le_trans hb hW.size) (by omega)
  obtain ⟨Az, cz, rfl⟩ := hz.slice
  have e1 : a / y = 0 := Nat.div_eq_of_lt hlt
  have e2 : a % y = a := Nat.mod_eq_of_lt hlt
  have hoz : Own w base (.slice Az 0 cz) [] := by
    rcases (room_cut hz (Nat.zero_le cz)).form with ⟨h, -⟩ | ⟨g, cap, cur, h, hg, hB, h1, h2, h3⟩
    · rw [h]; exact Own.nil _ _
    · rw [h]; exact Own.mk (xs := []) hg hB h1 h2 h3 (by simp [wv])
  have Con1 := hide con1
  have Con2 := hide con2
  have HZ := hide (And.intro hoz (And.intro hzz (And.intro e1 e2)))
  obtain ⟨l, hl⟩ : ∃ l, l = (digs 18446744073709551616 y).length := ⟨_, rfl⟩
  have b1 : ((l : Int) == 0) = false := beq_eq_false_iff_ne.2 (by omega)
  have b2 : ((l : Int) == 1) = false := beq_eq_false_iff_ne.2 (by omega)
  have hc0 : 0 ≤ cz := Nat.zero_le _
  have HL := hide hl
  rw [← hl] at Con1 ⊢
  clear con1 con2 hz hz2 hzz hb hna hny hn2 hlt hx hy e1 e2 hoz hl
  go_enter_defers Tryz.func123, Tryz.ntmps123
  go_wp2_with fail
  refine (Con1.out).mono ?_
  rintro e w1 ⟨rfl, hb1⟩
  have Con3 := hide (Con2.out w1 hb1)
  have HB := hide hb1
  clear Con1 Con2 hb1
  go_wp2_with fail
  refine (Con3.out).mono ?_
  rintro e w2 ⟨R, cr, rfl, hr, hrb, hf⟩
  have hob : (Value.slice Az 0 cz).ownBlock = (Value.slice Az mz cz).ownBlock := by cases Az <;> rfl
  have Fin : Hid (QrP w base (.slice Az mz cz) z2 a y (.returned (.tuple #[.slice Az 0 cz, .slice R (digs 18446744073709551616 a).length cr])) w2) := by
    have hb1 := HB.out
    have hoz1 := HZ.out.1.below hb1
    have e0 : digs 18446744073709551616 0 = [] := digs_zero _
    refine ⟨Az, R, cz, cr, ?_, ?_, ?_, .inl ?_, ?_, ?_, ?_⟩
    · rw [HZ.out.2.2.1, HZ.out.2.2.2, e0]; rfl
    · rw [HZ.out.2.2.1, e0]
      exact hoz1.fr hf (fun k hk h => HZ.out.2.1 k (hob ▸ hk) h)
    · rw [HZ.out.2.2.2]; exact hr
    · rw [HZ.out.2.2.1, e0]; exact hob
    · rw [HZ.out.2.2.2]
      exact hrb.imp id (fun ⟨k, h1, h2⟩ => ⟨k, h1, by have := hb1.size; omega⟩)
    · intro k hk h
      rw [HZ.out.2.2.1, e0] at hk
      rw [HZ.out.2.2.2] at h
      rcases hrb with h1 | ⟨k', h1, h2⟩
      · exact HZ.out.2.1 k (hob ▸ hk) (h1 ▸ h)
      · rw [h1] at h
        obtain rfl := Option.some.inj h
        have := (hoz1.lt hk).2
        omega
    · exact Fr.step (Fr.of_below hb1 _) hf (fun _ _ h => .inr h)
  clear hr hrb hf Con3 HB HZ
  generalize (digs 18446744073709551616 a).length = la at *
  go_wp2
  refine ⟨_, results_tmp2 (t := 10) (u := 11) rfl _ _ _, ?_⟩
  exact Fin.out
end Go.Proofs.YtfkcobdkgjhfaaaGreatDoor

/- Walk: nat.div by one word, whatever the word and the number. -/
set_option linter.unusedVariables false
set_option linter.unusedSimpArgs false
namespace Go.Proofs.YtfkcobdkgjhfaaaGreatDoor
open Go.RowKit

/-- Behind divW. -/
def DwP (w : World) (base : Nat) (z : Value) (a y : Nat) (e : Ending) (w' : World) : Prop :=
  ∃ (Q : Option Addr) (cq : Nat), e = .returned (.tuple #[.slice Q (digs 18446744073709551616 (a / y)).length cq, .int .u64 ((a % y : Nat) : Int)]) ∧ Own w' base (.slice Q (digs 18446744073709551616 (a / y)).length cq) (digs 18446744073709551616 (a / y)) ∧
    ((Value.slice Q (digs 18446744073709551616 (a / y)).length cq).ownBlock = z.ownBlock ∨ ∃ k, (Value.slice Q (digs 18446744073709551616 (a / y)).length cq).ownBlock = some k ∧ w.heap.size ≤ k) ∧ Fr w w' (fun k => z.ownBlock = some k)

set_option maxHeartbeats 400000 in
theorem divW_one (base : Nat) (z : Value) (m : Nat) (A : Option Addr) (c a : Nat) (w : World) (hz : Room w base z m) (hb : base ≤ w.heap.size) (hnb : (digs 18446744073709551616 a).length ≤ 1000) (hx : RdW w (.slice A (digs 18446744073709551616 a).length c) (digs 18446744073709551616 a)) :
    Calls Tryz.prog 141 #[z, .slice A (digs 18446744073709551616 a).length c, .int .u64 1] w (DwP w base z a 1) := by
  have Con := hide (set_any base z m (.slice A (digs 18446744073709551616 a).length c) (digs 18446744073709551616 a) w hz hx hb (by omega))
  have e1 : a / 1 = a := Nat.div_one a
  have e2 : a % 1 = 0 := Nat.mod_one a
  have HE := hide (And.intro e1 e2)
  clear hz hb hnb hx e1 e2
  obtain ⟨lx, hlx⟩ : ∃ l, l = (digs 18446744073709551616 a).length := ⟨_, rfl⟩
  have HL := hide hlx
  rw [← hlx] at Con ⊢
  clear hlx
  go_enter Tryz.func141, Tryz.ntmps141
  go_wp2_with fail
  refine (Con.out).mono ?_
  rintro e w1 ⟨Q, cq, rfl, h1, h2, h3⟩
  have Fin : Hid (DwP w base z a 1 (.returned (.tuple #[.slice Q lx cq, .int .u64 0])) w1) := by
    have hl := HL.out
    rw [← hl] at h1 h2
    refine ⟨Q, cq, ?_, ?_, ?_, h3⟩
    · rw [HE.out.1, HE.out.2, hl]; rfl
    · rw [HE.out.1, ← hl]; exact h1
    · rw [HE.out.1, ← hl]; exact h2
  rw [← HL.out]
  clear h1 h2 h3 Con HL HE
  go_wp2
  go_ret2
  exact Fin.out

theorem divW_nil (base : Nat) (z : Value) (m y : Nat) (A : Option Addr) (c : Nat) (w : World) (hz : Room w base z m) (hy1 : 1 < y) :
    Calls Tryz.prog 141 #[z, .slice A 0 c, .int .u64 (y : Int)] w (DwP w base z 0 y) := by
  obtain ⟨Az, cz, rfl⟩ := hz.slice
  have hoz : Own w base (.slice Az 0 cz) [] := by
    rcases (room_cut hz (Nat.zero_le cz)).form with ⟨h, -⟩ | ⟨g, cap, cur, h, hg, hB, h1, h2, h3⟩
    · rw [h]; exact Own.nil _ _
    · rw [h]; exact Own.mk (xs := []) hg hB h1 h2 h3 (by simp [wv])
  have hob : (Value.slice Az 0 cz).ownBlock = (Value.slice Az m cz).ownBlock := by cases Az <;> rfl
  have Fin : Hid (DwP w base (.slice Az m cz) 0 y (.returned (.tuple #[.slice Az 0 cz, .int .u64 0])) w) := by
    refine ⟨Az, cz, ?_, ?_, ?_, Fr.refl _ _⟩
    · rw [Nat.zero_div, Nat.zero_mod, digs_zero]; rfl
    · rw [Nat.zero_div, digs_zero]; exact hoz
    · rw [Nat.zero_div, digs_zero]; exact .inl hob
  have y0 : ((y : Int) == 0) = false := beq_eq_false_iff_ne.2 (by omega)
  have y1 : ((y : Int) == 1) = false := beq_eq_false_iff_ne.2 (by omega)
  have hc0 : 0 ≤ cz := Nat.zero_le _
  clear hz hoz hob hy1
  go_enter Tryz.func141, Tryz.ntmps141
  go_wp2
  go_ret2
  exact Fin.out

set_option maxHeartbeats 1000000 in
set_option maxRecDepth 20000 in
theorem divQR_gen (base : Nat) (z z2 : Value) (m m2 y : Nat) (A : Option Addr) (c a : Nat) (gv ov cv : Nat) (w : World) (hz : Room w base z m) (hz2 : Room w base z2 m2) (hzz : ∀ k, z.ownBlock = some k → z2.ownBlock ≠ some k) (hb : base ≤ w.heap.size)
    (con : Calls Tryz.prog 141 #[z, .slice A (digs 18446744073709551616 a).length c, .int .u64 (y : Int)] w (DwP w base z a y)) (hv : w.cell? ⟨gv, ov, none⟩ = some (.int .u64 (y : Int))) (hy0 : 0 < y) (hy : y < 18446744073709551616) :
    Calls Tryz.prog 123 #[z, .pointer none, z2, .slice A (digs 18446744073709551616 a).length c, .slice (some ⟨gv, ov, none⟩) 1 cv] w (QrP w base z z2 a y) := by
  unfold DwP at con
  have Con := hide con
  have HZ := hide (And.intro hz2 (And.intro hzz (And.intro hb (And.intro hz hy))))
  have hay : a % y < 18446744073709551616 := by have := Nat.mod_lt a (show y > 0 by omega); omega
  have HAY := hide hay
  clear hz hz2 hzz con hb hay hy0
  obtain ⟨la, hla⟩ : ∃ l, l = (digs 18446744073709551616 a).length := ⟨_, rfl⟩
  rw [← hla] at Con ⊢
  clear hla
  go_enter_defers Tryz.func123, Tryz.ntmps123
  go_wp2_with fail
  refine (Con.out).mono ?_
  rintro e w1 ⟨Q, cq, rfl, hown, hblk, hfr⟩
  have hz1 : Room w1 base z2 m2 := HZ.out.1.fr hfr (fun k hk h => HZ.out.2.1 k h hk)
  have con2 := setWord_any base z2 m2 (a % y) w1 hz1 (Nat.le_trans HZ.out.2.2.1 hfr.size) HAY.out
  have Con2 := hide con2
  have HF := hide hfr
  have HO := hide (And.intro hown hblk)
  clear con2 hz1 hown hblk hfr Con
  generalize hrr : a % y = rr at Con2
  have HR := hide hrr
  clear hrr
  go_wp2_with fail
  refine (Con2.out).mono ?_
  rintro e w2 ⟨R, cr, rfl, hr2, hb2, hf2⟩
  have hrr := HR.out
  subst hrr
  have hQ : ∀ k, (Value.slice Q (digs 18446744073709551616 (a / y)).length cq).ownBlock = some k → z2.ownBlock ≠ some k := fun k hk h => by
    rcases HO.out.2 with h1 | ⟨k', h1, h2⟩
    · exact HZ.out.2.1 k (h1 ▸ hk) h
    · rw [h1] at hk
      obtain rfl := Option.some.inj hk
      have := (HZ.out.1.lt h).2
      omega
  have hs := HF.out.size
  have Fin : Hid (QrP w base z z2 a y (.returned (.tuple #[.slice Q (digs 18446744073709551616 (a / y)).length cq, .slice R (digs 18446744073709551616 (a % y)).length cr])) w2) := by
    refine ⟨Q, R, cq, cr, rfl, HO.out.1.fr hf2 hQ, hr2, HO.out.2, hb2.imp id (fun ⟨k, h1, h2⟩ => ⟨k, h1, by omega⟩), fun k hk h => ?_, Fr.step (HF.out.mono (fun _ _ h => .inl h)) hf2 (fun _ _ h => .inr h)⟩
    rcases hb2 with h1 | ⟨k', h1, h2⟩
    · exact hQ k hk (h1 ▸ h)
    · rw [h1] at h
      obtain rfl := Option.some.inj h
      have := (HO.out.1.lt hk).2
      omega
  clear hr2 hb2 hf2 Con2 hQ hs HO HF HZ HR HAY
  generalize (digs 18446744073709551616 (a / y)).length = nq at *
  generalize (digs 18446744073709551616 (a % y)).length = nr at *
  go_wp2
  refine ⟨_, results_tmp2 (t := 10) (u := 11) rfl _ _ _, ?_⟩
  exact Fin.out
end Go.Proofs.YtfkcobdkgjhfaaaGreatDoor

/- Small words on rows of the call's own. -/
set_option linter.unusedVariables false
set_option linter.unusedSimpArgs false
namespace Go.Proofs.YtfkcobdkgjhfaaaGreatDoor
open Go.RowKit

theorem run_clear_none (w : World) (A : Option Addr) (c : Nat) (ty : TypeId) : (Builtin.clear_ #[65] ty #[.slice A 0 c]).run Tryz.prog w = .ok (.tuple #[]) w := by
  cases A <;> simp [Builtin.clear_, run_underlying Tryz.underlying65]

theorem own_trim {w : World} {base g n cap : Nat} {xs : List Nat} (h : Own w base (.slice (some ⟨g, 0, none⟩) n cap) xs) : Own w base (.slice (some ⟨g, 0, none⟩) (trimz xs).length cap) (trimz xs) := by
  rcases h.form with ⟨h1, _⟩ | ⟨g', cap', cur, he, hg, hh, a, b, c, d⟩
  · injection h1 with h1; cases h1
  · injection he with e1 e2 e3
    injection e1 with e1
    injection e1 with e1
    subst e1 e3
    have hl := trimz_length_le xs
    refine Own.mk hg hh (by omega) b c ?_
    have e1 : cur.toList.take (trimz xs).length = (cur.toList.take xs.length).take (trimz xs).length := by rw [List.take_take]; congr 1; omega
    rw [e1, d]
    have e2 : (wv xs).take (trimz xs).length = wv (xs.take (trimz xs).length) := by simp [wv]
    rw [e2, take_trimz]
theorem own_caps {w : World} {base g n cap : Nat} {xs : List Nat} (h : Own w base (.slice (some ⟨g, 0, none⟩) n cap) xs) : n = xs.length ∧ n ≤ cap ∧ cap ≤ maxLen := by
  rcases h.form with ⟨h1, _⟩ | ⟨g', cap', cur, he, hg, hh, a, b, c, d⟩
  · injection h1 with h1; cases h1
  · injection he with e1 e2 e3
    subst e3
    exact ⟨e2, by omega, b⟩

/-- A room of m words and more, word by word: what lies there. -/
theorem Room.rows {w : World} {base m : Nat} {v : Value} (h : Room w base v m) (hm : 0 < m) : ∃ (g cap : Nat) (us : List Value), v = .slice (some ⟨g, 0, none⟩) m cap ∧ base ≤ g ∧ g < w.heap.size ∧ Blk w g 145 us.toArray ∧ us.length = cap ∧ m ≤ cap ∧ cap ≤ maxLen := by
  rcases h.form with ⟨_, h1⟩ | ⟨g, cap, cur, rfl, hg, hh, ha, hcap, hs⟩
  · omega
  · exact ⟨g, cap, cur.toList, rfl, hg, hh.lt, by simpa using hh, by simpa using hs, ha, hcap⟩

/-- A row shifted: as many noughts below, then its digits. -/
theorem dval_zeros (b t : Nat) (xs : List Nat) : dval b (List.replicate t 0 ++ xs) = b ^ t * dval b xs := by
  rw [dval_append, dval_replicate_zero, List.length_replicate, Nat.zero_add]
end Go.Proofs.YtfkcobdkgjhfaaaGreatDoor
