/- Parts of the proofs: Spec6, NCmp, ICmp. -/
import Derived.Test.YtfkcobdkgjhfaaaGreatDoorG4
import Derived.Test.YtfkcobdkgjhfaaaGreatDoorG7
import Derived.Test.YtfkcobdkgjhfaaaGreatDoorG20
import Derived.Test.YtfkcobdkgjhfaaaGreatDoorG25
/- Walks: spec's Cmp. -/
set_option linter.unusedVariables false
set_option linter.unusedSimpArgs false
namespace Go.Proofs.YtfkcobdkgjhfaaaGreatDoor
open Go.RowKit

/-- -1, 0 or 1 by the order of two numbers. (Under a name: the walk leaves it.) -/
def cmpI (m n : Nat) : Int := if m < n then -1 else if n < m then 1 else 0
theorem cmpI_lt {m n : Nat} (h : m < n) : cmpI m n = -1 := if_pos h
theorem cmpI_gt {m n : Nat} (h : n < m) : cmpI m n = 1 := by unfold cmpI; rw [if_neg (by omega), if_pos h]
theorem cmpI_eq {m n : Nat} (h : m = n) : cmpI m n = 0 := by unfold cmpI; rw [if_neg (by omega), if_neg (by omega)]

theorem top_lt {b : Nat} : ∀ {xs ys : List Nat} {i : Nat}, Dig b xs → xs.length = ys.length → i < xs.length → xs.getD i 0 < ys.getD i 0 → (∀ j, i < j → j < xs.length → xs.getD j 0 = ys.getD j 0) → dval b xs < dval b ys
  | [], _, _, _, _, h, _, _ => by simp at h
  | d :: r, [], _, _, h, _, _, _ => by simp at h
  | d :: r, e :: s, 0, _, hl, _, hlt, he => by
    have : r = s := list_ext_getD (by simpa using hl) (fun i hi => by have := he (i + 1) (by omega) (by simpa using hi); simpa using this)
    subst this
    rw [dval_cons, dval_cons]
    simp at hlt
    omega
  | d :: r, e :: s, i + 1, hd, hl, hi, hlt, he => by
    have h := top_lt (b := b) (xs := r) (ys := s) (i := i) (fun x hx => hd x (by simp [hx])) (by simpa using hl) (by simpa using hi) (by simpa using hlt)
      (fun j h1 h2 => by have := he (j + 1) (by omega) (by simpa using h2); simpa using this)
    have h1 := hd d (by simp)
    rw [dval_cons, dval_cons]
    have h2 : b * (dval b r + 1) ≤ b * dval b s := Nat.mul_le_mul_left b h
    rw [Nat.mul_add] at h2
    omega
theorem len_lt {b m n : Nat} (hb : 1 < b) (h : (digs b m).length < (digs b n).length) : m < n :=
  Nat.lt_of_lt_of_le (lt_of_digs_length hb (Nat.le_refl _)) (le_of_digs_length hb h)
theorem digs_top_lt {b m n i : Nat} (hb : 1 < b) (hl : (digs b m).length = (digs b n).length) (hi : i < (digs b n).length) (h : (digs b m).getD i 0 < (digs b n).getD i 0) (he : ∀ j, i < j → j < (digs b n).length → (digs b m).getD j 0 = (digs b n).getD j 0) : m < n := by
  have := top_lt (dig_digs hb m) hl (by omega) h (fun j h1 h2 => he j h1 (by omega))
  rwa [dval_digs hb, dval_digs hb] at this

def CmpP (w : World) (m n : Nat) (e : Ending) (w' : World) : Prop := e = .returned (.int .i64 (cmpI m n)) ∧ Below w.heap.size w w'

set_option maxHeartbeats 2000000 in
theorem cmp_any (A B : Option Addr) (c c2 : Nat) (m n : Nat) (w : World) (hx : RdG .i64 w (.slice A (digs 65536 m).length c) (digs 65536 m)) (hy : RdG .i64 w (.slice B (digs 65536 n).length c2) (digs 65536 n)) (hnx : (digs 65536 m).length ≤ 1099511627776) (hny : (digs 65536 n).length ≤ 1099511627776) :
    Calls Tryz.prog 35 #[.slice A (digs 65536 m).length c, .slice B (digs 65536 n).length c2] w (CmpP w m n) := by
  have lt1 := len_lt (b := 65536) (m := m) (n := n) (by omega)
  have lt2 := len_lt (b := 65536) (m := n) (n := m) (by omega)
  have tp1 := fun i => digs_top_lt (b := 65536) (m := m) (n := n) (i := i) (by omega)
  have tp2 := fun i => digs_top_lt (b := 65536) (m := n) (n := m) (i := i) (by omega)
  have inj : digs 65536 m = digs 65536 n → m = n := digs_inj (by omega)
  have HXR := hide hx.at_
  have HYR := hide hy.at_
  clear hx hy
  generalize digs 65536 m = xs at *
  generalize digs 65536 n = ys at *
  have HF := hide (And.intro lt1 (And.intro lt2 (And.intro tp1 (And.intro tp2 inj))))
  clear lt1 lt2 tp1 tp2 inj
  by_cases h1 : xs.length < ys.length
  · have fin : CmpP w m n (.returned (.int .i64 (-1))) w := ⟨by rw [cmpI_lt (HF.out.1 h1)], Below.refl _ _⟩
    have Fin := hide fin
    clear fin HF HXR HYR
    go_enter Tryz.func35, Tryz.ntmps35
    go_wp2
    go_ret
    exact Fin.out
  by_cases h2 : ys.length < xs.length
  · have fin : CmpP w m n (.returned (.int .i64 1)) w := ⟨by rw [cmpI_gt (HF.out.2.1 h2)], Below.refl _ _⟩
    have Fin := hide fin
    clear fin HF HXR HYR
    go_enter Tryz.func35, Tryz.ntmps35
    go_wp2
    go_ret
    exact Fin.out
  have hl : xs.length = ys.length := by omega
  have HL := hide hl
  rw [hl] at HXR hnx ⊢
  clear h1 h2 hl hnx
  go_enter Tryz.func35, Tryz.ntmps35
  go_wp2
  go_loopw [5] (fun i wr => ∃ k : Nat, k ≤ ys.length ∧ i = .int .i64 ((k : Int) - 1) ∧ Hid (∀ j, k ≤ j → j < ys.length → xs.getD j 0 = ys.getD j 0) ∧ Hid (Below w.heap.size w wr)) (fun i _ => (intOf i + 1).toNat)
  case atStart => exact ⟨ys.length, Nat.le_refl _, rfl, fun j h1 h2 => by omega, Below.refl _ _⟩
  case round =>
    obtain ⟨k, hk, rfl, hall, hbel⟩ := hrel
    rcases Nat.eq_zero_or_pos k with rfl | hp
    · have fin : CmpP w m n (.returned (.int .i64 0)) wr := ⟨by rw [cmpI_eq (HF.out.2.2.2.2 (list_ext_getD HL.out (fun i hi => hall.out i (Nat.zero_le _) (by rw [← HL.out]; exact hi))))], hbel.out⟩
      have Fin := hide fin
      clear fin HF HXR HYR hall hbel
      rw [show (((0 : Nat) : Int) - 1) = -1 from rfl]
      go_wp2
      go_ret
      exact Fin.out
    · obtain ⟨k, rfl⟩ : ∃ m, k = m + 1 := ⟨k - 1, by omega⟩
      have e1 : (((k + 1 : Nat) : Int) - 1) = (k : Int) := by omega
      rw [e1]
      clear e1
      obtain ⟨g, o, rfl, hg, hc⟩ := HXR.out k (by first | omega | (have := HL.out; omega))
      obtain ⟨g2, o2, rfl, hg2, hc2⟩ := HYR.out k (by omega)
      have hcell : wr.cell? ⟨g, o + k, none⟩ = some (.int .i64 (xs.getD k 0 : Nat)) := (hbel.out.cell hg).trans hc
      have hcell2 : wr.cell? ⟨g2, o2 + k, none⟩ = some (.int .i64 (ys.getD k 0 : Nat)) := (hbel.out.cell hg2).trans hc2
      have hb0 : (0 : Int) ≤ (k : Int) := by omega
      have hb1 : (k : Int) < (ys.length : Int) := by omega
      by_cases h1 : xs.getD k 0 < ys.getD k 0
      · have fin : CmpP w m n (.returned (.int .i64 (-1))) wr.drew := ⟨by rw [cmpI_lt (HF.out.2.2.1 k HL.out (by omega) h1 (fun j a b => hall.out j a b))], hbel.out.drew⟩
        have Fin := hide fin
        clear fin HF HXR HYR hall hbel hc hc2
        generalize xs.getD k 0 = d at *
        generalize ys.getD k 0 = d' at *
        have hlt : ((d : Int) < (d' : Int)) := by omega
        clear h1
        go_wp2
        go_region
        all_goals go_wp2
        all_goals go_ret
        all_goals exact Fin.out
      by_cases h2 : ys.getD k 0 < xs.getD k 0
      · have fin : CmpP w m n (.returned (.int .i64 1)) wr.drew.drew := ⟨by rw [cmpI_gt (HF.out.2.2.2.1 k HL.out.symm (by rw [HL.out]; omega) h2 (fun j a b => (hall.out j a (by rw [← HL.out]; exact b)).symm))], hbel.out.drew.drew⟩
        have Fin := hide fin
        clear fin HF HXR HYR hall hbel hc hc2
        generalize xs.getD k 0 = d at *
        generalize ys.getD k 0 = d' at *
        have hlt : ((d' : Int) < (d : Int)) := by omega
        clear h1 h2
        go_wp2
        go_region
        all_goals go_wp2
        all_goals go_region
        all_goals go_wp2
        all_goals go_ret
        all_goals exact Fin.out
      · have hall2 : Hid (∀ j, k ≤ j → j < ys.length → xs.getD j 0 = ys.getD j 0) := fun j a b => by
          rcases Nat.eq_or_lt_of_le a with rfl | h
          · omega
          · exact hall.out j h b
        have hbe : Hid (Below w.heap.size w wr.drew.drew) := hbel.out.drew.drew
        have heq : xs.getD k 0 = ys.getD k 0 := by omega
        rw [heq] at hcell
        clear h1 h2 heq hc hc2 HXR HYR hall hbel HF
        generalize ys.getD k 0 = d' at *
        go_wp2
        go_region
        all_goals go_wp2
        all_goals go_region
        all_goals go_wp2
        all_goals go_roundw
        case rel => exact ⟨k, by omega, rfl, hall2, hbe⟩
        case measure => simp [intOf]
end Go.Proofs.YtfkcobdkgjhfaaaGreatDoor

/- Walks: the order of numbers: nat.cmp. -/
set_option linter.unusedVariables false
set_option linter.unusedSimpArgs false
namespace Go.Proofs.YtfkcobdkgjhfaaaGreatDoor
open Go.RowKit

set_option maxHeartbeats 2000000 in
theorem ncmp_any (A B : Option Addr) (c c2 : Nat) (m n : Nat) (w : World) (hx : RdW w (.slice A (digs 18446744073709551616 m).length c) (digs 18446744073709551616 m)) (hy : RdW w (.slice B (digs 18446744073709551616 n).length c2) (digs 18446744073709551616 n)) (hnx : (digs 18446744073709551616 m).length ≤ 1099511627776) (hny : (digs 18446744073709551616 n).length ≤ 1099511627776) :
    Calls Tryz.prog 142 #[.slice A (digs 18446744073709551616 m).length c, .slice B (digs 18446744073709551616 n).length c2] w (CmpP w m n) := by
  have lt1 := len_lt (b := 18446744073709551616) (m := m) (n := n) (by omega)
  have lt2 := len_lt (b := 18446744073709551616) (m := n) (n := m) (by omega)
  have tp1 := fun i => digs_top_lt (b := 18446744073709551616) (m := m) (n := n) (i := i) (by omega)
  have tp2 := fun i => digs_top_lt (b := 18446744073709551616) (m := n) (n := m) (i := i) (by omega)
  have inj : digs 18446744073709551616 m = digs 18446744073709551616 n → m = n := digs_inj (by omega)
  have HXR := hide (RdG.at_ (k := .u64) hx)
  have HYR := hide (RdG.at_ (k := .u64) hy)
  clear hx hy
  generalize digs 18446744073709551616 m = xs at *
  generalize digs 18446744073709551616 n = ys at *
  have HF := hide (And.intro lt1 (And.intro lt2 (And.intro tp1 (And.intro tp2 inj))))
  clear lt1 lt2 tp1 tp2 inj
  by_cases h1 : xs.length < ys.length
  · have fin : CmpP w m n (.returned (.int .i64 (-1))) w := ⟨by rw [cmpI_lt (HF.out.1 h1)], Below.refl _ _⟩
    have Fin := hide fin
    have hne : ((xs.length : Int) == (ys.length : Int)) = false := beq_eq_false_iff_ne.2 (by omega)
    clear fin HF HXR HYR
    go_enter Tryz.func142, Tryz.ntmps142
    go_wp2
    go_ret
    exact Fin.out
  by_cases h2 : ys.length < xs.length
  · have fin : CmpP w m n (.returned (.int .i64 1)) w := ⟨by rw [cmpI_gt (HF.out.2.1 h2)], Below.refl _ _⟩
    have Fin := hide fin
    have hne : ((xs.length : Int) == (ys.length : Int)) = false := beq_eq_false_iff_ne.2 (by omega)
    clear fin HF HXR HYR
    go_enter Tryz.func142, Tryz.ntmps142
    go_wp2
    go_ret
    exact Fin.out
  have hl : xs.length = ys.length := by omega
  have HL := hide hl
  rw [hl] at HXR hnx ⊢
  clear h1 h2 hl hnx
  by_cases h0 : ys.length = 0
  · have fin : CmpP w m n (.returned (.int .i64 0)) w := ⟨by rw [cmpI_eq (HF.out.2.2.2.2 (by
      rw [List.eq_nil_of_length_eq_zero (HL.out.trans h0), List.eq_nil_of_length_eq_zero h0]))], Below.refl _ _⟩
    have Fin := hide fin
    clear fin HF HXR HYR
    rw [h0]
    go_enter Tryz.func142, Tryz.ntmps142
    go_wp2
    go_ret
    exact Fin.out
  have hb0 : ((ys.length : Int) == 0) = false := beq_eq_false_iff_ne.2 (by omega)
  have hpos : 0 < ys.length := by omega
  clear h0
  go_enter Tryz.func142, Tryz.ntmps142
  go_wp2
  go_loopw [7] (fun i wr => ∃ k : Nat, k < ys.length ∧ i = .int .i64 (k : Int) ∧ Hid (∀ j, k < j → j < ys.length → xs.getD j 0 = ys.getD j 0) ∧ Hid (Below w.heap.size w wr)) (fun i _ => (intOf i).toNat)
  case atStart => exact ⟨ys.length - 1, by omega, by first | rfl | (congr 1; omega), fun j h1 h2 => by omega, Below.refl _ _⟩
  case round =>
    obtain ⟨k, hk, rfl, hall, hbel⟩ := hrel
    obtain ⟨g, o, rfl, hg, hc⟩ := HXR.out k (by first | omega | (have := HL.out; omega))
    obtain ⟨g2, o2, rfl, hg2, hc2⟩ := HYR.out k (by omega)
    have hcell : wr.cell? ⟨g, o + k, none⟩ = some (.int .u64 (xs.getD k 0 : Nat)) := (hbel.out.cell hg).trans hc
    have hcell2 : wr.cell? ⟨g2, o2 + k, none⟩ = some (.int .u64 (ys.getD k 0 : Nat)) := (hbel.out.cell hg2).trans hc2
    have hp0 : (0 : Int) ≤ (k : Int) := by omega
    have hp1 : (k : Int) < (ys.length : Int) := by omega
    by_cases h1 : xs.getD k 0 < ys.getD k 0
    · have fin : CmpP w m n (.returned (.int .i64 (-1))) wr.drew.drew := ⟨by rw [cmpI_lt (HF.out.2.2.1 k HL.out (by omega) h1 (fun j a b => hall.out j a b))], hbel.out.drew.drew⟩
      have Fin := hide fin
      clear fin HF HXR HYR hall hbel hc hc2
      generalize xs.getD k 0 = d at *
      generalize ys.getD k 0 = d' at *
      have hlt : ((d : Int) < (d' : Int)) := by omega
      have hne : ((d : Int) == (d' : Int)) = false := beq_eq_false_iff_ne.2 (by omega)
      clear h1
      by_cases hk0 : k = 0
      · subst hk0
        have hcella : wr.cell? ⟨g, o, none⟩ = some (.int .u64 (d : Int)) := hcell
        have hcellb : wr.cell? ⟨g2, o2, none⟩ = some (.int .u64 (d' : Int)) := hcell2
        go_wp2
        go_region
        all_goals go_wp2
        all_goals go_region
        all_goals go_wp2
        all_goals go_ret
        all_goals exact Fin.out
      · have hkp : (0 : Int) < (k : Int) := by omega
        have hkn : 0 < k := by omega
        clear hk0
        go_wp2
        go_region
        all_goals go_wp2
        all_goals go_region
        all_goals go_wp2
        all_goals go_ret
        all_goals exact Fin.out
    by_cases h2 : ys.getD k 0 < xs.getD k 0
    · have fin : CmpP w m n (.returned (.int .i64 1)) wr.drew.drew.drew := ⟨by rw [cmpI_gt (HF.out.2.2.2.1 k HL.out.symm (by rw [HL.out]; omega) h2 (fun j a b => (hall.out j a (by rw [← HL.out]; exact b)).symm))], hbel.out.drew.drew.drew⟩
      have Fin := hide fin
      clear fin HF HXR HYR hall hbel hc hc2
      generalize xs.getD k 0 = d at *
      generalize ys.getD k 0 = d' at *
      have hlt : ((d' : Int) < (d : Int)) := by omega
      have hne : ((d : Int) == (d' : Int)) = false := beq_eq_false_iff_ne.2 (by omega)
      clear h1 h2
      by_cases hk0 : k = 0
      · subst hk0
        have hcella : wr.cell? ⟨g, o, none⟩ = some (.int .u64 (d : Int)) := hcell
        have hcellb : wr.cell? ⟨g2, o2, none⟩ = some (.int .u64 (d' : Int)) := hcell2
        go_wp2
        go_region
        all_goals go_wp2
        all_goals go_region
        all_goals go_wp2
        all_goals go_region
        all_goals go_wp2
        all_goals go_ret
        all_goals exact Fin.out
      · have hkp : (0 : Int) < (k : Int) := by omega
        have hkn : 0 < k := by omega
        clear hk0
        go_wp2
        go_region
        all_goals go_wp2
        all_goals go_region
        all_goals go_wp2
        all_goals go_region
        all_goals go_wp2
        all_goals go_ret
        all_goals exact Fin.out
    have heq : xs.getD k 0 = ys.getD k 0 := by omega
    have hall2 : Hid (∀ j, k ≤ j → j < ys.length → xs.getD j 0 = ys.getD j 0) := fun j a b => by
      rcases Nat.eq_or_lt_of_le a with rfl | h
      · exact heq
      · exact hall.out j h b
    rw [heq] at hcell
    by_cases hk0 : k = 0
    · have fin : CmpP w m n (.returned (.int .i64 0)) wr.drew.drew.drew := ⟨by rw [cmpI_eq (HF.out.2.2.2.2 (list_ext_getD HL.out (fun i hi => hall2.out i (by omega) (by rw [← HL.out]; exact hi))))], hbel.out.drew.drew.drew⟩
      have Fin := hide fin
      subst hk0
      clear fin h1 h2 heq hc hc2 HXR HYR hall hbel HF hall2
      generalize ys.getD 0 0 = d' at *
      have hcella : wr.cell? ⟨g, o, none⟩ = some (.int .u64 (d' : Int)) := hcell
      have hcellb : wr.cell? ⟨g2, o2, none⟩ = some (.int .u64 (d' : Int)) := hcell2
      go_wp2
      go_region
      all_goals go_wp2
      all_goals go_region
      all_goals go_wp2
      all_goals go_region
      all_goals go_wp2
      all_goals go_ret
      all_goals exact Fin.out
    · have hbe : Hid (Below w.heap.size w wr.drew) := hbel.out.drew
      have hkp : (0 : Int) < (k : Int) := by omega
      have hkn : 0 < k := by omega
      clear hk0 h1 h2 heq hc hc2 HXR HYR hall hbel HF
      generalize ys.getD k 0 = d' at *
      go_wp2
      go_region
      all_goals go_wp2
      all_goals go_roundw
      case rel => exact ⟨k - 1, by omega, by congr 1; omega, fun j a b => hall2.out j (by omega) b, hbe⟩
      case measure => simp [intOf]; omega
end Go.Proofs.YtfkcobdkgjhfaaaGreatDoor

/- Walks: the order of numbers that are not below 0: Int.Cmp, BigInt.Cmp. -/
set_option linter.unusedVariables false
set_option linter.unusedSimpArgs false
namespace Go.Proofs.YtfkcobdkgjhfaaaGreatDoor
open Go.RowKit

theorem eql_IntC (w : World) {a b : Addr} {ca cb : Array Value} {ta tb : TypeId} (hne : a ≠ b) (ha : Blk w a.block ta ca) (hb : Blk w b.block tb cb) :
    (binOp .eql 143 (.pointer (some a)) (.pointer (some b))).run Tryz.prog w = .ok (.bool false) w := by
  obtain ⟨j, hj, hs⟩ := Option.map_eq_some_iff.1 infoInt
  exact run_eql_ptr_other w Tryz.underlying143 hj (by rw [hs]; decide) hne ha hb

theorem icmp_any (gx ox gy oy : Nat) (tx ty : TypeId) (cx cy : Array Value) (A B : Option Addr) (c c2 : Nat) (m n : Nat) (w : World)
    (hx : Blk w gx tx cx) (hx0 : cx[ox]? = some (.bool false)) (hx1 : cx[ox + 1]? = some (.slice A (digs 18446744073709551616 m).length c)) (hxr : RdW w (.slice A (digs 18446744073709551616 m).length c) (digs 18446744073709551616 m))
    (hy : Blk w gy ty cy) (hy0 : cy[oy]? = some (.bool false)) (hy1 : cy[oy + 1]? = some (.slice B (digs 18446744073709551616 n).length c2)) (hyr : RdW w (.slice B (digs 18446744073709551616 n).length c2) (digs 18446744073709551616 n))
    (hne : (⟨gx, ox, none⟩ : Addr) ≠ ⟨gy, oy, none⟩) (hnx : (digs 18446744073709551616 m).length ≤ 1099511627776) (hny : (digs 18446744073709551616 n).length ≤ 1099511627776) :
    Calls Tryz.prog 129 #[.pointer (some ⟨gx, ox, none⟩), .pointer (some ⟨gy, oy, none⟩)] w (CmpP w m n) := by
  have hcmp := eql_IntC w (a := ⟨gx, ox, none⟩) (b := ⟨gy, oy, none⟩) hne hx hy
  have c0 : w.cell? ⟨gx, ox, none⟩ = some (.bool false) := (hx.cell _).trans hx0
  have c1 : w.cell? ⟨gx, ox + 1, none⟩ = some (.slice A (digs 18446744073709551616 m).length c) := (hx.cell _).trans hx1
  have d0 : w.cell? ⟨gy, oy, none⟩ = some (.bool false) := (hy.cell _).trans hy0
  have d1 : w.cell? ⟨gy, oy + 1, none⟩ = some (.slice B (digs 18446744073709551616 n).length c2) := (hy.cell _).trans hy1
  have Con := hide (ncmp_any A B c c2 m n w.drew.drew hxr hyr hnx hny)
  have Key := hide (show ∀ e w', CmpP w.drew.drew m n e w' → e = .returned (.int .i64 (cmpI m n)) ∧ w'.cell? ⟨gx, ox, none⟩ = some (.bool false) ∧ Hid (CmpP w m n e w') from fun e w' h => ⟨h.1, by
    exact (h.2.cell (p := ⟨gx, ox, none⟩) hx.lt).trans c0, h.1, ⟨h.2.os, h.2.tape, h.2.output, h.2.size, h.2.block⟩⟩)
  clear hx hx0 hx1 hxr hy hy0 hy1 hyr hnx hny hne
  generalize (digs 18446744073709551616 m).length = lm at *
  generalize (digs 18446744073709551616 n).length = ln at *
  generalize cmpI m n = r at *
  go_enter Tryz.func129, Tryz.ntmps129
  go_wp2_with fail
  go_region
  all_goals go_wp2_with fail
  all_goals go_region_with (go_at_call 142; go_loud (refine (Con.out).mono ?_; rintro e w1 HI; obtain ⟨rfl, k1, k2⟩ := Key.out _ _ HI))
  all_goals go_wp2
  all_goals go_ret
  all_goals exact k2.out

theorem bcmp_any (gx ox gy oy : Nat) (tx ty : TypeId) (cx cy : Array Value) (A B : Option Addr) (c c2 : Nat) (m n : Nat) (w : World)
    (hx : Blk w gx tx cx) (hx0 : cx[ox]? = some (.bool false)) (hx1 : cx[ox + 1]? = some (.slice A (digs 18446744073709551616 m).length c)) (hx2 : cx[ox + 2]? = some (.bool false)) (hxr : RdW w (.slice A (digs 18446744073709551616 m).length c) (digs 18446744073709551616 m))
    (hy : Blk w gy ty cy) (hy0 : cy[oy]? = some (.bool false)) (hy1 : cy[oy + 1]? = some (.slice B (digs 18446744073709551616 n).length c2)) (hy2 : cy[oy + 2]? = some (.bool false)) (hyr : RdW w (.slice B (digs 18446744073709551616 n).length c2) (digs 18446744073709551616 n))
    (hne : (⟨gx, ox, none⟩ : Addr) ≠ ⟨gy, oy, none⟩) (hnx : (digs 18446744073709551616 m).length ≤ 1099511627776) (hny : (digs 18446744073709551616 n).length ≤ 1099511627776) :
    Calls Tryz.prog 111 #[.pointer (some ⟨gx, ox, none⟩), .pointer (some ⟨gy, oy, none⟩)] w (CmpP w m n) := by
  have c2' : w.cell? ⟨gx, ox + 2, none⟩ = some (.bool false) := (hx.cell _).trans hx2
  have d2' : w.cell? ⟨gy, oy + 2, none⟩ = some (.bool false) := (hy.cell _).trans hy2
  have Con := hide (icmp_any gx ox gy oy tx ty cx cy A B c c2 m n w.drew.drew hx hx0 hx1 hxr hy hy0 hy1 hyr hne hnx hny)
  have Key := hide (show ∀ e w', CmpP w.drew.drew m n e w' → e = .returned (.int .i64 (cmpI m n)) ∧ Hid (CmpP w m n e w') from fun e w' h => ⟨h.1, h.1, ⟨h.2.os, h.2.tape, h.2.output, h.2.size, h.2.block⟩⟩)
  clear hx hx0 hx1 hx2 hxr hy hy0 hy1 hy2 hyr hnx hny hne
  generalize cmpI m n = r at *
  go_enter Tryz.func111, Tryz.ntmps111
  go_wp2_with fail
  go_region
  all_goals go_wp2_with fail
  all_goals go_region_with (go_at_call 129; go_loud (refine (Con.out).mono ?_; rintro e w1 HI; obtain ⟨rfl, k2⟩ := Key.out _ _ HI))
  all_goals go_wp2
  all_goals go_ret
  all_goals exact k2.out
end Go.Proofs.YtfkcobdkgjhfaaaGreatDoor
