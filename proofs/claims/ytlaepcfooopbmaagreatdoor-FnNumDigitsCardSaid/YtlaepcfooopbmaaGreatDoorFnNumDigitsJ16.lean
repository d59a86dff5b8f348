/- Parts of the proof of 'laws.FnNumDigits': Spec6, NCmp, ICmp, Exp5, NumD. -/
import Derived.Deep.RegionHeld3
import Derived.BigRegion
import Derived.Deep.DrawnRows
import Derived.Test.YtlaepcfooopbmaaGreatDoorFnNumDigitsJ1
import Derived.Test.YtlaepcfooopbmaaGreatDoorFnNumDigitsJ2
import Derived.Test.YtlaepcfooopbmaaGreatDoorFnNumDigitsJ3
import Derived.Test.YtlaepcfooopbmaaGreatDoorFnNumDigitsJ4
import Derived.Test.YtlaepcfooopbmaaGreatDoorFnNumDigitsJ5
import Derived.Test.YtlaepcfooopbmaaGreatDoorFnNumDigitsJ6
import Derived.Test.YtlaepcfooopbmaaGreatDoorFnNumDigitsJ7
import Derived.Test.YtlaepcfooopbmaaGreatDoorFnNumDigitsJ8
import Derived.Test.YtlaepcfooopbmaaGreatDoorFnNumDigitsJ9
import Derived.Test.YtlaepcfooopbmaaGreatDoorFnNumDigitsJ10
import Derived.Test.YtlaepcfooopbmaaGreatDoorFnNumDigitsJ11
import Derived.Test.YtlaepcfooopbmaaGreatDoorFnNumDigitsJ12
import Derived.Test.YtlaepcfooopbmaaGreatDoorFnNumDigitsJ13
import Derived.Test.YtlaepcfooopbmaaGreatDoorFnNumDigitsJ14
import Derived.Test.YtlaepcfooopbmaaGreatDoorFnNumDigitsJ15
/- Walks: spec's Cmp. -/
set_option linter.unusedVariables false
set_option linter.unusedSimpArgs false
namespace Go.Proofs.YtlaepcfooopbmaaGreatDoor
open Go.RowKit

/-- -1, 0 or 1 by the order of two numbers. (Under a name: the walk leaves it.) -/
def cmpI (m n : Nat) : Int := if m < n then -1 else if n < m then 1 else 0
theorem cmpI_lt {m n : Nat} (h : m < n) : cmpI m n = -1 := if_pos h
theorem cmpI_gt {m n : Nat} (h : n < m) : cmpI m n = 1 := by unfold cmpI; rw [if_neg (by omega), if_pos h]
theorem cmpI_eq {m n : Nat} (h : m = n) : cmpI m n = 0 := by unfold cmpI; rw [if_neg (by omega), if_neg (by omega)]

theorem top_lt {b : Nat} : ∀ {xs ys : List Nat} {i : Nat}, Dig b xs → xs.length = ys.length → i < xs.length → xs.getD i 0 < ys.getD i 0 → (∀ j, i < j → j < xs.length → xs.getD j 0 = ys.getD j 0) → dval b xs < dval b ys
  | [], _, _, _, _, h, _, _ => by simp at h
  | d :: r, [], _, _, h, _, _, _ => by simp at h
  | d :: r, e :: s, 0, _, hl, _, hlt, he => by
    have : r = s := list_ext_getD (by simpa using hl) (fun i hi => by have := he (i + 1) (by omega) (by simpa using hi); simpa using this)
    subst this
    rw [dval_cons, dval_cons]
    simp at hlt
    omega
  | d :: r, e :: s, i + 1, hd, hl, hi, hlt, he => by
    have h := top_lt (b := b) (xs := r) (ys := s) (i := i) (fun x hx => hd x (by simp [hx])) (by simpa using hl) (by simpa using hi) (by simpa using hlt)
      (fun j h1 h2 => by have := he (j + 1) (by omega) (by simpa using h2); simpa using this)
    have h1 := hd d (by simp)
    rw [dval_cons, dval_cons]
    have h2 : b * (dval b r + 1) ≤ b * dval b s := Nat.mul_le_mul_left b h
    rw [Nat.mul_add] at h2
    omega
theorem len_lt {b m n : Nat} (hb : 1 < b) (h : (digs b m).length < (digs b n).length) : m < n :=
  Nat.lt_of_lt_of_le (lt_of_digs_length hb (Nat.le_refl _)) (le_of_digs_length hb h)
theorem digs_top_lt {b m n i : Nat} (hb : 1 < b) (hl : (digs b m).length = (digs b n).length) (hi : i < (digs b n).length) (h : (digs b m).getD i 0 < (digs b n).getD i 0) (he : ∀ j, i < j → j < (digs b n).length → (digs b m).getD j 0 = (digs b n).getD j 0) : m < n := by
  have := top_lt (dig_digs hb m) hl (by omega) h (fun j h1 h2 => he j h1 (by omega))
  rwa [dval_digs hb, dval_digs hb] at this

def CmpP (w : World) (m n : Nat) (e : Ending) (w' : World) : Prop := e = .returned (.int .i64 (cmpI m n)) ∧ Below w.heap.size w w'

set_option maxHeartbeats 2000000 in
theorem cmp_any (A B : Option Addr) (c c2 : Nat) (m n : Nat) (w : World) (hx : RdG .i64 w (.slice A (digs 65536 m).length c) (digs 65536 m)) (hy : RdG .i64 w (.slice B (digs 65536 n).length c2) (digs 65536 n)) (hnx : (digs 65536 m).length ≤ 1099511627776) (hny : (digs 65536 n).length ≤ 1099511627776) :
    Calls Tryz.prog 58 #[.slice A (digs 65536 m).length c, .slice B (digs 65536 n).length c2] w (CmpP w m n) := by
  have lt1 := len_lt (b := 65536) (m := m) (n := n) (by omega)
  have lt2 := len_lt (b := 65536) (m := n) (n := m) (by omega)
  have tp1 := fun i => digs_top_lt (b := 65536) (m := m) (n := n) (i := i) (by omega)
  have tp2 := fun i => digs_top_lt (b := 65536) (m := n) (n := m) (i := i) (by omega)
  have inj : digs 65536 m = digs 65536 n → m = n := digs_inj (by omega)
  have HXR := hide hx.at_
  have HYR := hide hy.at_
  clear hx hy
  generalize digs 65536 m = xs at *
  generalize digs 65536 n = ys at *
  have HF := hide (And.intro lt1 (And.intro lt2 (And.intro tp1 (And.intro tp2 inj))))
  clear lt1 lt2 tp1 tp2 inj
  by_cases h1 : xs.length < ys.length
  · have fin : CmpP w m n (.returned (.int .i64 (-1))) w := ⟨by rw [cmpI_lt (HF.out.1 h1)], Below.refl _ _⟩
    have Fin := hide fin
    clear fin HF HXR HYR
    go_enter Tryz.func58, Tryz.ntmps58
    go_wp2
    go_ret
    exact Fin.out
  by_cases h2 : ys.length < xs.length
  · have fin : CmpP w m n (.returned (.int .i64 1)) w := ⟨by rw [cmpI_gt (HF.out.2.1 h2)], Below.refl _ _⟩
    have Fin := hide fin
    clear fin HF HXR HYR
    go_enter Tryz.func58, Tryz.ntmps58
    go_wp2
    go_ret
    exact Fin.out
  have hl : xs.length = ys.length := by omega
  have HL := hide hl
  rw [hl] at HXR hnx ⊢
  clear h1 h2 hl hnx
  go_enter Tryz.func58, Tryz.ntmps58
  go_wp2
  go_loopw [5] (fun i wr => ∃ k : Nat, k ≤ ys.length ∧ i = .int .i64 ((k : Int) - 1) ∧ Hid (∀ j, k ≤ j → j < ys.length → xs.getD j 0 = ys.getD j 0) ∧ Hid (Below w.heap.size w wr)) (fun i _ => (intOf i + 1).toNat)
  case atStart => exact ⟨ys.length, Nat.le_refl _, rfl, fun j h1 h2 => by omega, Below.refl _ _⟩
  case round =>
    obtain ⟨k, hk, rfl, hall, hbel⟩ := hrel
    rcases Nat.eq_zero_or_pos k with rfl | hp
    · have fin : CmpP w m n (.returned (.int .i64 0)) wr := ⟨by rw [cmpI_eq (HF.out.2.2.2.2 (list_ext_getD HL.out (fun i hi => hall.out i (Nat.zero_le _) (by rw [← HL.out]; exact hi))))], hbel.out⟩
      have Fin := hide fin
      clear fin HF HXR HYR hall hbel
      rw [show (((0 : Nat) : Int) - 1) = -1 from rfl]
      go_wp2
      go_ret
      exact Fin.out
    · obtain ⟨k, rfl⟩ : ∃ m, k = m + 1 := ⟨k - 1, by omega⟩
      have e1 : (((k + 1 : Nat) : Int) - 1) = (k : Int) := by omega
      rw [e1]
      clear e1
      obtain ⟨g, o, rfl, hg, hc⟩ := HXR.out k (by first | omega | (have := HL.out; omega))
      obtain ⟨g2, o2, rfl, hg2, hc2⟩ := HYR.out k (by omega)
      have hcell : wr.cell? ⟨g, o + k, none⟩ = some (.int .i64 (xs.getD k 0 : Nat)) := (hbel.out.cell hg).trans hc
      have hcell2 : wr.cell? ⟨g2, o2 + k, none⟩ = some (.int .i64 (ys.getD k 0 : Nat)) := (hbel.out.cell hg2).trans hc2
      have hb0 : (0 : Int) ≤ (k : Int) := by omega
      have hb1 : (k : Int) < (ys.length : Int) := by omega
      by_cases h1 : xs.getD k 0 < ys.getD k 0
      · have fin : CmpP w m n (.returned (.int .i64 (-1))) wr.drew := ⟨by rw [cmpI_lt (HF.out.2.2.1 k HL.out (by omega) h1 (fun j a b => hall.out j a b))], hbel.out.drew⟩
        have Fin := hide fin
        clear fin HF HXR HYR hall hbel hc hc2
        generalize xs.getD k 0 = d at *
        generalize ys.getD k 0 = d' at *
        have hlt : ((d : Int) < (d' : Int)) := by omega
        clear h1
        go_wp2
        go_region
        all_goals go_wp2
        all_goals go_ret
        all_goals exact Fin.out
      by_cases h2 : ys.getD k 0 < xs.getD k 0
      · have fin : CmpP w m n (.returned (.int .i64 1)) wr.drew.drew := ⟨by rw [cmpI_gt (HF.out.2.2.2.1 k HL.out.symm (by rw [HL.out]; omega) h2 (fun j a b => (hall.out j a (by rw [← HL.out]; exact b)).symm))], hbel.out.drew.drew⟩
        have Fin := hide fin
        clear fin HF HXR HYR hall hbel hc hc2
        generalize xs.getD k 0 = d at *
        generalize ys.getD k 0 = d' at *
        have hlt : ((d' : Int) < (d : Int)) := by omega
        clear h1 h2
        go_wp2
        go_region
        all_goals go_wp2
        all_goals go_region
        all_goals go_wp2
        all_goals go_ret
        all_goals exact Fin.out
      · have hall2 : Hid (∀ j, k ≤ j → j < ys.length → xs.getD j 0 = ys.getD j 0) := fun j a b => by
          rcases Nat.eq_or_lt_of_le a with rfl | h
          · omega
          · exact hall.out j h b
        have hbe : Hid (Below w.heap.size w wr.drew.drew) := hbel.out.drew.drew
        have heq : xs.getD k 0 = ys.getD k 0 := by omega
        rw [heq] at hcell
        clear h1 h2 heq hc hc2 HXR HYR hall hbel HF
        generalize ys.getD k 0 = d' at *
        go_wp2
        go_region
        all_goals go_wp2
        all_goals go_region
        all_goals go_wp2
        all_goals go_roundw
        case rel => exact ⟨k, by omega, rfl, hall2, hbe⟩
        case measure => simp [intOf]
end Go.Proofs.YtlaepcfooopbmaaGreatDoor

/- Walks: the order of numbers: nat.cmp. -/
set_option linter.unusedVariables false
set_option linter.unusedSimpArgs false
namespace Go.Proofs.YtlaepcfooopbmaaGreatDoor
open Go.RowKit

set_option maxHeartbeats 2000000 in
theorem ncmp_any (A B : Option Addr) (c c2 : Nat) (m n : Nat) (w : World) (hx : RdW w (.slice A (digs 18446744073709551616 m).length c) (digs 18446744073709551616 m)) (hy : RdW w (.slice B (digs 18446744073709551616 n).length c2) (digs 18446744073709551616 n)) (hnx : (digs 18446744073709551616 m).length ≤ 1099511627776) (hny : (digs 18446744073709551616 n).length ≤ 1099511627776) :
    Calls Tryz.prog 85 #[.slice A (digs 18446744073709551616 m).length c, .slice B (digs 18446744073709551616 n).length c2] w (CmpP w m n) := by
  have lt1 := len_lt (b := 18446744073709551616) (m := m) (n := n) (by omega)
  have lt2 := len_lt (b := 18446744073709551616) (m := n) (n := m) (by omega)
  have tp1 := fun i => digs_top_lt (b := 18446744073709551616) (m := m) (n := n) (i := i) (by omega)
  have tp2 := fun i => digs_top_lt (b := 18446744073709551616) (m := n) (n := m) (i := i) (by omega)
  have inj : digs 18446744073709551616 m = digs 18446744073709551616 n → m = n := digs_inj (by omega)
  have HXR := hide (RdG.at_ (k := .u64) hx)
  have HYR := hide (RdG.at_ (k := .u64) hy)
  clear hx hy
  generalize digs 18446744073709551616 m = xs at *
  generalize digs 18446744073709551616 n = ys at *
  have HF := hide (And.intro lt1 (And.intro lt2 (And.intro tp1 (And.intro tp2 inj))))
  clear lt1 lt2 tp1 tp2 inj
  by_cases h1 : xs.length < ys.length
  · have fin : CmpP w m n (.returned (.int .i64 (-1))) w := ⟨by rw [cmpI_lt (HF.out.1 h1)], Below.refl _ _⟩
    have Fin := hide fin
    have hne : ((xs.length : Int) == (ys.length : Int)) = false := beq_eq_false_iff_ne.2 (by omega)
    clear fin HF HXR HYR
    go_enter Tryz.func85, Tryz.ntmps85
    go_wp2
    go_ret
    exact Fin.out
  by_cases h2 : ys.length < xs.length
  · have fin : CmpP w m n (.returned (.int .i64 1)) w := ⟨by rw [cmpI_gt (HF.out.2.1 h2)], Below.refl _ _⟩
    have Fin := hide fin
    have hne : ((xs.length : Int) == (ys.length : Int)) = false := beq_eq_false_iff_ne.2 (by omega)
    clear fin HF HXR HYR
    go_enter Tryz.func85, Tryz.ntmps85
    go_wp2
    go_ret
    exact Fin.out
  have hl : xs.length = ys.length := by omega
  have HL := hide hl
  rw [hl] at HXR hnx ⊢
  clear h1 h2 hl hnx
  by_cases h0 : ys.length = 0
  · have fin : CmpP w m n (.returned (.int .i64 0)) w := ⟨by rw [cmpI_eq (HF.out.2.2.2.2 (by
      rw [List.eq_nil_of_length_eq_zero (HL.out.trans h0), List.eq_nil_of_length_eq_zero h0]))], Below.refl _ _⟩
    have Fin := hide fin
    clear fin HF HXR HYR
    rw [h0]
    go_enter Tryz.func85, Tryz.ntmps85
    go_wp2
    go_ret
    exact Fin.out
  have hb0 : ((ys.length : Int) == 0) = false := beq_eq_false_iff_ne.2 (by omega)
  have hpos : 0 < ys.length := by omega
  clear h0
  go_enter Tryz.func85, Tryz.ntmps85
  go_wp2
  go_loopw [7] (fun i wr => ∃ k : Nat, k < ys.length ∧ i = .int .i64 (k : Int) ∧ Hid (∀ j, k < j → j < ys.length → xs.getD j 0 = ys.getD j 0) ∧ Hid (Below w.heap.size w wr)) (fun i _ => (intOf i).toNat)
  case atStart => exact ⟨ys.length - 1, by omega, by first | rfl | (congr 1; omega), fun j h1 h2 => by omega, Below.refl _ _⟩
  case round =>
    obtain ⟨k, hk, rfl, hall, hbel⟩ := hrel
    obtain ⟨g, o, rfl, hg, hc⟩ := HXR.out k (by first | omega | (have := HL.out; omega))
    obtain ⟨g2, o2, rfl, hg2, hc2⟩ := HYR.out k (by omega)
    have hcell : wr.cell? ⟨g, o + k, none⟩ = some (.int .u64 (xs.getD k 0 : Nat)) := (hbel.out.cell hg).trans hc
    have hcell2 : wr.cell? ⟨g2, o2 + k, none⟩ = some (.int .u64 (ys.getD k 0 : Nat)) := (hbel.out.cell hg2).trans hc2
    have hp0 : (0 : Int) ≤ (k : Int) := by omega
    have hp1 : (k : Int) < (ys.length : Int) := by omega
    by_cases h1 : xs.getD k 0 < ys.getD k 0
    · have fin : CmpP w m n (.returned (.int .i64 (-1))) wr.drew.drew := ⟨by rw [cmpI_lt (HF.out.2.2.1 k HL.out (by omega) h1 (fun j a b => hall.out j a b))], hbel.out.drew.drew⟩
      have Fin := hide fin
      clear fin HF HXR HYR hall hbel hc hc2
      generalize xs.getD k 0 = d at *
      generalize ys.getD k 0 = d' at *
      have hlt : ((d : Int) < (d' : Int)) := by omega
      have hne : ((d : Int) == (d' : Int)) = false := beq_eq_false_iff_ne.2 (by omega)
      clear h1
      by_cases hk0 : k = 0
      · subst hk0
        have hcella : wr.cell? ⟨g, o, none⟩ = some (.int .u64 (d : Int)) := hcell
        have hcellb : wr.cell? ⟨g2, o2, none⟩ = some (.int .u64 (d' : Int)) := hcell2
        go_wp2
        go_region
        all_goals go_wp2
        all_goals go_region
        all_goals go_wp2
        all_goals go_ret
        all_goals exact Fin.out
      · have hkp : (0 : Int) < (k : Int) := by omega
        have hkn : 0 < k := by omega
        clear hk0
        go_wp2
        go_region
        all_goals go_wp2
        all_goals go_region
        all_goals go_wp2
        all_goals go_ret
        all_goals exact Fin.out
    by_cases h2 : ys.getD k 0 < xs.getD k 0
    · have fin : CmpP w m n (.returned (.int .i64 1)) wr.drew.drew.drew := ⟨by rw [cmpI_gt (HF.out.2.2.2.1 k HL.out.symm (by rw [HL.out]; omega) h2 (fun j a b => (hall.out j a (by rw [← HL.out]; exact b)).symm))], hbel.out.drew.drew.drew⟩
      have Fin := hide fin
      clear fin HF HXR HYR hall hbel hc hc2
      generalize xs.getD k 0 = d at *
      generalize ys.getD k 0 = d' at *
      have hlt : ((d' : Int) < (d : Int)) := by omega
      have hne : ((d : Int) == (d' : Int)) = false := beq_eq_false_iff_ne.2 (by omega)
      clear h1 h2
      by_cases hk0 : k = 0
      · subst hk0
        have hcella : wr.cell? ⟨g, o, none⟩ = some (.int .u64 (d : Int)) := hcell
        have hcellb : wr.cell? ⟨g2, o2, none⟩ = some (.int .u64 (d' : Int)) := hcell2
        go_wp2
        go_region
        all_goals go_wp2
        all_goals go_region
        all_goals go_wp2
        all_goals go_region
        all_goals go_wp2
        all_goals go_ret
        all_goals exact Fin.out
      · have hkp : (0 : Int) < (k : Int) := by omega
        have hkn : 0 < k := by omega
        clear hk0
        go_wp2
        go_region
        all_goals go_wp2
        all_goals go_region
        all_goals go_wp2
        all_goals go_region
        all_goals go_wp2
        all_goals go_ret
        all_goals exact Fin.out
    have heq : xs.getD k 0 = ys.getD k 0 := by omega
    have hall2 : Hid (∀ j, k ≤ j → j < ys.length → xs.getD j 0 = ys.getD j 0) := fun j a b => by
      rcases Nat.eq_or_lt_of_le a with rfl | h
      · exact heq
      · exact hall.out j h b
    rw [heq] at hcell
    by_cases hk0 : k = 0
    · have fin : CmpP w m n (.returned (.int .i64 0)) wr.drew.drew.drew := ⟨by rw [cmpI_eq (HF.out.2.2.2.2 (list_ext_getD HL.out (fun i hi => hall2.out i (by omega) (by rw [← HL.out]; exact hi))))], hbel.out.drew.drew.drew⟩
      have Fin := hide fin
      subst hk0
      clear fin h1 h2 heq hc hc2 HXR HYR hall hbel HF hall2
      generalize ys.getD 0 0 = d' at *
      have hcella : wr.cell? ⟨g, o, none⟩ = some (.int .u64 (d' : Int)) := hcell
      have hcellb : wr.cell? ⟨g2, o2, none⟩ = some (.int .u64 (d' : Int)) := hcell2
      go_wp2
      go_region
      all_goals go_wp2
      all_goals go_region
      all_goals go_wp2
      all_goals go_region
      all_goals go_wp2
      all_goals go_ret
      all_goals exact Fin.out
    · have hbe : Hid (Below w.heap.size w wr.drew) := hbel.out.drew
      have hkp : (0 : Int) < (k : Int) := by omega
      have hkn : 0 < k := by omega
      clear hk0 h1 h2 heq hc hc2 HXR HYR hall hbel HF
      generalize ys.getD k 0 = d' at *
      go_wp2
      go_region
      all_goals go_wp2
      all_goals go_roundw
      case rel => exact ⟨k - 1, by omega, by congr 1; omega, fun j a b => hall2.out j (by omega) b, hbe⟩
      case measure => simp [intOf]; omega
end Go.Proofs.YtlaepcfooopbmaaGreatDoor

/- Walks: the order of numbers that are not below 0: Int.Cmp, BigInt.Cmp. -/
set_option linter.unusedVariables false
set_option linter.unusedSimpArgs false
namespace Go.Proofs.YtlaepcfooopbmaaGreatDoor
open Go.RowKit

theorem eql_IntC (w : World) {a b : Addr} {ca cb : Array Value} {ta tb : TypeId} (hne : a ≠ b) (ha : Blk w a.block ta ca) (hb : Blk w b.block tb cb) :
    (binOp .eql 86 (.pointer (some a)) (.pointer (some b))).run Tryz.prog w = .ok (.bool false) w := by
  obtain ⟨j, hj, hs⟩ := Option.map_eq_some_iff.1 infoInt
  exact run_eql_ptr_other w Tryz.underlying86 hj (by rw [hs]; decide) hne ha hb

theorem icmp_any (gx ox gy oy : Nat) (tx ty : TypeId) (cx cy : Array Value) (A B : Option Addr) (c c2 : Nat) (m n : Nat) (w : World)
    (hx : Blk w gx tx cx) (hx0 : cx[ox]? = some (.bool false)) (hx1 : cx[ox + 1]? = some (.slice A (digs 18446744073709551616 m).length c)) (hxr : RdW w (.slice A (digs 18446744073709551616 m).length c) (digs 18446744073709551616 m))
    (hy : Blk w gy ty cy) (hy0 : cy[oy]? = some (.bool false)) (hy1 : cy[oy + 1]? = some (.slice B (digs 18446744073709551616 n).length c2)) (hyr : RdW w (.slice B (digs 18446744073709551616 n).length c2) (digs 18446744073709551616 n))
    (hne : (⟨gx, ox, none⟩ : Addr) ≠ ⟨gy, oy, none⟩) (hnx : (digs 18446744073709551616 m).length ≤ 1099511627776) (hny : (digs 18446744073709551616 n).length ≤ 1099511627776) :
    Calls Tryz.prog 68 #[.pointer (some ⟨gx, ox, none⟩), .pointer (some ⟨gy, oy, none⟩)] w (CmpP w m n) := by
  have hcmp := eql_IntC w (a := ⟨gx, ox, none⟩) (b := ⟨gy, oy, none⟩) hne hx hy
  have c0 : w.cell? ⟨gx, ox, none⟩ = some (.bool false) := (hx.cell _).trans hx0
  have c1 : w.cell? ⟨gx, ox + 1, none⟩ = some (.slice A (digs 18446744073709551616 m).length c) := (hx.cell _).trans hx1
  have d0 : w.cell? ⟨gy, oy, none⟩ = some (.bool false) := (hy.cell _).trans hy0
  have d1 : w.cell? ⟨gy, oy + 1, none⟩ = some (.slice B (digs 18446744073709551616 n).length c2) := (hy.cell _).trans hy1
  have Con := hide (ncmp_any A B c c2 m n w.drew.drew hxr hyr hnx hny)
  have Key := hide (show ∀ e w', CmpP w.drew.drew m n e w' → e = .returned (.int .i64 (cmpI m n)) ∧ w'.cell? ⟨gx, ox, none⟩ = some (.bool false) ∧ Hid (CmpP w m n e w') from fun e w' h => ⟨h.1, by
    exact (h.2.cell (p := ⟨gx, ox, none⟩) hx.lt).trans c0, h.1, ⟨h.2.os, h.2.tape, h.2.output, h.2.size, h.2.block⟩⟩)
  clear hx hx0 hx1 hxr hy hy0 hy1 hyr hnx hny hne
  generalize (digs 18446744073709551616 m).length = lm at *
  generalize (digs 18446744073709551616 n).length = ln at *
  generalize cmpI m n = r at *
  go_enter Tryz.func68, Tryz.ntmps68
  go_wp2_with fail
  go_region
  all_goals go_wp2_with fail
  all_goals go_region_with (go_at_call 85; go_loud (refine (Con.out).mono ?_; rintro e w1 HI; obtain ⟨rfl, k1, k2⟩ := Key.out _ _ HI))
  all_goals go_wp2
  all_goals go_ret
  all_goals exact k2.out

theorem bcmp_any (gx ox gy oy : Nat) (tx ty : TypeId) (cx cy : Array Value) (A B : Option Addr) (c c2 : Nat) (m n : Nat) (w : World)
    (hx : Blk w gx tx cx) (hx0 : cx[ox]? = some (.bool false)) (hx1 : cx[ox + 1]? = some (.slice A (digs 18446744073709551616 m).length c)) (hx2 : cx[ox + 2]? = some (.bool false)) (hxr : RdW w (.slice A (digs 18446744073709551616 m).length c) (digs 18446744073709551616 m))
    (hy : Blk w gy ty cy) (hy0 : cy[oy]? = some (.bool false)) (hy1 : cy[oy + 1]? = some (.slice B (digs 18446744073709551616 n).length c2)) (hy2 : cy[oy + 2]? = some (.bool false)) (hyr : RdW w (.slice B (digs 18446744073709551616 n).length c2) (digs 18446744073709551616 n))
    (hne : (⟨gx, ox, none⟩ : Addr) ≠ ⟨gy, oy, none⟩) (hnx : (digs 18446744073709551616 m).length ≤ 1099511627776) (hny : (digs 18446744073709551616 n).length ≤ 1099511627776) :
    Calls Tryz.prog 45 #[.pointer (some ⟨gx, ox, none⟩), .pointer (some ⟨gy, oy, none⟩)] w (CmpP w m n) := by
  have c2' : w.cell? ⟨gx, ox + 2, none⟩ = some (.bool false) := (hx.cell _).trans hx2
  have d2' : w.cell? ⟨gy, oy + 2, none⟩ = some (.bool false) := (hy.cell _).trans hy2
  have Con := hide (icmp_any gx ox gy oy tx ty cx cy A B c c2 m n w.drew.drew hx hx0 hx1 hxr hy hy0 hy1 hyr hne hnx hny)
  have Key := hide (show ∀ e w', CmpP w.drew.drew m n e w' → e = .returned (.int .i64 (cmpI m n)) ∧ Hid (CmpP w m n e w') from fun e w' h => ⟨h.1, h.1, ⟨h.2.os, h.2.tape, h.2.output, h.2.size, h.2.block⟩⟩)
  clear hx hx0 hx1 hx2 hxr hy hy0 hy1 hy2 hyr hnx hny hne
  generalize cmpI m n = r at *
  go_enter Tryz.func45, Tryz.ntmps45
  go_wp2_with fail
  go_region
  all_goals go_wp2_with fail
  all_goals go_region_with (go_at_call 68; go_loud (refine (Con.out).mono ?_; rintro e w1 HI; obtain ⟨rfl, k2⟩ := Key.out _ _ HI))
  all_goals go_wp2
  all_goals go_ret
  all_goals exact k2.out
end Go.Proofs.YtlaepcfooopbmaaGreatDoor

/- Walks: setBigWithPow, tableExp10, ZZPower, the thin package's Power. -/
set_option linter.unusedVariables false
set_option linter.unusedSimpArgs false
namespace Go.Proofs.YtlaepcfooopbmaaGreatDoor
open Go.RowKit

/-- 10 to the power of n, laid into the BigInt in block gz. -/
def PowP (w : World) (base gz : Nat) (vz : Value) (n : Nat) (v : Value) (e : Ending) (w' : World) : Prop :=
  e = .returned v ∧ ∃ A c, Own w' base (.slice A (digs 18446744073709551616 (10 ^ n)).length c) (digs 18446744073709551616 (10 ^ n)) ∧
    ((Value.slice A (digs 18446744073709551616 (10 ^ n)).length c).ownBlock = vz.ownBlock ∨ ∃ k, (Value.slice A (digs 18446744073709551616 (10 ^ n)).length c).ownBlock = some k ∧ w.heap.size ≤ k) ∧
    Blk w' gz 77 #[.bool false, .slice A (digs 18446744073709551616 (10 ^ n)).length c, .bool false] ∧ Fr w w' (fun k => k = gz ∨ vz.ownBlock = some k)

set_option maxHeartbeats 1000000 in
set_option maxRecDepth 20000 in
theorem setPow_any (base gz : Nat) (nz mi : Bool) (vz : Value) (mz n : Nat) (w : World) (hz : Blk w gz 77 #[.bool nz, vz, .bool mi]) (hzr : Room w base vz mz) (hb : base ≤ w.heap.size) (hgz : base ≤ gz) (hn : n < 9223372036854775808) (hsz : 10 ^ (n / 2) < 18446744073709551616 ^ 11) (hv : Vars w base) :
    Calls Tryz.prog 69 #[.pointer (some ⟨gz, 0, none⟩), .int .i64 (n : Int)] w (PowP w base gz vz n (.tuple #[])) := by
  obtain ⟨gt, hgt⟩ : ∃ gt, gt = w.heap.size := ⟨_, rfl⟩
  obtain ⟨W, hW⟩ : ∃ W, W = w.alloc (.cells #[.bool false, .slice none 0 0, .bool false] 77) := ⟨_, rfl⟩
  have hbW : Below w.heap.size w W := by rw [hW]; exact below_al (Below.refl _ _) _
  have hsW : W.heap.size = gt + 1 := by rw [hW, hgt]; simp
  have htW : Blk W gt 77 #[.bool false, .slice none 0 0, .bool false] := by rw [hW, hgt]; exact Blk.new w _ _
  have con := bsetInt64_any gt gt 0 77 #[.bool false, .slice none 0 0, .bool false] false false (.slice none 0 0) 0 (n : Int) W htW rfl rfl rfl (Own.nil _ _).room (by decide) (by omega) (by omega) (by omega)
  rw [decide_eq_false (by omega : ¬ (n : Int) < 0), Int.natAbs_natCast] at con
  have Con := hide con
  have HX := hide (And.intro hz (And.intro hzr (And.intro hv (And.intro hsz (And.intro hbW (And.intro hsW hgt))))))
  have HW := hide hW
  clear con hz hzr hv hsz hbW hsW htW
  obtain ⟨ni, hni⟩ : ∃ ni : Int, ni = (n : Int) := ⟨_, rfl⟩
  rw [← hni] at Con ⊢
  clear hni
  go_enter Tryz.func69, Tryz.ntmps69
  go_wp2_with fail
  rw [← hgt, ← hW]
  clear hgt hW
  refine (Con.out).mono ?_
  rintro e w1 ⟨rfl, B, d, hown, _, hblk, hfr⟩
  have hfr1 : Below gt W w1 := hfr.below (by have := HX.out.2.2.2.2.2.1; omega) (fun k hk => by rcases hk with rfl | hk; exact Nat.le_refl _; cases hk)
  have hsz1 := hfr1.size
  have hb1 : Below w.heap.size w w1 := HX.out.2.2.2.2.1.trans (by have := HX.out.2.2.2.2.2.2; rw [← this]; exact hfr1)
  have Ten := hide (ten_any w1)
  have HT := hide (And.intro hown (And.intro (show Blk w1 gt 77 #[.bool false, .slice B (digs 18446744073709551616 n).length d, .bool false] from hblk) hb1))
  clear hown hblk hfr hfr1 hb1 Con
  go_wp2_with fail
  refine (Ten.out).mono ?_
  rintro e w2 ⟨g10, A, c, rfl, hg10, hown10, hblk10, hbel⟩
  have hb2 : Below w.heap.size w w2 := below_next HT.out.2.2 hbel
  have hgzl : gz < w.heap.size := HX.out.1.lt
  have hgte := HX.out.2.2.2.2.2.2
  have hsW := HX.out.2.2.2.2.2.1
  have hvl : ∀ k, vz.ownBlock = some k → k < w.heap.size := fun k hk => (HX.out.2.1.lt hk).2
  have con2 := bexp_any base w1.heap.size gt gz 0 g10 0 gt 0 77 77 77 _ _ _ nz mi vz mz 10 n _ A B c d w2
    (HX.out.1.below hb2) rfl rfl rfl (HX.out.2.1.fr (Fr.of_below hb2 (fun _ => False)) (fun _ _ h => h)) (by decide) hblk10 rfl rfl hown10 (by decide) (HT.out.2.1.below hbel) rfl rfl (HT.out.1.below hbel) (by decide)
    (fun k hk h2 => by have := hvl k hk; have := (hown10.lt h2).1; omega) (fun k hk h2 => by have := hvl k hk; have := (HT.out.1.lt h2).1; omega) (by omega) (by omega) (by have := hb2.size; omega) hgz (by omega) (by omega) (by omega) HX.out.2.2.2.1 (HX.out.2.2.1.below hb2)
  have Con2 := hide con2
  have Hb2 := hide hb2
  clear con2 hb2 hown10 hblk10 hbel hgzl hvl HT Ten hg10 hsz1 hsW hgte
  go_wp2_with fail
  refine (Con2.out).mono ?_
  rintro e w3 ⟨rfl, A3, c3, ho3, hk3, hB3, hF3⟩
  have Fin : Hid (PowP w base gz vz n (.tuple #[]) (.returned (.tuple #[])) w3) :=
    ⟨rfl, A3, c3, ho3, hk3.imp id (fun ⟨k, a, b⟩ => ⟨k, a, by have := Hb2.out.size; omega⟩), hB3, Fr.step (Fr.of_below Hb2.out _) hF3 (fun _ _ h => h)⟩
  clear ho3 hk3 hB3 hF3 Hb2 Con2 HX HW
  go_wp2
  go_end0
  exact Fin.out

theorem tabExp_any (base gz : Nat) (nz mi : Bool) (vz : Value) (mz n : Nat) (w : World) (hz : Blk w gz 77 #[.bool nz, vz, .bool mi]) (hzr : Room w base vz mz) (hb : base ≤ w.heap.size) (hgz : base ≤ gz) (hn : n < 9223372036854775808) (hsz : 10 ^ (n / 2) < 18446744073709551616 ^ 11) (hv : Vars w base) :
    Calls Tryz.prog 46 #[.int .i64 (n : Int), .pointer (some ⟨gz, 0, none⟩)] w (PowP w base gz vz n (.pointer (some ⟨gz, 0, none⟩))) := by
  have Con := hide (setPow_any base gz nz mi vz mz n w hz hzr hb hgz hn hsz hv)
  clear hz hzr hv hsz
  obtain ⟨ni, hni⟩ : ∃ ni : Int, ni = (n : Int) := ⟨_, rfl⟩
  rw [← hni] at Con ⊢
  clear hni
  go_enter Tryz.func46, Tryz.ntmps46
  go_wp2_with fail
  refine (Con.out).mono ?_
  rintro e w1 ⟨rfl, h⟩
  have Fin : Hid (PowP w base gz vz n (.pointer (some ⟨gz, 0, none⟩)) (.returned (.pointer (some ⟨gz, 0, none⟩))) w1) := ⟨rfl, h⟩
  clear h Con
  go_wp2
  go_ret
  exact Fin.out


end Go.Proofs.YtlaepcfooopbmaaGreatDoor

/- Walks: apd.NumDigits of a number not below 0. -/
set_option linter.unusedVariables false
set_option linter.unusedSimpArgs false
namespace Go.Proofs.YtlaepcfooopbmaaGreatDoor
open Go.RowKit
attribute [local go_sem ↓] Go.wp_at_zero Go.wp_at_succ

/-- How many figures. -/
def FigP (w : World) (v : Nat) (e : Ending) (w' : World) : Prop := e = .returned (.int .i64 (figs v : Int)) ∧ Below w.heap.size w w'

/-- A BigInt that holds v, at o in block g. -/
structure BigAt (w : World) (g o : Nat) (t : TypeId) (cs : Array Value) (A : Option Addr) (c v : Nat) : Prop where
  blk : Blk w g t cs
  c0 : cs[o]? = some (.bool false)
  c1 : cs[o + 1]? = some (.slice A (digs 18446744073709551616 v).length c)
  c2 : cs[o + 2]? = some (.bool false)
  rd : RdW w (.slice A (digs 18446744073709551616 v).length c) (digs 18446744073709551616 v)
theorem BigAt.below {w w' : World} {g o : Nat} {t : TypeId} {cs : Array Value} {A : Option Addr} {c v : Nat} (h : BigAt w g o t cs A c v) (hb : Below w.heap.size w w') : BigAt w' g o t cs A c v :=
  ⟨h.blk.below hb, h.c0, h.c1, h.c2, RdG.below (k := .u64) h.rd hb⟩

theorem bigcmp_any (gx ox gy oy : Nat) (tx ty : TypeId) (cx cy : Array Value) (A B : Option Addr) (c c2 m n : Nat) (w : World) (hx : BigAt w gx ox tx cx A c m) (hy : BigAt w gy oy ty cy B c2 n)
    (hne : (⟨gx, ox, none⟩ : Addr) ≠ ⟨gy, oy, none⟩) (hnx : (digs 18446744073709551616 m).length ≤ 1099511627776) (hny : (digs 18446744073709551616 n).length ≤ 1099511627776) :
    Calls Tryz.prog 45 #[.pointer (some ⟨gx, ox, none⟩), .pointer (some ⟨gy, oy, none⟩)] w (CmpP w m n) :=
  bcmp_any gx ox gy oy tx ty cx cy A B c c2 m n w hx.blk hx.c0 hx.c1 hx.c2 hx.rd hy.blk hy.c0 hy.c1 hy.c2 hy.rd hne hnx hny

theorem cmpI_ge {m n : Nat} (h : ¬ m < n) : 0 ≤ cmpI m n ∧ cmpI m n ≤ 1 := by
  unfold cmpI; rw [if_neg h]; split <;> omega

theorem numD_zero (g o : Nat) (t : TypeId) (cs : Array Value) (A : Option Addr) (c : Nat) (w : World) (hx : BigAt w g o t cs A c 0) :
    Calls Tryz.prog 28 #[.pointer (some ⟨g, o, none⟩)] w (FigP w 0) := by
  have hx1 := hx.c1
  have hrd := hx.rd
  rw [digs_zero] at hx1 hrd
  have con := bbitLen_any g o A 0 c [] w ((hx.blk.cell _).trans hx1) hrd rfl (by omega) (fun d h => by cases h) canon_nil
  have e0 : blen (dval 18446744073709551616 []) = 0 := rfl
  rw [e0] at con
  have Con := hide con
  clear hx hx1 hrd con e0
  go_enter Tryz.func28, Tryz.ntmps28
  go_wp2_with fail
  refine (Con.out).mono ?_
  rintro e w1 ⟨rfl, hw1⟩
  rw [hw1]
  clear Con hw1
  go_wp2
  go_ret
  exact ⟨rfl, Below.refl _ _⟩

set_option maxHeartbeats 2000000 in
set_option maxRecDepth 20000 in
theorem numD_low (g o : Nat) (t : TypeId) (cs : Array Value) (A : Option Addr) (c v : Nat) (w : World) (hx : BigAt w g o t cs A c v) (hv0 : 0 < v) (hbl : blen v ≤ 128) (hv : VarsL w w.heap.size) :
    Calls Tryz.prog 28 #[.pointer (some ⟨g, o, none⟩)] w (FigP w v) := by
  have hl2 : (digs 18446744073709551616 v).length ≤ 2 := digs_length_le (by omega) (Nat.lt_of_lt_of_le (blen_hi v) (by
    rw [show (18446744073709551616 : Nat) ^ 2 = 2 ^ 128 from by decide]; exact Nat.pow_le_pow_right (by omega) hbl))
  have con := bbitLen_any g o A _ c _ w ((hx.blk.cell _).trans hx.c1) hx.rd rfl (by omega) (dig_digs (by omega) _) (canon_digs (by omega) _)
  rw [dval_digs (by omega)] at con
  obtain ⟨b, hb⟩ : ∃ b, b = blen v := ⟨_, rfl⟩
  have hlo := blen_lo hv0
  have hhi := blen_hi v
  rw [← hb] at con hbl hlo hhi
  have hb1 : 1 ≤ b := by
    rcases Nat.eq_zero_or_pos b with h | h
    · rw [h] at hhi; simp at hhi; omega
    · exact h
  have Con := hide con
  have Con1 := hide (digLook_any b w hb1 hbl hv)
  have hf : figs v = (digs 10 v).length := by rw [figs, if_neg (by omega)]
  have HM := hide (And.intro hlo (And.intro hhi (And.intro hf (And.intro hl2 hv))))
  have HX := hide hx
  have b0 : ((b : Int) == 0) = false := beq_eq_false_iff_ne.2 (by omega)
  clear con hx hb hlo hhi hf hv hl2
  go_enter Tryz.func28, Tryz.ntmps28
  go_wp2_with fail
  refine (Con.out).mono ?_
  rintro e w0 ⟨rfl, hw0⟩
  rw [hw0]
  clear Con hw0
  go_wp2_with fail
  refine (Con1.out).mono ?_
  rintro e w1 ⟨gv, A1, c1, v1, rfl, hgv, ho1, hB1, hbel1⟩
  obtain ⟨D, hD⟩ : ∃ D, D = dl b := ⟨_, rfl⟩
  rw [← hD] at ho1 hB1
  have hD39 : D ≤ 39 := by rw [hD]; exact dl_le (by omega)
  have hd3 : (digs 18446744073709551616 (10 ^ D)).length ≤ 3 := digs_length_le (by omega) (Nat.lt_of_le_of_lt (Nat.pow_le_pow_right (by omega) hD39) (by decide))
  have HT := hide (show BigAt w1 gv 1 79 (tvC D false (.slice A1 (digs 18446744073709551616 (10 ^ D)).length c1) false true v1 false) A1 c1 (10 ^ D) from ⟨hB1, rfl, rfl, rfl, ho1.rd⟩)
  have H1 := hide (And.intro hbel1 (And.intro hD (And.intro hgv hd3)))
  -- what the switch asks, at whatever world behind w1
  have Sw : Hid (∀ W, Below w1.heap.size w1 W → Calls Tryz.prog 44 #[.pointer (some ⟨g, o, none⟩)] W fun e w' => e = .returned (.int .i64 1) ∧ W = w') := fun W hW => by
    have h := HX.out.below (below_next hbel1 hW)
    have := bsign_any g o false A (digs 18446744073709551616 v).length c W ((h.blk.cell _).trans h.c0) ((h.blk.cell _).trans h.c1) ((h.blk.cell _).trans h.c2)
    rwa [sgnI_pos (Nat.ne_of_gt (List.length_pos_iff.2 (digs_ne_nil (by omega) hv0)))] at this
  have Cm : Hid (∀ W, Below w1.heap.size w1 W → Calls Tryz.prog 45 #[.pointer (some ⟨g, o, none⟩), .pointer (some ⟨gv, 1, none⟩)] W (CmpP W v (10 ^ D))) := fun W hW => by
    refine bigcmp_any g o gv 1 _ _ _ _ _ _ _ _ _ _ W (HX.out.below (below_next hbel1 hW)) (HT.out.below hW) ?_ (by have := HM.out.2.2.2.1; omega) (by omega)
    intro e
    injection e with e1
    have := HX.out.blk.lt
    omega
  have Cell : Hid (∀ W, Below w1.heap.size w1 W → W.cell? ⟨gv, 0, none⟩ = some (.int .i64 (D : Int))) := fun W hW => (hB1.below hW).cell 0
  clear ho1 hB1 hbel1 hgv hd3 HX hD hD39
  by_cases h128 : b = 128
  · subst h128
    go_wp2_with fail
    go_quiet (fail)
    all_goals go_wp2_with fail
    all_goals refine (Sw.out _ (below_drewN w1 _)).mono ?_
    all_goals rintro e w3 ⟨rfl, rfl⟩
    all_goals go_wp2_with fail
    all_goals refine (Cm.out _ (below_drewN w1 _)).mono ?_
    all_goals rintro e w3 ⟨rfl, hbel3⟩
    all_goals have hb3 : Below w1.heap.size w1 w3 := below_next (below_drewN w1 _) hbel3
    all_goals have k3 := Cell.out w3 hb3
    all_goals have HB3 := hide (below_next H1.out.1 hb3)
    all_goals clear hbel3 hb3 Sw Cm Cell
    all_goals by_cases hlt : v < 10 ^ D
    all_goals first
      | (rw [cmpI_lt hlt]
         have Fin : Hid (FigP w v (.returned (.int .i64 (D : Int))) w3) := ⟨by rw [HM.out.2.2.1, nd_lo HM.out.1 (by rw [← H1.out.2.1]; exact hlt), H1.out.2.1], HB3.out⟩
         clear H1 HB3 HM HT hlt
         go_wp2
         go_ret
         exact Fin.out)
      | (obtain ⟨r0, r1⟩ := cmpI_ge hlt
         have hD39 : (D : Int) ≤ 39 := by have := H1.out.2.1; have := dl_le (i := 128) (by omega); omega
         have Fin : Hid (FigP w v (.returned (.int .i64 ((D : Int) + 1))) w3) := ⟨by rw [HM.out.2.2.1, nd_hi (b := 128) (by omega) HM.out.2.1 (by rw [← H1.out.2.1]; omega), H1.out.2.1]; rfl, HB3.out⟩
         clear H1 HB3 HM HT hlt
         generalize cmpI v (10 ^ D) = r at *
         go_wp2
         go_ret
         exact Fin.out)
  · have Con2 : Hid (∀ W, Below w1.heap.size w1 W → Calls Tryz.prog 43 #[.int .i64 ((b : Int) + 1)] W (TvP W (b + 1))) := fun W hW => by
      have hb2 := below_next H1.out.1 hW
      have := digLook_any (b + 1) W (by omega) (by omega) ((HM.out.2.2.2.2.below hb2).raise hb2.size)
      rwa [show (((b + 1 : Nat)) : Int) = (b : Int) + 1 from by omega] at this
    obtain ⟨D2, hD2⟩ : ∃ D2, D2 = dl (b + 1) := ⟨_, rfl⟩
    have HD2 := hide hD2
    clear hD2
    have hlt : (b : Int) < 128 := by omega
    have hltn : b < 128 := by omega
    have c1 := Cell.out w1 (Below.refl _ _)
    go_wp2_with fail
    have hwb : IntKind.i64.wrap ((b : Int) + 1) = (b : Int) + 1 := by rw [IntKind.wrap_i64]; omega
    go_region_with ((go_at_call 43; go_loud (refine (Con2.out _ ?_).mono ?_; exact below_drewN w1 _; rintro e w2 ⟨g2, A2, c2, v2, rfl, hg2, ho2, hB2, hbel2⟩; have hb2 : Below w1.heap.size w1 w2 := ⟨hbel2.os, hbel2.tape, hbel2.output, hbel2.size, hbel2.block⟩; have k1 : w2.cell? ⟨g2, 0, none⟩ = some (.int .i64 (D2 : Int)) := (by rw [HD2.out]; exact hB2.cell 0); have k2 := Cell.out w2 hb2; have H2 := hide hb2; clear hg2 ho2 hB2 hbel2 hb2)))
    all_goals clear c1 hwb Con2
    all_goals by_cases he : D2 = D
    all_goals first
      | (have e1 : ((D2 : Int) == (D : Int)) = true := by rw [he]; simp
         have Fin : Hid (FigP w v (.returned (.int .i64 (D : Int))) w2) := ⟨by rw [HM.out.2.2.1, nd_same HM.out.1 HM.out.2.1 (by rw [← HD2.out, ← H1.out.2.1]; exact he), H1.out.2.1], below_next H1.out.1 H2.out⟩
         clear H1 H2 HM HT he HD2 k1 Sw Cm Cell
         go_wp2
         go_ret
         exact Fin.out)
      | skip
    all_goals have e1 : ((D2 : Int) == (D : Int)) = false := beq_eq_false_iff_ne.2 (by omega)
    all_goals clear he k1 HD2
    all_goals go_wp2_with fail
    all_goals refine (Sw.out _ H2.out).mono ?_
    all_goals rintro e w3 ⟨rfl, rfl⟩
    all_goals go_wp2_with fail
    all_goals refine (Cm.out _ H2.out).mono ?_
    all_goals rintro e w3 ⟨rfl, hbel3⟩
    all_goals have hb3 : Below w1.heap.size w1 w3 := below_next H2.out hbel3
    all_goals have k3 := Cell.out w3 hb3
    all_goals have HB3 := hide (below_next H1.out.1 hb3)
    all_goals clear hbel3 hb3 Sw Cm Cell
    all_goals by_cases hlt : v < 10 ^ D
    all_goals first
      | (rw [cmpI_lt hlt]
         have Fin : Hid (FigP w v (.returned (.int .i64 (D : Int))) w3) := ⟨by rw [HM.out.2.2.1, nd_lo HM.out.1 (by rw [← H1.out.2.1]; exact hlt), H1.out.2.1], HB3.out⟩
         clear H1 HB3 HM HT hlt
         go_wp2
         go_ret
         exact Fin.out)
      | (obtain ⟨r0, r1⟩ := cmpI_ge hlt
         have hD39 : (D : Int) ≤ 39 := by have := H1.out.2.1; have := dl_le (i := b) (by omega); omega
         have Fin : Hid (FigP w v (.returned (.int .i64 ((D : Int) + 1))) w3) := ⟨by rw [HM.out.2.2.1, nd_hi (b := b) (by omega) HM.out.2.1 (by rw [← H1.out.2.1]; omega), H1.out.2.1]; rfl, HB3.out⟩
         clear H1 HB3 HM HT hlt
         generalize cmpI v (10 ^ D) = r at *
         go_wp2
         go_ret
         exact Fin.out)
end Go.Proofs.YtlaepcfooopbmaaGreatDoor
