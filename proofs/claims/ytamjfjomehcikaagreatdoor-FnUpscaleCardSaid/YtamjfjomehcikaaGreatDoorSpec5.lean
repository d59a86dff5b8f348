/- Walks: spec's HasWords, Cmp. -/
import Derived.Test.YtamjfjomehcikaaGreatDoorSpec4
set_option linter.unusedVariables false
set_option linter.unusedSimpArgs false
namespace Go.Proofs.YtamjfjomehcikaaGreatDoor
open Go.RowKit

/-- Are two lists of numbers one? (Under a name: the walk leaves it.) -/
def eqB (xs ys : List Nat) : Bool := decide (xs = ys)
theorem eqB_true {xs ys : List Nat} (h : xs = ys) : eqB xs ys = true := decide_eq_true h
theorem eqB_false {xs ys : List Nat} (h : xs ≠ ys) : eqB xs ys = false := decide_eq_false h
theorem eqB_self (xs : List Nat) : eqB xs xs = true := eqB_true rfl
theorem list_ext_getD {xs ys : List Nat} (hl : xs.length = ys.length) (h : ∀ i, i < xs.length → xs.getD i 0 = ys.getD i 0) : xs = ys := by
  apply List.ext_getElem hl
  intro i h1 h2
  have := h i h1
  rwa [getD_at h1, getD_at h2] at this

def BoolP (w : World) (b : Bool) (e : Ending) (w' : World) : Prop := e = .returned (.bool b) ∧ Below w.heap.size w w'

set_option maxHeartbeats 2000000 in
theorem hasWords_any (A B : Option Addr) (c c2 : Nat) (xs ys : List Nat) (w : World) (hx : RdG .u64 w (.slice A xs.length c) xs) (hy : RdG .i64 w (.slice B ys.length c2) ys) (hnx : xs.length ≤ 1048576) (hny : ys.length ≤ 4194304) (hd : Dig 65536 ys) :
    Calls Tryz.prog 7 #[.slice A xs.length c, .slice B ys.length c2] w (BoolP w (eqB xs (pk ys))) := by
  have hpl : (pk ys).length ≤ 1048576 := by rw [pk_length]; omega
  have con := swords_any B c2 ys w hy hny hd
  have hxr := hx.at_
  have Con := hide con
  have HX := hide hxr
  clear con hxr hx hy hd
  go_enter Tryz.func7, Tryz.ntmps7
  go_wp2_with fail
  refine (Con.out).mono ?_
  rintro e w1 ⟨B1, c1, rfl, hown, hbel⟩
  have hyr := hown.rd.at_
  have hxr : ∀ i, i < xs.length → ∃ g o, A = some ⟨g, o, none⟩ ∧ g < w1.heap.size ∧ w1.cell? ⟨g, o + i, none⟩ = some (.int .u64 (xs.getD i 0 : Nat)) := by
    intro i hi
    obtain ⟨g, o, e1, e2, e3⟩ := HX.out i hi
    exact ⟨g, o, e1, by have := hbel.size; omega, (hbel.cell e2).trans e3⟩
  have HXR := hide hxr
  have HYR := hide hyr
  have HB := hide hbel
  clear hyr hxr hown hbel Con HX
  obtain ⟨zs, hzs⟩ : ∃ zs, zs = pk ys := ⟨_, rfl⟩
  rw [← hzs] at hpl HYR ⊢
  have HZ := hide hzs
  clear hzs
  by_cases hlen : xs.length = zs.length
  · rw [hlen] at HXR hnx ⊢
    have HL := hide hlen
    clear hlen
    go_wp2
    go_loopw [16] (fun i wr => ∃ k : Nat, k ≤ zs.length ∧ i = .int .i64 k ∧ Hid (∀ j, j < k → xs.getD j 0 = zs.getD j 0) ∧ Hid (Below w1.heap.size w1 wr)) (fun i _ => zs.length - (intOf i).toNat)
    case atStart => exact ⟨0, Nat.zero_le _, rfl, fun j hj => by omega, Below.refl _ _⟩
    case round =>
      obtain ⟨k, hk, rfl, hall, hbel⟩ := hrel
      by_cases hlt : k < zs.length
      · obtain ⟨g, o, rfl, hg, hc⟩ := HXR.out k hlt
        obtain ⟨g2, o2, rfl, hg2, hc2⟩ := HYR.out k hlt
        have hcell : wr.cell? ⟨g, o + k, none⟩ = some (.int .u64 (xs.getD k 0 : Nat)) := (hbel.out.cell hg).trans hc
        have hcell2 : wr.cell? ⟨g2, o2 + k, none⟩ = some (.int .u64 (zs.getD k 0 : Nat)) := (hbel.out.cell hg2).trans hc2
        have hb0 : (0 : Int) ≤ (k : Int) := by omega
        have hb1 : (k : Int) < (zs.length : Int) := by omega
        by_cases heq : xs.getD k 0 = zs.getD k 0
        · have hall2 : Hid (∀ j, j < k + 1 → xs.getD j 0 = zs.getD j 0) := fun j hj => by
            rcases Nat.lt_or_ge j k with h | h
            · exact hall.out j h
            · obtain rfl : j = k := by omega
              exact heq
          have hbe : Hid (Below w1.heap.size w1 wr.drew) := hbel.out.drew
          rw [heq] at hcell
          clear heq hc hc2 HXR HYR hall hbel
          generalize zs.getD k 0 = d at hcell hcell2
          have hne : ((d : Int) != (d : Int)) = false := by simp
          go_wp2
          go_region
          all_goals go_wp2
          all_goals go_roundw
          case rel => exact ⟨k + 1, by omega, by go_num, hall2, hbe⟩
          case measure => simp [intOf]; omega
        · have hfin : BoolP w (eqB xs (pk ys)) (.returned (.bool false)) wr.drew := by
            rw [← HZ.out]
            refine ⟨by rw [eqB_false (fun h => heq (by rw [h]))], (below_next HB.out hbel.out).drew⟩
          have Fin := hide hfin
          clear hfin hc hc2 HXR HYR hall hbel
          generalize zs.getD k 0 = d at hcell2 heq
          generalize xs.getD k 0 = d' at hcell heq
          have hne : ((d' : Int) != (d : Int)) = true := by rw [bne_iff_ne]; omega
          clear heq
          go_wp2
          go_region
          all_goals go_wp2
          all_goals go_ret
          all_goals exact Fin.out
      · obtain rfl : k = zs.length := by omega
        have hfin : BoolP w (eqB xs (pk ys)) (.returned (.bool true)) wr := by
          rw [← HZ.out]
          exact ⟨by rw [eqB_true (list_ext_getD HL.out (fun i hi => hall.out i (by rw [← HL.out]; exact hi)))], below_next HB.out hbel.out⟩
        have Fin := hide hfin
        clear hfin hall hbel HXR HYR
        go_wp2
        go_ret
        exact Fin.out
  · have hfin : BoolP w (eqB xs (pk ys)) (.returned (.bool false)) w1 := by
      rw [← HZ.out]
      exact ⟨by rw [eqB_false (fun h => hlen (by rw [h]))], HB.out⟩
    have Fin := hide hfin
    have hne : ((xs.length : Int) != (zs.length : Int)) = true := by simp; omega
    clear hfin hlen
    go_wp2
    go_ret
    exact Fin.out
end Go.Proofs.YtamjfjomehcikaaGreatDoor
