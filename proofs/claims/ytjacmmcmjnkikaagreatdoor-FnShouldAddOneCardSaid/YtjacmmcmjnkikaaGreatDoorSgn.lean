/- Walks: the Sign functions of Int and BigInt. -/
import Derived.Test.YtjacmmcmjnkikaaGreatDoorInt2
set_option linter.unusedVariables false
set_option linter.unusedSimpArgs false
namespace Go.Proofs.YtjacmmcmjnkikaaGreatDoor
open Go.RowKit

/-- The sign of a number of n words. -/
def sgnI (neg : Bool) (n : Nat) : Int := if n = 0 then 0 else if neg then -1 else 1
theorem sgnI_zero (neg : Bool) : sgnI neg 0 = 0 := rfl
theorem sgnI_pos {n : Nat} (h : n ≠ 0) : sgnI false n = 1 := by simp [sgnI, h]
theorem sgnI_neg {n : Nat} (h : n ≠ 0) : sgnI true n = -1 := by simp [sgnI, h]
theorem sgnI_beq (neg : Bool) (n : Nat) : (sgnI neg n == 0) = decide (n = 0) := by
  unfold sgnI
  by_cases h : n = 0
  · simp [h]
  · cases neg <;> simp [h]

theorem isign_any (g o : Nat) (neg : Bool) (A : Option Addr) (n c : Nat) (w : World) (h0 : w.cell? ⟨g, o, none⟩ = some (.bool neg)) (h1 : w.cell? ⟨g, o + 1, none⟩ = some (.slice A n c)) :
    Calls Tryz.prog 35 #[.pointer (some ⟨g, o, none⟩)] w fun e w' => e = .returned (.int .i64 (sgnI neg n)) ∧ w = w' := by
  by_cases hn : n = 0
  · subst hn
    have fin := sgnI_zero neg
    go_enter Tryz.func35, Tryz.ntmps35
    go_wp2
    go_ret
    exact ⟨by rw [fin]; rfl, rfl⟩
  · have hb : ((n : Int) == 0) = false := beq_eq_false_iff_ne.2 (by omega)
    cases neg
    · have fin := hide (sgnI_pos hn)
      clear hn
      go_enter Tryz.func35, Tryz.ntmps35
      go_wp2
      go_ret
      exact ⟨by rw [fin.out]; rfl, rfl⟩
    · have fin := hide (sgnI_neg hn)
      clear hn
      go_enter Tryz.func35, Tryz.ntmps35
      go_wp2
      go_ret
      exact ⟨by rw [fin.out]; rfl, rfl⟩

theorem bsign_any (g o : Nat) (neg : Bool) (A : Option Addr) (n c : Nat) (w : World) (h0 : w.cell? ⟨g, o, none⟩ = some (.bool neg)) (h1 : w.cell? ⟨g, o + 1, none⟩ = some (.slice A n c)) (h2 : w.cell? ⟨g, o + 2, none⟩ = some (.bool false)) :
    Calls Tryz.prog 28 #[.pointer (some ⟨g, o, none⟩)] w fun e w' => e = .returned (.int .i64 (sgnI neg n)) ∧ w = w' := by
  have Con := hide (isign_any g o neg A n c w h0 h1)
  clear h0 h1
  go_enter Tryz.func28, Tryz.ntmps28
  go_wp2_with fail
  refine (Con.out).mono ?_
  rintro e w1 ⟨rfl, rfl⟩
  go_wp2
  go_ret
  exact ⟨rfl, rfl⟩

end Go.Proofs.YtjacmmcmjnkikaaGreatDoor
