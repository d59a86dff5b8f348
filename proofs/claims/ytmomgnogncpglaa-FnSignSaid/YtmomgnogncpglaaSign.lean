/- Walks: the Sign functions of Int, BigInt, Decimal, and of the reference; IsZero. -/
import Derived.Test.YtmomgnogncpglaaDec2
import Derived.Test.YtmomgnogncpglaaSpec7
set_option linter.unusedVariables false
set_option linter.unusedSimpArgs false
namespace Go.Proofs.Ytmomgnogncpglaa
open Go.RowKit

/-- The sign of a number of n words. -/
def sgnI (neg : Bool) (n : Nat) : Int := if n = 0 then 0 else if neg then -1 else 1
theorem sgnI_zero (neg : Bool) : sgnI neg 0 = 0 := rfl
theorem sgnI_pos {n : Nat} (h : n ≠ 0) : sgnI false n = 1 := by simp [sgnI, h]
theorem sgnI_neg {n : Nat} (h : n ≠ 0) : sgnI true n = -1 := by simp [sgnI, h]
theorem sgnI_beq (neg : Bool) (n : Nat) : (sgnI neg n == 0) = decide (n = 0) := by
  unfold sgnI
  by_cases h : n = 0
  · simp [h]
  · cases neg <;> simp [h]

theorem isign_any (g o : Nat) (neg : Bool) (A : Option Addr) (n c : Nat) (w : World) (h0 : w.cell? ⟨g, o, none⟩ = some (.bool neg)) (h1 : w.cell? ⟨g, o + 1, none⟩ = some (.slice A n c)) :
    Calls Try.prog 46 #[.pointer (some ⟨g, o, none⟩)] w fun e w' => e = .returned (.int .i64 (sgnI neg n)) ∧ w = w' := by
  by_cases hn : n = 0
  · subst hn
    have fin := sgnI_zero neg
    go_enter Try.func46, Try.ntmps46
    go_wp2
    go_ret
    exact ⟨by rw [fin]; rfl, rfl⟩
  · have hb : ((n : Int) == 0) = false := beq_eq_false_iff_ne.2 (by omega)
    cases neg
    · have fin := hide (sgnI_pos hn)
      clear hn
      go_enter Try.func46, Try.ntmps46
      go_wp2
      go_ret
      exact ⟨by rw [fin.out]; rfl, rfl⟩
    · have fin := hide (sgnI_neg hn)
      clear hn
      go_enter Try.func46, Try.ntmps46
      go_wp2
      go_ret
      exact ⟨by rw [fin.out]; rfl, rfl⟩

theorem bsign_any (g o : Nat) (neg : Bool) (A : Option Addr) (n c : Nat) (w : World) (h0 : w.cell? ⟨g, o, none⟩ = some (.bool neg)) (h1 : w.cell? ⟨g, o + 1, none⟩ = some (.slice A n c)) (h2 : w.cell? ⟨g, o + 2, none⟩ = some (.bool false)) :
    Calls Try.prog 36 #[.pointer (some ⟨g, o, none⟩)] w fun e w' => e = .returned (.int .i64 (sgnI neg n)) ∧ w = w' := by
  have Con := hide (isign_any g o neg A n c w h0 h1)
  clear h0 h1
  go_enter Try.func36, Try.ntmps36
  go_wp2_with fail
  refine (Con.out).mono ?_
  rintro e w1 ⟨rfl, rfl⟩
  go_wp2
  go_ret
  exact ⟨rfl, rfl⟩

theorem dsign_any (g : Nat) (neg : Bool) (exp : Int) (A : Option Addr) (n c : Nat) (w : World) (h : Blk w g 60 (decC 0 neg exp false (.slice A n c) false)) :
    Calls Try.prog 25 #[.pointer (some ⟨g, 0, none⟩)] w fun e w' => e = .returned (.int .i64 (sgnI neg n)) ∧ w = w' := by
  have Con := hide (bsign_any g 3 false A n c w (h.cell 3) (h.cell 4) (h.cell 5))
  have c0 : w.cell? ⟨g, 0, none⟩ = some (.int .i8 0) := h.cell 0
  have c1 : w.cell? ⟨g, 1, none⟩ = some (.bool neg) := h.cell 1
  have hq := sgnI_beq false n
  clear h
  by_cases hn : n = 0
  · subst hn
    have fin := hide (sgnI_zero neg)
    go_enter Try.func25, Try.ntmps25
    go_wp2_with fail
    refine (Con.out).mono ?_
    rintro e w1 ⟨rfl, rfl⟩
    go_wp2
    go_ret
    exact ⟨by rw [fin.out]; rfl, rfl⟩
  · have hb : (sgnI false n == 0) = false := by rw [hq]; simp [hn]
    have fin : sgnI neg n = if neg then -1 else 1 := by simp [sgnI, hn]
    have Fin := hide fin
    clear hn hq fin
    go_enter Try.func25, Try.ntmps25
    go_wp2_with fail
    refine (Con.out).mono ?_
    rintro e w1 ⟨rfl, rfl⟩
    cases neg
    · go_wp2
      go_ret
      exact ⟨by rw [Fin.out]; rfl, rfl⟩
    · go_wp2
      go_ret
      exact ⟨by rw [Fin.out]; rfl, rfl⟩

theorem dzero_any (g : Nat) (neg : Bool) (exp : Int) (A : Option Addr) (n c : Nat) (w : World) (h : Blk w g 60 (decC 0 neg exp false (.slice A n c) false)) :
    Calls Try.prog 26 #[.pointer (some ⟨g, 0, none⟩)] w fun e w' => e = .returned (.bool (decide (n = 0))) ∧ w = w' := by
  have Con := hide (dsign_any g neg exp A n c w h)
  have hq := hide (sgnI_beq neg n)
  clear h
  go_enter Try.func26, Try.ntmps26
  go_wp2_with fail
  refine (Con.out).mono ?_
  rintro e w1 ⟨rfl, rfl⟩
  go_wp2
  go_ret
  exact ⟨by rw [← hq.out]; rfl, rfl⟩

theorem ssign_any (neg : Bool) (A : Option Addr) (n c : Nat) (exp : Int) (w : World) :
    Calls Try.prog 14 #[.agg #[.bool neg, .slice A n c, .int .i64 exp]] w fun e w' => e = .returned (.int .i64 (sgnI neg n)) ∧ Below w.heap.size w w' := by
  have hb0 := hide (below_al (Below.refl w.heap.size w) (.cells #[.bool neg, .slice A n c, .int .i64 exp] 29))
  by_cases hn : n = 0
  · subst hn
    have fin := sgnI_zero neg
    go_enter Try.func14, Try.ntmps14
    go_wp2
    go_ret
    exact ⟨by rw [fin]; rfl, hb0.out⟩
  · have hb : ((n : Int) == 0) = false := beq_eq_false_iff_ne.2 (by omega)
    cases neg
    · have fin := hide (sgnI_pos hn)
      clear hn
      go_enter Try.func14, Try.ntmps14
      go_wp2
      go_ret
      exact ⟨by rw [fin.out]; rfl, hb0.out⟩
    · have fin := hide (sgnI_neg hn)
      clear hn
      go_enter Try.func14, Try.ntmps14
      go_wp2
      go_ret
      exact ⟨by rw [fin.out]; rfl, hb0.out⟩
end Go.Proofs.Ytmomgnogncpglaa
