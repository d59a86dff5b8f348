/- Parts of the proofs: TotMath. -/
import Derived.Test.YtlepebogjpcfoaaGreatDoorG43
/- Plain: the total order of decimals, by their values and exponents. -/
set_option linter.unusedVariables false
set_option linter.unusedSimpArgs false
namespace Go.Proofs.YtlepebogjpcfoaaGreatDoor
open Go.RowKit

def valI (n : Bool) (a : Nat) : Int := if n then -(a : Int) else a
theorem ordV_val (n1 : Bool) (a : Nat) (n2 : Bool) (b : Nat) : ordV n1 a n2 b = if valI n1 a < valI n2 b then -1 else if valI n2 b < valI n1 a then 1 else 0 := by
  rw [ordV_eq]
  cases n1 <;> cases n2 <;> simp only [sumV, valI, sgnV, Bool.not_true, Bool.not_false, reduceIte, Bool.true_eq_false, Bool.false_eq_true]
  · by_cases h : b ≤ a
    · rw [if_pos h]
      simp only [reduceIte, Bool.false_eq_true]
      repeat' split
      all_goals omega
    · rw [if_neg h]
      simp only [reduceIte]
      repeat' split
      all_goals omega
  · repeat' split
    all_goals omega
  · repeat' split
    all_goals omega
  · by_cases h : b ≤ a
    · rw [if_pos h]
      simp only [reduceIte]
      repeat' split
      all_goals omega
    · rw [if_neg h]
      simp only [reduceIte, Bool.false_eq_true]
      repeat' split
      all_goals omega

theorem valI_scale (n : Bool) (a s : Nat) : valI n (a * 10 ^ s) = valI n a * ((10 ^ s : Nat) : Int) := by
  unfold valI
  cases n <;> simp [Int.neg_mul]
theorem mul_lt_iff {x y : Int} {k : Nat} (hk : 0 < k) : x * (k : Int) < y * (k : Int) ↔ x < y :=
  ⟨fun h => Int.lt_of_mul_lt_mul_right h (by omega), fun h => Int.mul_lt_mul_of_pos_right h (by omega)⟩
theorem ordV_scale (n1 : Bool) (a : Nat) (n2 : Bool) (b s : Nat) : ordV n1 (a * 10 ^ s) n2 (b * 10 ^ s) = ordV n1 a n2 b := by
  rw [ordV_val, ordV_val, valI_scale, valI_scale]
  simp only [mul_lt_iff (Nat.pow_pos (n := s) (show 0 < 10 by omega))]
theorem totV_scale (n1 : Bool) (a : Nat) (e1 : Int) (n2 : Bool) (b : Nat) (e2 : Int) (s : Nat) : totV n1 (a * 10 ^ s) e1 n2 (b * 10 ^ s) e2 = totV n1 a e1 n2 b e2 := by
  unfold totV; rw [ordV_scale]

set_option maxHeartbeats 4000000 in
theorem totV_anti (n1 : Bool) (a : Nat) (e1 : Int) (n2 : Bool) (b : Nat) (e2 : Int) : totV n1 a e1 n2 b e2 = - totV n2 b e2 n1 a e1 := by
  unfold totV totR
  rw [ordV_val n1, ordV_val n2]
  generalize valI n1 a = p
  generalize valI n2 b = q
  cases n1 <;> cases n2 <;> simp only [reduceIte, Bool.true_eq_false, Bool.false_eq_true]
  all_goals repeat' split
  all_goals omega
theorem totR_le (n : Bool) (p q e1 e2 : Int) : (totR n (if p < q then -1 else if q < p then 1 else 0) e1 e2 ≤ 0) ↔ (p < q ∨ (p = q ∧ (if n then e2 ≤ e1 else e1 ≤ e2))) := by
  unfold totR
  by_cases h1 : p < q
  · simp [h1]
  · by_cases h2 : q < p
    · have h3 : p ≠ q := by omega
      simp [h1, h2, h3]
    · have h3 : p = q := by omega
      subst h3
      cases n <;> simp only [Int.lt_irrefl, reduceIte, ne_eq, not_true_eq_false, Bool.false_eq_true, true_and, false_or]
      all_goals repeat' split
      all_goals omega
theorem totV_trans (n1 : Bool) (a : Nat) (e1 : Int) (n2 : Bool) (b : Nat) (e2 : Int) (n3 : Bool) (c : Nat) (e3 : Int) : 0 < totV n1 a e1 n2 b e2 ∨ 0 < totV n2 b e2 n3 c e3 ∨ totV n1 a e1 n3 c e3 ≤ 0 := by
  rcases Int.lt_or_le 0 (totV n1 a e1 n2 b e2) with h | h
  · exact .inl h
  rcases Int.lt_or_le 0 (totV n2 b e2 n3 c e3) with k | k
  · exact .inr (.inl k)
  refine .inr (.inr ?_)
  unfold totV at h k ⊢
  rw [ordV_val] at h k ⊢
  generalize valI n1 a = p at *
  generalize valI n2 b = q at *
  generalize valI n3 c = r at *
  cases n1 <;> cases n2 <;> cases n3 <;> simp only [reduceIte, Bool.true_eq_false, Bool.false_eq_true, totR_le] at h k ⊢
  all_goals omega

/-- Total of two finite decimals, whatever their exponents. -/
def totE (n1 : Bool) (a : Nat) (e1 : Int) (n2 : Bool) (b : Nat) (e2 : Int) : Int := totV n1 (a * 10 ^ (e1 - min e1 e2).toNat) e1 n2 (b * 10 ^ (e2 - min e1 e2).toNat) e2
theorem totE_at (n1 : Bool) (a : Nat) (e1 : Int) (n2 : Bool) (b : Nat) (e2 m : Int) (h1 : m ≤ e1) (h2 : m ≤ e2) : totE n1 a e1 n2 b e2 = totV n1 (a * 10 ^ (e1 - m).toNat) e1 n2 (b * 10 ^ (e2 - m).toNat) e2 := by
  obtain ⟨s, hs⟩ : ∃ s : Nat, (s : Int) = min e1 e2 - m := ⟨(min e1 e2 - m).toNat, by omega⟩
  have e1' : (e1 - m).toNat = (e1 - min e1 e2).toNat + s := by omega
  have e2' : (e2 - m).toNat = (e2 - min e1 e2).toNat + s := by omega
  rw [e1', e2', Nat.pow_add, Nat.pow_add, ← Nat.mul_assoc, ← Nat.mul_assoc, totV_scale]
  rfl
theorem totE_anti (n1 : Bool) (a : Nat) (e1 : Int) (n2 : Bool) (b : Nat) (e2 : Int) : totE n1 a e1 n2 b e2 = - totE n2 b e2 n1 a e1 := by
  rw [totE_at n1 a e1 n2 b e2 (min e1 e2) (by omega) (by omega), totE_at n2 b e2 n1 a e1 (min e1 e2) (by omega) (by omega)]
  exact totV_anti _ _ _ _ _ _
theorem totE_trans (n1 : Bool) (a : Nat) (e1 : Int) (n2 : Bool) (b : Nat) (e2 : Int) (n3 : Bool) (c : Nat) (e3 : Int) : 0 < totE n1 a e1 n2 b e2 ∨ 0 < totE n2 b e2 n3 c e3 ∨ totE n1 a e1 n3 c e3 ≤ 0 := by
  rw [totE_at n1 a e1 n2 b e2 (min e1 (min e2 e3)) (by omega) (by omega), totE_at n2 b e2 n3 c e3 (min e1 (min e2 e3)) (by omega) (by omega), totE_at n1 a e1 n3 c e3 (min e1 (min e2 e3)) (by omega) (by omega)]
  exact totV_trans _ _ _ _ _ _ _ _ _

/-- A form's place for the law. -/
def rankI (n : Bool) (f : Int) : Int := if n then -f else f
def sg3 (x : Int) : Int := if x < 0 then -1 else if 0 < x then 1 else 0
theorem rank_total (n1 n2 : Bool) (f1 f2 : Int) (h0 : 0 ≤ f1) (k0 : 0 ≤ f2) (hz : ¬ (f1 = 0 ∧ f2 = 0)) : totF (ordI n1 f1) (ordI n2 f2) = sg3 (rankI n1 f1 - rankI n2 f2) := by
  unfold totF ordI sg3 rankI
  cases n1 <;> cases n2 <;> simp only [reduceIte, Bool.false_eq_true]
  all_goals repeat' split
  all_goals omega

/-- What the law asks of Total, of finite decimals. -/
theorem total_law (n1 : Bool) (a : Nat) (e1 : Int) (n2 : Bool) (b : Nat) (e2 : Int) :
    (ordV n1 a n2 b ≠ 0 → totV n1 a e1 n2 b e2 = ordV n1 a n2 b) ∧
    (ordV n1 a n2 b = 0 → n1 ≠ n2 → totV n1 a e1 n2 b e2 = if n1 then -1 else 1) ∧
    (ordV n1 a n2 b = 0 → n1 = n2 → (n1 = true ∧ e1 ≠ e2) ∨ totV n1 a e1 n2 b e2 = sg3 (e1 - e2)) := by
  refine ⟨fun h => ?_, fun h hn => ?_, fun h hn => ?_⟩
  · unfold totV totR
    by_cases hn : n1 = n2
    · rw [if_pos hn, if_pos h]
    · rw [if_neg hn]
      rw [ordV_val] at h ⊢
      unfold valI at h ⊢
      cases n1 <;> cases n2 <;> simp only [reduceIte, Bool.false_eq_true] at h hn ⊢
      all_goals first | exact absurd trivial hn | skip
      all_goals (revert h; repeat' split; all_goals omega)
  · unfold totV; rw [if_neg hn]
  · subst hn
    by_cases he : n1 = true ∧ e1 ≠ e2
    · exact .inl he
    · refine .inr ?_
      unfold totV totR sg3
      rw [if_pos rfl, h]
      cases n1 <;> simp at he ⊢
      · repeat' split
        all_goals omega
      · subst he; simp
end Go.Proofs.YtlepebogjpcfoaaGreatDoor
