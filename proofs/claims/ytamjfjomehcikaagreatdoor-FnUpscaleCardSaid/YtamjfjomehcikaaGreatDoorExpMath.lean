/- Plain arithmetic under the binary power, from the highest bit down. -/
import Derived.Test.YtamjfjomehcikaaGreatDoorMulMath
set_option linter.unusedVariables false
set_option linter.unusedSimpArgs false
namespace Go.Proofs.YtamjfjomehcikaaGreatDoor

theorem exp_round {n e r t v : Nat} (hr : r < 64) (hn : n = e * 2 ^ (r + 1) + t) (ht : t < 2 ^ (r + 1)) (hv : v = t * 2 ^ (63 - r)) :
    v < 18446744073709551616 ∧ ((9223372036854775808 ≤ v ∧ ∃ t', n = (2 * e + 1) * 2 ^ r + t' ∧ t' < 2 ^ r ∧ v * 2 % 18446744073709551616 = t' * 2 ^ (64 - r)) ∨
      (v < 9223372036854775808 ∧ ∃ t', n = 2 * e * 2 ^ r + t' ∧ t' < 2 ^ r ∧ v * 2 % 18446744073709551616 = t' * 2 ^ (64 - r))) := by
  have h1 : 2 ^ r * 2 ^ (63 - r) = 9223372036854775808 := by rw [← Nat.pow_add, show r + (63 - r) = 63 by omega]
  have h2 : 2 ^ (64 - r) = 2 * 2 ^ (63 - r) := by rw [show 64 - r = (63 - r) + 1 by omega, Nat.pow_succ, Nat.mul_comm]
  rw [Nat.pow_succ] at hn ht
  rw [h2]
  generalize hp : 2 ^ r = p at *
  generalize hq : 2 ^ (63 - r) = q at *
  have hq0 : 0 < q := by rw [← hq]; exact Nat.pow_pos (by omega)
  have hlt : v < 18446744073709551616 := by
    have : (t + 1) * q ≤ p * 2 * q := Nat.mul_le_mul_right q ht
    have e1 : p * 2 * q = 2 * (p * q) := by grind
    have e2 : (t + 1) * q = t * q + q := by grind
    omega
  refine ⟨hlt, ?_⟩
  by_cases hc : p ≤ t
  · left
    obtain ⟨u, rfl⟩ : ∃ u, t = p + u := ⟨t - p, by omega⟩
    have e1 : (p + u) * q = p * q + u * q := by grind
    have e2 : u * (2 * q) = 2 * (u * q) := by grind
    have e3 : e * (p * 2) = 2 * e * p := by grind
    have e4 : (2 * e + 1) * p = 2 * e * p + p := by grind
    refine ⟨by omega, u, by omega, by omega, ?_⟩
    rw [e2, hv, e1, h1]
    generalize u * q = uq at *
    omega
  · right
    have e2 : t * (2 * q) = 2 * (t * q) := by grind
    have e3 : e * (p * 2) = 2 * e * p := by grind
    have h3 : (t + 1) * q ≤ p * q := Nat.mul_le_mul_right q (by omega)
    have e4 : (t + 1) * q = t * q + q := by grind
    refine ⟨by omega, t, by omega, by omega, ?_⟩
    rw [e2, hv]
    generalize t * q = tq at *
    omega

theorem exp_start {n s : Nat} (hs : s ≤ 63) (h0 : 9223372036854775808 ≤ n * 2 ^ s) (h1 : n * 2 ^ s < 18446744073709551616) :
    ∃ t, n = 1 * 2 ^ (63 - s) + t ∧ t < 2 ^ (63 - s) ∧ n * 2 ^ (s + 1) % 18446744073709551616 = t * 2 ^ (64 - (63 - s)) := by
  have e1 : 2 ^ (63 - s) * 2 ^ s = 9223372036854775808 := by rw [← Nat.pow_add, show 63 - s + s = 63 by omega]
  have e2 : 2 ^ (64 - (63 - s)) = 2 * 2 ^ s := by rw [show 64 - (63 - s) = s + 1 by omega, Nat.pow_succ, Nat.mul_comm]
  rw [e2, Nat.pow_succ]
  have hp0 : 0 < 2 ^ s := Nat.pow_pos (by omega)
  generalize 2 ^ (63 - s) = p at *
  generalize 2 ^ s = q at *
  have hge : p ≤ n := by
    rcases Nat.lt_or_ge n p with h | h
    · have : (n + 1) * q ≤ p * q := Nat.mul_le_mul_right q h
      have e3 : (n + 1) * q = n * q + q := by grind
      omega
    · exact h
  obtain ⟨t, rfl⟩ : ∃ t, n = p + t := ⟨n - p, by omega⟩
  have e3 : (p + t) * q = p * q + t * q := by grind
  have ht : t < p := by
    rcases Nat.lt_or_ge t p with h | h
    · exact h
    · have : p * q ≤ t * q := Nat.mul_le_mul_right q h
      omega
  refine ⟨t, by omega, ht, ?_⟩
  have e4 : (p + t) * (q * 2) = 2 * (p * q) + 2 * (t * q) := by grind
  have e5 : t * (2 * q) = 2 * (t * q) := by grind
  have : (t + 1) * q ≤ p * q := Nat.mul_le_mul_right q ht
  have e6 : (t + 1) * q = t * q + q := by grind
  rw [e4, e5]
  generalize t * q = tq at *
  omega
theorem pow10_lt {k n m : Nat} (h : k ≤ n) (hn : 10 ^ n < m) : 10 ^ k < m := Nat.lt_of_le_of_lt (Nat.pow_le_pow_right (by omega) h) hn

theorem pow_half_lt {k q p : Nat} (hk : k ≤ q + q) (h : 10 ^ q < p) : 10 ^ k < p * p :=
  Nat.lt_of_le_of_lt (Nat.pow_le_pow_right (by omega) hk) (by rw [Nat.pow_add]; exact Nat.mul_lt_mul'' h h)

end Go.Proofs.YtamjfjomehcikaaGreatDoor
