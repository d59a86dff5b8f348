/- Plain arithmetic under the division of words: a quotient by a reciprocal, and the school method on halves. No program in sight. -/
import Derived.Test.YtamjfjomehcikaaGreatDoorMath
set_option linter.unusedVariables false
set_option linter.unusedSimpArgs false
namespace Go.Proofs.YtamjfjomehcikaaGreatDoor

/-- The guess is not too great. -/
theorem dww_le {B d M x1 x0 t : Nat} (hB : 0 < B) (hd : d ≤ B) (hM : d * M ≤ B * B) (ht : t * B ≤ M * x1 + x0) : d * t ≤ x1 * B + x0 := by
  apply Nat.le_of_mul_le_mul_right _ hB
  have h1 : d * (t * B) ≤ d * (M * x1 + x0) := Nat.mul_le_mul_left d ht
  have h3 : d * M * x1 ≤ B * B * x1 := Nat.mul_le_mul_right x1 hM
  have h4 : d * x0 ≤ B * x0 := Nat.mul_le_mul_right x0 hd
  have e1 : d * (M * x1 + x0) = d * M * x1 + d * x0 := by rw [Nat.mul_add, Nat.mul_assoc]
  have e2 : (x1 * B + x0) * B = B * B * x1 + B * x0 := by grind
  have e3 : d * t * B = d * (t * B) := Nat.mul_assoc _ _ _
  omega

/-- .. nor too small by much. -/
theorem dww_lt {B d M x1 x0 t : Nat} (hB : 0 < B) (hd : d ≤ B) (hM : B * B ≤ d * M + d) (h0 : x0 < B) (h1 : x1 < d) (ht : M * x1 + x0 < (t + 1) * B) : x1 * B + x0 < d * t + d + B := by
  apply Nat.lt_of_mul_lt_mul_right (a := B)
  have a1 : d * (M * x1 + x0 + 1) ≤ d * ((t + 1) * B) := Nat.mul_le_mul_left d ht
  have a2 : B * B * x1 ≤ (d * M + d) * x1 := Nat.mul_le_mul_right x1 hM
  have a3 : (B - d) * x0 ≤ (B - d) * (B - 1) := Nat.mul_le_mul_left _ (by omega)
  have a4 : d * x1 ≤ d * (d - 1) := Nat.mul_le_mul_left _ (by omega)
  obtain ⟨c, rfl⟩ : ∃ c, B = d + c := ⟨B - d, by omega⟩
  obtain ⟨e, rfl⟩ : ∃ e, d = e + 1 := ⟨d - 1, by omega⟩
  simp only [Nat.add_sub_cancel_left, Nat.add_sub_cancel] at a3 a4
  have e4 : e + 1 + c - 1 = e + c := by omega
  rw [e4] at a3
  grind

/-- The two corrections. -/
theorem dww_fix {X d q r : Nat} (hd : 0 < d) (h : X = d * q + r) (hr : r < d) : q = X / d ∧ r = X % d := by
  subst h
  rw [Nat.mul_add_div hd, Nat.div_eq_of_lt hr, Nat.mul_add_mod, Nat.mod_eq_of_lt hr]
  omega

/-! The school method on halves: K is half a word's base, d = y1 * K + y0, u < d, n1 < K. -/
section
variable {K d y1 y0 u n1 q r : Nat}
theorem half_lt (hu : u < d) (h1 : n1 < K) : (u * K + n1) / d < K := by
  rw [Nat.div_lt_iff_lt_mul (by omega)]
  have : (u + 1) * K ≤ d * K := Nat.mul_le_mul_right K hu
  grind
theorem half_init (hd : d = y1 * K + y0) (hy : 0 < y1) (hu : u < d) (h1 : n1 < K) : (u * K + n1) / d ≤ u / y1 := by
  rw [Nat.le_div_iff_mul_le hy]
  have h2 : (u * K + n1) / d * d ≤ u * K + n1 := Nat.div_mul_le_self _ _
  generalize (u * K + n1) / d = Q at *
  subst hd
  have h3 : Q * y1 * K ≤ u * K + n1 := by
    have : Q * (y1 * K + y0) = Q * y1 * K + Q * y0 := by grind
    omega
  have h4 : Q * y1 * K < (u + 1) * K := by grind
  have h5 : Q * y1 < u + 1 := Nat.lt_of_mul_lt_mul_right h4
  omega
theorem half_init2 (hd : d = y1 * K + y0) (hK : K ≤ 2 * y1) (h0 : y0 < K) (hu : u < d) (hy : 0 < y1) : u / y1 ≤ K + 1 := by
  have : u < (K + 2) * y1 := by
    have e : (K + 2) * y1 = y1 * K + 2 * y1 := by grind
    omega
  have := (Nat.div_lt_iff_lt_mul hy).2 this
  omega
theorem half_dec (hd : d = y1 * K + y0) (hr : q * y1 + r = u) (hu : u < d) (h1 : n1 < K) (hQ : (u * K + n1) / d ≤ q) (hc : K ≤ q ∨ K * r + n1 < q * y0) : 1 ≤ q ∧ (u * K + n1) / d ≤ q - 1 := by
  have hl := half_lt hu h1
  rcases hc with hc | hc
  · omega
  · have h2 : u * K + n1 < q * d := by
      subst hd hr
      have e1 : q * (y1 * K + y0) = q * y1 * K + q * y0 := by grind
      have e2 : (q * y1 + r) * K + n1 = q * y1 * K + (K * r + n1) := by grind
      omega
    have h3 := (Nat.div_lt_iff_lt_mul (by omega : 0 < d)).2 h2
    generalize (u * K + n1) / d = Q at *
    omega
theorem half_exit (hd : d = y1 * K + y0) (hd0 : 0 < d) (hr : q * y1 + r = u) (hQ : (u * K + n1) / d ≤ q) (hc : q * y0 ≤ K * r + n1) : q = (u * K + n1) / d := by
  apply Nat.le_antisymm _ hQ
  rw [Nat.le_div_iff_mul_le hd0]
  subst hd hr
  have e1 : q * (y1 * K + y0) = q * y1 * K + q * y0 := by grind
  have e2 : (q * y1 + r) * K + n1 = q * y1 * K + (K * r + n1) := by grind
  omega
theorem half_break (hd : d = y1 * K + y0) (hd0 : 0 < d) (h0 : y0 < K) (hr : q * y1 + r = u) (hQ : (u * K + n1) / d ≤ q) (hq : q ≤ K) (hc : K ≤ r) : q = (u * K + n1) / d := by
  apply half_exit hd hd0 hr hQ
  have a1 : q * y0 ≤ K * y0 := Nat.mul_le_mul_right y0 hq
  have a2 : K * y0 ≤ K * r := Nat.mul_le_mul_left K (by omega)
  omega
end

theorem knuth_join {K N y p d u n1 n0 q1 u2 q2 rr : Nat} (hp : 0 < p) (hy : 0 < y) (hd : d = y * p) (hT : (u * K + n1) * K + n0 = N * p)
    (hq1 : q1 = (u * K + n1) / d) (hu2 : u2 = (u * K + n1) % d) (hq2 : q2 = (u2 * K + n0) / d) (hrr : rr = (u2 * K + n0) % d) : q1 * K + q2 = N / y ∧ rr / p = N % y := by
  have hd0 : 0 < d := by rw [hd]; exact Nat.mul_pos hy hp
  have e1 : u * K + n1 = d * q1 + u2 := by rw [hq1, hu2]; exact (Nat.div_add_mod _ _).symm
  have e2 : u2 * K + n0 = d * q2 + rr := by rw [hq2, hrr]; exact (Nat.div_add_mod _ _).symm
  have e3 : N * p = d * (q1 * K + q2) + rr := by
    rw [← hT, e1]
    have : (d * q1 + u2) * K + n0 = d * q1 * K + (u2 * K + n0) := by grind
    rw [this, e2]
    grind
  have hlt : rr < d := by rw [hrr]; exact Nat.mod_lt _ hd0
  obtain ⟨f1, f2⟩ := dww_fix hd0 e3 hlt
  rw [hd, Nat.mul_div_mul_right _ _ hp] at f1
  rw [hd, Nat.mul_mod_mul_right] at f2
  exact ⟨f1, by rw [f2, Nat.mul_div_cancel _ hp]⟩

theorem divww_math {u l d m th tl s1 c t dq1 dq0 r0 b r1 : Nat} (hd : 9223372036854775808 ≤ d) (hd1 : d < 18446744073709551616) (hu : u < d) (hl : l < 18446744073709551616)
    (hm : m = 340282366920938463463374607431768211455 / d - 18446744073709551616) (h1 : th = m * u / 18446744073709551616 ∧ tl = m * u % 18446744073709551616)
    (h2 : s1 = (tl + l + 0) % 18446744073709551616 ∧ c = (tl + l + 0) / 18446744073709551616) (h3 : t = (th + u + c) % 18446744073709551616)
    (h4 : dq1 = d * t / 18446744073709551616 ∧ dq0 = d * t % 18446744073709551616) (h5 : r0 = (l + 18446744073709551616 - dq0 - 0) % 18446744073709551616) (hb : b = if l < dq0 + 0 then 1 else 0)
    (h6 : r1 = (u + 18446744073709551616 - dq1 - b) % 18446744073709551616) :
    t < 18446744073709551616 ∧ ∃ r, u * 18446744073709551616 + l = d * t + r ∧ r < d + 18446744073709551616 ∧ r0 = r % 18446744073709551616 ∧ r1 = r / 18446744073709551616 := by
  obtain ⟨M, hM⟩ : ∃ M, M = 340282366920938463463374607431768211455 / d := ⟨_, rfl⟩
  have hM0 := Nat.div_add_mod 340282366920938463463374607431768211455 d
  have hM1 := Nat.mod_lt 340282366920938463463374607431768211455 (show 0 < d by omega)
  rw [← hM] at hM0 hm
  have hMB : 18446744073709551616 ≤ M := by
    rw [hM, Nat.le_div_iff_mul_le (by omega)]
    omega
  have hm2 : M = m + 18446744073709551616 := by omega
  have e1 : M * u + l = (th + u + c) * 18446744073709551616 + s1 := by
    rw [hm2, Nat.add_mul]
    generalize m * u = P at *
    omega
  have hs1 : s1 < 18446744073709551616 := by omega
  have b1 : (th + u + c) * 18446744073709551616 ≤ M * u + l := by omega
  have b2 : M * u + l < (th + u + c + 1) * 18446744073709551616 := by omega
  have a0 : 18446744073709551616 * 18446744073709551616 = 340282366920938463463374607431768211456 := by simp
  have a1 : d * M ≤ 18446744073709551616 * 18446744073709551616 := by rw [a0]; generalize d * M = P at *; omega
  have a2 : 18446744073709551616 * 18446744073709551616 ≤ d * M + d := by rw [a0]; generalize d * M = P at *; omega
  have p0 : 0 < 18446744073709551616 := by simp
  have c1 := dww_le p0 (Nat.le_of_lt hd1) a1 b1
  have c2 := dww_lt p0 (Nat.le_of_lt hd1) a2 hl hu b2
  have c3 : th + u + c < 18446744073709551616 := by
    have : d * (th + u + c) < d * 18446744073709551616 := by omega
    exact Nat.lt_of_mul_lt_mul_left this
  have e2 : t = th + u + c := by omega
  rw [← e2] at c1 c2
  refine ⟨by omega, u * 18446744073709551616 + l - d * t, by omega, by omega, ?_, ?_⟩
  · generalize d * t = P at *
    split at hb <;> omega
  · generalize d * t = P at *
    split at hb <;> omega
end Go.Proofs.YtamjfjomehcikaaGreatDoor
