/- Parts of the proofs: ExpMath, Exp1. -/
import Derived.Defers
import Derived.Test.YtfkcobdkgjhfaaaGreatDoorG3
import Derived.Test.YtfkcobdkgjhfaaaGreatDoorG13
/- Plain arithmetic under the binary power, from the highest bit down. -/
set_option linter.unusedVariables false
set_option linter.unusedSimpArgs false
namespace Go.Proofs.YtfkcobdkgjhfaaaGreatDoor

theorem exp_round {n e r t v : Nat} (hr : r < 64) (hn : n = e * 2 ^ (r + 1) + t) (ht : t < 2 ^ (r + 1)) (hv : v = t * 2 ^ (63 - r)) :
    v < 18446744073709551616 ∧ ((9223372036854775808 ≤ v ∧ ∃ t', n = (2 * e + 1) * 2 ^ r + t' ∧ t' < 2 ^ r ∧ v * 2 % 18446744073709551616 = t' * 2 ^ (64 - r)) ∨
      (v < 9223372036854775808 ∧ ∃ t', n = 2 * e * 2 ^ r + t' ∧ t' < 2 ^ r ∧ v * 2 % 18446744073709551616 = t' * 2 ^ (64 - r))) := by
  have h1 : 2 ^ r * 2 ^ (63 - r) = 9223372036854775808 := by rw [← Nat.pow_add, show r + (63 - r) = 63 by omega]
  have h2 : 2 ^ (64 - r) = 2 * 2 ^ (63 - r) := by rw [show 64 - r = (63 - r) + 1 by omega, Nat.pow_succ, Nat.mul_comm]
  rw [Nat.pow_succ] at hn ht
  rw [h2]
  generalize hp : 2 ^ r = p at *
  generalize hq : 2 ^ (63 - r) = q at *
  have hq0 : 0 < q := by rw [← hq]; exact Nat.pow_pos (by omega)
  have hlt : v < 18446744073709551616 := by
    have : (t + 1) * q ≤ p * 2 * q := Nat.mul_le_mul_right q ht
    have e1 : p * 2 * q = 2 * (p * q) := by grind
    have e2 : (t + 1) * q = t * q + q := by grind
    omega
  refine ⟨hlt, ?_⟩
  by_cases hc : p ≤ t
  · left
    obtain ⟨u, rfl⟩ : ∃ u, t = p + u := ⟨t - p, by omega⟩
    have e1 : (p + u) * q = p * q + u * q := by grind
    have e2 : u * (2 * q) = 2 * (u * q) := by grind
    have e3 : e * (p * 2) = 2 * e * p := by grind
    have e4 : (2 * e + 1) * p = 2 * e * p + p := by grind
    refine ⟨by omega, u, by omega, by omega, ?_⟩
    rw [e2, hv, e1, h1]
    generalize u * q = uq at *
    omega
  · right
    have e2 : t * (2 * q) = 2 * (t * q) := by grind
    have e3 : e * (p * 2) = 2 * e * p := by grind
    have h3 : (t + 1) * q ≤ p * q := Nat.mul_le_mul_right q (by omega)
    have e4 : (t + 1) * q = t * q + q := by grind
    refine ⟨by omega, t, by omega, by omega, ?_⟩
    rw [e2, hv]
    generalize t * q = tq at *
    omega

theorem exp_start {n s : Nat} (hs : s ≤ 63) (h0 : 9223372036854775808 ≤ n * 2 ^ s) (h1 : n * 2 ^ s < 18446744073709551616) :
    ∃ t, n = 1 * 2 ^ (63 - s) + t ∧ t < 2 ^ (63 - s) ∧ n * 2 ^ (s + 1) % 18446744073709551616 = t * 2 ^ (64 - (63 - s)) := by
  have e1 : 2 ^ (63 - s) * 2 ^ s = 9223372036854775808 := by rw [← Nat.pow_add, show 63 - s + s = 63 by omega]
  have e2 : 2 ^ (64 - (63 - s)) = 2 * 2 ^ s := by rw [show 64 - (63 - s) = s + 1 by omega, Nat.pow_succ, Nat.mul_comm]
  rw [e2, Nat.pow_succ]
  have hp0 : 0 < 2 ^ s := Nat.pow_pos (by omega)
  generalize 2 ^ (63 - s) = p at *
  generalize 2 ^ s = q at *
  have hge : p ≤ n := by
    rcases Nat.lt_or_ge n p with h | h
    · have : (n + 1) * q ≤ p * q := Nat.mul_le_mul_right q h
      have e3 : (n + 1) * q = n * q + q := by grind
      omega
    · exact h
  obtain ⟨t, rfl⟩ : ∃ t, n = p + t := ⟨n - p, by omega⟩
  have e3 : (p + t) * q = p * q + t * q := by grind
  have ht : t < p := by
    rcases Nat.lt_or_ge t p with h | h
    · exact h
    · have : p * q ≤ t * q := Nat.mul_le_mul_right q h
      omega
  refine ⟨t, by omega, ht, ?_⟩
  have e4 : (p + t) * (q * 2) = 2 * (p * q) + 2 * (t * q) := by grind
  have e5 : t * (2 * q) = 2 * (t * q) := by grind
  have : (t + 1) * q ≤ p * q := Nat.mul_le_mul_right q ht
  have e6 : (t + 1) * q = t * q + q := by grind
  rw [e4, e5]
  generalize t * q = tq at *
  omega
theorem pow10_lt {k n m : Nat} (h : k ≤ n) (hn : 10 ^ n < m) : 10 ^ k < m := Nat.lt_of_le_of_lt (Nat.pow_le_pow_right (by omega) h) hn

theorem pow_half_lt {k q p : Nat} (hk : k ≤ q + q) (h : 10 ^ q < p) : 10 ^ k < p * p :=
  Nat.lt_of_le_of_lt (Nat.pow_le_pow_right (by omega) hk) (by rw [Nat.pow_add]; exact Nat.mul_lt_mul'' h h)

end Go.Proofs.YtfkcobdkgjhfaaaGreatDoor

/- Walks: the temporary stack, got and given back; what the binary power holds. -/
set_option linter.unusedVariables false
set_option linter.unusedSimpArgs false
namespace Go.Proofs.YtfkcobdkgjhfaaaGreatDoor
open Go.RowKit

theorem getStack_any (w : World) : Calls Tryz.prog 143 #[] w fun e w' => e = .returned (.pointer (some ⟨w.heap.size, 0, none⟩)) ∧ w' = w.alloc (.cells #[.pointer none] 203) := by
  go_enter Tryz.func143, Tryz.ntmps143
  go_wp2
  go_ret
  exact ⟨rfl, rfl⟩
theorem free_deferred (g : Nat) (u : FrameMode) (w : World) (h : w.cell? ⟨g, 0, none⟩ = some (.pointer none)) :
    CallsD Tryz.prog 144 #[.pointer (some ⟨g, 0, none⟩)] u w fun e u' w' => u' = u ∧ (e = .returned (.tuple #[]) ∧ w' = w) := by
  go_enter_d Tryz.func144, Tryz.ntmps144
  go_wp2
  go_end0
  exact ⟨rfl, rfl⟩
/-- Where a row may lie: in z0's block, or in a new one. -/
def Fresh (w : World) (z0 z : Value) : Prop := ∀ k, z.ownBlock = some k → z0.ownBlock = some k ∨ w.heap.size ≤ k

/-- The power so far in z; zz is room. -/
structure ExM (w : World) (base : Nat) (z0 : Value) (b e : Nat) (z zz : Value) (W : World) : Prop where
  own : Own W base z (digs 18446744073709551616 (b ^ e))
  room : ∃ m, Room W base zz m
  ap : Apart zz z
  fz : Fresh w z0 z
  fzz : Fresh w z0 zz
  fr : Fr w W (fun k => z0.ownBlock = some k)

theorem ExM.swap {w W W1 : World} {base b e e' v : Nat} {z0 z zz zz1 : Value} (h : ExM w base z0 b e z zz W) (hv : v = b ^ e') (hs : SetP W base zz (digs 18446744073709551616 v) (.returned zz1) W1) : ExM w base z0 b e' zz1 z W1 := by
  obtain ⟨A, c, he, hown, hblk, hfr⟩ := hs
  injection he with he
  subst he
  rw [hv] at hown hblk
  have hz1 : Own W1 base z (digs 18446744073709551616 (b ^ e)) := h.own.fr hfr (fun k hk hzz => h.ap k hzz hk)
  rw [hv]
  refine ⟨hown, ⟨_, hz1.room⟩, ?_, ?_, h.fz, Fr.step h.fr hfr (fun i hi hzz => (h.fzz i hzz).elim id (fun hge => by omega))⟩
  · intro k hk h2
    rcases hblk with h3 | ⟨j, h3, h4⟩
    · exact h.ap k (h3.symm.trans h2) hk
    · rw [h2] at h3
      have e : k = j := by injection h3
      have := (h.own.lt hk).2
      omega
  · intro k hk
    rcases hblk with h3 | ⟨j, h3, h4⟩
    · exact h.fzz k (h3.symm.trans hk)
    · rw [hk] at h3
      have e : k = j := by injection h3
      exact .inr (by have := h.fr.size; omega)

theorem ExM.x {w W : World} {base b e bx : Nat} {z0 z zz x : Value} {xs : List Nat} (h : ExM w base z0 b e z zz W) (hx : Own w bx x xs) (ha : Apart z0 x) : Own W bx x xs ∧ Apart z x ∧ Apart zz x := by
  have hl : ∀ k, x.ownBlock = some k → k < w.heap.size := fun k hk => (hx.lt hk).2
  refine ⟨hx.fr h.fr (fun k hk hz => ha k hz hk), fun k hk hxk => ?_, fun k hk hxk => ?_⟩
  · rcases h.fz k hk with h1 | h1
    · exact ha k h1 hxk
    · have := hl k hxk; omega
  · rcases h.fzz k hk with h1 | h1
    · exact ha k h1 hxk
    · have := hl k hxk; omega

/-- The numbers: e so far, t to come in r bits, v its bits from the top. -/
structure ExN (n r e t v : Nat) : Prop where
  num : n = e * 2 ^ r + t
  tl : t < 2 ^ r
  vv : v = t * 2 ^ (64 - r)
  e1 : 1 ≤ e

theorem ExN.round {n r e t v : Nat} (h : ExN n (r + 1) e t v) (hr : r < 64) :
    v < 18446744073709551616 ∧ 2 * e ≤ n ∧ ((9223372036854775808 ≤ v ∧ ∃ t', ExN n r (2 * e + 1) t' (v * 2 % 18446744073709551616)) ∨ (v < 9223372036854775808 ∧ ∃ t', ExN n r (2 * e) t' (v * 2 % 18446744073709551616))) := by
  obtain ⟨h1, h2⟩ := exp_round (v := v) hr h.num h.tl (by rw [h.vv, show 64 - (r + 1) = 63 - r by omega])
  refine ⟨h1, ?_, ?_⟩
  · have h3 := h.num
    have h4 : 1 ≤ 2 ^ r := Nat.one_le_two_pow
    have h5 : e * 2 ≤ e * 2 ^ (r + 1) := Nat.mul_le_mul_left e (by rw [Nat.pow_succ]; omega)
    omega
  · have := h.e1
    rcases h2 with ⟨a, t', b1, b2, b3⟩ | ⟨a, t', b1, b2, b3⟩
    · exact .inl ⟨a, t', ⟨b1, b2, b3, by omega⟩⟩
    · exact .inr ⟨a, t', ⟨b1, b2, b3, by omega⟩⟩

theorem digs_pow_len {b e n k : Nat} (hb : 1 ≤ b) (hen : e ≤ n) (h : b ^ n < 18446744073709551616 ^ k) : (digs 18446744073709551616 (b ^ e)).length ≤ k :=
  digs_length_le (by omega) (Nat.lt_of_le_of_lt (Nat.pow_le_pow_right hb hen) h)

theorem and_top (v : Nat) (hv : v < 18446744073709551616) : bits .and .u64 (v : Int) 9223372036854775808 = if 9223372036854775808 ≤ v then 9223372036854775808 else 0 := by
  rw [show (9223372036854775808 : Int) = ((9223372036854775808 : Nat) : Int) from rfl, u64_and_nat v 9223372036854775808 hv (by omega)]
  have hb : v.testBit 63 = decide (9223372036854775808 ≤ v) := by
    rw [Nat.testBit_eq_decide_div_mod_eq]
    by_cases hc : 9223372036854775808 ≤ v
    · rw [decide_eq_true hc, decide_eq_true (by omega)]
    · rw [decide_eq_false hc, decide_eq_false (by omega)]
  have h : v &&& 2 ^ 63 = if 9223372036854775808 ≤ v then 2 ^ 63 else 0 := by
    apply Nat.eq_of_testBit_eq
    intro i
    rw [Nat.testBit_and, Nat.testBit_two_pow]
    by_cases hc : 9223372036854775808 ≤ v
    · rw [if_pos hc, Nat.testBit_two_pow]
      by_cases hi : 63 = i
      · subst hi; rw [hb, decide_eq_true hc]; rfl
      · rw [decide_eq_false hi, Bool.and_false]
    · rw [if_neg hc, Nat.zero_testBit]
      by_cases hi : 63 = i
      · subst hi; rw [hb, decide_eq_false hc]; rfl
      · rw [decide_eq_false hi, Bool.and_false]
  have h2 : v &&& 9223372036854775808 = if 9223372036854775808 ≤ v then 9223372036854775808 else 0 := h
  rw [h2]
  split <;> rfl
end Go.Proofs.YtfkcobdkgjhfaaaGreatDoor
