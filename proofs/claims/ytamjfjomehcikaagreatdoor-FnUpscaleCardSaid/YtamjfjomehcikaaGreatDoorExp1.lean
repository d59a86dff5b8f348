/- Walks: the temporary stack, got and given back; what the binary power holds. -/
import Derived.Test.YtamjfjomehcikaaGreatDoorMul4
import Derived.Test.YtamjfjomehcikaaGreatDoorExpMath
import Derived.Defers
set_option linter.unusedVariables false
set_option linter.unusedSimpArgs false
namespace Go.Proofs.YtamjfjomehcikaaGreatDoor
open Go.RowKit

theorem getStack_any (w : World) : Calls Tryz.prog 91 #[] w fun e w' => e = .returned (.pointer (some ⟨w.heap.size, 0, none⟩)) ∧ w' = w.alloc (.cells #[.pointer none] 164) := by
  go_enter Tryz.func91, Tryz.ntmps91
  go_wp2
  go_ret
  exact ⟨rfl, rfl⟩
theorem free_deferred (g : Nat) (u : FrameMode) (w : World) (h : w.cell? ⟨g, 0, none⟩ = some (.pointer none)) :
    CallsD Tryz.prog 92 #[.pointer (some ⟨g, 0, none⟩)] u w fun e u' w' => u' = u ∧ (e = .returned (.tuple #[]) ∧ w' = w) := by
  go_enter_d Tryz.func92, Tryz.ntmps92
  go_wp2
  go_end0
  exact ⟨rfl, rfl⟩
/-- Where a row may lie: in z0's block, or in a new one. -/
def Fresh (w : World) (z0 z : Value) : Prop := ∀ k, z.ownBlock = some k → z0.ownBlock = some k ∨ w.heap.size ≤ k

/-- The power so far in z; zz is room. -/
structure ExM (w : World) (base : Nat) (z0 : Value) (b e : Nat) (z zz : Value) (W : World) : Prop where
  own : Own W base z (digs 18446744073709551616 (b ^ e))
  room : ∃ m, Room W base zz m
  ap : Apart zz z
  fz : Fresh w z0 z
  fzz : Fresh w z0 zz
  fr : Fr w W (fun k => z0.ownBlock = some k)

theorem ExM.swap {w W W1 : World} {base b e e' v : Nat} {z0 z zz zz1 : Value} (h : ExM w base z0 b e z zz W) (hv : v = b ^ e') (hs : SetP W base zz (digs 18446744073709551616 v) (.returned zz1) W1) : ExM w base z0 b e' zz1 z W1 := by
  obtain ⟨A, c, he, hown, hblk, hfr⟩ := hs
  injection he with he
  subst he
  rw [hv] at hown hblk
  have hz1 : Own W1 base z (digs 18446744073709551616 (b ^ e)) := h.own.fr hfr (fun k hk hzz => h.ap k hzz hk)
  rw [hv]
  refine ⟨hown, ⟨_, hz1.room⟩, ?_, ?_, h.fz, Fr.step h.fr hfr (fun i hi hzz => (h.fzz i hzz).elim id (fun hge => by omega))⟩
  · intro k hk h2
    rcases hblk with h3 | ⟨j, h3, h4⟩
    · exact h.ap k (h3.symm.trans h2) hk
    · rw [h2] at h3
      have e : k = j := by injection h3
      have := (h.own.lt hk).2
      omega
  · intro k hk
    rcases hblk with h3 | ⟨j, h3, h4⟩
    · exact h.fzz k (h3.symm.trans hk)
    · rw [hk] at h3
      have e : k = j := by injection h3
      exact .inr (by have := h.fr.size; omega)

theorem ExM.x {w W : World} {base b e bx : Nat} {z0 z zz x : Value} {xs : List Nat} (h : ExM w base z0 b e z zz W) (hx : Own w bx x xs) (ha : Apart z0 x) : Own W bx x xs ∧ Apart z x ∧ Apart zz x := by
  have hl : ∀ k, x.ownBlock = some k → k < w.heap.size := fun k hk => (hx.lt hk).2
  refine ⟨hx.fr h.fr (fun k hk hz => ha k hz hk), fun k hk hxk => ?_, fun k hk hxk => ?_⟩
  · rcases h.fz k hk with h1 | h1
    · exact ha k h1 hxk
    · have := hl k hxk; omega
  · rcases h.fzz k hk with h1 | h1
    · exact ha k h1 hxk
    · have := hl k hxk; omega

/-- The numbers: e so far, t to come in r bits, v its bits from the top. -/
structure ExN (n r e t v : Nat) : Prop where
  num : n = e * 2 ^ r + t
  tl : t < 2 ^ r
  vv : v = t * 2 ^ (64 - r)
  e1 : 1 ≤ e

theorem ExN.round {n r e t v : Nat} (h : ExN n (r + 1) e t v) (hr : r < 64) :
    v < 18446744073709551616 ∧ 2 * e ≤ n ∧ ((9223372036854775808 ≤ v ∧ ∃ t', ExN n r (2 * e + 1) t' (v * 2 % 18446744073709551616)) ∨ (v < 9223372036854775808 ∧ ∃ t', ExN n r (2 * e) t' (v * 2 % 18446744073709551616))) := by
  obtain ⟨h1, h2⟩ := exp_round (v := v) hr h.num h.tl (by rw [h.vv, show 64 - (r + 1) = 63 - r by omega])
  refine ⟨h1, ?_, ?_⟩
  · have h3 := h.num
    have h4 : 1 ≤ 2 ^ r := Nat.one_le_two_pow
    have h5 : e * 2 ≤ e * 2 ^ (r + 1) := Nat.mul_le_mul_left e (by rw [Nat.pow_succ]; omega)
    omega
  · have := h.e1
    rcases h2 with ⟨a, t', b1, b2, b3⟩ | ⟨a, t', b1, b2, b3⟩
    · exact .inl ⟨a, t', ⟨b1, b2, b3, by omega⟩⟩
    · exact .inr ⟨a, t', ⟨b1, b2, b3, by omega⟩⟩

theorem digs_pow_len {b e n k : Nat} (hb : 1 ≤ b) (hen : e ≤ n) (h : b ^ n < 18446744073709551616 ^ k) : (digs 18446744073709551616 (b ^ e)).length ≤ k :=
  digs_length_le (by omega) (Nat.lt_of_le_of_lt (Nat.pow_le_pow_right hb hen) h)

theorem and_top (v : Nat) (hv : v < 18446744073709551616) : bits .and .u64 (v : Int) 9223372036854775808 = if 9223372036854775808 ≤ v then 9223372036854775808 else 0 := by
  rw [show (9223372036854775808 : Int) = ((9223372036854775808 : Nat) : Int) from rfl, u64_and_nat v 9223372036854775808 hv (by omega)]
  have hb : v.testBit 63 = decide (9223372036854775808 ≤ v) := by
    rw [Nat.testBit_eq_decide_div_mod_eq]
    by_cases hc : 9223372036854775808 ≤ v
    · rw [decide_eq_true hc, decide_eq_true (by omega)]
    · rw [decide_eq_false hc, decide_eq_false (by omega)]
  have h : v &&& 2 ^ 63 = if 9223372036854775808 ≤ v then 2 ^ 63 else 0 := by
    apply Nat.eq_of_testBit_eq
    intro i
    rw [Nat.testBit_and, Nat.testBit_two_pow]
    by_cases hc : 9223372036854775808 ≤ v
    · rw [if_pos hc, Nat.testBit_two_pow]
      by_cases hi : 63 = i
      · subst hi; rw [hb, decide_eq_true hc]; rfl
      · rw [decide_eq_false hi, Bool.and_false]
    · rw [if_neg hc, Nat.zero_testBit]
      by_cases hi : 63 = i
      · subst hi; rw [hb, decide_eq_false hc]; rfl
      · rw [decide_eq_false hi, Bool.and_false]
  have h2 : v &&& 9223372036854775808 = if 9223372036854775808 ≤ v then 9223372036854775808 else 0 := h
  rw [h2]
  split <;> rfl
end Go.Proofs.YtamjfjomehcikaaGreatDoor
