/- Parts of the proof of 'laws.FnNumDigits': ExpMath, Exp1, Exp2, Exp3, NewBig. -/
import Derived.Defers
import Derived.Test.YtlaepcfooopbmaaGreatDoorFnNumDigitsJ1
import Derived.Test.YtlaepcfooopbmaaGreatDoorFnNumDigitsJ2
import Derived.Test.YtlaepcfooopbmaaGreatDoorFnNumDigitsJ3
import Derived.Test.YtlaepcfooopbmaaGreatDoorFnNumDigitsJ4
import Derived.Test.YtlaepcfooopbmaaGreatDoorFnNumDigitsJ5
import Derived.Test.YtlaepcfooopbmaaGreatDoorFnNumDigitsJ6
import Derived.Test.YtlaepcfooopbmaaGreatDoorFnNumDigitsJ7
import Derived.Test.YtlaepcfooopbmaaGreatDoorFnNumDigitsJ8
/- Plain arithmetic under the binary power, from the highest bit down. -/
set_option linter.unusedVariables false
set_option linter.unusedSimpArgs false
namespace Go.Proofs.YtlaepcfooopbmaaGreatDoor

theorem exp_round {n e r t v : Nat} (hr : r < 64) (hn : n = e * 2 ^ (r + 1) + t) (ht : t < 2 ^ (r + 1)) (hv : v = t * 2 ^ (63 - r)) :
    v < 18446744073709551616 ∧ ((9223372036854775808 ≤ v ∧ ∃ t', n = (2 * e + 1) * 2 ^ r + t' ∧ t' < 2 ^ r ∧ v * 2 % 18446744073709551616 = t' * 2 ^ (64 - r)) ∨
      (v < 9223372036854775808 ∧ ∃ t', n = 2 * e * 2 ^ r + t' ∧ t' < 2 ^ r ∧ v * 2 % 18446744073709551616 = t' * 2 ^ (64 - r))) := by
  have h1 : 2 ^ r * 2 ^ (63 - r) = 9223372036854775808 := by rw [← Nat.pow_add, show r + (63 - r) = 63 by omega]
  have h2 : 2 ^ (64 - r) = 2 * 2 ^ (63 - r) := by rw [show 64 - r = (63 - r) + 1 by omega, Nat.pow_succ, Nat.mul_comm]
  rw [Nat.pow_succ] at hn ht
  rw [h2]
  generalize hp : 2 ^ r = p at *
  generalize hq : 2 ^ (63 - r) = q at *
  have hq0 : 0 < q := by rw [← hq]; exact Nat.pow_pos (by omega)
  have hlt : v < 18446744073709551616 := by
    have : (t + 1) * q ≤ p * 2 * q := Nat.mul_le_mul_right q ht
    have e1 : p * 2 * q = 2 * (p * q) := by grind
    have e2 : (t + 1) * q = t * q + q := by grind
    omega
  refine ⟨hlt, ?_⟩
  by_cases hc : p ≤ t
  · left
    obtain ⟨u, rfl⟩ : ∃ u, t = p + u := ⟨t - p, by omega⟩
    have e1 : (p + u) * q = p * q + u * q := by grind
    have e2 : u * (2 * q) = 2 * (u * q) := by grind
    have e3 : e * (p * 2) = 2 * e * p := by grind
    have e4 : (2 * e + 1) * p = 2 * e * p + p := by grind
    refine ⟨by omega, u, by omega, by omega, ?_⟩
    rw [e2, hv, e1, h1]
    generalize u * q = uq at *
    omega
  · right
    have e2 : t * (2 * q) = 2 * (t * q) := by grind
    have e3 : e * (p * 2) = 2 * e * p := by grind
    have h3 : (t + 1) * q ≤ p * q := Nat.mul_le_mul_right q (by omega)
    have e4 : (t + 1) * q = t * q + q := by grind
    refine ⟨by omega, t, by omega, by omega, ?_⟩
    rw [e2, hv]
    generalize t * q = tq at *
    omega

theorem exp_start {n s : Nat} (hs : s ≤ 63) (h0 : 9223372036854775808 ≤ n * 2 ^ s) (h1 : n * 2 ^ s < 18446744073709551616) :
    ∃ t, n = 1 * 2 ^ (63 - s) + t ∧ t < 2 ^ (63 - s) ∧ n * 2 ^ (s + 1) % 18446744073709551616 = t * 2 ^ (64 - (63 - s)) := by
  have e1 : 2 ^ (63 - s) * 2 ^ s = 9223372036854775808 := by rw [← Nat.pow_add, show 63 - s + s = 63 by omega]
  have e2 : 2 ^ (64 - (63 - s)) = 2 * 2 ^ s := by rw [show 64 - (63 - s) = s + 1 by omega, Nat.pow_succ, Nat.mul_comm]
  rw [e2, Nat.pow_succ]
  have hp0 : 0 < 2 ^ s := Nat.pow_pos (by omega)
  generalize 2 ^ (63 - s) = p at *
  generalize 2 ^ s = q at *
  have hge : p ≤ n := by
    rcases Nat.lt_or_ge n p with h | h
    · have : (n + 1) * q ≤ p * q := Nat.mul_le_mul_right q h
      have e3 : (n + 1) * q = n * q + q := by grind
      omega
    · exact h
  obtain ⟨t, rfl⟩ : ∃ t, n = p + t := ⟨n - p, by omega⟩
  have e3 : (p + t) * q = p * q + t * q := by grind
  have ht : t < p := by
    rcases Nat.lt_or_ge t p with h | h
    · exact h
    · have : p * q ≤ t * q := Nat.mul_le_mul_right q h
      omega
  refine ⟨t, by omega, ht, ?_⟩
  have e4 : (p + t) * (q * 2) = 2 * (p * q) + 2 * (t * q) := by grind
  have e5 : t * (2 * q) = 2 * (t * q) := by grind
  have : (t + 1) * q ≤ p * q := Nat.mul_le_mul_right q ht
  have e6 : (t + 1) * q = t * q + q := by grind
  rw [e4, e5]
  generalize t * q = tq at *
  omega
theorem pow10_lt {k n m : Nat} (h : k ≤ n) (hn : 10 ^ n < m) : 10 ^ k < m := Nat.lt_of_le_of_lt (Nat.pow_le_pow_right (by omega) h) hn

theorem pow_half_lt {k q p : Nat} (hk : k ≤ q + q) (h : 10 ^ q < p) : 10 ^ k < p * p :=
  Nat.lt_of_le_of_lt (Nat.pow_le_pow_right (by omega) hk) (by rw [Nat.pow_add]; exact Nat.mul_lt_mul'' h h)

end Go.Proofs.YtlaepcfooopbmaaGreatDoor

/- Walks: the temporary stack, got and given back; what the binary power holds. -/
set_option linter.unusedVariables false
set_option linter.unusedSimpArgs false
namespace Go.Proofs.YtlaepcfooopbmaaGreatDoor
open Go.RowKit

theorem getStack_any (w : World) : Calls Tryz.prog 112 #[] w fun e w' => e = .returned (.pointer (some ⟨w.heap.size, 0, none⟩)) ∧ w' = w.alloc (.cells #[.pointer none] 168) := by
  go_enter Tryz.func112, Tryz.ntmps112
  go_wp2
  go_ret
  exact ⟨rfl, rfl⟩
theorem free_deferred (g : Nat) (u : FrameMode) (w : World) (h : w.cell? ⟨g, 0, none⟩ = some (.pointer none)) :
    CallsD Tryz.prog 113 #[.pointer (some ⟨g, 0, none⟩)] u w fun e u' w' => u' = u ∧ (e = .returned (.tuple #[]) ∧ w' = w) := by
  go_enter_d Tryz.func113, Tryz.ntmps113
  go_wp2
  go_end0
  exact ⟨rfl, rfl⟩
/-- Where a row may lie: in z0's block, or in a new one. -/
def Fresh (w : World) (z0 z : Value) : Prop := ∀ k, z.ownBlock = some k → z0.ownBlock = some k ∨ w.heap.size ≤ k

/-- The power so far in z; zz is room. -/
structure ExM (w : World) (base : Nat) (z0 : Value) (b e : Nat) (z zz : Value) (W : World) : Prop where
  own : Own W base z (digs 18446744073709551616 (b ^ e))
  room : ∃ m, Room W base zz m
  ap : Apart zz z
  fz : Fresh w z0 z
  fzz : Fresh w z0 zz
  fr : Fr w W (fun k => z0.ownBlock = some k)

theorem ExM.swap {w W W1 : World} {base b e e' v : Nat} {z0 z zz zz1 : Value} (h : ExM w base z0 b e z zz W) (hv : v = b ^ e') (hs : SetP W base zz (digs 18446744073709551616 v) (.returned zz1) W1) : ExM w base z0 b e' zz1 z W1 := by
  obtain ⟨A, c, he, hown, hblk, hfr⟩ := hs
  injection he with he
  subst he
  rw [hv] at hown hblk
  have hz1 : Own W1 base z (digs 18446744073709551616 (b ^ e)) := h.own.fr hfr (fun k hk hzz => h.ap k hzz hk)
  rw [hv]
  refine ⟨hown, ⟨_, hz1.room⟩, ?_, ?_, h.fz, Fr.step h.fr hfr (fun i hi hzz => (h.fzz i hzz).elim id (fun hge => by omega))⟩
  · intro k hk h2
    rcases hblk with h3 | ⟨j, h3, h4⟩
    · exact h.ap k (h3.symm.trans h2) hk
    · rw [h2] at h3
      have e : k = j := by injection h3
      have := (h.own.lt hk).2
      omega
  · intro k hk
    rcases hblk with h3 | ⟨j, h3, h4⟩
    · exact h.fzz k (h3.symm.trans hk)
    · rw [hk] at h3
      have e : k = j := by injection h3
      exact .inr (by have := h.fr.size; omega)

theorem ExM.x {w W : World} {base b e bx : Nat} {z0 z zz x : Value} {xs : List Nat} (h : ExM w base z0 b e z zz W) (hx : Own w bx x xs) (ha : Apart z0 x) : Own W bx x xs ∧ Apart z x ∧ Apart zz x := by
  have hl : ∀ k, x.ownBlock = some k → k < w.heap.size := fun k hk => (hx.lt hk).2
  refine ⟨hx.fr h.fr (fun k hk hz => ha k hz hk), fun k hk hxk => ?_, fun k hk hxk => ?_⟩
  · rcases h.fz k hk with h1 | h1
    · exact ha k h1 hxk
    · have := hl k hxk; omega
  · rcases h.fzz k hk with h1 | h1
    · exact ha k h1 hxk
    · have := hl k hxk; omega

/-- The numbers: e so far, t to come in r bits, v its bits from the top. -/
structure ExN (n r e t v : Nat) : Prop where
  num : n = e * 2 ^ r + t
  tl : t < 2 ^ r
  vv : v = t * 2 ^ (64 - r)
  e1 : 1 ≤ e

theorem ExN.round {n r e t v : Nat} (h : ExN n (r + 1) e t v) (hr : r < 64) :
    v < 18446744073709551616 ∧ 2 * e ≤ n ∧ ((9223372036854775808 ≤ v ∧ ∃ t', ExN n r (2 * e + 1) t' (v * 2 % 18446744073709551616)) ∨ (v < 9223372036854775808 ∧ ∃ t', ExN n r (2 * e) t' (v * 2 % 18446744073709551616))) := by
  obtain ⟨h1, h2⟩ := exp_round (v := v) hr h.num h.tl (by rw [h.vv, show 64 - (r + 1) = 63 - r by omega])
  refine ⟨h1, ?_, ?_⟩
  · have h3 := h.num
    have h4 : 1 ≤ 2 ^ r := Nat.one_le_two_pow
    have h5 : e * 2 ≤ e * 2 ^ (r + 1) := Nat.mul_le_mul_left e (by rw [Nat.pow_succ]; omega)
    omega
  · have := h.e1
    rcases h2 with ⟨a, t', b1, b2, b3⟩ | ⟨a, t', b1, b2, b3⟩
    · exact .inl ⟨a, t', ⟨b1, b2, b3, by omega⟩⟩
    · exact .inr ⟨a, t', ⟨b1, b2, b3, by omega⟩⟩

theorem digs_pow_len {b e n k : Nat} (hb : 1 ≤ b) (hen : e ≤ n) (h : b ^ n < 18446744073709551616 ^ k) : (digs 18446744073709551616 (b ^ e)).length ≤ k :=
  digs_length_le (by omega) (Nat.lt_of_le_of_lt (Nat.pow_le_pow_right hb hen) h)

theorem and_top (v : Nat) (hv : v < 18446744073709551616) : bits .and .u64 (v : Int) 9223372036854775808 = if 9223372036854775808 ≤ v then 9223372036854775808 else 0 := by
  rw [show (9223372036854775808 : Int) = ((9223372036854775808 : Nat) : Int) from rfl, u64_and_nat v 9223372036854775808 hv (by omega)]
  have hb : v.testBit 63 = decide (9223372036854775808 ≤ v) := by
    rw [Nat.testBit_eq_decide_div_mod_eq]
    by_cases hc : 9223372036854775808 ≤ v
    · rw [decide_eq_true hc, decide_eq_true (by omega)]
    · rw [decide_eq_false hc, decide_eq_false (by omega)]
  have h : v &&& 2 ^ 63 = if 9223372036854775808 ≤ v then 2 ^ 63 else 0 := by
    apply Nat.eq_of_testBit_eq
    intro i
    rw [Nat.testBit_and, Nat.testBit_two_pow]
    by_cases hc : 9223372036854775808 ≤ v
    · rw [if_pos hc, Nat.testBit_two_pow]
      by_cases hi : 63 = i
      · subst hi; rw [hb, decide_eq_true hc]; rfl
      · rw [decide_eq_false hi, Bool.and_false]
    · rw [if_neg hc, Nat.zero_testBit]
      by_cases hi : 63 = i
      · subst hi; rw [hb, decide_eq_false hc]; rfl
      · rw [decide_eq_false hi, Bool.and_false]
  have h2 : v &&& 9223372036854775808 = if 9223372036854775808 ≤ v then 9223372036854775808 else 0 := h
  rw [h2]
  split <;> rfl
end Go.Proofs.YtlaepcfooopbmaaGreatDoor

/- Walks: nat.expNN: a one-word base to a one-word power, without a modulus. -/
set_option linter.unusedVariables false
set_option linter.unusedSimpArgs false
namespace Go.Proofs.YtlaepcfooopbmaaGreatDoor
open Go.RowKit

theorem ExM.start {w W W1 : World} {base b m : Nat} {z z1 : Value} (hz : Room w base z m) (h0 : Below w.heap.size w W) (hs : SetP W base z [b] (.returned z1) W1) (hb : b < 18446744073709551616) (hb1 : 1 ≤ b) : ExM w base z b 1 z1 (.slice none 0 0) W1 := by
  obtain ⟨A, c, he, hown, hblk, hfr⟩ := hs
  injection he with he
  subst he
  have e : digs 18446744073709551616 (b ^ 1) = [b] := by rw [Nat.pow_one]; exact digs_word hb (by omega)
  refine ⟨by rw [e]; exact hown, ⟨0, (Own.nil _ _).room⟩, (fun k hk => by cases hk), ?_, (fun k hk => by cases hk), Fr.step (Fr.of_below h0 _) hfr (fun i _ h => h)⟩
  intro k hk
  rcases hblk with h3 | ⟨j, h3, h4⟩
  · exact .inl (h3.symm.trans hk)
  · rw [hk] at h3
    have e : k = j := by injection h3
    exact .inr (by have := h0.size; omega)

/-- What a round holds. -/
def ExR (w : World) (base gs : Nat) (z0 : Value) (b n r : Nat) (z zz : Value) (v : Nat) (W : World) : Prop :=
  ∃ e t, ExN n r e t v ∧ ExM w base z0 b e z zz W ∧ Blk W gs 168 #[.pointer none]

theorem ExR.end_ {w W : World} {base gs b n v : Nat} {z0 z zz : Value} (h : ExR w base gs z0 b n 0 z zz v W) : ExM w base z0 b n z zz W ∧ Blk W gs 168 #[.pointer none] := by
  obtain ⟨e, t, h1, h2, h3⟩ := h
  have := h1.num
  have := h1.tl
  simp at *
  have e1 : e = n := by omega
  subst e1
  exact ⟨h2, h3⟩

theorem Fr.own_base {w w' : World} {base m : Nat} {z : Value} (hz : Room w base z m) {b : Nat} (hv : Vars w b) (hb : b ≤ base) (hf : Fr w w' (fun k => z.ownBlock = some k)) : Vars w' b := hv.fr hf (fun k hk => Nat.le_trans hb (hz.lt hk).1)

theorem ExR.round {w W : World} {base bx gs m b n r v lz cz c : Nat} {z0 zz : Value} {A Az : Option Addr} (h : ExR w base gs z0 b n (r + 1) (.slice Az lz cz) zz v W) (hr : r < 64) (hz : Room w base z0 m) (hbs : base ≤ w.heap.size) (hx : Own w bx (.slice A 1 c) [b]) (hax : Apart z0 (.slice A 1 c)) (hv : Vars w base)
    (hb2 : 2 ≤ b) (hbl : b < 18446744073709551616) (hsz : b ^ (n / 2) < 18446744073709551616 ^ 11) :
    v < 18446744073709551616 ∧ ∃ e, (∀ stk, Calls Tryz.prog 99 #[zz, stk, .slice Az lz cz] W (SetP W base zz (digs 18446744073709551616 (b ^ e * b ^ e)))) ∧
      ∀ A1 l1 c1 W1, SetP W base zz (digs 18446744073709551616 (b ^ e * b ^ e)) (.returned (.slice A1 l1 c1)) W1 →
        (9223372036854775808 ≤ v → (∀ stk, Calls Tryz.prog 100 #[.slice Az lz cz, stk, .slice A1 l1 c1, .slice A 1 c] W1 (SetP W1 base (.slice Az lz cz) (digs 18446744073709551616 (b ^ (2 * e) * b)))) ∧
          ∀ z2 W2, SetP W1 base (.slice Az lz cz) (digs 18446744073709551616 (b ^ (2 * e) * b)) (.returned z2) W2 → ExR w base gs z0 b n r z2 (.slice A1 l1 c1) (v * 2 % 18446744073709551616) W2) ∧
        (v < 9223372036854775808 → ExR w base gs z0 b n r (.slice A1 l1 c1) (.slice Az lz cz) (v * 2 % 18446744073709551616) W1) := by
  obtain ⟨e, t, hN, hM, hG⟩ := h
  obtain ⟨hvl, hen, hcase⟩ := hN.round hr
  have hbp : 0 < b ^ e := Nat.pow_pos (by omega)
  have hl : lz = (digs 18446744073709551616 (b ^ e)).length := RdG.len (k := .u64) hM.own.rd
  have hd : Dig 18446744073709551616 (digs 18446744073709551616 (b ^ e)) := dig_digs (by omega) _
  have h11 : (digs 18446744073709551616 (b ^ e)).length ≤ 11 := digs_pow_len (by omega) (by omega) hsz
  have hp1 : 1 ≤ (digs 18446744073709551616 (b ^ e)).length := List.length_pos_iff.2 (digs_ne_nil (by omega) hbp)
  have hvW : Vars W base := Fr.own_base hz hv (Nat.le_refl _) hM.fr
  obtain ⟨mm, hroom⟩ := hM.room
  have hsq : ∀ stk, Calls Tryz.prog 99 #[zz, stk, .slice Az lz cz] W (SetP W base zz (digs 18446744073709551616 (b ^ e * b ^ e))) := by
    intro stk
    have := sqr_any base base lz zz stk mm Az cz (digs 18446744073709551616 (b ^ e)) W hroom (by have := hM.fr.size; omega) hM.own hl (by omega) (by omega) hM.ap hd hvW
    rwa [dval_digs (by omega)] at this
  refine ⟨hvl, e, hsq, ?_⟩
  intro A1 l1 c1 W1 hs1
  have e2 : b ^ e * b ^ e = b ^ (2 * e) := by rw [← Nat.pow_add]; congr 1; omega
  have hM1 : ExM w base z0 b (2 * e) (.slice A1 l1 c1) (.slice Az lz cz) W1 := hM.swap e2 hs1
  have hG1 : Blk W1 gs 168 #[.pointer none] := by
    obtain ⟨_, _, _, _, _, hf⟩ := hs1
    exact hG.fr hf (fun hk => (hroom.ne_blk hG (by decide)) gs hk rfl)
  refine ⟨fun hge => ?_, fun hlt => ?_⟩
  · rcases hcase with ⟨_, t', hN'⟩ | ⟨h1, _⟩
    · obtain ⟨hx1, hxa, hxb⟩ := hM1.x hx hax
      have hl1 : l1 = (digs 18446744073709551616 (b ^ (2 * e))).length := RdG.len (k := .u64) hM1.own.rd
      have h22 : (digs 18446744073709551616 (b ^ (2 * e))).length ≤ 22 := by
        refine digs_length_le (by omega) ?_
        rw [← e2]
        have h3 : b ^ e < 18446744073709551616 ^ 11 := Nat.lt_of_le_of_lt (Nat.pow_le_pow_right (by omega) (by omega)) hsz
        exact Nat.lt_of_lt_of_eq (Nat.mul_lt_mul'' h3 h3) (by decide)
      have hbs1 : base ≤ W1.heap.size := by have := hM1.fr.size; omega
      have hvW1 : Vars W1 base := Fr.own_base hz hv (Nat.le_refl _) hM1.fr
      obtain ⟨m1, hroom1⟩ := hM1.room
      refine ⟨fun stk => ?_, fun z2 W2 hs2 => ?_⟩
      · have := mul_any2 base base bx l1 1 (.slice Az lz cz) stk m1 A1 A c1 c (digs 18446744073709551616 (b ^ (2 * e))) [b] W1 hroom1 hbs1 hM1.own hx1 hl1 rfl (by omega) (by omega) (.inl hM1.ap) (.inl hxb)
          (dig_digs (by omega) _) (fun x hxm => by rw [List.mem_singleton.1 hxm]; exact hbl) (canon_digs (by omega) _) (by simp [Canon]; omega) hvW1
        have e5 : dval 18446744073709551616 [b] = b := by simp [dval]
        rwa [dval_digs (by omega), e5] at this
      · refine ⟨2 * e + 1, t', hN', hM1.swap (Nat.pow_succ b (2 * e)).symm hs2, ?_⟩
        obtain ⟨_, _, _, _, _, hf⟩ := hs2
        exact hG1.fr hf (fun hk => (hroom1.ne_blk hG1 (by decide)) gs hk rfl)
    · omega
  · rcases hcase with ⟨h1, _⟩ | ⟨_, t', hN'⟩
    · omega
    · exact ⟨2 * e, t', hN', hM1, hG1⟩

set_option maxHeartbeats 2000000 in
set_option maxRecDepth 20000 in
theorem expNN_main (base bx by_ b n : Nat) (z : Value) (mz : Nat) (A B : Option Addr) (c d : Nat) (w : World) (hz : Room w base z mz) (hb : base ≤ w.heap.size) (hx : Own w bx (.slice A 1 c) [b]) (hy : Own w by_ (.slice B 1 d) [n]) (hax : Apart z (.slice A 1 c)) (hay : Apart z (.slice B 1 d))
    (hb2 : 2 ≤ b) (hbl : b < 18446744073709551616) (hn2 : 2 ≤ n) (hnl : n < 18446744073709551616) (hsz : b ^ (n / 2) < 18446744073709551616 ^ 11) (hv : Vars w base) :
    Calls Tryz.prog 108 #[z, .pointer none, .slice A 1 c, .slice B 1 d, .slice none 0 0, .bool false] w (SetP w base z (digs 18446744073709551616 (b ^ n))) := by
  obtain ⟨gx, ox, rfl, _, hxc⟩ := RdG.at_ (k := .u64) (xs := [b]) hx.rd 0 (by simp)
  obtain ⟨gy, oy, rfl, _, hyc⟩ := RdG.at_ (k := .u64) (xs := [n]) hy.rd 0 (by simp)
  have x0 : w.cell? ⟨gx, ox, none⟩ = some (.int .u64 (b : Int)) := by simpa using hxc
  have y0 : w.cell? ⟨gy, oy, none⟩ = some (.int .u64 (n : Int)) := by simpa using hyc
  have b1 : ((b : Int) == 1) = false := beq_eq_false_iff_ne.2 (by omega)
  have n1 : ((n : Int) == 1) = false := beq_eq_false_iff_ne.2 (by omega)
  have Con := hide (alias_rows base bx mz 1 z _ w hz hx.room_n hax)
  have Cony := hide (fun W (h : Below w.heap.size w W) => alias_rows base by_ mz 1 z (.slice (some ⟨gy, oy, none⟩) 1 d) W (hz.fr (Fr.of_below h (fun _ => False)) (fun _ _ h => h)) (hy.below h).room_n hay)
  obtain ⟨s, hs⟩ : ∃ s, s = nlzN n := ⟨_, rfl⟩
  obtain ⟨sp1, sp2, sp3⟩ := nlz_spec n (by omega) hnl
  have Nlz := hide (fun W => nlz_any n hnl W)
  rw [← hs] at sp1 sp2 sp3 Nlz
  have hs62 : s ≤ 62 := by
    rcases Nat.lt_or_ge s 63 with h | h
    · omega
    · have e : s = 63 := by omega
      rw [e] at sp3
      have : 2 * 2 ^ 63 ≤ n * 2 ^ 63 := Nat.mul_le_mul_right _ hn2
      omega
  obtain ⟨t0, e1, e2, e3⟩ := exp_start sp1 sp2 sp3
  obtain ⟨R, hR⟩ : ∃ R, R = 63 - s := ⟨_, rfl⟩
  rw [← hR] at e1 e2 e3
  obtain ⟨v0, hv0⟩ : ∃ v0, v0 = n * 2 ^ (s + 1) % 18446744073709551616 := ⟨_, rfl⟩
  rw [← hv0] at e3
  have hN0 := hide (show ExN n R 1 t0 v0 from ⟨e1, e2, e3, Nat.le_refl _⟩)
  have ew : IntKind.u64.wrap ((n : Int) * 2 ^ (s + 1)) = (v0 : Int) := by
    have : ((n * 2 ^ (s + 1) % 18446744073709551616 : Nat) : Int) = (n : Int) * 2 ^ (s + 1) % 18446744073709551616 := by simp [Int.natCast_emod, Int.natCast_mul, Int.natCast_pow]
    rw [hv0, this]
    rfl
  have HX := hide (And.intro hz (And.intro hx (And.intro hy (And.intro hax (And.intro hay (And.intro hv hsz))))))
  have HR := hide hR
  obtain ⟨s1, hs1⟩ : ∃ s1, s1 = s + 1 := ⟨_, rfl⟩
  have es : (s : Int) + 1 = (s1 : Int) := by omega
  have es63 : s1 ≤ 63 := by omega
  have er : 64 - (s1 : Int) = (R : Int) := by omega
  rw [← hs1] at ew
  have hR63 : R ≤ 63 := by omega
  clear hxc hyc hz hx hy hax hay hv hs sp1 sp2 sp3 hs62 e1 e2 e3 hv0 hR hs1 hsz
  go_enter_defers Tryz.func108, Tryz.ntmps108
  go_wp2_with fail
  refine (Con.out).mono ?_
  rintro e w9 ⟨rfl, j, hw9⟩
  have HB9 : Hid (Below w.heap.size w w9) := by rw [hw9]; exact below_drewN w j
  clear hw9 Con
  go_wp2_with fail
  refine (Cony.out _ HB9.out).mono ?_
  rintro e w0 ⟨rfl, j2, hw0⟩
  have HB0 : Hid (Below w.heap.size w w0) := below_next HB9.out (by rw [hw0]; exact below_drewN w9 j2)
  have x1 := HX.out.2.1.rd
  have cx : w0.cell? ⟨gx, ox, none⟩ = some (.int .u64 (b : Int)) := (HB0.out.cell (World.block_lt_of_cell? _ _ x0)).trans x0
  have cy : w0.cell? ⟨gy, oy, none⟩ = some (.int .u64 (n : Int)) := (HB0.out.cell (World.block_lt_of_cell? _ _ y0)).trans y0
  clear hw0 Cony HB9 x0 y0 x1
  have ConS := hide (getStack_any w0)
  go_wp2_with fail
  refine (ConS.out).mono ?_
  rintro e w2 ⟨rfl, hw2⟩
  have hB2 : Below w.heap.size w w2 := by rw [hw2]; exact below_al HB0.out _
  have hst : Blk w2 w0.heap.size 168 #[.pointer none] := by rw [hw2]; exact Blk.new _ _ _
  have cx2 : w2.cell? ⟨gx, ox, none⟩ = some (.int .u64 (b : Int)) := by
    rw [hw2]; exact ((Below.refl w0.heap.size w0).alloc (Nat.le_refl _) _ |>.cell (World.block_lt_of_cell? _ _ cx)).trans cx
  have cy2 : w2.cell? ⟨gy, oy, none⟩ = some (.int .u64 (n : Int)) := by
    rw [hw2]; exact ((Below.refl w0.heap.size w0).alloc (Nat.le_refl _) _ |>.cell (World.block_lt_of_cell? _ _ cy)).trans cy
  have hz2 : Room w2 base z mz := HX.out.1.fr (Fr.of_below hB2 (fun _ => False)) (fun _ _ h => h)
  have ConT := hide (set_any base z mz (.slice (some ⟨gx, ox, none⟩) 1 c) [b] w2 hz2 (HX.out.2.1.below hB2).rd (by have := hB2.size; omega) (by simp))
  have hzne : ∀ k, z.ownBlock = some k → k ≠ w0.heap.size := by
    intro k hk e
    have := (HX.out.1.lt hk).2
    have := HB0.out.size
    omega
  have fin1 : ∀ z1 w3, SetP w2 base z [b] (.returned z1) w3 → w3.cell? ⟨gy, oy, none⟩ = some (.int .u64 (n : Int)) ∧ Hid (ExR w base w0.heap.size z b n R z1 (.slice none 0 0) v0 w3) ∧ ∃ A c, z1 = .slice A (digs 18446744073709551616 (b ^ 1)).length c := by
    intro z1 w3 h
    have hs := h
    obtain ⟨A, c, he, hown, hblk, hfr⟩ := h
    injection he with he
    refine ⟨hfr.cell cy2 (fun hk => HX.out.2.2.2.2.1 gy hk rfl), ⟨1, t0, hN0.out, ExM.start HX.out.1 hB2 hs hbl (by omega), hst.fr hfr (fun hk => hzne _ hk rfl)⟩, ?_⟩
    · rw [he]
      have e : digs 18446744073709551616 (b ^ 1) = [b] := by rw [Nat.pow_one]; exact digs_word hbl (by omega)
      rw [e]
      exact ⟨A, c, rfl⟩
  have Fin1 := hide fin1
  generalize w0.heap.size = gs at Fin1 hst ⊢
  clear fin1 hB2 hst cx2 hz2 hzne hw2 ConS HB0 hN0 cx cy
  go_wp2_with fail
  refine (ConT.out).mono ?_
  rintro e w3 ⟨Az, cz, rfl, hset⟩
  obtain ⟨cy3, HE, A1, c1, hz1⟩ := Fin1.out _ w3 ⟨Az, cz, rfl, hset⟩
  rw [hz1] at HE ⊢
  clear hset hz1 Fin1 ConT
  generalize (digs 18446744073709551616 (b ^ 1)).length = l0 at HE ⊢
  go_wp2_with fail
  refine (Nlz.out w3).mono ?_
  rintro e w4 ⟨rfl, rfl⟩
  clear Nlz
  go_wp2
  go_loopw [0, 15, 19, 21] (fun vz vv vzz vj wr => ∃ (j v : Nat) (Az : Option Addr) (lz cz : Nat), j ≤ R ∧ vj = .int .i64 (j : Int) ∧ vv = .int .u64 (v : Int) ∧ vz = .slice Az lz cz ∧ Hid (ExR w base gs z b n (R - j) (.slice Az lz cz) vzz v wr)) (fun _ _ _ vj _ => R - (intOf vj).toNat)
  case atStart => exact ⟨0, v0, A1, l0, c1, Nat.zero_le _, rfl, rfl, rfl, HE⟩
  case round =>
    obtain ⟨j, v, Az, lz, cz, hj, rfl, rfl, rfl, HR⟩ := hrel
    by_cases hlt : j < R
    · have hrr : R - j = (R - (j + 1)) + 1 := by omega
      have hRR := HR.out
      rw [hrr] at hRR
      obtain ⟨hvl, e, hsq, hnext⟩ := hRR.round (by omega) HX.out.1 hb HX.out.2.1 HX.out.2.2.2.1 HX.out.2.2.2.2.2.1 hb2 hbl HX.out.2.2.2.2.2.2
      have hand := and_top v hvl
      have hsh : IntKind.u64.wrap ((v : Int) * 2) = ((v * 2 % 18446744073709551616 : Nat) : Int) := by simp [IntKind.wrap, IntKind.signed, IntKind.bits]
      obtain ⟨v2, hv2⟩ : ∃ v2, v2 = v * 2 % 18446744073709551616 := ⟨_, rfl⟩
      rw [← hv2] at hsh
      have Hsq := hide hsq
      have Hnext := hide hnext
      have HV := hide hv2
      clear hsq hnext hRR hrr HE HR hv2
      by_cases hge : 9223372036854775808 ≤ v
      · rw [if_pos hge] at hand
        go_wp2_with fail
        refine (Hsq.out _).mono ?_
        rintro e1 w5 ⟨A5, c5, rfl, hs5⟩
        obtain ⟨hmul, hz2⟩ := (Hnext.out A5 _ c5 w5 ⟨A5, c5, rfl, hs5⟩).1 hge
        have Hmul := hide hmul
        have Hz2 := hide hz2
        clear hs5 hmul hz2 Hsq Hnext
        generalize (digs 18446744073709551616 (b ^ e * b ^ e)).length = l5 at Hmul Hz2 ⊢
        go_wp2_with fail
        refine (Hmul.out _).mono ?_
        rintro e1 w6 ⟨A6, c6, rfl, hs6⟩
        have H6 := hide (Hz2.out _ w6 ⟨A6, c6, rfl, hs6⟩)
        rw [← HV.out] at H6
        clear hs6 Hmul Hz2
        generalize (digs 18446744073709551616 (b ^ (2 * e) * b)).length = l6 at H6 ⊢
        go_wp2
        go_roundw
        case rel => exact ⟨j + 1, v2, A6, l6, c6, by omega, by go_num, rfl, rfl, H6⟩
        case measure => simp [intOf]; omega
      · rw [if_neg hge] at hand
        go_wp2_with fail
        refine (Hsq.out _).mono ?_
        rintro e1 w5 ⟨A5, c5, rfl, hs5⟩
        have H6 := hide ((Hnext.out A5 _ c5 w5 ⟨A5, c5, rfl, hs5⟩).2 (by omega))
        rw [← HV.out] at H6
        clear hs5 Hsq Hnext
        generalize (digs 18446744073709551616 (b ^ e * b ^ e)).length = l5 at H6 ⊢
        go_wp2
        go_roundw
        case rel => exact ⟨j + 1, v2, A5, l5, c5, by omega, by go_num, rfl, rfl, H6⟩
        case measure => simp [intOf]; omega
    · have hjR : j = R := by omega
      subst hjR
      have hRR := HR.out
      rw [Nat.sub_self] at hRR
      obtain ⟨hM, hG⟩ := hRR.end_
      have con7 := norm_own base _ _ _ hM.own
      rw [trimz_of_canon (canon_digs (by omega) _)] at con7
      have Con7 := hide con7
      have HF := hide (And.intro hM hG)
      clear con7 hRR hM hG HR HE
      go_wp2
      refine wp_loop_rounds 1 ?_
      rw [rounds_succ]
      go_wp2_with fail
      refine (Con7.out).mono ?_
      rintro e1 w7 ⟨A7, c7, rfl, hown7, hblk7, rfl⟩
      have Fin : Hid (SetP w base z (digs 18446744073709551616 (b ^ n)) (.returned (.slice A7 (digs 18446744073709551616 (b ^ n)).length c7)) wr) := by
        refine ⟨A7, c7, rfl, hown7, ?_, HF.out.1.fr⟩
        rw [hblk7]
        cases hbk : (Value.slice Az lz cz).ownBlock with
        | none =>
          rcases HF.out.1.own.form with ⟨_, h⟩ | ⟨g7, _, _, h, _⟩
          · exact absurd h (digs_ne_nil (by omega) (Nat.pow_pos (by omega)))
          · rw [h] at hbk; cases hbk
        | some k => rcases HF.out.1.fz k hbk with h | h
                    · exact .inl h.symm
                    · exact .inr ⟨k, rfl, h⟩
      have hst := HF.out.2.cell 0
      clear hown7 hblk7 HF Con7
      generalize (digs 18446744073709551616 (b ^ n)).length = l7 at Fin ⊢
      go_wp2
      refine leaves_cons (f := 113) (args := #[.pointer (some ⟨gs, 0, none⟩)]) (by simp) (by simp [go_sem]) ?_
      refine (free_deferred gs .returning _ hst).mono ?_
      rintro e1 u' w8 ⟨rfl, rfl, rfl⟩
      exact ⟨_, results_tmp (t := 12) rfl _ _ _, Fin.out⟩
end Go.Proofs.YtlaepcfooopbmaaGreatDoor

/- Walks: nat.expNN at the small powers; whatever the power. -/
set_option linter.unusedVariables false
set_option linter.unusedSimpArgs false
namespace Go.Proofs.YtlaepcfooopbmaaGreatDoor
open Go.RowKit

set_option maxHeartbeats 1000000 in
set_option maxRecDepth 20000 in
theorem expNN_zero (base bx by_ b : Nat) (z : Value) (mz : Nat) (A B : Option Addr) (c d : Nat) (w : World) (hz : Room w base z mz) (hb : base ≤ w.heap.size) (hx : Own w bx (.slice A 1 c) [b]) (hy : Own w by_ (.slice B 0 d) []) (hax : Apart z (.slice A 1 c)) (hay : Apart z (.slice B 0 d)) :
    Calls Tryz.prog 108 #[z, .pointer none, .slice A 1 c, .slice B 0 d, .slice none 0 0, .bool false] w (SetP w base z (digs 18446744073709551616 (b ^ 0))) := by
  have Con := hide (alias_rows base bx mz 1 z _ w hz hx.room_n hax)
  have Cony := hide (fun W (h : Below w.heap.size w W) => alias_rows base by_ mz 0 z (.slice B 0 d) W (hz.fr (Fr.of_below h (fun _ => False)) (fun _ _ h => h)) (hy.below h).room_n hay)
  have ConS : Hid (∀ W (h : Below w.heap.size w W), Calls Tryz.prog 103 #[z, .int .u64 1] W (SetP W base z (digs 18446744073709551616 1))) :=
    fun W h => setWord_any base z mz 1 W (hz.fr (Fr.of_below h (fun _ => False)) (fun _ _ h => h)) (by have := h.size; omega) (by omega)
  rw [Nat.pow_zero]
  clear hx hy hax hay hz
  go_enter_defers Tryz.func108, Tryz.ntmps108
  go_wp2_with fail
  refine (Con.out).mono ?_
  rintro e w9 ⟨rfl, j, hw9⟩
  have HB9 : Hid (Below w.heap.size w w9) := by rw [hw9]; exact below_drewN w j
  clear hw9 Con
  go_wp2_with fail
  refine (Cony.out _ HB9.out).mono ?_
  rintro e w0 ⟨rfl, j2, hw0⟩
  have HB0 : Hid (Below w.heap.size w w0) := below_next HB9.out (by rw [hw0]; exact below_drewN w9 j2)
  clear hw0 Cony HB9
  go_wp2_with fail
  refine (ConS.out _ HB0.out).mono ?_
  rintro e w1 ⟨R, cr, rfl, h1, h2, h3⟩
  have Fin : Hid (SetP w base z (digs 18446744073709551616 1) (.returned (.slice R (digs 18446744073709551616 1).length cr)) w1) :=
    ⟨R, cr, rfl, h1, h2.imp id (fun ⟨k, a, b⟩ => ⟨k, a, by have := HB0.out.size; omega⟩), Fr.step (Fr.of_below HB0.out _) h3 (fun _ _ h => h)⟩
  clear h1 h2 h3 ConS HB0
  generalize (digs 18446744073709551616 1).length = q at Fin ⊢
  go_wp2
  refine ⟨_, results_tmp (t := 12) rfl _ _ _, ?_⟩
  exact Fin.out

set_option maxHeartbeats 1000000 in
set_option maxRecDepth 20000 in
theorem expNN_one (base bx by_ b : Nat) (z : Value) (mz : Nat) (A B : Option Addr) (c d : Nat) (w : World) (hz : Room w base z mz) (hb : base ≤ w.heap.size) (hx : Own w bx (.slice A 1 c) [b]) (hy : Own w by_ (.slice B 1 d) [1]) (hax : Apart z (.slice A 1 c)) (hay : Apart z (.slice B 1 d)) (hb2 : 2 ≤ b) (hbl : b < 18446744073709551616) :
    Calls Tryz.prog 108 #[z, .pointer none, .slice A 1 c, .slice B 1 d, .slice none 0 0, .bool false] w (SetP w base z (digs 18446744073709551616 (b ^ 1))) := by
  obtain ⟨gx, ox, rfl, hgx, hxc⟩ := RdG.at_ (k := .u64) (xs := [b]) hx.rd 0 (by simp)
  obtain ⟨gy, oy, rfl, hgy, hyc⟩ := RdG.at_ (k := .u64) (xs := [1]) hy.rd 0 (by simp)
  have x0 : w.cell? ⟨gx, ox, none⟩ = some (.int .u64 (b : Int)) := by simpa using hxc
  have y0 : w.cell? ⟨gy, oy, none⟩ = some (.int .u64 1) := by simpa using hyc
  have b1 : ((b : Int) == 1) = false := beq_eq_false_iff_ne.2 (by omega)
  have Con := hide (alias_rows base bx mz 1 z _ w hz hx.room_n hax)
  have Cony := hide (fun W (h : Below w.heap.size w W) => alias_rows base by_ mz 1 z (.slice (some ⟨gy, oy, none⟩) 1 d) W (hz.fr (Fr.of_below h (fun _ => False)) (fun _ _ h => h)) (hy.below h).room_n hay)
  have conS := fun W (h : Below w.heap.size w W) => set_any base z mz (.slice (some ⟨gx, ox, none⟩) 1 c) [b] W (hz.fr (Fr.of_below h (fun _ => False)) (fun _ _ h => h)) (hx.below h).rd (by have := h.size; omega) (by simp)
  have e1 : digs 18446744073709551616 (b ^ 1) = [b] := by rw [Nat.pow_one]; exact digs_word hbl (by omega)
  rw [e1]
  have ConS := hide conS
  clear hx hy hax hay hz conS hxc hyc e1
  go_enter_defers Tryz.func108, Tryz.ntmps108
  go_wp2_with fail
  refine (Con.out).mono ?_
  rintro e w9 ⟨rfl, j, hw9⟩
  have HB9 : Hid (Below w.heap.size w w9) := by rw [hw9]; exact below_drewN w j
  clear hw9 Con
  go_wp2_with fail
  refine (Cony.out _ HB9.out).mono ?_
  rintro e w0 ⟨rfl, j2, hw0⟩
  have HB0 : Hid (Below w.heap.size w w0) := below_next HB9.out (by rw [hw0]; exact below_drewN w9 j2)
  have cx : w0.cell? ⟨gx, ox, none⟩ = some (.int .u64 (b : Int)) := (HB0.out.cell hgx).trans x0
  have cy : w0.cell? ⟨gy, oy, none⟩ = some (.int .u64 1) := (HB0.out.cell hgy).trans y0
  clear hw0 Cony HB9 x0 y0
  go_wp2_with fail
  refine (ConS.out _ HB0.out).mono ?_
  rintro e w1 ⟨R, cr, rfl, h1, h2, h3⟩
  have Fin : Hid (SetP w base z [b] (.returned (.slice R [b].length cr)) w1) :=
    ⟨R, cr, rfl, h1, h2.imp id (fun ⟨k, a, b⟩ => ⟨k, a, by have := HB0.out.size; omega⟩), Fr.step (Fr.of_below HB0.out _) h3 (fun _ _ h => h)⟩
  clear h1 h2 h3 ConS HB0
  go_wp2
  refine ⟨_, results_tmp (t := 12) rfl _ _ _, ?_⟩
  exact Fin.out

theorem expNN_any (base bx by_ b n l : Nat) (z : Value) (mz : Nat) (A B : Option Addr) (c d : Nat) (w : World) (hz : Room w base z mz) (hb : base ≤ w.heap.size) (hx : Own w bx (.slice A 1 c) [b]) (hy : Own w by_ (.slice B l d) (digs 18446744073709551616 n)) (hax : Apart z (.slice A 1 c)) (hay : Apart z (.slice B l d))
    (hb2 : 2 ≤ b) (hbl : b < 18446744073709551616) (hnl : n < 18446744073709551616) (hsz : b ^ (n / 2) < 18446744073709551616 ^ 11) (hv : Vars w base) :
    Calls Tryz.prog 108 #[z, .pointer none, .slice A 1 c, .slice B l d, .slice none 0 0, .bool false] w (SetP w base z (digs 18446744073709551616 (b ^ n))) := by
  have hl : l = (digs 18446744073709551616 n).length := RdG.len (k := .u64) hy.rd
  by_cases h0 : n = 0
  · subst h0
    rw [digs_zero] at hl hy
    subst hl
    exact expNN_zero base bx by_ b z mz A B c d w hz hb hx hy hax hay
  · rw [digs_word hnl h0] at hl hy
    subst hl
    by_cases h1 : n = 1
    · subst h1
      exact expNN_one base bx by_ b z mz A B c d w hz hb hx hy hax hay hb2 hbl
    · exact expNN_main base bx by_ b n z mz A B c d w hz hb hx hy hax hay hb2 hbl (by omega) hnl hsz hv
end Go.Proofs.YtlaepcfooopbmaaGreatDoor

/- Walks: NewBigInt, bigFive, bigTen. -/
set_option linter.unusedVariables false
set_option linter.unusedSimpArgs false
namespace Go.Proofs.YtlaepcfooopbmaaGreatDoor
open Go.RowKit

set_option maxHeartbeats 500000 in
theorem newBig_any (x : Nat) (w : World) (hx : x < 9223372036854775808) :
    Calls Tryz.prog 61 #[.int .i64 (x : Int)] w (NewBigP w (digs 18446744073709551616 x)) := by
  have con := isetInt64_any w.heap.size w.heap.size 0 77 #[.bool false, .slice none 0 0, .bool false] false (.slice none 0 0) 0 (x : Int) (w.alloc (.cells #[.bool false, .slice none 0 0, .bool false] 77))
    (Blk.new w _ _) rfl rfl (Own.nil _ _).room (by decide) (by simp) (by omega) (by omega)
  rw [decide_eq_false (by omega : ¬ (x : Int) < 0), Int.natAbs_natCast] at con
  have fin : ∀ e w', IntP (w.alloc (.cells #[.bool false, .slice none 0 0, .bool false] 77)) w.heap.size w.heap.size 0 77 #[.bool false, .slice none 0 0, .bool false] (.slice none 0 0) false (digs 18446744073709551616 x) e w' →
      NewBigP w (digs 18446744073709551616 x) (.returned (.pointer (some ⟨w.heap.size, 0, none⟩))) w' := by
    rintro e w' ⟨_, v, hr, hrb, hB, hF⟩
    obtain ⟨A, c, rfl⟩ := hr.room.slice
    refine ⟨_, A, c, rfl, Nat.le_refl _, hr, hB, ?_⟩
    exact ((Below.refl w.heap.size w).alloc (Nat.le_refl _) _).trans (hF.below (by simp) (fun k hk => by rcases hk with rfl | h; exact Nat.le_refl _; cases h))
  have Con := hide con
  have Fin := hide fin
  clear con fin
  obtain ⟨xi, hxi⟩ : ∃ xi : Int, xi = (x : Int) := ⟨_, rfl⟩
  rw [← hxi] at Con ⊢
  clear hxi
  go_enter Tryz.func61, Tryz.ntmps61
  go_wp2_with fail
  refine (Con.out).mono ?_
  rintro e w1 HI
  have HI2 := hide (Fin.out _ _ HI)
  obtain ⟨rfl, _⟩ := HI
  clear Con Fin
  go_wp2
  go_ret
  exact HI2.out
theorem ten_any (w : World) : Calls Tryz.prog 86 #[] w (NewBigP w [10]) := by
  have con := newBig_any 10 w (by omega)
  rw [digs_word (by omega) (by omega)] at con
  have Con := hide con
  clear con
  go_enter Tryz.func86, Tryz.ntmps86
  go_wp2_with fail
  refine (Con.out).mono ?_
  rintro e w1 ⟨g, A, c, rfl, h⟩
  have fin : NewBigP w [10] (.returned (.pointer (some ⟨g, 0, none⟩))) w1 := ⟨g, A, c, rfl, h⟩
  have Fin := hide fin
  clear fin h Con
  go_wp2
  go_ret
  exact Fin.out

end Go.Proofs.YtlaepcfooopbmaaGreatDoor
