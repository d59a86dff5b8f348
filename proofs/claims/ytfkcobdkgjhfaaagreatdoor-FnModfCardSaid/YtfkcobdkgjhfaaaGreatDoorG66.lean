/- Parts of the proofs: KnSh, KnLg, KnLg2, KnLgM. -/
import Derived.Test.YtfkcobdkgjhfaaaGreatDoorG7
import Derived.Test.YtfkcobdkgjhfaaaGreatDoorG56
import Derived.Test.YtfkcobdkgjhfaaaGreatDoorG62
import Derived.Test.YtfkcobdkgjhfaaaGreatDoorG64
import Derived.Test.YtfkcobdkgjhfaaaGreatDoorG65
/- Plain: a row shifted to the right. -/
set_option linter.unusedVariables false
set_option linter.unusedSimpArgs false
namespace Go.Proofs.YtfkcobdkgjhfaaaGreatDoor
open Go.RowKit

/-! ### plain -/
theorem shl_split {s : Nat} (hs : s ≤ 64) (x : Nat) : x * 2 ^ s = x * 2 ^ s % 18446744073709551616 + 18446744073709551616 * (x / 2 ^ (64 - s)) := by
  have hp : 0 < 2 ^ s := Nat.two_pow_pos s
  have e : 2 ^ (64 - s) * 2 ^ s = 18446744073709551616 := by rw [← Nat.pow_add, show 64 - s + s = 64 by omega]
  have h := Nat.mod_add_div (x * 2 ^ s) 18446744073709551616
  have h2 : x * 2 ^ s / 18446744073709551616 = x / 2 ^ (64 - s) := by rw [← e, Nat.mul_div_mul_right _ _ hp]
  rw [h2] at h
  exact h.symm
theorem shl_dig {s x p : Nat} (hs : s ≤ 64) (hp : p < 18446744073709551616) : x * 2 ^ s % 18446744073709551616 + p / 2 ^ (64 - s) < 18446744073709551616 := by
  have hq : 0 < 2 ^ (64 - s) := Nat.two_pow_pos _
  have e : 2 ^ (64 - s) * 2 ^ s = 18446744073709551616 := by rw [← Nat.pow_add, show 64 - s + s = 64 by omega]
  have h1 : p / 2 ^ (64 - s) < 2 ^ s := by rw [Nat.div_lt_iff_lt_mul hq, Nat.mul_comm, e]; exact hp
  have h2 : x * 2 ^ s % 18446744073709551616 = x % 2 ^ (64 - s) * 2 ^ s := by rw [← e, Nat.mul_mod_mul_right]
  have h3 : (x % 2 ^ (64 - s) + 1) * 2 ^ s ≤ 2 ^ (64 - s) * 2 ^ s := Nat.mul_le_mul_right _ (Nat.mod_lt _ hq)
  have h4 : (x % 2 ^ (64 - s) + 1) * 2 ^ s = x % 2 ^ (64 - s) * 2 ^ s + 2 ^ s := by grind
  rw [h2]; omega
theorem shl_or {s x p : Nat} (hs : s ≤ 64) (hp : p < 18446744073709551616) : bits .or .u64 ((x * 2 ^ s % 18446744073709551616 : Nat) : Int) ((p / 2 ^ (64 - s) : Nat) : Int) = ((x * 2 ^ s % 18446744073709551616 + p / 2 ^ (64 - s) : Nat) : Int) := by
  have hq : 0 < 2 ^ (64 - s) := Nat.two_pow_pos _
  have e : 2 ^ (64 - s) * 2 ^ s = 18446744073709551616 := by rw [← Nat.pow_add, show 64 - s + s = 64 by omega]
  have h1 : p / 2 ^ (64 - s) < 2 ^ s := by rw [Nat.div_lt_iff_lt_mul hq, Nat.mul_comm, e]; exact hp
  have h2 : x * 2 ^ s % 18446744073709551616 = x % 2 ^ (64 - s) * 2 ^ s := by rw [← e, Nat.mul_mod_mul_right]
  have h3 := shl_dig (x := x) hs hp
  rw [u64_or_nat _ _ (by omega) (by omega), nat_join s _ _ (by rw [h2]; exact Nat.mul_mod_left _ _) h1]
def shrL (s : Nat) : List Nat → List Nat
  | [] => []
  | x :: xs => (x / 2 ^ s + xs.getD 0 0 * 2 ^ (64 - s) % 18446744073709551616) :: shrL s xs
theorem shrL_length (s : Nat) : ∀ (xs : List Nat), (shrL s xs).length = xs.length
  | [] => rfl
  | x :: xs => by simp [shrL, shrL_length s xs]
theorem shr_or {s x p : Nat} (hs : s ≤ 64) (hx : x < 18446744073709551616) : bits .or .u64 ((x / 2 ^ s : Nat) : Int) ((p * 2 ^ (64 - s) % 18446744073709551616 : Nat) : Int) = ((x / 2 ^ s + p * 2 ^ (64 - s) % 18446744073709551616 : Nat) : Int) ∧ x / 2 ^ s + p * 2 ^ (64 - s) % 18446744073709551616 < 18446744073709551616 := by
  have e0 : 64 - (64 - s) = s := by omega
  have h := shl_or (s := 64 - s) (x := p) (p := x) (by omega) hx
  have h2 := shl_dig (s := 64 - s) (x := p) (p := x) (by omega) hx
  rw [e0] at h h2
  refine ⟨?_, by omega⟩
  rw [u64_or_nat _ _ (by omega) (by omega)] at h ⊢
  rw [Nat.or_comm, h, Nat.add_comm]
theorem shrL_dig {s : Nat} (hs : s ≤ 64) : ∀ {xs : List Nat}, Dig 18446744073709551616 xs → Dig 18446744073709551616 (shrL s xs)
  | [], _ => fun e he => by simp [shrL] at he
  | x :: xs, hx => by
    intro e he
    rcases List.mem_cons.1 he with rfl | he
    · exact (shr_or hs (hx x (by simp))).2
    · exact shrL_dig hs (fun e he => hx e (by simp [he])) e he
theorem shrL_val {s : Nat} (hs : s ≤ 64) : ∀ (xs : List Nat), dval 18446744073709551616 (shrL s xs) = dval 18446744073709551616 xs / 2 ^ s
  | [] => by simp [shrL, dval]
  | [x] => by simp [shrL, dval]
  | x :: y :: r => by
    have ih := shrL_val hs (y :: r)
    have hp : 0 < 2 ^ s := Nat.two_pow_pos s
    have e : 2 ^ (64 - s) * 2 ^ s = 18446744073709551616 := by rw [← Nat.pow_add, show 64 - s + s = 64 by omega]
    have h1 : dval 18446744073709551616 (y :: r) * 2 ^ (64 - s) = y * 2 ^ (64 - s) % 18446744073709551616 + 18446744073709551616 * (dval 18446744073709551616 (y :: r) / 2 ^ s) := by
      have a1 := Nat.mod_add_div (dval 18446744073709551616 (y :: r) * 2 ^ (64 - s)) 18446744073709551616
      have a2 : dval 18446744073709551616 (y :: r) * 2 ^ (64 - s) % 18446744073709551616 = y * 2 ^ (64 - s) % 18446744073709551616 := by
        rw [dval_cons, Nat.add_mul, Nat.mul_assoc, Nat.add_mul_mod_self_left]
      have a3 : dval 18446744073709551616 (y :: r) * 2 ^ (64 - s) / 18446744073709551616 = dval 18446744073709551616 (y :: r) / 2 ^ s := by
        rw [← e, Nat.mul_comm (2 ^ (64 - s)) (2 ^ s), Nat.mul_div_mul_right _ _ (Nat.two_pow_pos _)]
      rw [a2, a3] at a1
      exact a1.symm
    have h2 : (x + 18446744073709551616 * dval 18446744073709551616 (y :: r)) / 2 ^ s = x / 2 ^ s + dval 18446744073709551616 (y :: r) * 2 ^ (64 - s) := by
      have : x + 18446744073709551616 * dval 18446744073709551616 (y :: r) = x + 2 ^ s * (dval 18446744073709551616 (y :: r) * 2 ^ (64 - s)) := by
        rw [← e]; grind
      rw [this, Nat.add_mul_div_left _ _ hp]
    show (x / 2 ^ s + y * 2 ^ (64 - s) % 18446744073709551616) + 18446744073709551616 * dval 18446744073709551616 (shrL s (y :: r)) = (x + 18446744073709551616 * dval 18446744073709551616 (y :: r)) / 2 ^ s
    rw [ih, h2, h1]
    omega
theorem shrL_getD (s : Nat) : ∀ (xs : List Nat) (k : Nat), k < xs.length → (shrL s xs).getD k 0 = xs.getD k 0 / 2 ^ s + xs.getD (k + 1) 0 * 2 ^ (64 - s) % 18446744073709551616
  | [], _, h => by simp at h
  | x :: xs, 0, _ => by simp [shrL]
  | x :: xs, k + 1, h => by
    have := shrL_getD s xs k (by simpa using h)
    simp only [shrL, List.getD_cons_succ]
    rw [this]
end Go.Proofs.YtfkcobdkgjhfaaaGreatDoor

/- Plain: the numbers of nat.divLarge: both operands shifted, and the rest shifted back. No program in sight. -/
set_option linter.unusedVariables false
set_option linter.unusedSimpArgs false
namespace Go.Proofs.YtfkcobdkgjhfaaaGreatDoor
open Go.RowKit

theorem lg_num {a y s Q R : Nat} (h : a * 2 ^ s = Q * (y * 2 ^ s) + R) (hlt : R < y * 2 ^ s) : Q = a / y ∧ R / 2 ^ s = a % y := by
  have hp : 0 < 2 ^ s := Nat.two_pow_pos s
  have e : Q * (y * 2 ^ s) = Q * y * 2 ^ s := by rw [Nat.mul_assoc]
  rw [e] at h
  have h1 : Q * y ≤ a := Nat.le_of_mul_le_mul_right (by omega : Q * y * 2 ^ s ≤ a * 2 ^ s) hp
  obtain ⟨r, hr⟩ : ∃ r, a = Q * y + r := ⟨a - Q * y, by omega⟩
  have h2 : R = r * 2 ^ s := by
    have : a * 2 ^ s = Q * y * 2 ^ s + r * 2 ^ s := by rw [hr, Nat.add_mul]
    omega
  have h3 : r < y := Nat.lt_of_mul_lt_mul_right (by rw [← h2]; exact hlt : r * 2 ^ s < y * 2 ^ s)
  obtain ⟨h4, h5⟩ := dww_fix (X := a) (d := y) (q := Q) (r := r) (by omega) (by rw [hr, Nat.mul_comm y Q]) h3
  exact ⟨h4, by rw [h2, Nat.mul_div_cancel _ hp]; exact h5⟩
/-- The first words of what is shifted are below the divisor. -/
theorem lg_lt {a y s m n U V : Nat} {us0 : List Nat} (hm : 1 ≤ m) (hn : 1 ≤ n) (hl : us0.length = m + n) (hu : dval 18446744073709551616 us0 = a * 2 ^ s) (ha : a < 18446744073709551616 ^ (m + n - 1)) (hy : 18446744073709551616 ^ (n - 1) ≤ y) (hV : V = y * 2 ^ s) (hU : U = dval 18446744073709551616 (us0.drop m)) : U < V := by
  have h1 := dval_split 18446744073709551616 m us0 (by omega)
  have hp : 0 < 2 ^ s := Nat.two_pow_pos s
  have hq : 0 < 18446744073709551616 ^ m := Nat.pow_pos (by omega)
  have h2 : 18446744073709551616 ^ m * U ≤ a * 2 ^ s := by rw [hU, ← hu]; omega
  have h3 : a * 2 ^ s < 18446744073709551616 ^ (m + n - 1) * 2 ^ s := Nat.mul_lt_mul_of_pos_right ha hp
  have h4 : 18446744073709551616 ^ (m + n - 1) = 18446744073709551616 ^ m * 18446744073709551616 ^ (n - 1) := by rw [← Nat.pow_add, show m + (n - 1) = m + n - 1 by omega]
  have h5 : 18446744073709551616 ^ (n - 1) * 2 ^ s ≤ V := by rw [hV]; exact Nat.mul_le_mul_right _ hy
  have h6 : 18446744073709551616 ^ m * U < 18446744073709551616 ^ m * (18446744073709551616 ^ (n - 1) * 2 ^ s) := by
    rw [h4, Nat.mul_assoc] at h3
    omega
  have := Nat.lt_of_mul_lt_mul_left h6
  omega
/-- What divBasic leaves is what the division asks. -/
theorem lg_end {a y s m n : Nat} {us0 vs us qk : List Nat} (h : KnN m n 0 us0 vs us qk) (hu : dval 18446744073709551616 us0 = a * 2 ^ s) (hv : dval 18446744073709551616 vs = y * 2 ^ s) : dval 18446744073709551616 qk = a / y ∧ dval 18446744073709551616 us / 2 ^ s = a % y := by
  have h1 := h.val
  have h2 := h.lt
  rw [List.drop_zero, List.drop_zero, hu, hv] at h1
  rw [List.drop_zero, hv] at h2
  exact lg_num h1 h2
end Go.Proofs.YtfkcobdkgjhfaaaGreatDoor

/- Plain: a divisor that is shifted until its first bit is set. No program in sight. -/
set_option linter.unusedVariables false
set_option linter.unusedSimpArgs false
namespace Go.Proofs.YtfkcobdkgjhfaaaGreatDoor
open Go.RowKit

theorem shc_eq {s : Nat} (hs : s ≤ 64) {xs : List Nat} (hd : Dig 18446744073709551616 xs) (hn : 1 ≤ xs.length) : shc s xs = xs.getD (xs.length - 1) 0 / 2 ^ (64 - s) := by
  have h := (amul_sh hs xs 0 (Nat.two_pow_pos s) hd).2
  rw [if_neg (by omega)] at h
  exact h
theorem shc_lt {s : Nat} (hs : s ≤ 64) {xs : List Nat} (hd : Dig 18446744073709551616 xs) (hn : 1 ≤ xs.length) : shc s xs < 2 ^ s := by
  rw [shc_eq hs hd hn]
  exact sh_carry_lt hs (dig_getD (by omega) hd _)
/-- The top word of a row whose number is great. -/
theorem top_of {n K : Nat} {vs : List Nat} (hl : vs.length = n + 1) (hd : Dig 18446744073709551616 vs) (h : 18446744073709551616 ^ n * K ≤ dval 18446744073709551616 vs) : K ≤ vs.getD n 0 := by
  have h1 := dval_split 18446744073709551616 n vs (by omega)
  rw [dval_drop1, List.drop_of_length_le (by omega : vs.length ≤ n + 1), dval_nil, Nat.mul_zero, Nat.add_zero] at h1
  have h2 := dval_lt (b := 18446744073709551616) (by omega) (dig_take hd n)
  rw [List.length_take, hl, Nat.min_eq_left (by omega)] at h2
  have h3 : 18446744073709551616 ^ n * K < 18446744073709551616 ^ n * (vs.getD n 0 + 1) := by
    rw [Nat.mul_add, Nat.mul_one]; omega
  have := Nat.lt_of_mul_lt_mul_left h3
  omega
theorem lg_sh {s n : Nat} {ys : List Nat} (hl : ys.length = n + 1) (hd : Dig 18446744073709551616 ys) (hs : s ≤ 63) (h1 : 9223372036854775808 ≤ ys.getD n 0 * 2 ^ s) (h2 : ys.getD n 0 * 2 ^ s < 18446744073709551616) :
    dval 18446744073709551616 (shv s ys) = dval 18446744073709551616 ys * 2 ^ s ∧ 9223372036854775808 ≤ (shv s ys).getD n 0 := by
  have hc : shc s ys = 0 := by
    rw [shc_eq (by omega) hd (by omega), hl, Nat.add_sub_cancel]
    refine Nat.div_eq_of_lt ?_
    have e : 2 ^ (64 - s) * 2 ^ s = 18446744073709551616 := by rw [← Nat.pow_add, show 64 - s + s = 64 by omega]
    rw [← e] at h2
    exact Nat.lt_of_mul_lt_mul_right h2
  have hv := shv_val s ys
  rw [hc, dval_append, dval_cons, dval_nil] at hv
  have hv' : dval 18446744073709551616 (shv s ys) = dval 18446744073709551616 ys * 2 ^ s := by simpa using hv
  refine ⟨hv', top_of (by rw [shv_length, hl]) (shv_dig s ys) ?_⟩
  have h3 := dval_split 18446744073709551616 n ys (by omega)
  rw [dval_drop1] at h3
  have h4 : 18446744073709551616 ^ n * ys.getD n 0 ≤ dval 18446744073709551616 ys := by
    rw [h3]
    exact Nat.le_trans (Nat.mul_le_mul_left _ (Nat.le_add_right _ _)) (Nat.le_add_left _ _)
  rw [hv']
  calc 18446744073709551616 ^ n * 9223372036854775808 ≤ 18446744073709551616 ^ n * (ys.getD n 0 * 2 ^ s) := Nat.mul_le_mul_left _ h1
    _ = 18446744073709551616 ^ n * ys.getD n 0 * 2 ^ s := by rw [Nat.mul_assoc]
    _ ≤ dval 18446744073709551616 ys * 2 ^ s := Nat.mul_le_mul_right _ h4
end Go.Proofs.YtfkcobdkgjhfaaaGreatDoor

/- Plain: what nat.divLarge holds once both operands are laid out, and its end. No program in sight. -/
set_option linter.unusedVariables false
set_option linter.unusedSimpArgs false
namespace Go.Proofs.YtfkcobdkgjhfaaaGreatDoor
open Go.RowKit

/-- Both operands are laid out, shifted by s. -/
def LgM (w : World) (gv gu n lu s a y : Nat) (Sv Su : List Value) (W : World) : Prop :=
  ∃ vs us0, vs.length = n ∧ us0.length = lu + 1 ∧ Dig 18446744073709551616 vs ∧ Dig 18446744073709551616 us0 ∧ dval 18446744073709551616 vs = y * 2 ^ s ∧ dval 18446744073709551616 us0 = a * 2 ^ s ∧ 9223372036854775808 ≤ vs.getD (n - 1) 0 ∧ us0.getD lu 0 < vs.getD (n - 1) 0 ∧
    Blk W gv 145 (wv vs ++ Sv).toArray ∧ Blk W gu 145 (wv us0 ++ Su).toArray ∧ Fr w W (fun k => k = gv ∨ k = gu)

theorem words_src {w : World} {g o : Nat} {xs : List Nat} (h : WordsAt w g o xs) : ∀ j v, (wv xs)[j]? = some v → w.cell? ((⟨g, o, none⟩ : Addr).add j) = some v := by
  intro j v hv
  rw [wv_at] at hv
  obtain ⟨d, hd, rfl⟩ := Option.map_eq_some_iff.1 hv
  have hj := (List.getElem?_eq_some_iff.1 hd).1
  have := h j hj
  rw [getD_at hj, (List.getElem?_eq_some_iff.1 hd).2] at this
  exact (by unfold Addr.add; split <;> simp_all)

theorem dig_top {y n1 : Nat} (h : (digs 18446744073709551616 y).length = n1 + 1) : 0 < (digs 18446744073709551616 y).getD n1 0 := by
  rcases Nat.eq_zero_or_pos ((digs 18446744073709551616 y).getD n1 0) with h0 | h0
  · exfalso
    have hc := canon_digs (b := 18446744073709551616) (by omega) y
    unfold Canon at hc
    rw [List.getLast?_eq_getElem?, h, Nat.add_sub_cancel, List.getElem?_eq_getElem (by omega), ← getD_at (by omega), h0] at hc
    exact hc rfl
  · exact h0

theorem lgm_sh {w W : World} {gv gu n n1 lu s a y qu : Nat} {Sv Su : List Value} (hn : n = n1 + 1) (hy : n = (digs 18446744073709551616 y).length) (hlu : lu = (digs 18446744073709551616 a).length) (hlu1 : 1 ≤ lu) (hs : s = nlzN ((digs 18446744073709551616 y).getD n1 0))
    (hv : Blk W gv 145 (wv (shv s (digs 18446744073709551616 y)) ++ Sv).toArray) (hu : Blk W gu 145 (wv (shv s (digs 18446744073709551616 a)) ++ Value.int .u64 (qu : Int) :: Su).toArray) (hq : qu = shc s (digs 18446744073709551616 a)) (hf : Fr w W (fun k => k = gv ∨ k = gu)) : LgM w gv gu n lu s a y Sv Su W := by
  have hyl : (digs 18446744073709551616 y).length = n1 + 1 := by omega
  have hdy := dig_digs (b := 18446744073709551616) (by omega) y
  have hda := dig_digs (b := 18446744073709551616) (by omega) a
  have hsp := nlz_spec _ (dig_top hyl) (dig_getD (by omega) hdy n1)
  rw [← hs] at hsp
  obtain ⟨h1, h2⟩ := lg_sh hyl hdy hsp.1 hsp.2.1 hsp.2.2
  have hql : qu < 2 ^ s := by rw [hq]; exact shc_lt (by omega) hda (by omega)
  have hp : (2 : Nat) ^ s ≤ 2 ^ 63 := Nat.pow_le_pow_right (by omega) hsp.1
  have e63 : (2 : Nat) ^ 63 = 9223372036854775808 := rfl
  have en : n - 1 = n1 := by omega
  refine ⟨shv s (digs 18446744073709551616 y), shv s (digs 18446744073709551616 a) ++ [qu], by rw [shv_length]; omega, by rw [List.length_append, shv_length]; simp; omega, shv_dig _ _, dig_append (shv_dig _ _) (fun e he => by simp at he; omega), by rw [h1, dval_digs (by omega)], by rw [hq, shv_val, dval_digs (by omega)], by rw [en]; exact h2, ?_, hv, by simpa [wv] using hu, hf⟩
  have e2 : lu = (shv s (digs 18446744073709551616 a)).length := by rw [shv_length]; exact hlu
  rw [e2, getD_snoc, en]
  omega
theorem lgm_zero {w W : World} {gv gu n n1 lu a y : Nat} {Sv Su : List Value} (hn : n = n1 + 1) (hy : n = (digs 18446744073709551616 y).length) (hlu : lu = (digs 18446744073709551616 a).length) (hs : 0 = nlzN ((digs 18446744073709551616 y).getD n1 0))
    (hv : Blk W gv 145 (wv (digs 18446744073709551616 y) ++ Sv).toArray) (hu : Blk W gu 145 (wv (digs 18446744073709551616 a) ++ Value.int .u64 0 :: Su).toArray) (hf : Fr w W (fun k => k = gv ∨ k = gu)) : LgM w gv gu n lu 0 a y Sv Su W := by
  have hyl : (digs 18446744073709551616 y).length = n1 + 1 := by omega
  have hdy := dig_digs (b := 18446744073709551616) (by omega) y
  have hda := dig_digs (b := 18446744073709551616) (by omega) a
  have hsp := nlz_spec _ (dig_top hyl) (dig_getD (by omega) hdy n1)
  rw [← hs] at hsp
  have en : n - 1 = n1 := by omega
  refine ⟨digs 18446744073709551616 y, digs 18446744073709551616 a ++ [0], hy.symm, by rw [List.length_append, hlu]; rfl, hdy, dig_append hda (fun e he => by simp at he; omega), by rw [dval_digs (by omega)]; simp, by rw [dval_append, dval_digs (by omega), dval_cons, dval_nil]; simp, by rw [en]; have := hsp.2.1; simpa using this, ?_, hv, by simpa [wv] using hu, hf⟩
  rw [hlu, getD_snoc, en]
  have := hsp.2.1
  simp at this
  omega
theorem lgm_lt {n n1 lu s a y : Nat} {vs us0 : List Nat} (hn : n = n1 + 1) (hy : n = (digs 18446744073709551616 y).length) (hlu : lu = (digs 18446744073709551616 a).length) (hle : n ≤ lu) (hul : us0.length = lu + 1) (hv : dval 18446744073709551616 vs = y * 2 ^ s) (hu : dval 18446744073709551616 us0 = a * 2 ^ s) :
    dval 18446744073709551616 (us0.drop (lu - n + 1)) < dval 18446744073709551616 vs := by
  refine lg_lt (m := lu - n + 1) (n := n) (by omega) (by omega) (by omega) hu ?_ ?_ hv rfl
  · have h := dval_lt (b := 18446744073709551616) (by omega) (dig_digs (b := 18446744073709551616) (by omega) a)
    rw [dval_digs (by omega), ← hlu] at h
    rw [show lu - n + 1 + n - 1 = lu by omega]
    exact h
  · have h1 := dig_top (y := y) (n1 := n1) (by omega)
    have h3 := dval_split 18446744073709551616 n1 (digs 18446744073709551616 y) (by omega)
    rw [dval_drop1, dval_digs (by omega)] at h3
    rw [hn, Nat.add_sub_cancel]
    have h4 : 18446744073709551616 ^ n1 * 1 ≤ 18446744073709551616 ^ n1 * ((digs 18446744073709551616 y).getD n1 0 + 18446744073709551616 * dval 18446744073709551616 ((digs 18446744073709551616 y).drop (n1 + 1))) := Nat.mul_le_mul_left _ (by omega)
    omega

theorem lgm_end {w w5 : World} {gv gu n lu s a y qu cu2 : Nat} {vs xs : List Nat} {Sv : List Value} {cu3 : Array Value} (hxl : xs.length = lu) (hcu : cu3.size = cu2) (hle : lu + 1 ≤ cu2) (hne : gu ≠ gv) (hB4 : Blk w5 gv 145 (wv vs ++ Sv).toArray) (hB5 : Blk w5 gu 145 (wv xs ++ cu3.toList.drop lu).toArray) (hF : Fr w w5 (fun k => k = gv ∨ k = gu))
    (fin : ∀ W, Blk W gv 145 (wv vs ++ Sv).toArray → Blk W gu 145 (wv xs ++ Value.int .u64 (qu : Int) :: cu3.toList.drop (lu + 1)).toArray → Fr w W (fun k => k = gv ∨ k = gu) → LgM w gv gu n lu s a y Sv (cu3.toList.drop (lu + 1)) W) :
    ∃ u0, w5.cell? ⟨gu, lu, none⟩ = some u0 ∧ w5.frozen? ⟨gu, lu, none⟩ = false ∧ LgM w gv gu n lu s a y Sv (cu3.toList.drop (lu + 1)) (w5.setCell ⟨gu, lu, none⟩ (.int .u64 (qu : Int))) := by
  have hlt : lu < cu3.toList.length := by rw [Array.length_toList]; omega
  rw [List.drop_eq_getElem_cons hlt] at hB5
  obtain ⟨xc, xf, xset⟩ := hB5.part (i := lu) (by rw [wv_length]; exact hxl.symm)
  exact ⟨_, xc, xf, fin _ (hB4.far (p := ⟨gu, lu, none⟩) (Ne.symm hne) _) (xset _) (hF.setCell (p := ⟨gu, lu, none⟩) (fun _ => .inr rfl) _)⟩

/-- The end: quotient and rest stand in their rows. -/
theorem lg_fin {w w8 w9 : World} {base a y gv gu gq : Nat} {z z2 : Value} {Q R : Option Addr} {nq nr cq cr : Nat} {qk us : List Nat} (hgv : w.heap.size ≤ gv) (hgu : z2.ownBlock = some gu ∨ w.heap.size ≤ gu) (hgq : z.ownBlock = some gq ∨ w.heap.size ≤ gq) (hne : gq ≠ gu)
    (hf8 : Fr w w8 (fun k => (k = gv ∨ k = gu) ∨ k = gq)) (hf9 : Fr w8 w9 (fun k => k = gu)) (hnq : nq = (trimz qk).length) (hnr : nr = (trimz us).length) (hq : Own w8 base (.slice Q nq cq) (trimz qk)) (hqb : (Value.slice Q nq cq).ownBlock = some gq) (hr : Own w9 base (.slice R nr cr) (trimz us)) (hrb : (Value.slice R nr cr).ownBlock = some gu)
    (eq : trimz qk = digs 18446744073709551616 (a / y)) (er : trimz us = digs 18446744073709551616 (a % y)) : QrP w base z z2 a y (.returned (.tuple #[.slice Q nq cq, .slice R nr cr])) w9 := by
  subst hnq hnr
  rw [eq] at hq hqb ⊢
  rw [er] at hr hrb ⊢
  refine ⟨Q, R, cq, cr, rfl, hq.fr hf9 (fun k hk h => ?_), hr, ?_, ?_, fun k h1 h2 => ?_, Fr.step (hf8.mono (fun k hk h => ?_)) hf9 (fun k hk h => ?_)⟩
  · rw [hqb] at hk; injection hk with hk; exact hne (hk.trans h)
  · rcases hgq with h | h
    · exact .inl (hqb.trans h.symm)
    · exact .inr ⟨gq, hqb, h⟩
  · rcases hgu with h | h
    · exact .inl (hrb.trans h.symm)
    · exact .inr ⟨gu, hrb, h⟩
  · rw [hqb] at h1; rw [hrb] at h2; injection h1 with h1; injection h2 with h2; exact hne (h1.trans h2.symm)
  · rcases h with (h | h) | h
    · omega
    · subst h; exact .inr (hgu.resolve_right (by omega))
    · subst h; exact .inl (hgq.resolve_right (by omega))
  · have h : k = gu := h
    subst h
    exact .inr (hgu.resolve_right (by omega))
end Go.Proofs.YtfkcobdkgjhfaaaGreatDoor
