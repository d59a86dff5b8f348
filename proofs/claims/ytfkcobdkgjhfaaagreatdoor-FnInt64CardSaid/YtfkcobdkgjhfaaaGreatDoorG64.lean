/- Parts of the proofs: KnSh, KnLg, KnLg2, KnLgM, KnSh2, KnDivL. -/
import Derived.Deep.DeepCutAuto
import Derived.Test.YtfkcobdkgjhfaaaGreatDoorG7
import Derived.Test.YtfkcobdkgjhfaaaGreatDoorG56
import Derived.Test.YtfkcobdkgjhfaaaGreatDoorG62
import Derived.Test.YtfkcobdkgjhfaaaGreatDoorG63
/- Plain: a row shifted to the right. -/
set_option linter.unusedVariables false
set_option linter.unusedSimpArgs false
namespace Go.Proofs.YtfkcobdkgjhfaaaGreatDoor
open Go.RowKit

/-! ### plain -/
theorem shl_split {s : Nat} (hs : s ≤ 64) (x : Nat) : x * 2 ^ s = x * 2 ^ s % 18446744073709551616 + 18446744073709551616 * (x / 2 ^ (64 - s)) := by
  have hp : 0 < 2 ^ s := Nat.two_pow_pos s
  have e : 2 ^ (64 - s) * 2 ^ s = 18446744073709551616 := by rw [← Nat.pow_add, show 64 - s + s = 64 by omega]
  have h := Nat.mod_add_div (x * 2 ^ s) 18446744073709551616
  have h2 : x * 2 ^ s / 18446744073709551616 = x / 2 ^ (64 - s) := by rw [← e, Nat.mul_div_mul_right _ _ hp]
  rw [h2] at h
  exact h.symm
theorem shl_dig {s x p : Nat} (hs : s ≤ 64) (hp : p < 18446744073709551616) : x * 2 ^ s % 18446744073709551616 + p / 2 ^ (64 - s) < 18446744073709551616 := by
  have hq : 0 < 2 ^ (64 - s) := Nat.two_pow_pos _
  have e : 2 ^ (64 - s) * 2 ^ s = 18446744073709551616 := by rw [← Nat.pow_add, show 64 - s + s = 64 by omega]
  have h1 : p / 2 ^ (64 - s) < 2 ^ s := by rw [Nat.div_lt_iff_lt_mul hq, Nat.mul_comm, e]; exact hp
  have h2 : x * 2 ^ s % 18446744073709551616 = x % 2 ^ (64 - s) * 2 ^ s := by rw [← e, Nat.mul_mod_mul_right]
  have h3 : (x % 2 ^ (64 - s) + 1) * 2 ^ s ≤ 2 ^ (64 - s) * 2 ^ s := Nat.mul_le_mul_right _ (Nat.mod_lt _ hq)
  have h4 : (x % 2 ^ (64 - s) + 1) * 2 ^ s = x % 2 ^ (64 - s) * 2 ^ s + 2 ^ s := by grind
  rw [h2]; omega
theorem shl_or {s x p : Nat} (hs : s ≤ 64) (hp : p < 18446744073709551616) : bits .or .u64 ((x * 2 ^ s % 18446744073709551616 : Nat) : Int) ((p / 2 ^ (64 - s) : Nat) : Int) = ((x * 2 ^ s % 18446744073709551616 + p / 2 ^ (64 - s) : Nat) : Int) := by
  have hq : 0 < 2 ^ (64 - s) := Nat.two_pow_pos _
  have e : 2 ^ (64 - s) * 2 ^ s = 18446744073709551616 := by rw [← Nat.pow_add, show 64 - s + s = 64 by omega]
  have h1 : p / 2 ^ (64 - s) < 2 ^ s := by rw [Nat.div_lt_iff_lt_mul hq, Nat.mul_comm, e]; exact hp
  have h2 : x * 2 ^ s % 18446744073709551616 = x % 2 ^ (64 - s) * 2 ^ s := by rw [← e, Nat.mul_mod_mul_right]
  have h3 := shl_dig (x := x) hs hp
  rw [u64_or_nat _ _ (by omega) (by omega), nat_join s _ _ (by rw [h2]; exact Nat.mul_mod_left _ _) h1]
def shrL (s : Nat) : List Nat → List Nat
  | [] => []
  | x :: xs => (x / 2 ^ s + xs.getD 0 0 * 2 ^ (64 - s) % 18446744073709551616) :: shrL s xs
theorem shrL_length (s : Nat) : ∀ (xs : List Nat), (shrL s xs).length = xs.length
  | [] => rfl
  | x :: xs => by simp [shrL, shrL_length s xs]
theorem shr_or {s x p : Nat} (hs : s ≤ 64) (hx : x < 18446744073709551616) : bits .or .u64 ((x / 2 ^ s : Nat) : Int) ((p * 2 ^ (64 - s) % 18446744073709551616 : Nat) : Int) = ((x / 2 ^ s + p * 2 ^ (64 - s) % 18446744073709551616 : Nat) : Int) ∧ x / 2 ^ s + p * 2 ^ (64 - s) % 18446744073709551616 < 18446744073709551616 := by
  have e0 : 64 - (64 - s) = s := by omega
  have h := shl_or (s := 64 - s) (x := p) (p := x) (by omega) hx
  have h2 := shl_dig (s := 64 - s) (x := p) (p := x) (by omega) hx
  rw [e0] at h h2
  refine ⟨?_, by omega⟩
  rw [u64_or_nat _ _ (by omega) (by omega)] at h ⊢
  rw [Nat.or_comm, h, Nat.add_comm]
theorem shrL_dig {s : Nat} (hs : s ≤ 64) : ∀ {xs : List Nat}, Dig 18446744073709551616 xs → Dig 18446744073709551616 (shrL s xs)
  | [], _ => fun e he => by simp [shrL] at he
  | x :: xs, hx => by
    intro e he
    rcases List.mem_cons.1 he with rfl | he
    · exact (shr_or hs (hx x (by simp))).2
    · exact shrL_dig hs (fun e he => hx e (by simp [he])) e he
theorem shrL_val {s : Nat} (hs : s ≤ 64) : ∀ (xs : List Nat), dval 18446744073709551616 (shrL s xs) = dval 18446744073709551616 xs / 2 ^ s
  | [] => by simp [shrL, dval]
  | [x] => by simp [shrL, dval]
  | x :: y :: r => by
    have ih := shrL_val hs (y :: r)
    have hp : 0 < 2 ^ s := Nat.two_pow_pos s
    have e : 2 ^ (64 - s) * 2 ^ s = 18446744073709551616 := by rw [← Nat.pow_add, show 64 - s + s = 64 by omega]
    have h1 : dval 18446744073709551616 (y :: r) * 2 ^ (64 - s) = y * 2 ^ (64 - s) % 18446744073709551616 + 18446744073709551616 * (dval 18446744073709551616 (y :: r) / 2 ^ s) := by
      have a1 := Nat.mod_add_div (dval 18446744073709551616 (y :: r) * 2 ^ (64 - s)) 18446744073709551616
      have a2 : dval 18446744073709551616 (y :: r) * 2 ^ (64 - s) % 18446744073709551616 = y * 2 ^ (64 - s) % 18446744073709551616 := by
        rw [dval_cons, Nat.add_mul, Nat.mul_assoc, Nat.add_mul_mod_self_left]
      have a3 : dval 18446744073709551616 (y :: r) * 2 ^ (64 - s) / 18446744073709551616 = dval 18446744073709551616 (y :: r) / 2 ^ s := by
        rw [← e, Nat.mul_comm (2 ^ (64 - s)) (2 ^ s), Nat.mul_div_mul_right _ _ (Nat.two_pow_pos _)]
      rw [a2, a3] at a1
      exact a1.symm
    have h2 : (x + 18446744073709551616 * dval 18446744073709551616 (y :: r)) / 2 ^ s = x / 2 ^ s + dval 18446744073709551616 (y :: r) * 2 ^ (64 - s) := by
      have : x + 18446744073709551616 * dval 18446744073709551616 (y :: r) = x + 2 ^ s * (dval 18446744073709551616 (y :: r) * 2 ^ (64 - s)) := by
        rw [← e]; grind
      rw [this, Nat.add_mul_div_left _ _ hp]
    show (x / 2 ^ s + y * 2 ^ (64 - s) % 18446744073709551616) + 18446744073709551616 * dval 18446744073709551616 (shrL s (y :: r)) = (x + 18446744073709551616 * dval 18446744073709551616 (y :: r)) / 2 ^ s
    rw [ih, h2, h1]
    omega
theorem shrL_getD (s : Nat) : ∀ (xs : List Nat) (k : Nat), k < xs.length → (shrL s xs).getD k 0 = xs.getD k 0 / 2 ^ s + xs.getD (k + 1) 0 * 2 ^ (64 - s) % 18446744073709551616
  | [], _, h => by simp at h
  | x :: xs, 0, _ => by simp [shrL]
  | x :: xs, k + 1, h => by
    have := shrL_getD s xs k (by simpa using h)
    simp only [shrL, List.getD_cons_succ]
    rw [this]
end Go.Proofs.YtfkcobdkgjhfaaaGreatDoor

/- Plain: the numbers of nat.divLarge: both operands shifted, and the rest shifted back. No program in sight. -/
set_option linter.unusedVariables false
set_option linter.unusedSimpArgs false
namespace Go.Proofs.YtfkcobdkgjhfaaaGreatDoor
open Go.RowKit

theorem lg_num {a y s Q R : Nat} (h : a * 2 ^ s = Q * (y * 2 ^ s) + R) (hlt : R < y * 2 ^ s) : Q = a / y ∧ R / 2 ^ s = a % y := by
  have hp : 0 < 2 ^ s := Nat.two_pow_pos s
  have e : Q * (y * 2 ^ s) = Q * y * 2 ^ s := by rw [Nat.mul_assoc]
  rw [e] at h
  have h1 : Q * y ≤ a := Nat.le_of_mul_le_mul_right (by omega : Q * y * 2 ^ s ≤ a * 2 ^ s) hp
  obtain ⟨r, hr⟩ : ∃ r, a = Q * y + r := ⟨a - Q * y, by omega⟩
  have h2 : R = r * 2 ^ s := by
    have : a * 2 ^ s = Q * y * 2 ^ s + r * 2 ^ s := by rw [hr, Nat.add_mul]
    omega
  have h3 : r < y := Nat.lt_of_mul_lt_mul_right (by rw [← h2]; exact hlt : r * 2 ^ s < y * 2 ^ s)
  obtain ⟨h4, h5⟩ := dww_fix (X := a) (d := y) (q := Q) (r := r) (by omega) (by rw [hr, Nat.mul_comm y Q]) h3
  exact ⟨h4, by rw [h2, Nat.mul_div_cancel _ hp]; exact h5⟩
/-- The first words of what is shifted are below the divisor. -/
theorem lg_lt {a y s m n U V : Nat} {us0 : List Nat} (hm : 1 ≤ m) (hn : 1 ≤ n) (hl : us0.length = m + n) (hu : dval 18446744073709551616 us0 = a * 2 ^ s) (ha : a < 18446744073709551616 ^ (m + n - 1)) (hy : 18446744073709551616 ^ (n - 1) ≤ y) (hV : V = y * 2 ^ s) (hU : U = dval 18446744073709551616 (us0.drop m)) : U < V := by
  have h1 := dval_split 18446744073709551616 m us0 (by omega)
  have hp : 0 < 2 ^ s := Nat.two_pow_pos s
  have hq : 0 < 18446744073709551616 ^ m := Nat.pow_pos (by omega)
  have h2 : 18446744073709551616 ^ m * U ≤ a * 2 ^ s := by rw [hU, ← hu]; omega
  have h3 : a * 2 ^ s < 18446744073709551616 ^ (m + n - 1) * 2 ^ s := Nat.mul_lt_mul_of_pos_right ha hp
  have h4 : 18446744073709551616 ^ (m + n - 1) = 18446744073709551616 ^ m * 18446744073709551616 ^ (n - 1) := by rw [← Nat.pow_add, show m + (n - 1) = m + n - 1 by omega]
  have h5 : 18446744073709551616 ^ (n - 1) * 2 ^ s ≤ V := by rw [hV]; exact Nat.mul_le_mul_right _ hy
  have h6 : 18446744073709551616 ^ m * U < 18446744073709551616 ^ m * (18446744073709551616 ^ (n - 1) * 2 ^ s) := by
    rw [h4, Nat.mul_assoc] at h3
    omega
  have := Nat.lt_of_mul_lt_mul_left h6
  omega
/-- What divBasic leaves is what the division asks. -/
theorem lg_end {a y s m n : Nat} {us0 vs us qk : List Nat} (h : KnN m n 0 us0 vs us qk) (hu : dval 18446744073709551616 us0 = a * 2 ^ s) (hv : dval 18446744073709551616 vs = y * 2 ^ s) : dval 18446744073709551616 qk = a / y ∧ dval 18446744073709551616 us / 2 ^ s = a % y := by
  have h1 := h.val
  have h2 := h.lt
  rw [List.drop_zero, List.drop_zero, hu, hv] at h1
  rw [List.drop_zero, hv] at h2
  exact lg_num h1 h2
end Go.Proofs.YtfkcobdkgjhfaaaGreatDoor

/- Plain: a divisor that is shifted until its first bit is set. No program in sight. -/
set_option linter.unusedVariables false
set_option linter.unusedSimpArgs false
namespace Go.Proofs.YtfkcobdkgjhfaaaGreatDoor
open Go.RowKit

theorem shc_eq {s : Nat} (hs : s ≤ 64) {xs : List Nat} (hd : Dig 18446744073709551616 xs) (hn : 1 ≤ xs.length) : shc s xs = xs.getD (xs.length - 1) 0 / 2 ^ (64 - s) := by
  have h := (amul_sh hs xs 0 (Nat.two_pow_pos s) hd).2
  rw [if_neg (by omega)] at h
  exact h
theorem shc_lt {s : Nat} (hs : s ≤ 64) {xs : List Nat} (hd : Dig 18446744073709551616 xs) (hn : 1 ≤ xs.length) : shc s xs < 2 ^ s := by
  rw [shc_eq hs hd hn]
  exact sh_carry_lt hs (dig_getD (by omega) hd _)
/-- The top word of a row whose number is great. -/
theorem top_of {n K : Nat} {vs : List Nat} (hl : vs.length = n + 1) (hd : Dig 18446744073709551616 vs) (h : 18446744073709551616 ^ n * K ≤ dval 18446744073709551616 vs) : K ≤ vs.getD n 0 := by
  have h1 := dval_split 18446744073709551616 n vs (by omega)
  rw [dval_drop1, List.drop_of_length_le (by omega : vs.length ≤ n + 1), dval_nil, Nat.mul_zero, Nat.add_zero] at h1
  have h2 := dval_lt (b := 18446744073709551616) (by omega) (dig_take hd n)
  rw [List.length_take, hl, Nat.min_eq_left (by omega)] at h2
  have h3 : 18446744073709551616 ^ n * K < 18446744073709551616 ^ n * (vs.getD n 0 + 1) := by
    rw [Nat.mul_add, Nat.mul_one]; omega
  have := Nat.lt_of_mul_lt_mul_left h3
  omega
theorem lg_sh {s n : Nat} {ys : List Nat} (hl : ys.length = n + 1) (hd : Dig 18446744073709551616 ys) (hs : s ≤ 63) (h1 : 9223372036854775808 ≤ ys.getD n 0 * 2 ^ s) (h2 : ys.getD n 0 * 2 ^ s < 18446744073709551616) :
    dval 18446744073709551616 (shv s ys) = dval 18446744073709551616 ys * 2 ^ s ∧ 9223372036854775808 ≤ (shv s ys).getD n 0 := by
  have hc : shc s ys = 0 := by
    rw [shc_eq (by omega) hd (by omega), hl, Nat.add_sub_cancel]
    refine Nat.div_eq_of_lt ?_
    have e : 2 ^ (64 - s) * 2 ^ s = 18446744073709551616 := by rw [← Nat.pow_add, show 64 - s + s = 64 by omega]
    rw [← e] at h2
    exact Nat.lt_of_mul_lt_mul_right h2
  have hv := shv_val s ys
  rw [hc, dval_append, dval_cons, dval_nil] at hv
  have hv' : dval 18446744073709551616 (shv s ys) = dval 18446744073709551616 ys * 2 ^ s := by simpa using hv
  refine ⟨hv', top_of (by rw [shv_length, hl]) (shv_dig s ys) ?_⟩
  have h3 := dval_split 18446744073709551616 n ys (by omega)
  rw [dval_drop1] at h3
  have h4 : 18446744073709551616 ^ n * ys.getD n 0 ≤ dval 18446744073709551616 ys := by
    rw [h3]
    exact Nat.le_trans (Nat.mul_le_mul_left _ (Nat.le_add_right _ _)) (Nat.le_add_left _ _)
  rw [hv']
  calc 18446744073709551616 ^ n * 9223372036854775808 ≤ 18446744073709551616 ^ n * (ys.getD n 0 * 2 ^ s) := Nat.mul_le_mul_left _ h1
    _ = 18446744073709551616 ^ n * ys.getD n 0 * 2 ^ s := by rw [Nat.mul_assoc]
    _ ≤ dval 18446744073709551616 ys * 2 ^ s := Nat.mul_le_mul_right _ h4
end Go.Proofs.YtfkcobdkgjhfaaaGreatDoor

/- Plain: what nat.divLarge holds once both operands are laid out, and its end. No program in sight. -/
set_option linter.unusedVariables false
set_option linter.unusedSimpArgs false
namespace Go.Proofs.YtfkcobdkgjhfaaaGreatDoor
open Go.RowKit

/-- Both operands are laid out, shifted by s. -/
def LgM (w : World) (gv gu n lu s a y : Nat) (Sv Su : List Value) (W : World) : Prop :=
  ∃ vs us0, vs.length = n ∧ us0.length = lu + 1 ∧ Dig 18446744073709551616 vs ∧ Dig 18446744073709551616 us0 ∧ dval 18446744073709551616 vs = y * 2 ^ s ∧ dval 18446744073709551616 us0 = a * 2 ^ s ∧ 9223372036854775808 ≤ vs.getD (n - 1) 0 ∧ us0.getD lu 0 < vs.getD (n - 1) 0 ∧
    Blk W gv 145 (wv vs ++ Sv).toArray ∧ Blk W gu 145 (wv us0 ++ Su).toArray ∧ Fr w W (fun k => k = gv ∨ k = gu)

theorem words_src {w : World} {g o : Nat} {xs : List Nat} (h : WordsAt w g o xs) : ∀ j v, (wv xs)[j]? = some v → w.cell? ((⟨g, o, none⟩ : Addr).add j) = some v := by
  intro j v hv
  rw [wv_at] at hv
  obtain ⟨d, hd, rfl⟩ := Option.map_eq_some_iff.1 hv
  have hj := (List.getElem?_eq_some_iff.1 hd).1
  have := h j hj
  rw [getD_at hj, (List.getElem?_eq_some_iff.1 hd).2] at this
  exact (by unfold Addr.add; split <;> simp_all)

theorem dig_top {y n1 : Nat} (h : (digs 18446744073709551616 y).length = n1 + 1) : 0 < (digs 18446744073709551616 y).getD n1 0 := by
  rcases Nat.eq_zero_or_pos ((digs 18446744073709551616 y).getD n1 0) with h0 | h0
  · exfalso
    have hc := canon_digs (b := 18446744073709551616) (by omega) y
    unfold Canon at hc
    rw [List.getLast?_eq_getElem?, h, Nat.add_sub_cancel, List.getElem?_eq_getElem (by omega), ← getD_at (by omega), h0] at hc
    exact hc rfl
  · exact h0

theorem lgm_sh {w W : World} {gv gu n n1 lu s a y qu : Nat} {Sv Su : List Value} (hn : n = n1 + 1) (hy : n = (digs 18446744073709551616 y).length) (hlu : lu = (digs 18446744073709551616 a).length) (hlu1 : 1 ≤ lu) (hs : s = nlzN ((digs 18446744073709551616 y).getD n1 0))
    (hv : Blk W gv 145 (wv (shv s (digs 18446744073709551616 y)) ++ Sv).toArray) (hu : Blk W gu 145 (wv (shv s (digs 18446744073709551616 a)) ++ Value.int .u64 (qu : Int) :: Su).toArray) (hq : qu = shc s (digs 18446744073709551616 a)) (hf : Fr w W (fun k => k = gv ∨ k = gu)) : LgM w gv gu n lu s a y Sv Su W := by
  have hyl : (digs 18446744073709551616 y).length = n1 + 1 := by omega
  have hdy := dig_digs (b := 18446744073709551616) (by omega) y
  have hda := dig_digs (b := 18446744073709551616) (by omega) a
  have hsp := nlz_spec _ (dig_top hyl) (dig_getD (by omega) hdy n1)
  rw [← hs] at hsp
  obtain ⟨h1, h2⟩ := lg_sh hyl hdy hsp.1 hsp.2.1 hsp.2.2
  have hql : qu < 2 ^ s := by rw [hq]; exact shc_lt (by omega) hda (by omega)
  have hp : (2 : Nat) ^ s ≤ 2 ^ 63 := Nat.pow_le_pow_right (by omega) hsp.1
  have e63 : (2 : Nat) ^ 63 = 9223372036854775808 := rfl
  have en : n - 1 = n1 := by omega
  refine ⟨shv s (digs 18446744073709551616 y), shv s (digs 18446744073709551616 a) ++ [qu], by rw [shv_length]; omega, by rw [List.length_append, shv_length]; simp; omega, shv_dig _ _, dig_append (shv_dig _ _) (fun e he => by simp at he; omega), by rw [h1, dval_digs (by omega)], by rw [hq, shv_val, dval_digs (by omega)], by rw [en]; exact h2, ?_, hv, by simpa [wv] using hu, hf⟩
  have e2 : lu = (shv s (digs 18446744073709551616 a)).length := by rw [shv_length]; exact hlu
  rw [e2, getD_snoc, en]
  omega
theorem lgm_zero {w W : World} {gv gu n n1 lu a y : Nat} {Sv Su : List Value} (hn : n = n1 + 1) (hy : n = (digs 18446744073709551616 y).length) (hlu : lu = (digs 18446744073709551616 a).length) (hs : 0 = nlzN ((digs 18446744073709551616 y).getD n1 0))
    (hv : Blk W gv 145 (wv (digs 18446744073709551616 y) ++ Sv).toArray) (hu : Blk W gu 145 (wv (digs 18446744073709551616 a) ++ Value.int .u64 0 :: Su).toArray) (hf : Fr w W (fun k => k = gv ∨ k = gu)) : LgM w gv gu n lu 0 a y Sv Su W := by
  have hyl : (digs 18446744073709551616 y).length = n1 + 1 := by omega
  have hdy := dig_digs (b := 18446744073709551616) (by omega) y
  have hda := dig_digs (b := 18446744073709551616) (by omega) a
  have hsp := nlz_spec _ (dig_top hyl) (dig_getD (by omega) hdy n1)
  rw [← hs] at hsp
  have en : n - 1 = n1 := by omega
  refine ⟨digs 18446744073709551616 y, digs 18446744073709551616 a ++ [0], hy.symm, by rw [List.length_append, hlu]; rfl, hdy, dig_append hda (fun e he => by simp at he; omega), by rw [dval_digs (by omega)]; simp, by rw [dval_append, dval_digs (by omega), dval_cons, dval_nil]; simp, by rw [en]; have := hsp.2.1; simpa using this, ?_, hv, by simpa [wv] using hu, hf⟩
  rw [hlu, getD_snoc, en]
  have := hsp.2.1
  simp at this
  omega
theorem lgm_lt {n n1 lu s a y : Nat} {vs us0 : List Nat} (hn : n = n1 + 1) (hy : n = (digs 18446744073709551616 y).length) (hlu : lu = (digs 18446744073709551616 a).length) (hle : n ≤ lu) (hul : us0.length = lu + 1) (hv : dval 18446744073709551616 vs = y * 2 ^ s) (hu : dval 18446744073709551616 us0 = a * 2 ^ s) :
    dval 18446744073709551616 (us0.drop (lu - n + 1)) < dval 18446744073709551616 vs := by
  refine lg_lt (m := lu - n + 1) (n := n) (by omega) (by omega) (by omega) hu ?_ ?_ hv rfl
  · have h := dval_lt (b := 18446744073709551616) (by omega) (dig_digs (b := 18446744073709551616) (by omega) a)
    rw [dval_digs (by omega), ← hlu] at h
    rw [show lu - n + 1 + n - 1 = lu by omega]
    exact h
  · have h1 := dig_top (y := y) (n1 := n1) (by omega)
    have h3 := dval_split 18446744073709551616 n1 (digs 18446744073709551616 y) (by omega)
    rw [dval_drop1, dval_digs (by omega)] at h3
    rw [hn, Nat.add_sub_cancel]
    have h4 : 18446744073709551616 ^ n1 * 1 ≤ 18446744073709551616 ^ n1 * ((digs 18446744073709551616 y).getD n1 0 + 18446744073709551616 * dval 18446744073709551616 ((digs 18446744073709551616 y).drop (n1 + 1))) := Nat.mul_le_mul_left _ (by omega)
    omega

theorem lgm_end {w w5 : World} {gv gu n lu s a y qu cu2 : Nat} {vs xs : List Nat} {Sv : List Value} {cu3 : Array Value} (hxl : xs.length = lu) (hcu : cu3.size = cu2) (hle : lu + 1 ≤ cu2) (hne : gu ≠ gv) (hB4 : Blk w5 gv 145 (wv vs ++ Sv).toArray) (hB5 : Blk w5 gu 145 (wv xs ++ cu3.toList.drop lu).toArray) (hF : Fr w w5 (fun k => k = gv ∨ k = gu))
    (fin : ∀ W, Blk W gv 145 (wv vs ++ Sv).toArray → Blk W gu 145 (wv xs ++ Value.int .u64 (qu : Int) :: cu3.toList.drop (lu + 1)).toArray → Fr w W (fun k => k = gv ∨ k = gu) → LgM w gv gu n lu s a y Sv (cu3.toList.drop (lu + 1)) W) :
    ∃ u0, w5.cell? ⟨gu, lu, none⟩ = some u0 ∧ w5.frozen? ⟨gu, lu, none⟩ = false ∧ LgM w gv gu n lu s a y Sv (cu3.toList.drop (lu + 1)) (w5.setCell ⟨gu, lu, none⟩ (.int .u64 (qu : Int))) := by
  have hlt : lu < cu3.toList.length := by rw [Array.length_toList]; omega
  rw [List.drop_eq_getElem_cons hlt] at hB5
  obtain ⟨xc, xf, xset⟩ := hB5.part (i := lu) (by rw [wv_length]; exact hxl.symm)
  exact ⟨_, xc, xf, fin _ (hB4.far (p := ⟨gu, lu, none⟩) (Ne.symm hne) _) (xset _) (hF.setCell (p := ⟨gu, lu, none⟩) (fun _ => .inr rfl) _)⟩

/-- The end: quotient and rest stand in their rows. -/
theorem lg_fin {w w8 w9 : World} {base a y gv gu gq : Nat} {z z2 : Value} {Q R : Option Addr} {nq nr cq cr : Nat} {qk us : List Nat} (hgv : w.heap.size ≤ gv) (hgu : z2.ownBlock = some gu ∨ w.heap.size ≤ gu) (hgq : z.ownBlock = some gq ∨ w.heap.size ≤ gq) (hne : gq ≠ gu)
    (hf8 : Fr w w8 (fun k => (k = gv ∨ k = gu) ∨ k = gq)) (hf9 : Fr w8 w9 (fun k => k = gu)) (hnq : nq = (trimz qk).length) (hnr : nr = (trimz us).length) (hq : Own w8 base (.slice Q nq cq) (trimz qk)) (hqb : (Value.slice Q nq cq).ownBlock = some gq) (hr : Own w9 base (.slice R nr cr) (trimz us)) (hrb : (Value.slice R nr cr).ownBlock = some gu)
    (eq : trimz qk = digs 18446744073709551616 (a / y)) (er : trimz us = digs 18446744073709551616 (a % y)) : QrP w base z z2 a y (.returned (.tuple #[.slice Q nq cq, .slice R nr cr])) w9 := by
  subst hnq hnr
  rw [eq] at hq hqb ⊢
  rw [er] at hr hrb ⊢
  refine ⟨Q, R, cq, cr, rfl, hq.fr hf9 (fun k hk h => ?_), hr, ?_, ?_, fun k h1 h2 => ?_, Fr.step (hf8.mono (fun k hk h => ?_)) hf9 (fun k hk h => ?_)⟩
  · rw [hqb] at hk; injection hk with hk; exact hne (hk.trans h)
  · rcases hgq with h | h
    · exact .inl (hqb.trans h.symm)
    · exact .inr ⟨gq, hqb, h⟩
  · rcases hgu with h | h
    · exact .inl (hrb.trans h.symm)
    · exact .inr ⟨gu, hrb, h⟩
  · rw [hqb] at h1; rw [hrb] at h2; injection h1 with h1; injection h2 with h2; exact hne (h1.trans h2.symm)
  · rcases h with (h | h) | h
    · omega
    · subst h; exact .inr (hgu.resolve_right (by omega))
    · subst h; exact .inl (hgq.resolve_right (by omega))
  · have h : k = gu := h
    subst h
    exact .inr (hgu.resolve_right (by omega))
end Go.Proofs.YtfkcobdkgjhfaaaGreatDoor

/- Walk: rshVU in place, by 1 to 63 bits. -/
set_option linter.unusedVariables false
set_option linter.unusedSimpArgs false
namespace Go.Proofs.YtfkcobdkgjhfaaaGreatDoor
open Go.RowKit

/-- What rshVU holds: the row is shifted up to place k. -/
structure RhS (w : World) (g s k : Nat) (P S : List Value) (xs : List Nat) (W : World) : Prop where
  blk : Blk W g 145 (P ++ wv ((shrL s xs).take k) ++ wv (xs.drop k) ++ S).toArray
  fr : Fr w W (fun k => k = g)
theorem RhS.drew {w : World} {g s k : Nat} {P S : List Value} {xs : List Nat} {W : World} (h : RhS w g s k P S xs W) : RhS w g s k P S xs W.drew := ⟨h.blk, h.fr.drew⟩
theorem RhS.step {w : World} {g s k o : Nat} {P S : List Value} {xs : List Nat} {W : World} (h : RhS w g s k P S xs W) (ho : o = P.length) (hk : k < xs.length) :
    W.cell? ⟨g, o + k, none⟩ = some (.int .u64 (xs.getD k 0 : Nat)) ∧ (k + 1 < xs.length → W.cell? ⟨g, o + (k + 1), none⟩ = some (.int .u64 (xs.getD (k + 1) 0 : Nat))) ∧ W.frozen? ⟨g, o + k, none⟩ = false ∧ ∀ v, v = (shrL s xs).getD k 0 → RhS w g s (k + 1) P S xs (W.setCell ⟨g, o + k, none⟩ (.int .u64 (v : Int))) := by
  have hB := h.blk
  have hl : ((shrL s xs).take k).length = k := by rw [List.length_take, shrL_length]; omega
  have hB1 := hB
  rw [drop_getD hk, wv_cons, List.append_assoc, List.cons_append] at hB1
  have hpl : o + k = (P ++ wv ((shrL s xs).take k)).length := by rw [List.length_append, wv_length, hl, ho]
  obtain ⟨h1, h2, h3⟩ := hB1.part hpl
  refine ⟨h1, fun hk1 => ?_, h2, fun v hv => ⟨?_, h.fr.setCell (p := ⟨g, o + k, none⟩) (fun _ => rfl) _⟩⟩
  · have hB2 := hB1
    rw [drop_getD hk1, wv_cons] at hB2
    have hB3 : Blk W g 145 ((P ++ wv ((shrL s xs).take k) ++ [Value.int IntKind.u64 ((xs.getD k 0 : Nat) : Int)]) ++ Value.int IntKind.u64 ((xs.getD (k + 1) 0 : Nat) : Int) :: (wv (xs.drop (k + 1 + 1)) ++ S)).toArray := by simpa [List.append_assoc] using hB2
    exact (hB3.part (i := o + (k + 1)) (by rw [List.length_append, ← hpl]; simp; omega)).1
  · subst hv
    have := h3 (.int .u64 (((shrL s xs).getD k 0 : Nat) : Int))
    rw [take_snoc_getD (by rw [shrL_length]; exact hk : k < (shrL s xs).length), wv_append, ← List.append_assoc]
    simpa [wv, List.append_assoc] using this
/-- Behind rshVU. -/
def RhP (w : World) (g s : Nat) (P S : List Value) (xs : List Nat) (e : Ending) (w' : World) : Prop :=
  ∃ v, e = .returned v ∧ Blk w' g 145 (P ++ wv (shrL s xs) ++ S).toArray ∧ Fr w w' (fun k => k = g)

set_option maxHeartbeats 1000000 in
set_option maxRecDepth 20000 in
theorem rshg_any (g o n c1 c2 s : Nat) (P S : List Value) (xs : List Nat) (w : World) (hb : Blk w g 145 (P ++ wv xs ++ S).toArray) (ho : o = P.length) (hn : n = xs.length) (hn1 : 1 ≤ n) (hnb : n ≤ 1099511627776) (hc1 : n ≤ c1) (hc2 : n ≤ c2) (hs1 : 1 ≤ s) (hs63 : s ≤ 63) (hdx : Dig 18446744073709551616 xs) :
    Calls Tryz.prog 206 #[.slice (some ⟨g, o, none⟩) n c1, .slice (some ⟨g, o, none⟩) n c2, .int .u64 (s : Int)] w (RhP w g s P S xs) := by
  have hdig : ∀ i, i < n → xs.getD i 0 < 18446744073709551616 := fun i hi => hdx _ (by rw [getD_at (by omega)]; exact List.getElem_mem _)
  have HS0 : Hid (RhS w g s 0 P S xs w) := ⟨by simpa [wv] using hb, Fr.refl _ _⟩
  have x0 : w.cell? ⟨g, o, none⟩ = some (.int .u64 (xs.getD 0 0 : Nat)) := (HS0.out.step ho (by omega)).1
  obtain ⟨t, ht⟩ : ∃ t, t = 64 - s := ⟨_, rfl⟩
  have a1 : bits .and .u64 (s : Int) 63 = (s : Int) := by
    rw [show (63 : Int) = ((63 : Nat) : Int) from rfl, u64_and_nat s 63 (by omega) (by omega), show (63 : Nat) = 2 ^ 6 - 1 from rfl, Nat.and_two_pow_sub_one_eq_mod, Nat.mod_eq_of_lt (by omega)]
  have a2 : IntKind.u64.wrap (64 - (s : Int)) = (t : Int) := by rw [IntKind.wrap_u64]; omega
  have a2' : (64 : Int) - (s : Int) = (t : Int) := by omega
  have a3 : bits .and .u64 (t : Int) 63 = (t : Int) := by
    rw [show (63 : Int) = ((63 : Nat) : Int) from rfl, u64_and_nat t 63 (by omega) (by omega), show (63 : Nat) = 2 ^ 6 - 1 from rfl, Nat.and_two_pow_sub_one_eq_mod, Nat.mod_eq_of_lt (by omega)]
  have ht63 : t ≤ 63 := by omega
  have hs0 : ((s : Int) == 0) = false := beq_eq_false_iff_ne.2 (by omega)
  have hn0 : ((n : Int) == 0) = false := beq_eq_false_iff_ne.2 (by omega)
  obtain ⟨c0, hc0⟩ : ∃ c0 : Nat, IntKind.u64.wrap (((xs.getD 0 0 : Nat) : Int) * 2 ^ t) = (c0 : Int) := ⟨_, by
    rw [show (((xs.getD 0 0 : Nat) : Int) * 2 ^ t) = ((xs.getD 0 0 * 2 ^ t : Nat) : Int) from by rw [Int.natCast_mul, Int.natCast_pow]; rfl, wrpN]⟩
  generalize xs.getD 0 0 = xj at x0 hc0
  have HZ := hide (And.intro ho (And.intro hn (And.intro hdig (And.intro hs63 (And.intro hs1 ht)))))
  have hn1' : 0 < n := hn1
  clear hb hdig ho hn hdx ht hs1
  go_enter Tryz.func206, Tryz.ntmps206
  go_wp2_with fail
  clear x0 hc0 hn0
  go_loopw [8] (fun vi wr => ∃ i k : Nat, vi = .int .i64 (i : Int) ∧ i ≤ n ∧ k < i ∧ Hid (i = k + 1 ∧ RhS w g s k P S xs wr)) (fun vi _ => n - (intOf vi).toNat)
  case atStart => exact ⟨1, 0, by go_num, hn1, by omega, ⟨rfl, HS0.out⟩⟩
  case round =>
    obtain ⟨i, k, rfl, hin, hki, HR⟩ := hrel
    clear HS0
    obtain ⟨hik, HRs⟩ := HR.out
    have hkn : k < xs.length := by have := HZ.out.2.1; omega
    have w1 : IntKind.i64.wrap ((i : Int) - 1) = (k : Int) := by simp [IntKind.wrap, IntKind.signed, IntKind.bits]; omega
    have w2 : (i : Int) - 1 = (k : Int) := by omega
    by_cases hp : i < n
    · obtain ⟨xk, xi, hf, hst⟩ := HRs.drew.step HZ.out.1 hkn
      obtain ⟨yk, yi, hf2, -⟩ := HRs.step HZ.out.1 hkn
      have xi := xi (by have := HZ.out.2.1; omega)
      have yi := yi (by have := HZ.out.2.1; omega)
      rw [← hik] at xi yi
      obtain ⟨a, ha⟩ : ∃ a, a = xs.getD k 0 / 2 ^ s := ⟨_, rfl⟩
      obtain ⟨b, hb⟩ : ∃ b, b = xs.getD i 0 * 2 ^ (64 - s) % 18446744073709551616 := ⟨_, rfl⟩
      have v1 : ((xs.getD k 0 : Nat) : Int) / 2 ^ s = (a : Int) := by rw [ha, Int.natCast_ediv, Int.natCast_pow]; rfl
      have v2 : IntKind.u64.wrap (((xs.getD i 0 : Nat) : Int) * 2 ^ t) = (b : Int) := by
        rw [hb, HZ.out.2.2.2.2.2, show (((xs.getD i 0 : Nat) : Int) * 2 ^ (64 - s)) = ((xs.getD i 0 * 2 ^ (64 - s) : Nat) : Int) from by rw [Int.natCast_mul, Int.natCast_pow]; rfl, wrpN]
      obtain ⟨d, hd⟩ : ∃ d, d = a + b := ⟨_, rfl⟩
      have v3 : bits .or .u64 (a : Int) (b : Int) = (d : Int) := by
        rw [hd, ha, hb]; exact (shr_or (by have := HZ.out.2.2.2.1; omega) (HZ.out.2.2.1 k (by omega))).1
      have HN := hide (hst d (by rw [hd, ha, hb, shrL_getD s xs k hkn, hik]))
      have w3 : IntKind.i64.wrap ((i : Int) + 1) = ((i + 1 : Nat) : Int) := by simp [IntKind.wrap, IntKind.signed, IntKind.bits]; omega
      have HM : Hid (i + 1 ≤ n ∧ k + 1 < i + 1 ∧ i + 1 = k + 1 + 1) := ⟨by omega, by omega, by omega⟩
      generalize xs.getD i 0 = xi0 at xi yi v2
      generalize xs.getD k 0 = xk0 at xk yk v1
      clear hst HRs HR ha hb hd hik hki hkn HZ hf2
      go_wp2_with fail
      go_region
      all_goals go_wp2
      all_goals go_roundw
      case rel => exact ⟨i + 1, k + 1, by go_num, HM.out.1, HM.out.2.1, ⟨HM.out.2.2, HN.out⟩⟩
      case measure => simp [intOf]; omega
    · obtain rfl : i = n := by omega
      obtain ⟨yk, -, hf2, hst⟩ := HRs.step HZ.out.1 hkn
      obtain ⟨a, ha⟩ : ∃ a, a = xs.getD k 0 / 2 ^ s := ⟨_, rfl⟩
      have v1 : ((xs.getD k 0 : Nat) : Int) / 2 ^ s = (a : Int) := by rw [ha, Int.natCast_ediv, Int.natCast_pow]; rfl
      have HE : Hid (∀ v, RhP w g s P S xs (.returned v) (wr.setCell ⟨g, o + k, none⟩ (.int .u64 (a : Int)))) := fun v => by
        have h := hst a (by rw [ha, shrL_getD s xs k hkn, List.getD_eq_getElem?_getD (l := xs) (i := k + 1), List.getElem?_eq_none (by have := HZ.out.2.1; omega)]; simp)
        have h1 := h.blk
        rw [List.take_of_length_le (by rw [shrL_length]; have := HZ.out.2.1; omega), List.drop_of_length_le (by have := HZ.out.2.1; omega)] at h1
        exact ⟨v, rfl, by simpa [wv] using h1, h.fr⟩
      generalize xs.getD k 0 = xk0 at yk v1
      clear hst HRs HR ha hik hp HZ
      go_wp2
      go_ret
      exact HE.out _
theorem rsh_any (g o n c1 c2 s : Nat) (P S : List Value) (xs : List Nat) (w : World) (hb : Blk w g 145 (P ++ wv xs ++ S).toArray) (ho : o = P.length) (hn : n = xs.length) (hn1 : 1 ≤ n) (hnb : n ≤ 1099511627776) (hc1 : n ≤ c1) (hc2 : n ≤ c2) (hs1 : 1 ≤ s) (hs63 : s ≤ 63) (hdx : Dig 18446744073709551616 xs) :
    Calls Tryz.prog 175 #[.slice (some ⟨g, o, none⟩) n c1, .slice (some ⟨g, o, none⟩) n c2, .int .u64 (s : Int)] w (RhP w g s P S xs) := by
  have Con := hide (rshg_any g o n c1 c2 s P S xs w hb ho hn hn1 hnb hc1 hc2 hs1 hs63 hdx)
  clear hb ho hn hdx
  go_enter Tryz.func175, Tryz.ntmps175
  go_wp2_with fail
  refine (Con.out).mono ?_
  rintro e w1 ⟨v, rfl, h⟩
  have Fin : Hid (RhP w g s P S xs (.returned v) w1) := ⟨v, rfl, h⟩
  clear h Con
  go_wp2
  go_ret
  exact Fin.out
end Go.Proofs.YtfkcobdkgjhfaaaGreatDoor

/- Walk: nat.divLarge by a divisor of two words or three. -/
set_option linter.unusedVariables false
set_option linter.unusedSimpArgs false
namespace Go.Proofs.YtfkcobdkgjhfaaaGreatDoor
open Go.RowKit

set_option maxHeartbeats 4000000 in
set_option maxRecDepth 20000 in
theorem divLarge_few (base gs : Nat) (z z2 : Value) (mz m2 n lu : Nat) (A B : Option Addr) (cu cv a y : Nat) (w : World) (hs : w.cell? ⟨gs, 0, none⟩ = some (.pointer none)) (hgb : gs < base ∨ w.heap.size ≤ gs + 1) (hsz : z.ownBlock ≠ some gs ∧ z2.ownBlock ≠ some gs)
    (hz : Room w base z mz) (hz2 : Room w base z2 m2) (hzz : ∀ k, z.ownBlock = some k → z2.ownBlock ≠ some k) (hb : base ≤ w.heap.size) (hn : n = (digs 18446744073709551616 y).length) (hlu : lu = (digs 18446744073709551616 a).length) (hn2 : 2 ≤ n) (hn3 : n ≤ 3) (hlun : n ≤ lu) (hlu2 : lu ≤ 900)
    (hx : RdW w (.slice A lu cu) (digs 18446744073709551616 a)) (hxb : ∀ k, (Value.slice A lu cu).ownBlock = some k → z.ownBlock ≠ some k ∧ z2.ownBlock ≠ some k) (hy : RdW w (.slice B n cv) (digs 18446744073709551616 y)) (hyb : ∀ k, (Value.slice B n cv).ownBlock = some k → z.ownBlock ≠ some k ∧ z2.ownBlock ≠ some k)
    (hvar : w.cell? ⟨0, 0, none⟩ = some (.int .i64 40)) (hvb : 0 < base) :
    Calls Tryz.prog 145 #[z, .pointer (some ⟨gs, 0, none⟩), z2, .slice A lu cu, .slice B n cv] w (QrP w base z z2 a y) := by
  obtain ⟨n1, hn1⟩ : ∃ i, n = i + 1 := ⟨n - 1, by omega⟩
  obtain ⟨m0, hm0⟩ : ∃ i, lu = n + i := ⟨lu - n, by omega⟩
  obtain ⟨g, o, rfl, hgl, hyc⟩ := RdG.at_ (k := .u64) hy n1 (by omega)
  have HG0 := hide hgl
  clear hgl
  obtain ⟨top, htop⟩ : ∃ t, t = (digs 18446744073709551616 y).getD n1 0 := ⟨_, rfl⟩
  rw [← htop] at hyc
  have htl : top < 18446744073709551616 := by rw [htop]; exact dig_getD (by omega) (dig_digs (by omega) _) _
  have ConN := hide (fun W => nlz_any top htl W)
  have ConS := hide (snat_few gs n w hs (by omega) (by omega))
  unfold NewRow at ConS
  have i1 : (lu : Int) - (n : Int) = (m0 : Int) := by omega
  have i2 : (n : Int) - 1 = (n1 : Int) := by omega
  obtain ⟨l1, hl1⟩ : ∃ i, i = lu + 1 := ⟨_, rfl⟩
  have i3 : (lu : Int) + 1 = (l1 : Int) := by omega
  have g3 : -1000000 ≤ (l1 : Int) ∧ (l1 : Int) ≤ 1000000 := by omega
  have g1 : -1000000 ≤ (m0 : Int) ∧ (m0 : Int) ≤ 1000000 := by omega
  have g2 : -1000000 ≤ (n1 : Int) ∧ (n1 : Int) ≤ 1000000 := by omega
  have j1 : n1 < n := by omega
  have H0 := hide (And.intro hz (And.intro hz2 (And.intro hzz (And.intro hb (And.intro hn (And.intro hlu (And.intro hx (And.intro hxb (And.intro hy (And.intro hyb (And.intro hvar hvb)))))))))))
  have H1 := hide (And.intro hn1 (And.intro hm0 (And.intro htop (And.intro hlun (And.intro hlu2 hsz)))))
  clear hz hz2 hzz hb hn hlu hx hxb hy hyb hvar hvb hn1 hm0 htop hlun hlu2 hsz htl hgb
  have HL1 := hide hl1
  clear hl1
  have k3 : IntKind.i64.wrap ((lu : Int) + 1) = (l1 : Int) := kn_i64 i3 g3
  have k3' : wrap64 ((lu : Int) + 1) = (l1 : Int) := kn_w64 i3 g3
  have k1 : IntKind.i64.wrap ((lu : Int) - (n : Int)) = (m0 : Int) := kn_i64 i1 g1
  have k1' : wrap64 ((lu : Int) - (n : Int)) = (m0 : Int) := kn_w64 i1 g1
  have k2 : IntKind.i64.wrap ((n : Int) - 1) = (n1 : Int) := kn_i64 i2 g2
  have k2' : wrap64 ((n : Int) - 1) = (n1 : Int) := kn_w64 i2 g2
  clear i1 i2 i3 g1 g2 g3
  have HS0 := hide hs
  go_enter_defers Tryz.func145, Tryz.ntmps145
  go_wp2_with fail
  refine (save_nil gs _ hs).mono ?_
  rintro e w1 ⟨rfl, rfl⟩
  go_wp2_with fail
  refine (ConN.out _).mono ?_
  rintro e1 w1 ⟨rfl, rfl⟩
  clear hs
  go_wp2_with fail
  refine (ConS.out).mono ?_
  rintro e2 w2 ⟨gv, cap, cur, rfl, hgv, hBv, hnc, hcm, hcs, hb2⟩
  have hlu2 := H1.out.2.2.2.2.1
  have conU := make_any base z2 m2 (l1 : Int) w2 (H0.out.2.1.fr (Fr.of_below hb2 (fun _ => False)) (fun _ _ h => h)) (Nat.le_trans H0.out.2.2.2.1 hb2.size) (by omega) (by have := HL1.out; omega)
  rw [Int.toNat_natCast] at conU
  have ConU := hide conU
  have HV := hide (And.intro hgv (And.intro hBv (And.intro hnc (And.intro hcm (And.intro hcs hb2)))))
  clear hgv hBv hcm hcs hb2 hlu2 conU ConS ConN
  go_wp2_with fail
  refine (ConU.out).mono ?_
  rintro e3 w3 ⟨r, rfl, hru, hrb, hb3⟩
  clear ConU
  rcases hru.form with ⟨-, hl0⟩ | ⟨gu, cu2, cu3, rfl, hgu, hBu, hle, hmx, hsz⟩
  · exfalso; have := HL1.out; omega
  have hguv : gu ≠ gv := by
    have h1 := hBu.lt
    have h2 := HV.out.1
    have h3 := HV.out.2.1.lt
    rcases hrb with h | h
    · have := H0.out.2.1.lt (k := gu) (by rw [← h]; rfl)
      omega
    · have h4 : gu = w2.heap.size := (by injection h)
      omega
  have HU := hide (And.intro hru (And.intro hrb hb3))
  have HU2 := hide (And.intro hgu (And.intro hBu (And.intro hle (And.intro hmx (And.intro hsz hguv)))))
  have hlcu : lu ≤ cu2 := by have := HL1.out; omega
  have hll1 : lu < l1 := by have := HL1.out; omega
  clear hru hrb hb3 hgu hBu hle hmx hsz hguv
  obtain ⟨s, hs⟩ : ∃ s, s = nlzN top := ⟨_, rfl⟩
  rw [← hs]
  have HS := hide hs
  clear hs k1 k1' k2 k2' k3 k3'
  have hs0 : Hid (w1.cell? ⟨gs, 0, none⟩ = some (.pointer none)) := HS0
  go_upto_if 40 with fail
  go_cut [] from 40 (fun wx => Hid (LgM w1 gv gu n lu s a y (cur.toList.drop n) (cu3.toList.drop (lu + 1)) wx))
  case first =>
    rcases Nat.eq_zero_or_pos s with h0 | h0
    · subst h0
      have hsb : (((0 : Nat) : Int) == 0) = true := rfl
      have hyl := H0.out.2.2.2.2.1
      have hlul := H0.out.2.2.2.2.2.1
      have hne := HU2.out.2.2.2.2.2
      have hn1e := H1.out.1
      have hlun := H1.out.2.2.2.1
      have hb3 := below_next HV.out.2.2.2.2.2 HU.out.2.2
      have hyr := RdG.below (k := .u64) H0.out.2.2.2.2.2.2.2.2.1 hb3
      have hxr := RdG.below (k := .u64) H0.out.2.2.2.2.2.2.1 hb3
      obtain ⟨ga, oa, eA, hga, -⟩ := RdG.at_ (k := .u64) H0.out.2.2.2.2.2.2.1 0 (by omega)
      obtain ⟨ys, hys⟩ : ∃ ys, ys = digs 18446744073709551616 y := ⟨_, rfl⟩
      obtain ⟨xs, hxs⟩ : ∃ xs, xs = digs 18446744073709551616 a := ⟨_, rfl⟩
      rw [← hys] at hyl hyr
      rw [← hxs] at hlul hxr
      subst eA
      have hgav : ga ≠ gv := by have := HV.out.1; omega
      have hwy : WordsAt w3 g o ys := fun i hi => by
        obtain ⟨g5, o5, e5, -, h5⟩ := RdG.at_ (k := .u64) hyr i hi
        injection e5 with e5; injection e5 with e5 e6; subst e5 e6; exact h5
      have hwx : WordsAt w3 ga oa xs := fun i hi => by
        obtain ⟨g5, o5, e5, -, h5⟩ := RdG.at_ (k := .u64) hxr i hi
        injection e5 with e5; injection e5 with e5 e6; subst e5 e6; exact h5
      obtain ⟨W4, hW4⟩ : ∃ W, W = w3.setRow gv (wv ys ++ cur.toList.drop (wv ys).length).toArray := ⟨_, rfl⟩
      have hBv3 := HV.out.2.1.below HU.out.2.2
      have hF4 : Fr w3 W4 (fun k => k = gv) := by rw [hW4]; exact (Fr.refl w3 (fun k => k = gv)).setRow (fun _ => rfl) _
      have hB4 : Blk W4 gv 145 (wv ys ++ cur.toList.drop n).toArray := by
        rw [hW4, wv_length, ← hyl]; exact hBv3.setRow _
      have hBu4 := HU2.out.2.1.fr hF4 (fun h => hne h)
      have hwx4 := hwx.fr hF4 (fun h => hgav h)
      obtain ⟨W5, hW5⟩ : ∃ W, W = W4.setRow gu (wv xs ++ cu3.toList.drop (wv xs).length).toArray := ⟨_, rfl⟩
      have hF5 : Fr W4 W5 (fun k => k = gu) := by rw [hW5]; exact (Fr.refl W4 (fun k => k = gu)).setRow (fun _ => rfl) _
      have hB5 : Blk W5 gu 145 (wv xs ++ cu3.toList.drop lu).toArray := by
        rw [hW5, wv_length, ← hlul]; exact hBu4.setRow _
      obtain ⟨u0, xc, xf, hL⟩ := lgm_end (w := w1) (w5 := W5) (gv := gv) (gu := gu) (n := n) (lu := lu) (s := 0) (a := a) (y := y) (qu := 0) (cu2 := cu2) (cu3 := cu3) (Sv := cur.toList.drop n) hlul.symm HU2.out.2.2.2.2.1 (by have := HL1.out; have := HU2.out.2.2.1; omega) hne (hB4.fr hF5 (fun h => hne h.symm)) hB5
        (Fr.step (Fr.step (Fr.of_below hb3 (fun k => k = gv ∨ k = gu)) hF4 (fun i hi h => .inl h)) hF5 (fun i hi h => .inr h))
        (fun W h1 h2 h3 => lgm_zero hn1e H0.out.2.2.2.2.1 H0.out.2.2.2.2.2.1 (by rw [← H1.out.2.2.1]; exact HS.out) (hys ▸ h1) (hxs ▸ h2) h3)
      have HL := hide hL
      have HB4 : Hid (w3.heap[gv]? = some (.cells cur 145 (0, 0))) := hBv3
      have HB5 : Hid (W4.heap[gu]? = some (.cells cu3 145 (0, 0))) := hBu4
      have HX4 := hide (words_src hwy)
      have HX5 := hide (words_src hwx4)
      have fit4 : (wv ys).length ≤ cur.size := by rw [wv_length, ← hyl, HV.out.2.2.2.2.1]; exact HV.out.2.2.1
      have fit5 : (wv xs).length ≤ cu3.size := by rw [wv_length, ← hlul, HU2.out.2.2.2.2.1]; exact hlcu
      have HN4 : Hid ((wv ys).length = Nat.min n n) := by rw [wv_length, ← hyl]; exact (Nat.min_self _).symm
      have HN5 : Hid ((wv xs).length = Nat.min lu lu) := by rw [wv_length, ← hlul]; exact (Nat.min_self _).symm
      have HFit := hide (And.intro fit4 fit5)
      clear hb3 hyr hxr hwy hwx hBv3 hF4 hB4 hBu4 hwx4 hF5 hB5 hL fit4 fit5 hgav hga hn1e hlun hyl hlul hys hxs hne
      go_upto_region 9 with (refine wpList_copy_own rfl (.tmp 41) (.tmp 42) 65 65 rfl 145 Tryz.underlying65 sizeWord gv 0 _ _ ⟨g, o, none⟩ _ _ rfl rfl cur _ HB4.out (wv ys) HN4.out ?_ ?_ wv_one ?_; exact HX4.out; (rw [Nat.zero_add]; exact HFit.out.1))
      simp only [List.take_zero, List.nil_append, Nat.zero_add]
      rw [← hW4]
      clear hW4
      go_upto_region 10 with (refine wpList_copy_own rfl (.tmp 47) (.tmp 48) 65 65 rfl 145 Tryz.underlying65 sizeWord gu 0 _ _ ⟨ga, oa, none⟩ _ _ rfl rfl cu3 _ HB5.out (wv xs) HN5.out ?_ ?_ wv_one ?_; exact HX5.out; (rw [Nat.zero_add]; exact HFit.out.2))
      simp only [List.take_zero, List.nil_append, Nat.zero_add]
      rw [← hW5]
      clear hW5
      go_wp2_with fail
      go_meet
      exact HL.out
    · have htl : top < 18446744073709551616 := by rw [H1.out.2.2.1]; exact dig_getD (by omega) (dig_digs (by omega) _) _
      have hn1e := H1.out.1
      have hyl := H0.out.2.2.2.2.1
      have htp : 0 < top := by
        rcases Nat.eq_zero_or_pos top with h | h
        · exfalso
          have hc := canon_digs (b := 18446744073709551616) (by omega) y
          unfold Canon at hc
          rw [List.getLast?_eq_getElem?, ← hyl, hn1e, Nat.add_sub_cancel, List.getElem?_eq_getElem (by omega), ← getD_at (by omega), ← H1.out.2.2.1, h] at hc
          exact hc rfl
        · exact h
      have hsp := nlz_spec top htp htl
      rw [← HS.out] at hsp
      have hBv3 := HV.out.2.1.below HU.out.2.2
      have hyr := RdG.below (k := .u64) H0.out.2.2.2.2.2.2.2.2.1 (below_next HV.out.2.2.2.2.2 HU.out.2.2)
      have hgv := HV.out.1
      have conL := lsh_any gv 0 n cap s [] (cur.toList.drop n) (cur.toList.take n) (some ⟨g, o, none⟩) cv (digs 18446744073709551616 y) w3 (by simpa [List.take_append_drop] using hBv3) rfl (by rw [List.length_take, Array.length_toList, HV.out.2.2.2.2.1, ← hyl]; have := HV.out.2.2.1; omega) hyl (by omega) HV.out.2.2.1 hyr (fun k hk => by have hk' : g = k := (by injection hk); have := HG0.out; omega) (dig_digs (by omega) _) h0 hsp.1 (by omega)
      have ConL := hide conL
      have HSP := hide hsp
      have hsb : ((s : Int) == 0) = false := beq_eq_false_iff_ne.2 (by omega)
      have hsb2 : (s == 0) = false := beq_eq_false_iff_ne.2 (by omega)
      clear htl hn1e hyl htp hsp hBv3 hyr hgv conL
      go_wp2_with fail
      refine (ConL.out).mono ?_
      rintro e4 w4 ⟨qv, rfl, hqv, hB4, hF4⟩
      clear ConL
      have hkA : ∀ k, (Value.slice A lu cu).ownBlock = some k → k < w1.heap.size := fun k hk => by
        rcases hA : A with _ | ⟨ga, oa, pa⟩
        · rw [hA] at hk; cases hk
        · obtain ⟨g5, o5, e5, h5, -⟩ := RdG.at_ (k := .u64) H0.out.2.2.2.2.2.2.1 0 (by rw [← H0.out.2.2.2.2.2.1]; have := H1.out.2.2.2.1; omega)
          rw [e5] at hk
          have e6 : g5 = k := (by injection hk)
          omega
      have hxr := (RdG.below (k := .u64) H0.out.2.2.2.2.2.2.1 (below_next HV.out.2.2.2.2.2 HU.out.2.2)).fr hF4 (fun k hk h => by
        have h1 := hkA k hk
        have h2 := HV.out.1
        have h3 : k = gv := h
        omega)
      have hxu : ∀ k, (Value.slice A lu cu).ownBlock = some k → k ≠ gu := fun k hk e => by
        subst e
        rcases HU.out.2.1 with h | h
        · exact (H0.out.2.2.2.2.2.2.2.1 k hk).2 (h.symm.trans rfl)
        · have h1 := hkA k hk
          have h2 : k = w2.heap.size := (by injection h)
          have := HV.out.2.2.2.2.2.size
          omega
      have hBu4 := HU2.out.2.1.fr hF4 (fun h => HU2.out.2.2.2.2.2 h)
      have hlul := H0.out.2.2.2.2.2.1
      have hlu900 := H1.out.2.2.2.2.1
      have hlcu' : lu + 1 ≤ cu2 := by have := HL1.out; have := HU2.out.2.2.1; omega
      have conM := lsh_any gu 0 lu cu2 s [] (cu3.toList.drop lu) (cu3.toList.take lu) A cu (digs 18446744073709551616 a) w4 (by simpa [List.take_append_drop] using hBu4) rfl (by rw [List.length_take, Array.length_toList, HU2.out.2.2.2.2.1, ← hlul]; omega) hlul (by omega) hlcu hxr hxu (dig_digs (by omega) _) h0 HSP.out.1 (by have := H1.out.2.2.2.1; omega)
      have ConM := hide conM
      have H4 := hide (And.intro hqv.out (And.intro hB4 hF4))
      clear hkA hxu hxr hBu4 hlul hlu900 conM hqv hB4 hF4
      go_wp2_with fail
      refine (ConM.out).mono ?_
      rintro e5 w5 ⟨qu, rfl, hqu, hB5, hF5⟩
      clear ConM
      have hsl : (shv s (digs 18446744073709551616 a)).length = lu := by rw [shv_length]; exact H0.out.2.2.2.2.2.1.symm
      have hne := HU2.out.2.2.2.2.2
      obtain ⟨u0, xc, xf, hL⟩ := lgm_end (w := w1) (w5 := w5) (gv := gv) (gu := gu) (n := n) (lu := lu) (s := s) (a := a) (y := y) (qu := qu) (cu2 := cu2) (cu3 := cu3) (Sv := cur.toList.drop n) hsl HU2.out.2.2.2.2.1 hlcu' hne (by have h := H4.out.2.1.fr hF5 (fun h => hne h.symm); simpa using h) (by simpa using hB5)
        (Fr.step (Fr.step (Fr.of_below (below_next HV.out.2.2.2.2.2 HU.out.2.2) (fun k => k = gv ∨ k = gu)) H4.out.2.2 (fun i hi h => .inl h)) hF5 (fun i hi h => .inr h))
        (fun W h1 h2 h3 => lgm_sh H1.out.1 H0.out.2.2.2.2.1 H0.out.2.2.2.2.2.1 (by have := H1.out.2.2.2.1; have := H1.out.1; omega) (by rw [← H1.out.2.2.1]; exact HS.out) h1 h2 hqu.out h3)
      have HL := hide hL
      clear hL hsl hne hB5 hF5 hqu H4 hlcu'
      go_wp2_with fail
      go_meet
      exact HL.out
  case rest =>
    obtain ⟨vs, us0, hvl, hul, hdv, hdu, hvv, huu, htp, hut, hBv, hBu, hF⟩ := hcut.out
    obtain ⟨Sv, hSv⟩ : ∃ S, S = cur.toList.drop n := ⟨_, rfl⟩
    obtain ⟨Su, hSu⟩ : ∃ S, S = cu3.toList.drop (lu + 1) := ⟨_, rfl⟩
    rw [← hSv] at hBv
    rw [← hSu] at hBu
    have hgu := HU2.out.1
    have hgv := HV.out.1
    have hl1 := HL1.out
    have hSul : l1 + Su.length = cu2 := by rw [hSu, List.length_drop, Array.length_toList, HU2.out.2.2.2.2.1]; have := HU2.out.2.2.1; omega
    have hgub : z2.ownBlock = some gu ∨ w1.heap.size ≤ gu := by
      rcases HU.out.2.1 with h | h
      · exact .inl h.symm
      · have h2 : gu = w2.heap.size := (by injection h)
        have := HV.out.2.2.2.2.2.size
        exact .inr (by omega)
    have hRu : Room wc base (.slice (some ⟨gu, 0, none⟩) l1 cu2) l1 := Room.mk hgu hBu HU2.out.2.2.1 HU2.out.2.2.2.1 (by simp [wv_length]; omega)
    have hzk : ∀ k, z.ownBlock = some k → k ≠ gv ∧ k ≠ gu := fun k hk => by
      have h1 := (H0.out.1.lt hk).2
      refine ⟨fun e => by omega, fun e => ?_⟩
      subst e
      rcases hgub with h | h
      · exact H0.out.2.2.1 k hk h
      · omega
    have hRz : Room wc base z mz := H0.out.1.fr hF (fun k hk h => h.elim (hzk k hk).1 (hzk k hk).2)
    have ConA := hide (alias_rows base base mz l1 z (.slice (some ⟨gu, 0, none⟩) l1 cu2) wc hRz hRu (fun k hk h => (hzk k hk).2 (by injection h with h; exact h.symm)))
    obtain ⟨m1, hm1⟩ : ∃ i, i = m0 + 1 := ⟨_, rfl⟩
    have HN := hide (And.intro hvl (And.intro hul (And.intro hdv (And.intro hdu (And.intro hvv (And.intro huu (And.intro htp hut)))))))
    have HW := hide (And.intro hBv (And.intro hBu hF))
    have HG := hide (And.intro hgu (And.intro hgv (And.intro hgub (And.intro hzk (And.intro hSul hm1)))))
    have HRz := hide hRz
    clear hvl hul hdv hdu hvv huu htp hut hBv hBu hF hSv hSu hgu hgv hl1 hSul hgub hRu hzk hRz hm1 hcut hlcu hll1
    go_wp2_with fail
    refine (ConA.out).mono ?_
    rintro e6 w6 ⟨rfl, jd, hw6⟩
    have hb6 : Below wc.heap.size wc w6 := by rw [hw6]; exact below_drewN wc jd
    have hm1 := HG.out.2.2.2.2.2
    have hm0 := H1.out.2.1
    have e1 : (m0 : Int) + 1 = (m1 : Int) := by omega
    have e2 : -1000000 ≤ (m1 : Int) ∧ (m1 : Int) ≤ 1000000 := by have := H1.out.2.2.2.2.1; omega
    have conQ := make_any base z mz (m1 : Int) w6 (HRz.out.fr (Fr.of_below hb6 (fun _ => False)) (fun _ _ h => h)) (by have := HW.out.2.2.size; have := hb6.size; have := H0.out.2.2.2.1; omega) (by omega) (by omega)
    rw [Int.toNat_natCast] at conQ
    have ConQ := hide conQ
    have H7 := hide hb6
    clear conQ hb6 hm1 hm0 hw6 ConA
    have k4 : IntKind.i64.wrap ((m0 : Int) + 1) = (m1 : Int) := kn_i64 e1 e2
    have k4' : wrap64 ((m0 : Int) + 1) = (m1 : Int) := kn_w64 e1 e2
    clear e1 e2
    go_wp2_with fail
    refine (ConQ.out).mono ?_
    rintro e7 w7 ⟨rq, rfl, hrq, hrqb, hb7⟩
    clear k4 k4' ConQ
    have hm1 := HG.out.2.2.2.2.2
    rcases hrq.form with ⟨-, h⟩ | ⟨gq, cq, qcur, rfl, hgq, hBq, hle, hmx, hsz⟩
    · exfalso; omega
    have hFc := HW.out.2.2
    have hgl : gs < w1.heap.size := World.block_lt_of_cell? _ _ hs0.out
    have hgqb : z.ownBlock = some gq ∨ wc.heap.size ≤ gq := by
      rcases hrqb with h | h
      · exact .inl h.symm
      · have h2 : gq = w6.heap.size := (by injection h)
        have := H7.out.size
        exact .inr (by omega)
    have hBvl := HW.out.1.lt
    have hBul := HW.out.2.1.lt
    have hqv : gq ≠ gv := by
      rcases hgqb with h | h
      · exact (HG.out.2.2.2.1 gq h).1
      · omega
    have hqu : gq ≠ gu := by
      rcases hgqb with h | h
      · exact (HG.out.2.2.2.1 gq h).2
      · omega
    have hsv : gs ≠ gv := by have := HG.out.2.1; omega
    have hsu : gs ≠ gu := by
      rcases HG.out.2.2.1 with h | h
      · rintro rfl; exact H1.out.2.2.2.2.2.2 h
      · omega
    have hsq : gs ≠ gq := by
      rcases hgqb with h | h
      · rintro rfl; exact H1.out.2.2.2.2.2.1 h
      · have := hFc.size; omega
    have hF7 : Fr wc w7 (fun _ => False) := (Fr.of_below H7.out (fun _ => False)).trans (Fr.of_below hb7 (fun _ => False))
    have hs7 : w7.cell? ⟨gs, 0, none⟩ = some (.pointer none) := hF7.cell (hFc.cell hs0.out (fun h => h.elim hsv hsu)) (fun h => h)
    have hvar7 : w7.cell? ⟨0, 0, none⟩ = some (.int .i64 40) := hF7.cell (hFc.cell H0.out.2.2.2.2.2.2.2.2.2.2.1 (fun h => by have h1 := H0.out.2.2.2.2.2.2.2.2.2.2.2; have h2 := HG.out.1; have h3 := HG.out.2.1; have h4 := H0.out.2.2.2.1; rcases h with h | h <;> (have h : 0 = _ := h; omega))) (fun h => h)
    have hBv7 := HW.out.1.fr hF7 (fun h => h)
    have hBu7 := HW.out.2.1.fr hF7 (fun h => h)
    have hlu2 := H1.out.2.2.2.2.1
    have hm0 := H1.out.2.1
    have hn1 := H1.out.1
    have hl1 := HL1.out
    have hrv : RdW w7 (.slice (some ⟨gv, 0, none⟩) n cap) vs := by
      have e := HN.out.1
      subst e
      exact .inr ⟨gv, 0, cap, rfl, HV.out.2.2.1, HV.out.2.2.2.1, WordsAt.of_blk hBv7 (fun i hi => by
        rw [Nat.zero_add, List.getElem?_toArray, List.getElem?_append_left (by rw [wv_length]; exact hi), wv_at, List.getElem?_eq_getElem hi, getD_at hi]; rfl)⟩
    have hltd := lgm_lt H1.out.1 H0.out.2.2.2.2.1 H0.out.2.2.2.2.2.1 H1.out.2.2.2.1 HN.out.2.1 HN.out.2.2.2.2.1 HN.out.2.2.2.2.2.1
    have em : lu - n + 1 = m1 := by omega
    rw [em] at hltd
    have emn : m1 + n = lu + 1 := by omega
    have hqsp : Blk w7 gq 145 (qcur.toList.take m1 ++ qcur.toList.drop m1).toArray := by simpa [List.take_append_drop] using hBq
    have ConB := hide (divBasic_few gs gu gv gq m1 n l1 cq cu2 cap us0 vs Su (qcur.toList.drop m1) (qcur.toList.take m1) w7 hs7 ⟨hsu, hsq⟩ hBu7 hqsp (by rw [List.length_take, Array.length_toList]; omega) hrv ⟨Ne.symm hqu, HU2.out.2.2.2.2.2, hqv⟩ (by omega) (by rw [HN.out.2.1]; omega) HN.out.2.2.2.1 HN.out.1 HN.out.2.2.1 hn2 hn3 (by omega) (by omega) (by have := HN.out.2.2.2.2.2.2.1; omega) (by rw [show m1 + n - 1 = lu by omega]; exact HN.out.2.2.2.2.2.2.2) hltd (by have := HU2.out.2.2.1; omega) HU2.out.2.2.2.1 hle hmx HV.out.2.2.1 HV.out.2.2.2.1)
    unfold BasP at ConB
    have HQ := hide (And.intro hgq (And.intro hle (And.intro hmx (And.intro hsz (And.intro hgqb (And.intro hqv (And.intro hqu (And.intro hF7 (And.intro hs7 (And.intro hsu (And.intro hsq (And.intro hsv emn))))))))))))
    have t1 : (n : Int) < 40 := by omega
    have t2 : n < 40 := by omega
    clear hrq hrqb hb7 hgq hBq hle hmx hsz hFc hgl hgqb hBvl hBul hqv hqu hsv hsu hsq hF7 hs7 hBv7 hBu7 hlu2 hm0 hn1 hl1 hrv hltd em emn hqsp hm1 H7 HRz
    go_wp2_with fail
    refine (ConB.out).mono ?_
    rintro e8 w8 ⟨rfl, us, qk, hK, hBu8, hBq8, hF8⟩
    clear ConB hvar7 t1 t2
    have HSU := hide HQ.out.2.2.2.2.2.2.2.2.2.1
    have hql : qk.length = m1 := by have := hK.hq; omega
    have hul8 : us.length = l1 := by have := hK.hu; have := HQ.out.2.2.2.2.2.2.2.2.2.2.2.2; have := HL1.out; omega
    have hOq : Own w8 base (.slice (some ⟨gq, 0, none⟩) m1 cq) qk := by
      have h := Own.mk (xs := qk) (cap := cq) HQ.out.1 hBq8 (by have := HQ.out.2.1; omega) HQ.out.2.2.1 (by have := HQ.out.2.1; have := HQ.out.2.2.2.1; simp [wv_length]; omega) (by rw [← wv_length]; simp)
      rwa [hql] at h
    have ConN2 := hide (norm_own base _ qk w8 hOq)
    have ConR := hide (rsh_any gu 0 l1 cu2 cu2 s [] Su us w8 (by simpa using hBu8) rfl hul8.symm)
    obtain ⟨e1, e2⟩ := lg_end hK HN.out.2.2.2.2.2.1 HN.out.2.2.2.2.1
    have hde := hK.du
    have hdq := hK.dq
    have H8 := hide (And.intro hBu8 (And.intro hF8 (And.intro hul8 (And.intro hde (And.intro e2 (And.intro (show trimz qk = digs 18446744073709551616 (a / y) by rw [← digs_dval_trim (by omega) hdq, e1]) (hF8.cell HQ.out.2.2.2.2.2.2.2.2.1 (fun h => h.elim HQ.out.2.2.2.2.2.2.2.2.2.1 HQ.out.2.2.2.2.2.2.2.2.2.2.1))))))))
    clear hK hBu8 hBq8 hF8 hql hul8 hOq e1 e2 hde hdq
    generalize hnq : (trimz qk).length = nq at ConN2
    have HNQ := hide hnq
    clear hnq
    go_wp2_with fail
    refine (ConN2.out).mono ?_
    rintro e9 w9 ⟨A7, c7, rfl, hown7, hblk7, rfl⟩
    clear ConN2
    have hst8 := H8.out.2.2.2.2.2.2
    have hU8 := H8.out.1
    have hle := HU2.out.2.2.1
    have hOu : ∀ (W : World) (xs : List Nat), xs.length = l1 → Blk W gu 145 (wv xs ++ Su).toArray → Own W base (.slice (some ⟨gu, 0, none⟩) l1 cu2) xs := fun W xs hx hB => by
      have h := Own.mk (xs := xs) (cap := cu2) HU2.out.1 hB (by omega) HU2.out.2.2.2.1 (by have := HG.out.2.2.2.2.1; simp [wv_length]; omega) (by rw [← wv_length]; simp)
      rwa [hx] at h
    have hFq : Fr w1 w8 (fun k => (k = gv ∨ k = gu) ∨ k = gq) := Fr.step (Fr.step (HW.out.2.2.mono (fun k _ h => .inl h)) HQ.out.2.2.2.2.2.2.2.1 (fun _ _ h => h.elim)) H8.out.2.1 (fun k _ h => h.elim (fun h => .inl (.inr h)) .inr)
    have hgqb : z.ownBlock = some gq ∨ w1.heap.size ≤ gq := HQ.out.2.2.2.2.1.imp id (fun h => by have := HW.out.2.2.size; omega)
    have hFin : ∀ (W : World) (xs : List Nat) (A9 : Option Addr) (nr c9 : Nat), Fr w8 W (fun k => k = gu) → nr = (trimz xs).length → Own W base (.slice A9 nr c9) (trimz xs) → (Value.slice A9 nr c9).ownBlock = some gu → trimz xs = digs 18446744073709551616 (a % y) → QrP w1 base z z2 a y (.returned (.tuple #[.slice A7 nq c7, .slice A9 nr c9])) W := fun W xs A9 nr c9 hf hnr ho hb he =>
      lg_fin HG.out.2.1 HG.out.2.2.1 hgqb HQ.out.2.2.2.2.2.2.1 hFq hf HNQ.out.symm hnr hown7 hblk7 ho hb H8.out.2.2.2.2.2.1 he
    have HFin := hide hFin
    clear hFin hgqb hFq hown7 hblk7 HG HW HQ
    rcases Nat.eq_zero_or_pos s with h0 | h0
    · have hsb : ((s : Int) == 0) = true := by rw [h0]; rfl
      have hd1 := H8.out.2.2.2.1
      have hv1 := H8.out.2.2.2.2.1
      rw [h0, Nat.pow_zero, Nat.div_one] at hv1
      have he : trimz us = digs 18446744073709551616 (a % y) := by rw [← digs_dval_trim (by omega) hd1, hv1]
      have ConE := hide (norm_own base _ us w8 (hOu w8 us H8.out.2.2.1 hU8))
      have HE := hide (HFin.out w8 us)
      have HE2 := hide he
      clear hd1 hv1 he hU8 hOu ConR H8 HFin
      generalize hnr : (trimz us).length = nr at ConE
      have HNR := hide hnr
      clear hnr
      go_wp2_with fail
      refine (ConE.out).mono ?_
      rintro e10 w10 ⟨A9, c9, rfl, hown9, hblk9, rfl⟩
      have Fin := hide (HE.out A9 nr c9 (Fr.refl _ _) HNR.out.symm hown9 hblk9 HE2.out)
      clear hown9 hblk9 HE ConE
      go_wp2
      refine leaves_cons (f := 167) (args := #[.pointer (some ⟨gs, 0, none⟩), .int .i64 0]) (by simp) (by simp [go_sem]) ?_
      refine (restore_deferred gs .returning _ hst8).mono ?_
      rintro e1 u' w11 ⟨rfl, rfl, rfl⟩
      exact ⟨_, results_tmp2 (t := 10) (u := 11) rfl _ _ _, Fin.out⟩
    · have hsb : ((s : Int) == 0) = false := beq_eq_false_iff_ne.2 (by omega)
      have hs63 : s ≤ 63 := by
        have htl : top < 18446744073709551616 := by rw [H1.out.2.2.1]; exact dig_getD (by omega) (dig_digs (by omega) _) _
        have htp : 0 < top := by rw [H1.out.2.2.1]; exact dig_top (by rw [← H0.out.2.2.2.2.1]; exact H1.out.1)
        rw [HS.out]; exact (nlz_spec top htp htl).1
      have hl1 := HL1.out
      have conR := ConR.out (by omega) (by have := H1.out.2.2.2.2.1; omega) (by omega) (by omega) h0 hs63 H8.out.2.2.2.1
      unfold RhP at conR
      have ConR2 := hide conR
      clear conR ConR hl1
      go_wp2_with fail
      refine (ConR2.out).mono ?_
      rintro e10 w10 ⟨rv, rfl, hB10, hF10⟩
      have hB10' : Blk w10 gu 145 (wv (shrL s us) ++ Su).toArray := by simpa using hB10
      have hd1 := shrL_dig (s := s) (by omega) H8.out.2.2.2.1
      have hv1 := shrL_val (s := s) (by omega) us
      rw [H8.out.2.2.2.2.1] at hv1
      have he : trimz (shrL s us) = digs 18446744073709551616 (a % y) := by rw [← digs_dval_trim (by omega) hd1, hv1]
      have ConE := hide (norm_own base _ (shrL s us) w10 (hOu w10 _ (by rw [shrL_length]; exact H8.out.2.2.1) hB10'))
      have HE := hide (HFin.out w10 (shrL s us))
      have HE2 := hide (And.intro he hF10)
      have hst10 : w10.cell? ⟨gs, 0, none⟩ = some (.pointer none) := hF10.cell hst8 HSU.out
      clear hd1 hv1 he hU8 hOu H8 HFin hB10 hB10' hF10 ConR2 hst8
      generalize hnr : (trimz (shrL s us)).length = nr at ConE
      have HNR := hide hnr
      clear hnr
      go_wp2_with fail
      refine (ConE.out).mono ?_
      rintro e11 w11 ⟨A9, c9, rfl, hown9, hblk9, rfl⟩
      have Fin := hide (HE.out A9 nr c9 HE2.out.2 HNR.out.symm hown9 hblk9 HE2.out.1)
      clear hown9 hblk9 HE ConE
      go_wp2
      refine leaves_cons (f := 167) (args := #[.pointer (some ⟨gs, 0, none⟩), .int .i64 0]) (by simp) (by simp [go_sem]) ?_
      refine (restore_deferred gs .returning _ hst10).mono ?_
      rintro e1 u' w12 ⟨rfl, rfl, rfl⟩
      exact ⟨_, results_tmp2 (t := 10) (u := 11) rfl _ _ _, Fin.out⟩
end Go.Proofs.YtfkcobdkgjhfaaaGreatDoor
