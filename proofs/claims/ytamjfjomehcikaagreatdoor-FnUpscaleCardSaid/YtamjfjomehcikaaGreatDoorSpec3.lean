/- Walks: spec's Words, HasWords. -/
import Derived.Test.YtamjfjomehcikaaGreatDoorSpec2
import Derived.BigRegion
set_option linter.unusedVariables false
set_option linter.unusedSimpArgs false
namespace Go.Proofs.YtamjfjomehcikaaGreatDoor
open Go.RowKit

/-- Four digits to a word. -/
def pk : List Nat → List Nat
  | [] => []
  | a :: t => dval 65536 ((a :: t).take 4) :: pk (t.drop 3)
  termination_by xs => xs.length
  decreasing_by simp; omega

theorem pk_nil : pk [] = [] := by unfold pk; rfl
theorem pk_cons (a : Nat) (t : List Nat) : pk (a :: t) = dval 65536 ((a :: t).take 4) :: pk (t.drop 3) := by rw [pk]
theorem pk_short {xs : List Nat} (h : xs ≠ []) (hl : xs.length ≤ 4) : pk xs = [dval 65536 xs] := by
  cases xs with
  | nil => exact absurd rfl h
  | cons a t =>
    rw [pk_cons, List.take_of_length_le hl, List.drop_of_length_le (by simp at hl; omega), pk_nil]
theorem pk_append4 {xs : List Nat} (hl : xs.length = 4) (ys : List Nat) : pk (xs ++ ys) = dval 65536 xs :: pk ys := by
  cases xs with
  | nil => simp at hl
  | cons a t =>
    simp only [List.length_cons] at hl
    rw [List.cons_append, pk_cons]
    congr 1
    · rw [← List.cons_append, List.take_append_of_le_length (by simp; omega), List.take_of_length_le (by simp; omega)]
    · rw [List.drop_append, List.drop_of_length_le (by omega)]
      simp [show 3 - t.length = 0 by omega]
theorem dval_pk (xs : List Nat) : dval 18446744073709551616 (pk xs) = dval 65536 xs := by
  induction h : xs.length using Nat.strongRecOn generalizing xs with
  | _ n ih =>
    rcases Nat.lt_or_ge 4 xs.length with h4 | h4
    · have e : xs = xs.take 4 ++ xs.drop 4 := (List.take_append_drop 4 xs).symm
      rw [e, pk_append4 (by rw [List.length_take]; omega), dval_cons, ih (xs.drop 4).length (by rw [List.length_drop]; omega) _ rfl, dval_append, List.length_take, Nat.min_eq_left (by omega)]
    · by_cases h0 : xs = []
      · subst h0; rw [pk_nil]; rfl
      · rw [pk_short h0 h4, dval_cons, dval_nil]; omega
theorem pk_length (xs : List Nat) : (pk xs).length = (xs.length + 3) / 4 := by
  induction h : xs.length using Nat.strongRecOn generalizing xs with
  | _ n ih =>
    rcases Nat.lt_or_ge 4 xs.length with h4 | h4
    · have e : xs = xs.take 4 ++ xs.drop 4 := (List.take_append_drop 4 xs).symm
      rw [e, pk_append4 (by rw [List.length_take]; omega), List.length_cons, ih (xs.drop 4).length (by rw [List.length_drop]; omega) _ rfl, List.length_drop]
      omega
    · by_cases h0 : xs = []
      · subst h0; rw [pk_nil]; simp at h; subst h; rfl
      · have : 0 < xs.length := List.length_pos_iff.2 h0
        rw [pk_short h0 h4]; simp; omega
theorem pk_dig {xs : List Nat} (hd : Dig 65536 xs) : Dig 18446744073709551616 (pk xs) := by
  induction h : xs.length using Nat.strongRecOn generalizing xs with
  | _ n ih =>
    have small : ∀ ys : List Nat, Dig 65536 ys → ys.length ≤ 4 → dval 65536 ys < 18446744073709551616 := fun ys hy hl => by
      have h1 := dval_lt (b := 65536) (by omega) hy
      have h2 : 65536 ^ ys.length ≤ 65536 ^ 4 := Nat.pow_le_pow_right (by omega) hl
      omega
    rcases Nat.lt_or_ge 4 xs.length with h4 | h4
    · have e : xs = xs.take 4 ++ xs.drop 4 := (List.take_append_drop 4 xs).symm
      rw [e, pk_append4 (by rw [List.length_take]; omega)]
      intro d hd'
      rcases List.mem_cons.1 hd' with rfl | hd'
      · exact small _ (fun x hx => hd x (List.mem_of_mem_take hx)) (by rw [List.length_take]; omega)
      · exact ih (xs.drop 4).length (by rw [List.length_drop]; omega) (fun x hx => hd x (List.mem_of_mem_drop hx)) rfl d hd'
    · by_cases h0 : xs = []
      · subst h0; rw [pk_nil]; intro d hd'; cases hd'
      · rw [pk_short h0 h4]
        intro d hd'
        rw [List.mem_singleton.1 hd']
        exact small _ hd h4
theorem pk_canon {xs : List Nat} (hd : Canon xs) : Canon (pk xs) := by
  induction h : xs.length using Nat.strongRecOn generalizing xs with
  | _ n ih =>
    rcases Nat.lt_or_ge 4 xs.length with h4 | h4
    · have e : xs = xs.take 4 ++ xs.drop 4 := (List.take_append_drop 4 xs).symm
      have hne : xs.drop 4 ≠ [] := by intro h0; have := congrArg List.length h0; simp at this; omega
      have hc : Canon (xs.drop 4) := by
        unfold Canon at hd ⊢
        rw [e, List.getLast?_append] at hd
        cases hx : (xs.drop 4).getLast? with
        | none => simp
        | some z => rw [hx] at hd; simpa using hd
      have := ih (xs.drop 4).length (by rw [List.length_drop]; omega) hc rfl
      rw [e, pk_append4 (by rw [List.length_take]; omega)]
      have hne2 : pk (xs.drop 4) ≠ [] := by
        intro h0
        have := congrArg List.length h0
        rw [pk_length, List.length_drop] at this
        simp at this; omega
      unfold Canon at this ⊢
      rw [List.getLast?_cons]
      cases hx : (pk (xs.drop 4)).getLast? with
      | none => exact absurd (List.getLast?_eq_none_iff.1 hx) hne2
      | some z => simp; intro ez; subst ez; exact this hx
    · by_cases h0 : xs = []
      · subst h0; rw [pk_nil]; exact canon_nil
      · rw [pk_short h0 h4]
        have := dval_pos (b := 65536) (by omega) hd h0
        unfold Canon; simp; omega
/-- The words of a number out of its digits. -/
theorem pk_digs (n : Nat) : pk (digs 65536 n) = digs 18446744073709551616 n := by
  have h := digs_dval (b := 18446744073709551616) (by omega) (pk_dig (dig_digs (b := 65536) (by omega) n)) (pk_canon (canon_digs (by omega) n))
  rw [dval_pk, dval_digs (by omega)] at h
  exact h.symm

theorem pk_snoc0 {xs : List Nat} (h : xs.length % 4 = 0) (d : Nat) : pk (xs ++ [d]) = pk xs ++ [d] := by
  induction hl : xs.length using Nat.strongRecOn generalizing xs with
  | _ n ih =>
    rcases Nat.lt_or_ge 3 xs.length with h4 | h4
    · have e : xs = xs.take 4 ++ xs.drop 4 := (List.take_append_drop 4 xs).symm
      have e4 : (xs.take 4).length = 4 := by rw [List.length_take]; omega
      have h1 := ih (xs.drop 4).length (by rw [List.length_drop]; omega) (xs := xs.drop 4) (by rw [List.length_drop]; omega) rfl
      rw [e, List.append_assoc, pk_append4 e4, pk_append4 e4, h1]; rfl
    · obtain rfl : xs = [] := List.eq_nil_of_length_eq_zero (by omega)
      rw [pk_nil, List.nil_append, pk_short (by simp) (by simp)]
      simp [dval_cons, dval_nil]
theorem pk_snoc {xs : List Nat} (h : xs.length % 4 ≠ 0) (d : Nat) : pk (xs ++ [d]) = (pk xs).set (xs.length / 4) ((pk xs).getD (xs.length / 4) 0 + 65536 ^ (xs.length % 4) * d) := by
  induction hl : xs.length using Nat.strongRecOn generalizing xs with
  | _ n ih =>
    rcases Nat.lt_or_ge 3 xs.length with h4 | h4
    · have e : xs = xs.take 4 ++ xs.drop 4 := (List.take_append_drop 4 xs).symm
      have e4 : (xs.take 4).length = 4 := by rw [List.length_take]; omega
      have hdl : (xs.drop 4).length = xs.length - 4 := List.length_drop
      have h1 := ih (xs.drop 4).length (by omega) (xs := xs.drop 4) (by omega) rfl
      have q1 : n / 4 = (xs.drop 4).length / 4 + 1 := by omega
      have q2 : n % 4 = (xs.drop 4).length % 4 := by omega
      have e5 : pk xs = dval 65536 (xs.take 4) :: pk (xs.drop 4) := by
        conv => lhs; rw [e]
        exact pk_append4 e4 _
      rw [q1, q2, e5, List.set_cons_succ, List.getD_cons_succ]
      conv => lhs; rw [e, List.append_assoc, pk_append4 e4, h1]
    · have h0 : xs ≠ [] := by rintro rfl; simp at h
      rw [pk_short h0 (by omega), pk_short (by simp) (by simp; omega), ← hl, show xs.length / 4 = 0 by omega, show xs.length % 4 = xs.length by omega, dval_append]
      simp [dval_cons, dval_nil]
theorem pk_last {xs : List Nat} (hd : Dig 65536 xs) : (pk xs).getD (xs.length / 4) 0 < 65536 ^ (xs.length % 4) := by
  induction hl : xs.length using Nat.strongRecOn generalizing xs with
  | _ n ih =>
    rcases Nat.lt_or_ge 3 xs.length with h4 | h4
    · have e : xs = xs.take 4 ++ xs.drop 4 := (List.take_append_drop 4 xs).symm
      have e4 : (xs.take 4).length = 4 := by rw [List.length_take]; omega
      have hdl : (xs.drop 4).length = xs.length - 4 := List.length_drop
      have h1 := ih (xs.drop 4).length (by omega) (xs := xs.drop 4) (fun x hx => hd x (List.mem_of_mem_drop hx)) rfl
      have q1 : n / 4 = (xs.drop 4).length / 4 + 1 := by omega
      have q2 : n % 4 = (xs.drop 4).length % 4 := by omega
      rw [q1, q2, e, pk_append4 e4, List.getD_cons_succ]
      simpa using h1
    · by_cases h0 : xs = []
      · subst h0; simp at hl; subst hl; rw [pk_nil]; simp
      · rw [pk_short h0 (by omega), ← hl, show xs.length / 4 = 0 by omega, show xs.length % 4 = xs.length by omega]
        exact dval_lt (by omega) hd
end Go.Proofs.YtamjfjomehcikaaGreatDoor
