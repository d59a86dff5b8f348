/- The division of a row of words by one word, as a plain function. -/
import Derived.Test.YtjacmmcmjnkikaaGreatDoorDivMath
set_option linter.unusedVariables false
set_option linter.unusedSimpArgs false
namespace Go.Proofs.YtjacmmcmjnkikaaGreatDoor

/-- Quotient's words (lowest first, as many as there are) and what is left. -/
def divD (y : Nat) : List Nat → List Nat × Nat
  | [] => ([], 0)
  | x :: xs => let p := divD y xs; ((p.2 * 18446744073709551616 + x) / y :: p.1, (p.2 * 18446744073709551616 + x) % y)

theorem divD_length (y : Nat) : ∀ xs, (divD y xs).1.length = xs.length
  | [] => rfl
  | x :: xs => by simp [divD, divD_length y xs]
theorem divD_rest {y : Nat} (hy : 0 < y) : ∀ xs, (divD y xs).2 < y
  | [] => hy
  | x :: xs => Nat.mod_lt _ hy
theorem divD_dig {y : Nat} (hy : 0 < y) : ∀ xs, Dig 18446744073709551616 xs → Dig 18446744073709551616 (divD y xs).1
  | [], _ => fun d hd => by simp [divD] at hd
  | x :: xs, h => by
    intro d hd
    simp only [divD, List.mem_cons] at hd
    rcases hd with rfl | hd
    · have h1 := divD_rest hy xs
      have h2 : x < 18446744073709551616 := h x (by simp)
      rw [Nat.div_lt_iff_lt_mul hy]
      have : ((divD y xs).2 + 1) * 18446744073709551616 ≤ y * 18446744073709551616 := Nat.mul_le_mul_right _ h1
      omega
    · exact divD_dig hy xs (fun e he => h e (by simp [he])) d hd
theorem divD_val (y : Nat) : ∀ xs, dval 18446744073709551616 xs = y * dval 18446744073709551616 (divD y xs).1 + (divD y xs).2
  | [] => by simp [dval, divD]
  | x :: xs => by
    have h1 := divD_val y xs
    have h2 := Nat.div_add_mod ((divD y xs).2 * 18446744073709551616 + x) y
    simp only [divD, dval]
    rw [h1]
    generalize (divD y xs).1 = q at *
    generalize (divD y xs).2 = r at *
    generalize (r * 18446744073709551616 + x) / y = a at *
    generalize (r * 18446744073709551616 + x) % y = b at *
    have e : y * (a + 18446744073709551616 * dval 18446744073709551616 q) = y * a + 18446744073709551616 * (y * dval 18446744073709551616 q) := by
      rw [Nat.mul_add, Nat.mul_left_comm]
    omega
theorem divD_quo {y : Nat} (hy : 0 < y) (xs : List Nat) : dval 18446744073709551616 (divD y xs).1 = dval 18446744073709551616 xs / y ∧ (divD y xs).2 = dval 18446744073709551616 xs % y :=
  dww_fix hy (divD_val y xs) (divD_rest hy xs)
end Go.Proofs.YtjacmmcmjnkikaaGreatDoor
