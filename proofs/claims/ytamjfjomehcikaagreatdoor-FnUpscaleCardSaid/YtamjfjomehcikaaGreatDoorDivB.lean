/- The division of digits (base b) by a small number, as a plain function. -/
import Derived.Test.YtamjfjomehcikaaGreatDoorDivMath
set_option linter.unusedVariables false
set_option linter.unusedSimpArgs false
namespace Go.Proofs.YtamjfjomehcikaaGreatDoor

/-- Quotient's digits (lowest first, as many as there are) and what is left. -/
def divB (b y : Nat) : List Nat → List Nat × Nat
  | [] => ([], 0)
  | x :: xs => let p := divB b y xs; ((p.2 * b + x) / y :: p.1, (p.2 * b + x) % y)

theorem divB_cons (b y x : Nat) (xs : List Nat) : divB b y (x :: xs) = (((divB b y xs).2 * b + x) / y :: (divB b y xs).1, ((divB b y xs).2 * b + x) % y) := rfl
theorem divB_length (b y : Nat) : ∀ xs, (divB b y xs).1.length = xs.length
  | [] => rfl
  | x :: xs => by simp [divB, divB_length b y xs]
theorem divB_rest (b : Nat) {y : Nat} (hy : 0 < y) : ∀ xs, (divB b y xs).2 < y
  | [] => hy
  | x :: xs => Nat.mod_lt _ hy
theorem divB_dig {b y : Nat} (hy : 0 < y) : ∀ xs, Dig b xs → Dig b (divB b y xs).1
  | [], _ => fun d hd => by simp [divB] at hd
  | x :: xs, h => by
    intro d hd
    simp only [divB, List.mem_cons] at hd
    rcases hd with rfl | hd
    · have h1 := divB_rest b hy xs
      have h2 : x < b := h x (by simp)
      rw [Nat.div_lt_iff_lt_mul hy]
      have h3 : ((divB b y xs).2 + 1) * b ≤ y * b := Nat.mul_le_mul_right _ h1
      rw [Nat.add_mul] at h3
      rw [Nat.mul_comm b y]
      omega
    · exact divB_dig hy xs (fun e he => h e (by simp [he])) d hd
theorem divB_val (b y : Nat) : ∀ xs, dval b xs = y * dval b (divB b y xs).1 + (divB b y xs).2
  | [] => by simp [dval, divB]
  | x :: xs => by
    have h1 := divB_val b y xs
    have h2 := Nat.div_add_mod ((divB b y xs).2 * b + x) y
    simp only [divB, dval]
    rw [h1]
    generalize (divB b y xs).1 = q at *
    generalize (divB b y xs).2 = r at *
    generalize hA : (r * b + x) / y = a at *
    generalize hB : (r * b + x) % y = c at *
    have e : y * (a + b * dval b q) = y * a + b * (y * dval b q) := by
      rw [Nat.mul_add, Nat.mul_left_comm]
    have e2 : b * (y * dval b q + r) = b * (y * dval b q) + r * b := by rw [Nat.mul_add, Nat.mul_comm b r]
    omega
theorem divB_quo {b y : Nat} (hy : 0 < y) (xs : List Nat) : dval b (divB b y xs).1 = dval b xs / y ∧ (divB b y xs).2 = dval b xs % y :=
  dww_fix hy (divB_val b y xs) (divB_rest b hy xs)
theorem divB_digs {b y : Nat} (hb : 1 < b) (hy : 0 < y) {xs : List Nat} (h : Dig b xs) : trimz (divB b y xs).1 = digs b (dval b xs / y) := by
  rw [← (divB_quo hy xs).1, digs_dval_trim hb (divB_dig hy xs h)]
end Go.Proofs.YtamjfjomehcikaaGreatDoor
