/- Plain facts on numbers and their digits: no program is in sight. -/
set_option linter.unusedVariables false
set_option linter.unusedSimpArgs false
namespace Go.Proofs.YtamjfjomehcikaaGreatDoor

/-- The number that digits tell, the lowest first. -/
def dval (b : Nat) : List Nat → Nat
  | [] => 0
  | d :: r => d + b * dval b r

/-- The digits of a number, the lowest first, no nought at the end. -/
def digs (b n : Nat) : List Nat := if _h : n = 0 ∨ b ≤ 1 then [] else n % b :: digs b (n / b)
  termination_by n
  decreasing_by exact Nat.div_lt_self (by omega) (by omega)

/-- All digits are below the base. -/
def Dig (b : Nat) (xs : List Nat) : Prop := ∀ d, d ∈ xs → d < b
/-- No nought at the end. -/
def Canon (xs : List Nat) : Prop := xs.getLast? ≠ some 0

theorem dval_nil (b : Nat) : dval b [] = 0 := rfl
theorem dval_cons (b d : Nat) (r : List Nat) : dval b (d :: r) = d + b * dval b r := rfl
theorem digs_zero (b : Nat) : digs b 0 = [] := by unfold digs; simp
theorem digs_pos {b n : Nat} (hb : 1 < b) (hn : 0 < n) : digs b n = n % b :: digs b (n / b) := by
  rw [digs, dif_neg (by omega)]

theorem dval_digs {b : Nat} (hb : 1 < b) (n : Nat) : dval b (digs b n) = n := by
  induction n using Nat.strongRecOn with
  | _ n ih =>
    rcases Nat.eq_zero_or_pos n with rfl | hn
    · rw [digs_zero]; rfl
    · rw [digs_pos hb hn, dval_cons, ih _ (Nat.div_lt_self hn hb)]
      exact Nat.mod_add_div n b

theorem dig_digs {b : Nat} (hb : 1 < b) (n : Nat) : Dig b (digs b n) := by
  induction n using Nat.strongRecOn with
  | _ n ih =>
    rcases Nat.eq_zero_or_pos n with rfl | hn
    · rw [digs_zero]; intro d hd; cases hd
    · rw [digs_pos hb hn]
      intro d hd
      rcases List.mem_cons.1 hd with rfl | hd
      · exact Nat.mod_lt _ (by omega)
      · exact ih _ (Nat.div_lt_self hn hb) d hd

theorem digs_ne_nil {b n : Nat} (hb : 1 < b) (hn : 0 < n) : digs b n ≠ [] := by
  rw [digs_pos hb hn]; simp

theorem canon_digs {b : Nat} (hb : 1 < b) (n : Nat) : Canon (digs b n) := by
  induction n using Nat.strongRecOn with
  | _ n ih =>
    rcases Nat.eq_zero_or_pos n with rfl | hn
    · rw [digs_zero]; simp [Canon]
    · rw [digs_pos hb hn]
      have h := ih _ (Nat.div_lt_self hn hb)
      unfold Canon at h ⊢
      rcases Nat.eq_zero_or_pos (n / b) with h0 | h0
      · rw [h0, digs_zero]
        have : n % b = n := Nat.mod_eq_of_lt ((Nat.div_eq_zero_iff_lt (by omega)).1 h0)
        simp; omega
      · rw [List.getLast?_cons]
        cases hx : (digs b (n / b)).getLast? with
        | none => exact absurd (List.getLast?_eq_none_iff.1 hx) (digs_ne_nil hb h0)
        | some z => simp; intro e; subst e; exact h hx

theorem canon_tail {d : Nat} {r : List Nat} (h : Canon (d :: r)) (hr : r ≠ []) : Canon r := by
  unfold Canon at *
  rw [List.getLast?_cons] at h
  cases hx : r.getLast? with
  | none => exact absurd (List.getLast?_eq_none_iff.1 hx) hr
  | some z => rw [hx] at h; simpa using h

theorem dval_pos {b : Nat} (hb : 0 < b) : ∀ {xs : List Nat}, Canon xs → xs ≠ [] → 0 < dval b xs
  | [], _, h => absurd rfl h
  | d :: r, hc, _ => by
    rw [dval_cons]
    by_cases hr : r = []
    · subst hr; unfold Canon at hc; simp at hc; simp [dval_nil]; omega
    · have := Nat.mul_pos hb (dval_pos hb (canon_tail hc hr) hr); omega

theorem canon_nil : Canon [] := by simp [Canon]

theorem digs_dval {b : Nat} (hb : 1 < b) : ∀ {xs : List Nat}, Dig b xs → Canon xs → digs b (dval b xs) = xs
  | [], _, _ => by rw [dval_nil, digs_zero]
  | d :: r, hd, hc => by
    have h1 : d < b := hd d (by simp)
    have hp : 0 < dval b (d :: r) := dval_pos (by omega) hc (by simp)
    rw [digs_pos hb hp, dval_cons, Nat.add_mul_mod_self_left, Nat.mod_eq_of_lt h1, Nat.add_mul_div_left _ _ (by omega), Nat.div_eq_of_lt h1, Nat.zero_add]
    congr 1
    by_cases hr : r = []
    · subst hr; rw [dval_nil, digs_zero]
    · exact digs_dval hb (fun e he => hd e (by simp [he])) (canon_tail hc hr)

theorem dval_append (b : Nat) : ∀ xs ys : List Nat, dval b (xs ++ ys) = dval b xs + b ^ xs.length * dval b ys
  | [], ys => by simp [dval_nil]
  | d :: r, ys => by
    rw [List.cons_append, dval_cons, dval_cons, dval_append b r ys, List.length_cons, Nat.pow_succ, Nat.mul_add, Nat.add_assoc]
    congr 2
    rw [← Nat.mul_assoc, Nat.mul_comm b (b ^ _)]

theorem dval_lt {b : Nat} (hb : 0 < b) : ∀ {xs : List Nat}, Dig b xs → dval b xs < b ^ xs.length
  | [], _ => by simp [dval_nil]
  | d :: r, hd => by
    have h1 : d < b := hd d (by simp)
    have h2 := dval_lt hb (xs := r) (fun e he => hd e (by simp [he]))
    rw [dval_cons, List.length_cons, Nat.pow_succ, Nat.mul_comm (b ^ _) b]
    calc d + b * dval b r < b + b * dval b r := by omega
      _ = b * (dval b r + 1) := by rw [Nat.mul_add, Nat.mul_one, Nat.add_comm]
      _ ≤ b * b ^ r.length := Nat.mul_le_mul_left _ h2

theorem dval_replicate_zero (b k : Nat) : dval b (List.replicate k 0) = 0 := by
  induction k with
  | zero => rfl
  | succ k ih => rw [List.replicate_succ, dval_cons, ih]; simp

theorem digs_inj {b : Nat} (hb : 1 < b) {m n : Nat} (h : digs b m = digs b n) : m = n := by
  rw [← dval_digs hb m, h, dval_digs hb]

theorem digs_length_le {b : Nat} (hb : 1 < b) {n k : Nat} (h : n < b ^ k) : (digs b n).length ≤ k := by
  induction k generalizing n with
  | zero => simp at h; subst h; rw [digs_zero]; simp
  | succ k ih =>
    rcases Nat.eq_zero_or_pos n with rfl | hn
    · rw [digs_zero]; simp
    · rw [digs_pos hb hn, List.length_cons]
      have : n / b < b ^ k := by
        rw [Nat.div_lt_iff_lt_mul (by omega)]
        rwa [Nat.pow_succ] at h
      have := ih this
      omega

theorem lt_of_digs_length {b : Nat} (hb : 1 < b) {n k : Nat} (h : (digs b n).length ≤ k) : n < b ^ k := by
  have h1 := dval_lt (b := b) (by omega) (dig_digs hb n)
  rw [dval_digs hb] at h1
  exact Nat.lt_of_lt_of_le h1 (Nat.pow_le_pow_right (by omega) h)

theorem le_of_digs_length {b : Nat} (hb : 1 < b) {n k : Nat} (h : k < (digs b n).length) : b ^ k ≤ n := by
  rcases Nat.lt_or_ge n (b ^ k) with h1 | h1
  · have := digs_length_le hb h1; omega
  · exact h1

/-- Noughts at the end taken off. -/
def trimz : List Nat → List Nat
  | [] => []
  | d :: r => match trimz r with
    | [] => if d = 0 then [] else [d]
    | t => d :: t

theorem trimz_canon : ∀ xs : List Nat, Canon (trimz xs)
  | [] => canon_nil
  | d :: r => by
    have ih := trimz_canon r
    unfold trimz
    cases h : trimz r with
    | nil => by_cases hd : d = 0 <;> simp [hd, Canon]
    | cons e t =>
      rw [h] at ih
      simp only
      unfold Canon at *
      rw [List.getLast?_cons]
      cases hx : (e :: t).getLast? with
      | none => simp at hx
      | some z => simp; intro ez; subst ez; exact ih hx

theorem dval_trimz (b : Nat) : ∀ xs : List Nat, dval b (trimz xs) = dval b xs
  | [] => rfl
  | d :: r => by
    have ih := dval_trimz b r
    unfold trimz
    cases h : trimz r with
    | nil =>
      rw [h, dval_nil] at ih
      by_cases hd : d = 0
      · simp [hd, dval_cons, dval_nil, ← ih]
      · simp [hd, dval_cons, dval_nil, ← ih]
    | cons e t => rw [h] at ih; simp only [dval_cons b d]; rw [ih]

theorem trimz_dig {b : Nat} : ∀ {xs : List Nat}, Dig b xs → Dig b (trimz xs)
  | [], _ => fun d hd => by cases hd
  | d :: r, h => by
    have ih := trimz_dig (xs := r) (fun e he => h e (by simp [he]))
    have hd := h d (by simp)
    unfold trimz
    cases ht : trimz r with
    | nil =>
      by_cases h0 : d = 0
      · simp [h0]; intro e he; cases he
      · simp [h0]; intro e he; simp at he; omega
    | cons e t =>
      rw [ht] at ih
      intro x hx
      rcases List.mem_cons.1 hx with rfl | hx
      · exact hd
      · exact ih x hx

theorem digs_dval_trim {b : Nat} (hb : 1 < b) {xs : List Nat} (h : Dig b xs) : digs b (dval b xs) = trimz xs := by
  rw [← dval_trimz, digs_dval hb (trimz_dig h) (trimz_canon xs)]

theorem trimz_of_canon : ∀ {xs : List Nat}, Canon xs → trimz xs = xs
  | [], _ => rfl
  | d :: r, h => by
    unfold trimz
    by_cases hr : r = []
    · subst hr; unfold Canon at h; simp at h; simp [trimz]; omega
    · rw [trimz_of_canon (canon_tail h hr)]
      cases r with
      | nil => exact absurd rfl hr
      | cons e t => rfl

theorem trimz_snoc_zero : ∀ xs : List Nat, trimz (xs ++ [0]) = trimz xs
  | [] => by simp [trimz]
  | d :: r => by rw [List.cons_append]; unfold trimz; rw [trimz_snoc_zero r]

theorem canon_snoc {xs : List Nat} {d : Nat} (h : d ≠ 0) : Canon (xs ++ [d]) := by
  unfold Canon; rw [List.getLast?_append]; simp; omega

end Go.Proofs.YtamjfjomehcikaaGreatDoor
