/- Parts of the proofs: MulMath, ShMath, Bits1. -/
import Derived.Test.YtfkcobdkgjhfaaaGreatDoorShelf
import Derived.Laws.Externs
import Derived.Test.YtfkcobdkgjhfaaaGreatDoorG2
/- Plain arithmetic under the multiplication of rows of digits: no program is in sight. -/
set_option linter.unusedVariables false
set_option linter.unusedSimpArgs false
namespace Go.Proofs.YtfkcobdkgjhfaaaGreatDoor

/-- zs + xs * d + c, digit by digit (base b), and what is carried out. -/
def amul (b d : Nat) : List Nat → List Nat → Nat → List Nat × Nat
  | z :: zs, x :: xs, c => ((z + x * d + c) % b :: (amul b d zs xs ((z + x * d + c) / b)).1, (amul b d zs xs ((z + x * d + c) / b)).2)
  | _, _, c => ([], c)

theorem amul_nil (b d c : Nat) : amul b d [] [] c = ([], c) := rfl
theorem amul_cons (b d z x c : Nat) (zs xs : List Nat) : amul b d (z :: zs) (x :: xs) c = ((z + x * d + c) % b :: (amul b d zs xs ((z + x * d + c) / b)).1, (amul b d zs xs ((z + x * d + c) / b)).2) := rfl
theorem amul_length (b d : Nat) : ∀ {zs xs : List Nat} (c : Nat), zs.length = xs.length → (amul b d zs xs c).1.length = xs.length
  | [], [], _, _ => rfl
  | [], _ :: _, _, h => by simp at h
  | _ :: _, [], _, h => by simp at h
  | z :: zs, x :: xs, c, h => by simp [amul_cons, amul_length b d (zs := zs) (xs := xs) _ (by simpa using h)]
theorem amul_snoc (b d z x : Nat) : ∀ {zs xs : List Nat} (c : Nat), zs.length = xs.length →
    amul b d (zs ++ [z]) (xs ++ [x]) c = ((amul b d zs xs c).1 ++ [(z + x * d + (amul b d zs xs c).2) % b], (z + x * d + (amul b d zs xs c).2) / b)
  | [], [], _, _ => rfl
  | [], _ :: _, _, h => by simp at h
  | _ :: _, [], _, h => by simp at h
  | z' :: zs, x' :: xs, c, h => by
    simp only [List.cons_append, amul_cons]
    rw [amul_snoc b d z x (zs := zs) (xs := xs) _ (by simpa using h)]
theorem amul_dig {b d : Nat} (hb : 0 < b) : ∀ {zs xs : List Nat} (c : Nat), Dig b (amul b d zs xs c).1
  | [], _, _ => fun e he => by simp [amul] at he
  | _ :: _, [], _ => fun e he => by simp [amul] at he
  | z :: zs, x :: xs, c => by
    intro e he
    rw [amul_cons] at he
    rcases List.mem_cons.1 he with rfl | he
    · exact Nat.mod_lt _ hb
    · exact amul_dig hb _ e he
theorem amul_carry {b d : Nat} (hd : d < b) : ∀ {zs xs : List Nat} (c : Nat), Dig b zs → Dig b xs → c < b → (amul b d zs xs c).2 < b
  | [], _, _, _, _, hc => by simpa [amul] using hc
  | _ :: _, [], _, _, _, hc => by simpa [amul] using hc
  | z :: zs, x :: xs, c, hz, hx, hc => by
    rw [amul_cons]
    refine amul_carry hd _ (fun e he => hz e (by simp [he])) (fun e he => hx e (by simp [he])) ?_
    have h1 : z < b := hz z (by simp)
    have h2 : x < b := hx x (by simp)
    exact carry_lt h1 h2 hd hc
where
  carry_lt {b z x d c : Nat} (hz : z < b) (hx : x < b) (hd : d < b) (hc : c < b) : (z + x * d + c) / b < b := by
    rw [Nat.div_lt_iff_lt_mul (by omega)]
    obtain ⟨e, rfl⟩ : ∃ e, b = e + 1 := ⟨b - 1, by omega⟩
    have : x * d ≤ e * e := Nat.mul_le_mul (by omega) (by omega)
    have e2 : (e + 1) * (e + 1) = e * e + 2 * e + 1 := by grind
    omega
theorem amul_val (b d : Nat) : ∀ {zs xs : List Nat} (c : Nat), zs.length = xs.length →
    dval b (amul b d zs xs c).1 + b ^ xs.length * (amul b d zs xs c).2 = dval b zs + dval b xs * d + c
  | [], [], _, _ => by simp [amul, dval]
  | [], _ :: _, _, h => by simp at h
  | _ :: _, [], _, h => by simp at h
  | z :: zs, x :: xs, c, h => by
    have ih := amul_val b d (zs := zs) (xs := xs) ((z + x * d + c) / b) (by simpa using h)
    have h2 := Nat.div_add_mod (z + x * d + c) b
    rw [amul_cons]
    simp only [dval_cons, List.length_cons, Nat.pow_succ]
    generalize (amul b d zs xs ((z + x * d + c) / b)).1 = p at *
    generalize (amul b d zs xs ((z + x * d + c) / b)).2 = q at *
    generalize (z + x * d + c) / b = t at *
    generalize (z + x * d + c) % b = u at *
    generalize dval b p = P at *
    generalize dval b zs = Z at *
    generalize dval b xs = X at *
    generalize b ^ xs.length = Bn at *
    have e1 : Bn * b * q = b * (Bn * q) := by grind
    have e2 : (x + b * X) * d = x * d + b * (X * d) := by grind
    have e3 : b * (P + Bn * q) = b * (Z + X * d + t) := by rw [ih]
    have e4 : b * (P + Bn * q) = b * P + b * (Bn * q) := by grind
    have e5 : b * (Z + X * d + t) = b * Z + b * (X * d) + b * t := by grind
    rw [e1, e2]
    omega

/-! ### one round of the school method -/
/-- R has m + i digits: x times y's first i digits. The next one: the window from i on takes x * d. -/
theorem school_step {b d i : Nat} {xs ys R : List Nat} (hb : 1 < b) (hx : Dig b xs) (hd : d < b) (hR : Dig b R) (hl : R.length = xs.length + i) (hv : dval b R = dval b xs * dval b (ys.take i)) (hi : i < ys.length) (hyd : ys.getD i 0 = d) :
    (R.take i ++ (amul b d (R.drop i) xs 0).1 ++ [(amul b d (R.drop i) xs 0).2]).length = xs.length + (i + 1) ∧ Dig b (R.take i ++ (amul b d (R.drop i) xs 0).1 ++ [(amul b d (R.drop i) xs 0).2]) ∧
      dval b (R.take i ++ (amul b d (R.drop i) xs 0).1 ++ [(amul b d (R.drop i) xs 0).2]) = dval b xs * dval b (ys.take (i + 1)) := by
  have hdl : (R.drop i).length = xs.length := by rw [List.length_drop]; omega
  have htl : (R.take i).length = i := by rw [List.length_take]; omega
  have hal := amul_length b d (zs := R.drop i) (xs := xs) 0 hdl
  have hval := amul_val b d (zs := R.drop i) (xs := xs) 0 hdl
  have hc := amul_carry hd (zs := R.drop i) (xs := xs) 0 (fun e he => hR e (List.mem_of_mem_drop he)) hx (by omega)
  have hdg := amul_dig (b := b) (d := d) (by omega) (zs := R.drop i) (xs := xs) 0
  refine ⟨by simp [hal]; omega, ?_, ?_⟩
  · intro e he
    rcases List.mem_append.1 he with he | he
    · rcases List.mem_append.1 he with he | he
      · exact hR e (List.mem_of_mem_take he)
      · exact hdg e he
    · rw [List.mem_singleton.1 he]; exact hc
  · have e1 : dval b R = dval b (R.take i) + b ^ i * dval b (R.drop i) := by
      have := dval_append b (R.take i) (R.drop i)
      rwa [List.take_append_drop, htl] at this
    have hyt : ys.take (i + 1) = ys.take i ++ [d] := by
      rw [List.take_succ_eq_append_getElem hi, ← hyd, List.getD_eq_getElem?_getD, List.getElem?_eq_getElem hi]; rfl
    have e2 : dval b (ys.take (i + 1)) = dval b (ys.take i) + b ^ i * d := by
      rw [hyt, dval_append, List.length_take, Nat.min_eq_left (by omega)]
      simp [dval]
    rw [dval_append, dval_append, List.length_append, htl, hal, e2]
    simp only [dval_cons, dval_nil]
    generalize (amul b d (R.drop i) xs 0).1 = p at *
    generalize (amul b d (R.drop i) xs 0).2 = q at *
    generalize dval b p = P at *
    generalize dval b (R.drop i) = D at *
    generalize dval b (R.take i) = T at *
    generalize dval b xs = X at *
    generalize dval b (ys.take i) = Y at *
    rw [Nat.pow_add]
    generalize b ^ i = Bi at *
    generalize b ^ xs.length = Bn at *
    have e3 : Bi * (P + Bn * q) = Bi * (D + X * d + 0) := by rw [hval]
    grind

/-- A digit 0 leaves all as it was. -/
theorem amul_zero {b : Nat} (hb : 0 < b) : ∀ {zs xs : List Nat}, zs.length = xs.length → Dig b zs → amul b 0 zs xs 0 = (zs, 0)
  | [], [], _, _ => rfl
  | [], _ :: _, h, _ => by simp at h
  | _ :: _, [], h, _ => by simp at h
  | z :: zs, x :: xs, h, hz => by
    have h1 : z < b := hz z (by simp)
    rw [amul_cons]
    have e1 : z + x * 0 + 0 = z := by omega
    rw [e1, Nat.mod_eq_of_lt h1, Nat.div_eq_of_lt h1, amul_zero hb (by simpa using h) (fun e he => hz e (by simp [he]))]

/-! ### lists with a window -/
theorem set_window {α : Type} (P S : List α) (a v : α) : (P ++ a :: S).set P.length v = P ++ v :: S := by
  rw [List.set_append_right _ _ (Nat.le_refl _), Nat.sub_self]; rfl
theorem getElem?_window {α : Type} (P S : List α) (a : α) : (P ++ a :: S)[P.length]? = some a := by
  rw [List.getElem?_append_right (Nat.le_refl _), Nat.sub_self]; rfl

theorem mul_word_bound {x y c : Nat} (hx : x < 18446744073709551616) (hy : y < 18446744073709551616) (hc : c < 18446744073709551616) : x * y / 18446744073709551616 + (x * y % 18446744073709551616 + c) / 18446744073709551616 < 18446744073709551616 ∧
    (x * y % 18446744073709551616 + c) % 18446744073709551616 = (x * y + c) % 18446744073709551616 ∧ x * y / 18446744073709551616 + (x * y % 18446744073709551616 + c) / 18446744073709551616 = (x * y + c) / 18446744073709551616 := by
  have h : x * y ≤ 18446744073709551615 * 18446744073709551615 := Nat.mul_le_mul (by omega) (by omega)
  generalize x * y = p at *
  omega
theorem am_join {x d z q h l s k : Nat} (hx : x < 18446744073709551616) (hd : d < 18446744073709551616) (hz : z < 18446744073709551616) (hq : q < 18446744073709551616)
    (h1 : h = (x * d + z) / 18446744073709551616 ∧ l = (x * d + z) % 18446744073709551616) (h2 : s = (l + q + 0) % 18446744073709551616 ∧ k = (l + q + 0) / 18446744073709551616) :
    s = (z + x * d + q) % 18446744073709551616 ∧ k + h = (z + x * d + q) / 18446744073709551616 ∧ k + h < 18446744073709551616 := by
  have hp : x * d ≤ 18446744073709551615 * 18446744073709551615 := Nat.mul_le_mul (by omega) (by omega)
  generalize x * d = p at *
  omega
end Go.Proofs.YtfkcobdkgjhfaaaGreatDoor

/- Plain: a row of words shifted by a part of a word. -/
set_option linter.unusedVariables false
set_option linter.unusedSimpArgs false
namespace Go.Proofs.YtfkcobdkgjhfaaaGreatDoor

/-- What a word hands to the next one. -/
theorem sh_carry {x s c : Nat} (hs : s ≤ 64) (hc : c < 2 ^ s) : (x * 2 ^ s + c) / 18446744073709551616 = x / 2 ^ (64 - s) := by
  have e : (18446744073709551616 : Nat) = 2 ^ s * 2 ^ (64 - s) := by rw [← Nat.pow_add, show s + (64 - s) = 64 by omega]
  rw [e, ← Nat.div_div_eq_div_mul, Nat.add_comm, Nat.add_mul_div_right _ _ (Nat.two_pow_pos s), Nat.div_eq_of_lt hc, Nat.zero_add]
theorem sh_carry_lt {x s : Nat} (hs : s ≤ 64) (hx : x < 18446744073709551616) : x / 2 ^ (64 - s) < 2 ^ s := by
  rw [Nat.div_lt_iff_lt_mul (Nat.two_pow_pos _), ← Nat.pow_add, show s + (64 - s) = 64 by omega]
  exact hx

/-- The shifted row: times 2 to the s. -/
def shv (s : Nat) (xs : List Nat) : List Nat := (amul 18446744073709551616 (2 ^ s) (List.replicate xs.length 0) xs 0).1
def shc (s : Nat) (xs : List Nat) : Nat := (amul 18446744073709551616 (2 ^ s) (List.replicate xs.length 0) xs 0).2

theorem amul_sh {s : Nat} (hs : s ≤ 64) : ∀ (xs : List Nat) (a : Nat), a < 2 ^ s → Dig 18446744073709551616 xs →
    (∀ i, i < xs.length → (amul 18446744073709551616 (2 ^ s) (List.replicate xs.length 0) xs a).1.getD i 0 = (xs.getD i 0 * 2 ^ s + (if i = 0 then a else xs.getD (i - 1) 0 / 2 ^ (64 - s))) % 18446744073709551616) ∧
      (amul 18446744073709551616 (2 ^ s) (List.replicate xs.length 0) xs a).2 = (if xs.length = 0 then a else xs.getD (xs.length - 1) 0 / 2 ^ (64 - s))
  | [], a, ha, _ => ⟨fun i h => by simp at h, by simp [amul]⟩
  | x :: r, a, ha, hd => by
    have hx := hd x (by simp)
    have hc := sh_carry (x := x) hs ha
    obtain ⟨h1, h2⟩ := amul_sh hs r (x / 2 ^ (64 - s)) (sh_carry_lt hs hx) (fun d h => hd d (by simp [h]))
    simp only [List.length_cons, List.replicate_succ, amul, Nat.zero_add, hc]
    refine ⟨fun i hi => ?_, ?_⟩
    · cases i with
      | zero => simp
      | succ i =>
        have := h1 i (by omega)
        cases i with
        | zero => simpa using this
        | succ i => simpa using this
    · rw [h2]
      cases r with
      | nil => simp
      | cons y t => simp
end Go.Proofs.YtfkcobdkgjhfaaaGreatDoor

/- Walks: math/bits' Add, Sub (with carry), Mul, LeadingZeros as this program calls them. -/
set_option linter.unusedVariables false
set_option linter.unusedSimpArgs false
namespace Go.Proofs.YtfkcobdkgjhfaaaGreatDoor
open Go.RowKit

theorem add64_run (x y c : Nat) (hc : c ≤ 1) (w : World) : (callFunc 262 #[.int .u64 (x : Int), .int .u64 (y : Int), .int .u64 (c : Int)]).run Tryz.prog w =
    .ok (.value (.tuple #[.int .u64 (((x + y + c) % 18446744073709551616 : Nat) : Int), .int .u64 (((x + y + c) / 18446744073709551616 : Nat) : Int)])) w := by
  rw [run_callFunc_extern Tryz.func262 (by kernel_rfl) (by kernel_rfl) (by kernel_rfl) (e := add64Entry) (by kernel_rfl), run_add64 x y c (by omega) (by omega) (by omega) (by omega)]
  simp only [Result.andThen]
  congr 5 <;> omega

def sub64E : Array Value → Sem Value := fun args => do
  let (x, y, b) ← Extern.MathBitsCarry.three "Sub64" args
  pure (Extern.MathBitsCarry.pair ((x + Extern.MathBitsCarry.m64 - y - b) % Extern.MathBitsCarry.m64) (if x < y + b then 1 else 0))

/-- The borrow. -/
def bor (x y : Nat) : Nat := if x < y then 1 else 0

theorem sub64_run (x y b : Nat) (hb : b ≤ 1) (w : World) : (callFunc 264 #[.int .u64 (x : Int), .int .u64 (y : Int), .int .u64 (b : Int)]).run Tryz.prog w =
    .ok (.value (.tuple #[.int .u64 (((x + 18446744073709551616 - y - b) % 18446744073709551616 : Nat) : Int), .int .u64 ((bor x (y + b) : Nat) : Int)])) w := by
  have h : (sub64E #[.int .u64 x, .int .u64 y, .int .u64 b]).run Tryz.prog w = .ok (.tuple #[.int .u64 (((x + 18446744073709551616 - y - b) % 18446744073709551616 : Nat) : Int), .int .u64 ((bor x (y + b) : Nat) : Int)]) w := by
    have : b = 0 ∨ b = 1 := by omega
    rcases this with rfl | rfl <;> rfl
  rw [run_callFunc_extern Tryz.func264 (by kernel_rfl) (by kernel_rfl) (by kernel_rfl) (e := sub64E) (by kernel_rfl), h]
  rfl

/-- A pair of words. -/
def PairP (P : Nat → Nat → Prop) (w : World) (e : Ending) (w' : World) : Prop := ∃ a b : Nat, e = .returned (.tuple #[.int .u64 (a : Int), .int .u64 (b : Int)]) ∧ Hid (P a b) ∧ w' = w

set_option maxRecDepth 20000 in
theorem add_any (x y c : Nat) (hc : c ≤ 1) (w : World) : Calls Tryz.prog 233 #[.int .u64 (x : Int), .int .u64 (y : Int), .int .u64 (c : Int)] w (PairP (fun s k => s = (x + y + c) % 18446744073709551616 ∧ k = (x + y + c) / 18446744073709551616) w) := by
  have h := add64_run x y c hc w
  obtain ⟨s, hs⟩ : ∃ s, s = (x + y + c) % 18446744073709551616 := ⟨_, rfl⟩
  obtain ⟨k, hk⟩ : ∃ k, k = (x + y + c) / 18446744073709551616 := ⟨_, rfl⟩
  rw [← hs, ← hk] at h
  have H := hide (And.intro hs hk)
  clear hs hk
  go_enter Tryz.func233, Tryz.ntmps233
  go_wp2
  go_ret2
  exact ⟨s, k, rfl, H.out, rfl⟩
set_option maxRecDepth 20000 in
theorem sub_any (x y b : Nat) (hb : b ≤ 1) (w : World) : Calls Tryz.prog 234 #[.int .u64 (x : Int), .int .u64 (y : Int), .int .u64 (b : Int)] w (PairP (fun s k => s = (x + 18446744073709551616 - y - b) % 18446744073709551616 ∧ k = bor x (y + b)) w) := by
  have h := sub64_run x y b hb w
  obtain ⟨s, hs⟩ : ∃ s, s = (x + 18446744073709551616 - y - b) % 18446744073709551616 := ⟨_, rfl⟩
  obtain ⟨k, hk⟩ : ∃ k, k = bor x (y + b) := ⟨_, rfl⟩
  rw [← hs, ← hk] at h
  have H := hide (And.intro hs hk)
  clear hs hk
  go_enter Tryz.func234, Tryz.ntmps234
  go_wp2
  go_ret2
  exact ⟨s, k, rfl, H.out, rfl⟩
theorem mul_any (x y : Nat) (hx : x < 18446744073709551616) (hy : y < 18446744073709551616) (w : World) : Calls Tryz.prog 232 #[.int .u64 (x : Int), .int .u64 (y : Int)] w (PairP (fun h l => h = x * y / 18446744073709551616 ∧ l = x * y % 18446744073709551616) w) :=
  (Tryz.bits_Mul x y hx hy w).mono fun _ _ ⟨he, hw⟩ => ⟨_, _, he, ⟨rfl, rfl⟩, hw⟩
/-- How far a word is shifted. -/
def nlzN (x : Nat) : Nat := 64 - Lib.bitLen x
theorem nlz_any (x : Nat) (hx : x < 18446744073709551616) (w : World) : Calls Tryz.prog 169 #[.int .u64 (x : Int)] w fun e w' => e = .returned (.int .u64 (nlzN x : Int)) ∧ w' = w := by
  have hb : Lib.bitLen x ≤ 64 := Lib.bitLen_le x 64 (Nat.le_refl _) (by omega)
  have Con := hide (Tryz.bits_LeadingZeros (x : Int) w (by omega) (by omega))
  have e1 : (64 - (Lib.bitLen (x : Int).toNat : Int)) = (nlzN x : Int) := by simp [nlzN]; omega
  rw [e1] at Con
  have hn : nlzN x ≤ 64 := by unfold nlzN; omega
  clear e1
  generalize nlzN x = n at Con hn
  go_enter Tryz.func169, Tryz.ntmps169
  go_wp2_with fail
  refine (Con.out).mono ?_
  rintro e w1 ⟨rfl, rfl⟩
  go_wp2
  go_ret
  exact ⟨rfl, rfl⟩
end Go.Proofs.YtfkcobdkgjhfaaaGreatDoor
