/- Parts of the proofs: Flt, Sgn, Len. -/
import Derived.Laws.Externs
import Derived.Laws.FloatArith
import GoSem.Extern.MathLog
import GoSem.Extern.MathFloatBits
import Derived.Test.YtfkcobdkgjhfaaaGreatDoorG3
import Derived.Test.YtfkcobdkgjhfaaaGreatDoorG5
import Derived.Test.YtfkcobdkgjhfaaaGreatDoorG6
/- Walks: the logarithm of 10 to the base 2, as package math gives it; the lengths that are reckoned with it. -/
set_option linter.unusedVariables false
set_option linter.unusedSimpArgs false
namespace Go.Proofs.YtfkcobdkgjhfaaaGreatDoor
open Go.RowKit

/-- What the quotient of a length in bits by this logarithm gives, cut to an integer. -/
def fq (b : Nat) : Option Int := (floatBits .quo .f64 (floatOfInt .f64 (b : Int)) 4614662735865160561).bind fun q => floatToIntVal .f64 q .i64

def fqOk (b : Nat) : Bool := match fq b with
  | some (.ofNat i) => decide (10 ^ (i - 1) ≤ 2 ^ (b - 1)) && decide (2 ^ b ≤ 10 ^ (i + 1)) && decide (i ≤ b) && (decide (b < 129) || decide (1 ≤ i)) && decide (i ≤ 400)
  | _ => false
set_option maxRecDepth 100000 in
theorem fq_table : ((List.range 1281).all fqOk) = true := by kernel_rfl

theorem fq_spec {b : Nat} (hb : b ≤ 1280) : ∃ (q i : Nat), floatBits .quo .f64 (floatOfInt .f64 (b : Int)) 4614662735865160561 = some q ∧ floatToIntVal .f64 q .i64 = some (i : Int) ∧ 10 ^ (i - 1) ≤ 2 ^ (b - 1) ∧ 2 ^ b ≤ 10 ^ (i + 1) ∧ i ≤ b ∧ (129 ≤ b → 1 ≤ i) ∧ i ≤ 400 := by
  have h := List.all_eq_true.1 fq_table b (List.mem_range.2 (by omega))
  unfold fqOk fq at h
  cases hq : floatBits .quo .f64 (floatOfInt .f64 (b : Int)) 4614662735865160561 with
  | none => rw [hq] at h; simp at h
  | some q =>
    rw [hq] at h
    simp only [Option.bind_some] at h
    cases hi : floatToIntVal .f64 q .i64 with
    | none => rw [hi] at h; simp at h
    | some z =>
      rw [hi] at h
      cases z with
      | ofNat i =>
        simp only [Bool.and_eq_true, Bool.or_eq_true, decide_eq_true_eq] at h
        exact ⟨q, i, rfl, hi, h.1.1.1.1, h.1.1.1.2, h.1.1.2, fun hb => by omega, h.2⟩
      | negSucc i => simp at h

theorem f64bits_run (b : Nat) (w : World) : (callFunc 286 #[.float .f64 b]).run Tryz.prog w = .ok (.value (.int .u64 (b : Int))) w := by
  rw [run_callFunc_extern Tryz.func286 (by kernel_rfl) (by kernel_rfl) (by kernel_rfl) (e := Extern.MathFloatBits.float64bits) (by kernel_rfl)]
  rfl
theorem f64from_run (b : Nat) (w : World) : (callFunc 287 #[.int .u64 (b : Int)]).run Tryz.prog w = .ok (.value (.float .f64 b)) w := by
  rw [run_callFunc_extern Tryz.func287 (by kernel_rfl) (by kernel_rfl) (by kernel_rfl) (e := Extern.MathFloatBits.float64frombits) (by kernel_rfl)]
  rfl
theorem archLog_run (w : World) : (callFunc 281 #[.float .f64 4603804719079489536]).run Tryz.prog w = .ok (.value (.float .f64 13825510489450817230)) w := by
  have h : (Extern.MathLog.archLog #[.float .f64 4603804719079489536]).run Tryz.prog w = .ok (.float .f64 13825510489450817230) w := by kernel_rfl
  rw [run_callFunc_extern Tryz.func281 (by kernel_rfl) (by kernel_rfl) (by kernel_rfl) (e := Extern.MathLog.archLog) (by kernel_rfl), h]
  rfl
theorem fabs_any (x : Nat) (w : World) (h2 : bits .andNot .u64 (x : Int) 9223372036854775808 = (x : Int)) : Calls Tryz.prog 290 #[.float .f64 x] w fun e w' => e = .returned (.float .f64 x) ∧ w = w' := by
  have h1 := f64bits_run x w
  have h3 := f64from_run x w
  go_enter Tryz.func290, Tryz.ntmps290
  go_wp2
  go_ret
  exact ⟨rfl, rfl⟩
theorem isnan_any (x : Nat) (w : World) (h : (FloatKind.f64.format.order x x != some .eq) = false) : Calls Tryz.prog 284 #[.float .f64 x] w fun e w' => e = .returned (.bool false) ∧ w = w' := by
  go_enter Tryz.func284, Tryz.ntmps284
  go_wp2
  go_ret
  exact ⟨rfl, rfl⟩
theorem isinf_any (x : Nat) (w : World) (h2 : bits .andNot .u64 (x : Int) 9223372036854775808 = (x : Int)) (h : (FloatKind.f64.format.order x 9218868437227405311 == some .gt) = false) : Calls Tryz.prog 283 #[.float .f64 x, .int .i64 0] w fun e w' => e = .returned (.bool false) ∧ w = w' := by
  have Con := hide (fabs_any x w h2)
  clear h2
  go_enter Tryz.func283, Tryz.ntmps283
  go_wp2_with fail
  refine (Con.out).mono ?_
  rintro e w1 ⟨rfl, rfl⟩
  clear Con
  go_wp2
  go_ret
  exact ⟨rfl, rfl⟩
theorem fnorm_any (x : Nat) (w : World) (h2 : bits .andNot .u64 (x : Int) 9223372036854775808 = (x : Int)) (h : (FloatKind.f64.format.order x 4503599627370496 == some .lt) = false) : Calls Tryz.prog 285 #[.float .f64 x] w fun e w' => e = .returned (.tuple #[.float .f64 x, .int .i64 0]) ∧ w = w' := by
  have Con := hide (fabs_any x w h2)
  clear h2
  go_enter Tryz.func285, Tryz.ntmps285
  go_wp2_with fail
  refine (Con.out).mono ?_
  rintro e w1 ⟨rfl, rfl⟩
  clear Con
  go_wp2
  go_ret2
  exact ⟨rfl, rfl⟩

theorem frexp_ten (w : World) : Calls Tryz.prog 280 #[.float .f64 4621819117588971520] w fun e w' => e = .returned (.tuple #[.float .f64 4603804719079489536, .int .i64 4]) ∧ w = w' := by
  obtain ⟨x, hx⟩ : ∃ x : Nat, x = 4621819117588971520 := ⟨_, rfl⟩
  obtain ⟨y, hy⟩ : ∃ y : Nat, y = 1125899906842624 := ⟨_, rfl⟩
  obtain ⟨z, hz⟩ : ∃ z : Nat, z = 4603804719079489536 := ⟨_, rfl⟩
  have a1 : bits .andNot .u64 (x : Int) 9223372036854775808 = (x : Int) := by rw [hx]; kernel_rfl
  have a2 : (FloatKind.f64.format.order x 0 == some .eq) = false := by rw [hx]; kernel_rfl
  have a3 : (FloatKind.f64.format.order x 9218868437227405311 == some .gt) = false := by rw [hx]; kernel_rfl
  have a4 : (FloatKind.f64.format.order x x != some .eq) = false := by rw [hx]; kernel_rfl
  have a5 : (FloatKind.f64.format.order x 4503599627370496 == some .lt) = false := by rw [hx]; kernel_rfl
  have a6 : (x : Int) / 2 ^ 52 = 1026 := by rw [hx]; rfl
  have a6' : (x : Int) / 4503599627370496 = 1026 := by rw [hx]; rfl
  have a7 : bits .and .u64 1026 2047 = 1026 := by kernel_rfl
  have a8 : bits .andNot .u64 (x : Int) 9218868437227405312 = (y : Int) := by rw [hx, hy]; kernel_rfl
  have a9 : bits .or .u64 (y : Int) 4602678819172646912 = (z : Int) := by rw [hy, hz]; kernel_rfl
  have Con1 := hide (isinf_any x w a1 a3)
  have Con2 := hide (isnan_any x w a4)
  have Con3 := hide (fnorm_any x w a1 a5)
  have b1 := f64bits_run x w
  have b2 := f64from_run z w
  rw [← hx, ← hz]
  clear a1 a3 a4 a5 hx hy hz
  go_enter Tryz.func280, Tryz.ntmps280
  go_wp2_with fail
  refine (Con1.out).mono ?_
  rintro e w1 ⟨rfl, rfl⟩
  go_wp2_with fail
  refine (Con2.out).mono ?_
  rintro e w1 ⟨rfl, rfl⟩
  go_wp2_with fail
  refine (Con3.out).mono ?_
  rintro e w1 ⟨rfl, rfl⟩
  clear Con1 Con2 Con3
  go_wp2
  go_ret2
  exact ⟨rfl, rfl⟩

theorem Frexp_gen (x z : Nat) (w : World) (Con : Hid (Calls Tryz.prog 280 #[.float .f64 x] w fun e w' => e = .returned (.tuple #[.float .f64 z, .int .i64 4]) ∧ w = w')) : Calls Tryz.prog 277 #[.float .f64 x] w fun e w' => e = .returned (.tuple #[.float .f64 z, .int .i64 4]) ∧ w = w' := by
  go_enter Tryz.func277, Tryz.ntmps277
  go_wp2_with fail
  refine (Con.out).mono ?_
  rintro e w1 ⟨rfl, rfl⟩
  clear Con
  go_wp2
  go_ret2
  exact ⟨rfl, rfl⟩
set_option maxRecDepth 20000 in
theorem Log_gen (x z : Nat) (w : World) (h : (callFunc 281 #[.float .f64 x]).run Tryz.prog w = .ok (.value (.float .f64 z)) w) : Calls Tryz.prog 278 #[.float .f64 x] w fun e w' => e = .returned (.float .f64 z) ∧ w = w' := by
  go_enter Tryz.func278, Tryz.ntmps278
  go_wp2
  go_ret
  exact ⟨rfl, rfl⟩
set_option maxRecDepth 20000 in
theorem log2_gen (x y z u v : Nat) (w : World) (Con : Hid (Calls Tryz.prog 277 #[.float .f64 x] w fun e w' => e = .returned (.tuple #[.float .f64 y, .int .i64 4]) ∧ w = w'))
    (Con2 : Hid (Calls Tryz.prog 278 #[.float .f64 y] w fun e w' => e = .returned (.float .f64 z) ∧ w = w'))
    (a1 : (FloatKind.f64.format.order y 4602678819172646912 == some .eq) = false)
    (a2 : ∀ W, (binOp .mul 174 (.float .f64 z) (.float .f64 4609176140021203710)).run Tryz.prog W = .ok (.float .f64 u) W)
    (a3 : ∀ W, (binOp .add 174 (.float .f64 u) (.float .f64 (floatOfInt .f64 4))).run Tryz.prog W = .ok (.float .f64 v) W) :
    Calls Tryz.prog 268 #[.float .f64 x] w fun e w' => e = .returned (.float .f64 v) ∧ w = w' := by
  go_enter Tryz.func268, Tryz.ntmps268
  go_wp2_with fail
  refine (Con.out).mono ?_
  rintro e w1 ⟨rfl, rfl⟩
  go_wp2_with fail
  refine (Con2.out).mono ?_
  rintro e w1 ⟨rfl, rfl⟩
  clear Con Con2
  go_wp2
  go_ret
  exact ⟨rfl, rfl⟩
set_option maxRecDepth 20000 in
theorem Log2_gen (x z : Nat) (w : World) (Con : Hid (Calls Tryz.prog 268 #[.float .f64 x] w fun e w' => e = .returned (.float .f64 z) ∧ w = w')) : Calls Tryz.prog 246 #[.float .f64 x] w fun e w' => e = .returned (.float .f64 z) ∧ w = w' := by
  go_enter Tryz.func246, Tryz.ntmps246
  go_wp2_with fail
  refine (Con.out).mono ?_
  rintro e w1 ⟨rfl, rfl⟩
  clear Con
  go_wp2
  go_ret
  exact ⟨rfl, rfl⟩
set_option maxRecDepth 20000 in
theorem Log2_ten (w : World) : Calls Tryz.prog 246 #[.float .f64 4621819117588971520] w fun e w' => e = .returned (.float .f64 4614662735865160561) ∧ w = w' :=
  Log2_gen _ _ w (log2_gen _ 4603804719079489536 13825510489450817230 13827654785158443579 _ w (Frexp_gen _ _ w (frexp_ten w)) (Log_gen _ _ w (archLog_run w)) (by kernel_rfl)
    (fun W => run_float_arith W .mul _ .f64 _ _ _ (by kernel_rfl)) (fun W => run_float_arith W .add _ .f64 _ _ _ (by kernel_rfl)))
end Go.Proofs.YtfkcobdkgjhfaaaGreatDoor

/- Walks: the Sign functions of Int and BigInt. -/
set_option linter.unusedVariables false
set_option linter.unusedSimpArgs false
namespace Go.Proofs.YtfkcobdkgjhfaaaGreatDoor
open Go.RowKit

/-- The sign of a number of n words. -/
def sgnI (neg : Bool) (n : Nat) : Int := if n = 0 then 0 else if neg then -1 else 1
theorem sgnI_zero (neg : Bool) : sgnI neg 0 = 0 := rfl
theorem sgnI_pos {n : Nat} (h : n ≠ 0) : sgnI false n = 1 := by simp [sgnI, h]
theorem sgnI_neg {n : Nat} (h : n ≠ 0) : sgnI true n = -1 := by simp [sgnI, h]
theorem sgnI_beq (neg : Bool) (n : Nat) : (sgnI neg n == 0) = decide (n = 0) := by
  unfold sgnI
  by_cases h : n = 0
  · simp [h]
  · cases neg <;> simp [h]

theorem isign_any (g o : Nat) (neg : Bool) (A : Option Addr) (n c : Nat) (w : World) (h0 : w.cell? ⟨g, o, none⟩ = some (.bool neg)) (h1 : w.cell? ⟨g, o + 1, none⟩ = some (.slice A n c)) :
    Calls Tryz.prog 104 #[.pointer (some ⟨g, o, none⟩)] w fun e w' => e = .returned (.int .i64 (sgnI neg n)) ∧ w = w' := by
  by_cases hn : n = 0
  · subst hn
    have fin := sgnI_zero neg
    go_enter Tryz.func104, Tryz.ntmps104
    go_wp2
    go_ret
    exact ⟨by rw [fin]; rfl, rfl⟩
  · have hb : ((n : Int) == 0) = false := beq_eq_false_iff_ne.2 (by omega)
    cases neg
    · have fin := hide (sgnI_pos hn)
      clear hn
      go_enter Tryz.func104, Tryz.ntmps104
      go_wp2
      go_ret
      exact ⟨by rw [fin.out]; rfl, rfl⟩
    · have fin := hide (sgnI_neg hn)
      clear hn
      go_enter Tryz.func104, Tryz.ntmps104
      go_wp2
      go_ret
      exact ⟨by rw [fin.out]; rfl, rfl⟩

theorem bsign_any (g o : Nat) (neg : Bool) (A : Option Addr) (n c : Nat) (w : World) (h0 : w.cell? ⟨g, o, none⟩ = some (.bool neg)) (h1 : w.cell? ⟨g, o + 1, none⟩ = some (.slice A n c)) (h2 : w.cell? ⟨g, o + 2, none⟩ = some (.bool false)) :
    Calls Tryz.prog 68 #[.pointer (some ⟨g, o, none⟩)] w fun e w' => e = .returned (.int .i64 (sgnI neg n)) ∧ w = w' := by
  have Con := hide (isign_any g o neg A n c w h0 h1)
  clear h0 h1
  go_enter Tryz.func68, Tryz.ntmps68
  go_wp2_with fail
  refine (Con.out).mono ?_
  rintro e w1 ⟨rfl, rfl⟩
  go_wp2
  go_ret
  exact ⟨rfl, rfl⟩

end Go.Proofs.YtfkcobdkgjhfaaaGreatDoor

/- Walks: how many bits: nat.bitLen, Int.BitLen, BigInt.BitLen. -/
set_option linter.unusedVariables false
set_option linter.unusedSimpArgs false
namespace Go.Proofs.YtfkcobdkgjhfaaaGreatDoor
open Go.RowKit

/-- How many bits a number has. -/
def blen (n : Nat) : Nat := if n = 0 then 0 else Nat.log2 n + 1

theorem blen_zero : blen 0 = 0 := rfl
theorem blen_pos {n : Nat} (h : 0 < n) : blen n = Nat.log2 n + 1 := by rw [blen, if_neg (by omega)]
theorem blen_of {n k : Nat} (h1 : 2 ^ k ≤ n) (h2 : n < 2 ^ (k + 1)) : blen n = k + 1 := by
  have hp : 0 < 2 ^ k := Nat.two_pow_pos k
  have h0 : n ≠ 0 := by omega
  rw [blen_pos (by omega)]
  have a : k ≤ Nat.log2 n := (Nat.le_log2 h0).2 h1
  have b : Nat.log2 n < k + 1 := (Nat.log2_lt h0).2 h2
  omega
theorem blen_lo {n : Nat} (h : 0 < n) : 2 ^ (blen n - 1) ≤ n := by
  rw [blen_pos h]; exact Nat.log2_self_le (by omega)
theorem blen_hi (n : Nat) : n < 2 ^ blen n := by
  by_cases h : n = 0
  · subst h; exact Nat.two_pow_pos _
  · rw [blen_pos (by omega)]; exact Nat.lt_log2_self
theorem blen_le {n k : Nat} (h : n < 2 ^ k) : blen n ≤ k := by
  by_cases h0 : n = 0
  · subst h0; rw [blen_zero]; omega
  · rw [blen_pos (by omega)]; exact (Nat.log2_lt h0).2 h
theorem blen_lib {x : Nat} (h0 : 0 < x) (h : x < 18446744073709551616) : Lib.bitLen x = blen x := by rw [bitLen_log x h0 h, blen_pos h0]

/-- The upper one bit spread downward keeps the length. -/
theorem smear {a i : Nat} (h0 : 0 < a) (h : a < 18446744073709551616) : blen (a ||| a / 2 ^ i) = blen a ∧ 0 < (a ||| a / 2 ^ i) ∧ (a ||| a / 2 ^ i) < 18446744073709551616 := by
  have h1 : a ≤ a ||| a / 2 ^ i := Nat.left_le_or
  have hd : a / 2 ^ i ≤ a := Nat.div_le_self _ _
  have h2 : a < 2 ^ (Nat.log2 a + 1) := Nat.lt_log2_self
  have h3 : (a ||| a / 2 ^ i) < 2 ^ (Nat.log2 a + 1) := Nat.or_lt_two_pow h2 (by omega)
  have h4 : (a ||| a / 2 ^ i) < 2 ^ 64 := Nat.or_lt_two_pow (by omega) (by omega)
  have h5 : 2 ^ Nat.log2 a ≤ a := Nat.log2_self_le (by omega)
  exact ⟨by rw [blen_of (k := Nat.log2 a) (by omega) h3, blen_pos h0], by omega, by omega⟩

/-- The length of a number of several words. -/
theorem blen_words {xs : List Nat} (hd : Dig 18446744073709551616 xs) (h0 : xs ≠ []) (hx : 0 < xs.getD (xs.length - 1) 0) :
    blen (dval 18446744073709551616 xs) = (xs.length - 1) * 64 + blen (xs.getD (xs.length - 1) 0) := by
  obtain ⟨n, hn⟩ : ∃ n, xs.length = n + 1 := ⟨xs.length - 1, by have := List.length_pos_iff.2 h0; omega⟩
  have he : xs = xs.take n ++ [xs.getD n 0] := by
    have := List.take_append_drop n xs
    rw [List.drop_eq_getElem_cons (by omega), List.drop_eq_nil_of_le (by omega)] at this
    rw [getD_at (by omega)]; exact this.symm
  rw [hn] at hx ⊢
  simp only [Nat.add_sub_cancel] at hx ⊢
  have ht : dval 18446744073709551616 (xs.take n) < 18446744073709551616 ^ n := by
    have := dval_lt (b := 18446744073709551616) (by omega) (xs := xs.take n) (fun d h => hd d (List.mem_of_mem_take h))
    rwa [List.length_take, Nat.min_eq_left (by omega)] at this
  have hv : dval 18446744073709551616 xs = dval 18446744073709551616 (xs.take n) + 18446744073709551616 ^ n * xs.getD n 0 := by
    conv => lhs; rw [he]
    rw [dval_append, List.length_take, Nat.min_eq_left (by omega)]
    simp [dval_cons, dval_nil]
  rw [hv]
  generalize dval 18446744073709551616 (xs.take n) = r at ht ⊢
  generalize xs.getD n 0 = t at hx ⊢
  have e : (18446744073709551616 : Nat) ^ n = 2 ^ (n * 64) := by rw [show (18446744073709551616 : Nat) = 2 ^ 64 from rfl, ← Nat.pow_mul, Nat.mul_comm]
  rw [e] at ht ⊢
  have hl : 2 ^ Nat.log2 t ≤ t := Nat.log2_self_le (by omega)
  have hh : t < 2 ^ (Nat.log2 t + 1) := Nat.lt_log2_self
  rw [blen_pos hx, blen_of (k := n * 64 + Nat.log2 t)]
  · omega
  · rw [Nat.pow_add]; have := Nat.mul_le_mul_left (2 ^ (n * 64)) hl; omega
  · rw [Nat.add_assoc, Nat.pow_add]
    have := Nat.mul_le_mul_left (2 ^ (n * 64)) (Nat.succ_le_of_lt hh)
    rw [Nat.succ_eq_add_one, Nat.mul_add, Nat.mul_one] at this
    omega

/-- One step of the spreading, in the walk's own words. -/
theorem smear_step (a i m : Nat) (hm : m = 2 ^ i) (h0 : 0 < a) (h : a < 18446744073709551616) :
    ∃ q t : Nat, (a : Int) / (m : Int) = (q : Int) ∧ bits .or .u64 (a : Int) (q : Int) = (t : Int) ∧ 0 < t ∧ t < 18446744073709551616 ∧ blen t = blen a := by
  obtain ⟨h1, h2, h3⟩ := smear (i := i) h0 h
  have hd : a / 2 ^ i ≤ a := Nat.div_le_self _ _
  exact ⟨a / m, a ||| a / 2 ^ i, by simp, by subst hm; rw [u64_or_nat _ _ (by omega) (by omega)], h2, h3, h1⟩

theorem nbitLen_any (A : Option Addr) (n c : Nat) (xs : List Nat) (w : World) (hx : RdW w (.slice A n c) xs) (hn : n = xs.length) (hnb : n ≤ 1099511627776) (hd : Dig 18446744073709551616 xs) (hc : Canon xs) :
    Calls Tryz.prog 161 #[.slice A n c] w fun e w' => e = .returned (.int .i64 (blen (dval 18446744073709551616 xs) : Nat)) ∧ w' = w := by
  by_cases h0 : n = 0
  · subst h0
    obtain rfl := List.eq_nil_of_length_eq_zero hn.symm
    clear hx hn hd hnb hc
    go_enter Tryz.func161, Tryz.ntmps161
    go_wp2
    go_ret
    exact ⟨rfl, rfl⟩
  · have hne : xs ≠ [] := by intro h; subst h; exact h0 hn
    have htop : 0 < xs.getD (xs.length - 1) 0 := by
      rcases Nat.eq_zero_or_pos (xs.getD (xs.length - 1) 0) with h | h
      · exfalso; apply hc
        rw [List.getLast?_eq_getElem?]
        rw [getD_at (by omega)] at h
        rw [List.getElem?_eq_getElem (by omega), h]
      · exact h
    have hw := blen_words hd hne htop
    obtain ⟨gx, ox, rfl, hb, hcell⟩ := RdG.at_ (k := .u64) hx (xs.length - 1) (by omega)
    have hlt : xs.getD (xs.length - 1) 0 < 18446744073709551616 := hd _ (by rw [getD_at (by omega)]; exact List.getElem_mem _)
    rw [hw]
    obtain ⟨m, hm⟩ : ∃ m, n = m + 1 := ⟨n - 1, by omega⟩
    subst hm
    rw [← hn] at hcell htop hlt ⊢
    simp only [Nat.add_sub_cancel] at hcell htop hlt ⊢
    clear hx hn hw hd hc hne h0
    generalize xs.getD m 0 = a at *
    obtain ⟨q1, t1, d1, o1, p1, l1, b1⟩ := smear_step a 1 2 rfl htop hlt
    obtain ⟨q2, t2, d2, o2, p2, l2, b2⟩ := smear_step t1 2 4 rfl p1 l1
    obtain ⟨q3, t3, d3, o3, p3, l3, b3⟩ := smear_step t2 4 16 rfl p2 l2
    obtain ⟨q4, t4, d4, o4, p4, l4, b4⟩ := smear_step t3 8 256 rfl p3 l3
    obtain ⟨q5, t5, d5, o5, p5, l5, b5⟩ := smear_step t4 16 65536 rfl p4 l4
    obtain ⟨q6, t6, d6, o6, p6, l6, b6⟩ := smear_step t5 32 4294967296 rfl p5 l5
    have d6a : (t5 : Int) / 65536 / 65536 = (q6 : Int) := by rw [← d6]; omega
    have hbl : (Lib.bitLen (t6 : Int).toNat : Int) = (blen a : Nat) := by
      rw [Int.toNat_natCast, blen_lib p6 l6, b6, b5, b4, b3, b2, b1]
    have Con := hide (Tryz.bits_Len (t6 : Int) w (by omega) (by omega))
    rw [hbl] at Con
    have hba : blen a ≤ 64 := blen_le hlt
    have g1 : ((m + 1 : Nat) : Int) - 1 = (m : Int) := by omega
    have g2 : IntKind.i64.wrap ((m : Int) * 64) = ((m * 64 : Nat) : Int) := by rw [IntKind.wrap_i64]; omega
    have g3 : IntKind.i64.wrap (((m * 64 : Nat) : Int) + (blen a : Nat)) = ((m * 64 + blen a : Nat) : Int) := by rw [IntKind.wrap_i64]; omega
    clear b1 b2 b3 b4 b5 b6 p1 p2 p3 p4 p5 p6 l1 l2 l3 l4 l5 l6 hbl d6
    have d1 : (a : Int) / 2 = (q1 : Int) := d1
    have d2 : (t1 : Int) / 4 = (q2 : Int) := d2
    have d3 : (t2 : Int) / 16 = (q3 : Int) := d3
    have d4 : (t3 : Int) / 256 = (q4 : Int) := d4
    have d5 : (t4 : Int) / 65536 = (q5 : Int) := d5
    go_enter Tryz.func161, Tryz.ntmps161
    go_wp2_with fail
    refine (Con.out).mono ?_
    rintro e w1 ⟨rfl, rfl⟩
    go_wp2
    go_ret
    exact ⟨by first | rfl | (rw [g3]), rfl⟩

theorem ibitLen_any (g o : Nat) (A : Option Addr) (n c : Nat) (xs : List Nat) (w : World) (h1 : w.cell? ⟨g, o + 1, none⟩ = some (.slice A n c)) (hx : RdW w (.slice A n c) xs) (hn : n = xs.length) (hnb : n ≤ 1099511627776) (hd : Dig 18446744073709551616 xs) (hc : Canon xs) :
    Calls Tryz.prog 136 #[.pointer (some ⟨g, o, none⟩)] w fun e w' => e = .returned (.int .i64 (blen (dval 18446744073709551616 xs) : Nat)) ∧ w' = w := by
  have Con := hide (nbitLen_any A n c xs w hx hn hnb hd hc)
  clear hx hn hnb hd hc
  generalize blen (dval 18446744073709551616 xs) = b at *
  go_enter Tryz.func136, Tryz.ntmps136
  go_wp2_with fail
  refine (Con.out).mono ?_
  rintro e w1 ⟨rfl, rfl⟩
  go_wp2
  go_ret
  exact ⟨rfl, rfl⟩

theorem bbitLen_any (g o : Nat) (A : Option Addr) (n c : Nat) (xs : List Nat) (w : World) (h1 : w.cell? ⟨g, o + 1, none⟩ = some (.slice A n c)) (hx : RdW w (.slice A n c) xs) (hn : n = xs.length) (hnb : n ≤ 1099511627776) (hd : Dig 18446744073709551616 xs) (hc : Canon xs) :
    Calls Tryz.prog 119 #[.pointer (some ⟨g, o, none⟩)] w fun e w' => e = .returned (.int .i64 (blen (dval 18446744073709551616 xs) : Nat)) ∧ w' = w := by
  have Con := hide (ibitLen_any g o A n c xs w h1 hx hn hnb hd hc)
  clear h1 hx hn hnb hd hc
  generalize blen (dval 18446744073709551616 xs) = b at *
  go_enter Tryz.func119, Tryz.ntmps119
  go_wp2_with fail
  refine (Con.out).mono ?_
  rintro e w1 ⟨rfl, rfl⟩
  go_wp2
  go_ret
  exact ⟨rfl, rfl⟩

end Go.Proofs.YtfkcobdkgjhfaaaGreatDoor
