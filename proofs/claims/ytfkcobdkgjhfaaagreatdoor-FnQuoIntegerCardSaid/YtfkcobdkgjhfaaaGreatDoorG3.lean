/- Parts of the proofs: Bits2. -/
import Derived.Test.YtfkcobdkgjhfaaaGreatDoorG2
/- Walks: bitsDiv64, bitsDiv: a quotient of two words by one. -/
set_option linter.unusedVariables false
set_option linter.unusedSimpArgs false
namespace Go.Proofs.YtfkcobdkgjhfaaaGreatDoor
open Go.RowKit

theorem bitLen_log (x : Nat) (h0 : 0 < x) (h : x < 18446744073709551616) : Lib.bitLen x = Nat.log2 x + 1 := by
  have h1 : 2 ^ Nat.log2 x ≤ x := Nat.log2_self_le (by omega)
  have h2 : x < 2 ^ (Nat.log2 x + 1) := Nat.lt_log2_self
  rw [Lib.bitLen_shift (Nat.log2 x) x h1 (by omega)]
  have h3 : x / 2 ^ Nat.log2 x = 1 := by
    rw [Nat.pow_succ] at h2
    exact Nat.div_eq_of_lt_le (by omega) (by omega)
  rw [h3]
  rfl

/-- A word shifted so that its greatest bit is set. -/
theorem nlz_spec (x : Nat) (h0 : 0 < x) (h : x < 18446744073709551616) : nlzN x ≤ 63 ∧ 9223372036854775808 ≤ x * 2 ^ nlzN x ∧ x * 2 ^ nlzN x < 18446744073709551616 := by
  have h1 : 2 ^ Nat.log2 x ≤ x := Nat.log2_self_le (by omega)
  have h2 : x < 2 ^ (Nat.log2 x + 1) := Nat.lt_log2_self
  have h3 : Nat.log2 x < 64 := (Nat.log2_lt (by omega)).2 (by omega)
  unfold nlzN
  rw [bitLen_log x h0 h]
  obtain ⟨l, hl⟩ : ∃ l, l = Nat.log2 x := ⟨_, rfl⟩
  rw [← hl] at h1 h2 h3 ⊢
  have e : 2 ^ l * 2 ^ (64 - (l + 1)) = 9223372036854775808 := by rw [← Nat.pow_add, show l + (64 - (l + 1)) = 63 by omega]
  have e2 : 2 ^ (l + 1) * 2 ^ (64 - (l + 1)) = 18446744073709551616 := by rw [← Nat.pow_add, show l + 1 + (64 - (l + 1)) = 64 by omega]
  have a1 := Nat.mul_le_mul_right (2 ^ (64 - (l + 1))) h1
  have a2 := Nat.mul_lt_mul_of_pos_right h2 (Nat.two_pow_pos (64 - (l + 1)))
  omega

/-- A quotient and what is left. -/
def DivP (hi lo y : Nat) (w : World) (e : Ending) (w' : World) : Prop :=
  ∃ q r : Nat, e = .returned (.tuple #[.int .u64 (q : Int), .int .u64 (r : Int)]) ∧ Hid (q = (hi * 18446744073709551616 + lo) / y ∧ r = (hi * 18446744073709551616 + lo) % y) ∧ Below w.heap.size w w'

theorem wrpN (z : Nat) : IntKind.u64.wrap (z : Int) = ((z % 18446744073709551616 : Nat) : Int) := by
  rw [IntKind.wrap_u64]; omega
theorem nat_low32 (x : Nat) : x &&& 4294967295 = x % 4294967296 := Nat.and_two_pow_sub_one_eq_mod x 32

/-- What the words are before the two half steps. -/
structure Split (hi lo y n d a b u l y1 y0 n1 n0 : Nat) : Prop where
  F1 : IntKind.u64.wrap ((y : Int) * 2 ^ n) = (d : Int)
  F2 : IntKind.u64.wrap ((hi : Int) * 2 ^ n) = (a : Int)
  F3 : (lo : Int) / 2 ^ (64 - n) = (b : Int)
  F4 : bits .or .u64 (a : Int) (b : Int) = (u : Int)
  F5 : IntKind.u64.wrap ((lo : Int) * 2 ^ n) = (l : Int)
  F6 : (d : Int) / 4294967296 = (y1 : Int)
  F7 : bits .and .u64 (d : Int) 4294967295 = (y0 : Int)
  F8 : (l : Int) / 4294967296 = (n1 : Int)
  F9 : bits .and .u64 (l : Int) 4294967295 = (n0 : Int)
  hd : d = y1 * 4294967296 + y0
  h2 : 2147483648 ≤ y1 ∧ y1 < 4294967296 ∧ y0 < 4294967296 ∧ n1 < 4294967296 ∧ n0 < 4294967296
  hu : u < d
  hN : (u * 4294967296 + n1) * 4294967296 + n0 = (hi * 18446744073709551616 + lo) * 2 ^ n
  hdy : d = y * 2 ^ n

theorem split_of (hi lo y : Nat) (hy : y < 18446744073709551616) (hlo : lo < 18446744073709551616) (hhi : hi < y) : ∃ n d a b u l y1 y0 n1 n0, n = nlzN y ∧ n ≤ 63 ∧ Split hi lo y n d a b u l y1 y0 n1 n0 := by
  obtain ⟨hn, h1, h2⟩ := nlz_spec y (by omega) hy
  obtain ⟨n, hn'⟩ : ∃ n, n = nlzN y := ⟨_, rfl⟩
  rw [← hn'] at hn h1 h2
  have hp : 0 < 2 ^ n := Nat.two_pow_pos n
  have hq : 0 < 2 ^ (64 - n) := Nat.two_pow_pos _
  have hpq : 2 ^ (64 - n) * 2 ^ n = 18446744073709551616 := by rw [← Nat.pow_add, show 64 - n + n = 64 by omega]
  have a1 : (hi + 1) * 2 ^ n ≤ y * 2 ^ n := Nat.mul_le_mul_right _ hhi
  have a2 : (hi + 1) * 2 ^ n = hi * 2 ^ n + 2 ^ n := by rw [Nat.add_mul, Nat.one_mul]
  have a3 : lo / 2 ^ (64 - n) < 2 ^ n := by rw [Nat.div_lt_iff_lt_mul hq, Nat.mul_comm, hpq]; exact hlo
  have a4 : lo * 2 ^ n / 18446744073709551616 = lo / 2 ^ (64 - n) := by
    rw [← hpq, Nat.mul_div_mul_right _ _ hp]
  have hor : hi * 2 ^ n ||| lo / 2 ^ (64 - n) = hi * 2 ^ n + lo / 2 ^ (64 - n) := nat_join n _ _ (Nat.mul_mod_left _ _) a3
  have wrp : ∀ z : Nat, IntKind.u64.wrap (z : Int) = ((z % 18446744073709551616 : Nat) : Int) := by
    intro z; simp [IntKind.wrap, IntKind.signed, IntKind.bits]
  refine ⟨n, y * 2 ^ n, hi * 2 ^ n, lo / 2 ^ (64 - n), hi * 2 ^ n + lo / 2 ^ (64 - n), lo * 2 ^ n % 18446744073709551616, y * 2 ^ n / 4294967296, y * 2 ^ n % 4294967296, lo * 2 ^ n % 18446744073709551616 / 4294967296, lo * 2 ^ n % 18446744073709551616 % 4294967296, hn', hn, ?_⟩
  have e1 : ((y : Int) * 2 ^ n) = ((y * 2 ^ n : Nat) : Int) := by simp
  have e2 : ((hi : Int) * 2 ^ n) = ((hi * 2 ^ n : Nat) : Int) := by simp
  have e3 : ((lo : Int) * 2 ^ n) = ((lo * 2 ^ n : Nat) : Int) := by simp
  refine ⟨?_, ?_, ?_, ?_, ?_, ?_, ?_, ?_, ?_, ?_, ?_, ?_, ?_, rfl⟩
  · rw [e1, wrp, Nat.mod_eq_of_lt h2]
  · rw [e2, wrp, Nat.mod_eq_of_lt (by omega)]
  · simp
  · rw [u64_or_nat _ _ (by omega) (by omega), hor]
  · rw [e3, wrp]
  · omega
  · rw [show (4294967295 : Int) = ((4294967295 : Nat) : Int) from rfl, u64_and_nat _ _ h2 (by omega), nat_low32]
  · omega
  · rw [show (4294967295 : Int) = ((4294967295 : Nat) : Int) from rfl, u64_and_nat _ _ (by omega) (by omega), nat_low32]
  · omega
  · omega
  · omega
  · have e5 : (hi * 18446744073709551616 + lo) * 2 ^ n = hi * 2 ^ n * 18446744073709551616 + lo * 2 ^ n := by grind
    rw [e5]
    omega

set_option maxHeartbeats 4000000 in
set_option maxRecDepth 20000 in
theorem bitsDiv64_any (hi lo y : Nat) (w : World) (hy : y < 18446744073709551616) (hlo : lo < 18446744073709551616) (hhi : hi < y) :
    Calls Tryz.prog 231 #[.int .u64 (hi : Int), .int .u64 (lo : Int), .int .u64 (y : Int)] w (DivP hi lo y w) := by
  have y0 : ((y : Int) == 0) = false := beq_eq_false_iff_ne.2 (by omega)
  have yl : ¬ ((y : Int) ≤ hi) := by omega
  by_cases h0 : hi = 0
  · subst h0
    obtain ⟨q, hq⟩ : ∃ q, q = lo / y := ⟨_, rfl⟩
    obtain ⟨r, hr⟩ : ∃ r, r = lo % y := ⟨_, rfl⟩
    have f1 : (lo : Int) / (y : Int) = (q : Int) := by rw [hq]; simp
    have f2 : (lo : Int) % (y : Int) = (r : Int) := by rw [hr]; simp
    have f1w : IntKind.u64.wrap (q : Int) = (q : Int) := by
      have : q ≤ lo := by rw [hq]; exact Nat.div_le_self _ _
      rw [IntKind.wrap_u64]; omega
    have fin : DivP 0 lo y w (.returned (.tuple #[.int .u64 (q : Int), .int .u64 (r : Int)])) w.drew := ⟨q, r, rfl, ⟨by rw [hq]; simp, by rw [hr]; simp⟩, (Below.refl _ _).drew⟩
    have Fin := hide fin
    have ypos : (0 : Int) < y := by omega
    have yne : (y : Int) ≠ 0 := by omega
    clear hq hr fin
    go_enter Tryz.func231, Tryz.ntmps231
    go_wp2_with fail
    go_region
    all_goals go_wp2
    all_goals go_ret2
    all_goals try simp only [f2, f1w]
    all_goals exact Fin.out
  · have hb0 : ((hi : Int) == 0) = false := beq_eq_false_iff_ne.2 (by omega)
    have Con := hide (Tryz.bits_LeadingZeros64 (y : Int) w (by omega) (by omega))
    have hb : Lib.bitLen y ≤ 64 := Lib.bitLen_le y 64 (Nat.le_refl _) (by omega)
    have e1 : (64 - (Lib.bitLen (y : Int).toNat : Int)) = (nlzN y : Int) := by simp [nlzN]; omega
    rw [e1] at Con
    obtain ⟨n, d, a, b, u, l, y1, y0', n1, n0, hn, hn63, S⟩ := split_of hi lo y hy hlo hhi
    rw [← hn] at Con
    obtain ⟨F1, F2, F3, F4, F5, F6, F7, F8, F9, hd, h2, hu, hN, hdy⟩ := S
    obtain ⟨g1, g2, g3, g4, g5⟩ := h2
    obtain ⟨q, hq⟩ : ∃ q, q = u / y1 := ⟨_, rfl⟩
    obtain ⟨r, hr⟩ : ∃ r, r = u % y1 := ⟨_, rfl⟩
    have hqr : q * y1 + r = u := by rw [hq, hr, Nat.mul_comm]; exact Nat.div_add_mod u y1
    have f1 : (u : Int) / (y1 : Int) = (q : Int) := by rw [hq]; simp
    have ypos : (0 : Int) < y1 := by omega
    have yne : (y1 : Int) ≠ 0 := by omega
    have hqb : q ≤ 4294967297 := by rw [hq]; exact half_init2 hd (by omega) g3 hu (by omega)
    have hqc : (u * 4294967296 + n1) / d ≤ q := by rw [hq]; exact half_init hd (by omega) hu g4
    have hrb : r < 4294967296 := by rw [hr]; exact Nat.lt_trans (Nat.mod_lt _ (by omega)) g2
    have f1w : IntKind.u64.wrap (q : Int) = (q : Int) := by rw [IntKind.wrap_u64]; omega
    have hdl : d < 18446744073709551616 := by omega
    have f2 : IntKind.u64.wrap ((u : Int) - IntKind.u64.wrap ((q : Int) * (y1 : Int))) = (r : Int) := by
      rw [← Int.natCast_mul, IntKind.wrap_u64, IntKind.wrap_u64]
      generalize q * y1 = P at hqr ⊢
      omega
    have HH := hide (And.intro hd (And.intro hu (And.intro hN (And.intro hdy (And.intro hqr hn)))))
    have HUa := hide hu
    have HNa := hide g4
    have Hdl := hide hdl
    have HS0 := hide (And.intro hqr (And.intro hqc (And.intro hrb hqb)))
    clear e1 hb hn hd hu hN hdy hq hr hqr hqb hqc hrb hdl
    go_enter Tryz.func231, Tryz.ntmps231
    go_wp2_with fail
    refine (Con.out).mono ?_
    rintro e w1 ⟨rfl, rfl⟩
    go_wp2
    go_loop [15, 16] (fun vq vr => ∃ q r : Nat, vq = .int .u64 q ∧ vr = .int .u64 r ∧ Hid (q * y1 + r = u ∧ (u * 4294967296 + n1) / d ≤ q ∧ r < 4294967296 ∧ q ≤ 4294967297)) (fun vq _ => (intOf vq).toNat)
    case atStart => exact ⟨q, r, rfl, rfl, HS0.out⟩
    case round =>
      obtain ⟨qa, ra, rfl, rfl, HIa⟩ := hrel
      obtain ⟨m1, hm1⟩ : ∃ m, m = qa * y0' % 18446744073709551616 := ⟨_, rfl⟩
      obtain ⟨m2, hm2⟩ : ∃ m, m = 4294967296 * ra % 18446744073709551616 := ⟨_, rfl⟩
      obtain ⟨m3, hm3⟩ : ∃ m, m = (m2 + n1) % 18446744073709551616 := ⟨_, rfl⟩
      have p1 : IntKind.u64.wrap ((qa : Int) * (y0' : Int)) = (m1 : Int) := by rw [hm1, ← wrpN, Int.natCast_mul]
      have p2 : IntKind.u64.wrap (4294967296 * (ra : Int)) = (m2 : Int) := by rw [hm2, ← wrpN, Int.natCast_mul]; rfl
      have p3 : IntKind.u64.wrap ((m2 : Int) + (n1 : Int)) = (m3 : Int) := by rw [hm3, ← wrpN, Int.natCast_add]
      have hcase : (Hid (4294967296 ≤ qa ∨ 4294967296 * ra + n1 < qa * y0') ∧ (((4294967296 : Int) ≤ qa) ∨ (¬ ((4294967296 : Int) ≤ qa) ∧ (m3 : Int) < m1))) ∨ (Hid (qa * y0' ≤ 4294967296 * ra + n1) ∧ ¬ ((4294967296 : Int) ≤ qa) ∧ ¬ ((m3 : Int) < m1)) := by
        by_cases hk : 4294967296 ≤ qa
        · exact .inl ⟨.inl hk, .inl (by omega)⟩
        · have h3 : qa * y0' < 18446744073709551616 := Nat.lt_of_le_of_lt (Nat.mul_le_mul (by omega : qa ≤ 4294967295) (by omega : y0' ≤ 4294967295)) (by decide)
          have h4 := HIa.out.2.2.1
          have h5 : m1 = qa * y0' := by rw [hm1, Nat.mod_eq_of_lt h3]
          by_cases hg : 4294967296 * ra + n1 < qa * y0'
          · exact .inl ⟨.inr hg, .inr ⟨by omega, by omega⟩⟩
          · exact .inr ⟨Nat.le_of_not_lt hg, by omega, by omega⟩
      clear hm1 hm2 hm3
      rcases hcase with ⟨HC, hway⟩ | ⟨HC, hk, hg⟩
      · have hdec := half_dec HH.out.1 HIa.out.1 HUa.out HNa.out HIa.out.2.1 HC.out
        obtain ⟨qda, hqd⟩ : ∃ qda, qda = qa - 1 := ⟨_, rfl⟩
        obtain ⟨rda, hrd⟩ : ∃ rda, rda = ra + y1 := ⟨_, rfl⟩
        have hI2 : qda * y1 + rda = u ∧ (u * 4294967296 + n1) / d ≤ qda ∧ qda ≤ 4294967296 := by
          obtain ⟨i1, i2, i3, i4⟩ := HIa.out
          refine ⟨?_, by rw [hqd]; exact hdec.2, by omega⟩
          rw [← i1, hqd, hrd]
          obtain ⟨z, hz⟩ : ∃ z, qa = z + 1 := ⟨qa - 1, by omega⟩
          rw [hz, Nat.add_sub_cancel, Nat.add_mul]
          omega
        have p4 : IntKind.u64.wrap ((qa : Int) - 1) = (qda : Int) := by
          rw [IntKind.wrap_u64]
          have := HIa.out.2.2.2
          omega
        have p5 : IntKind.u64.wrap ((ra : Int) + (y1 : Int)) = (rda : Int) := by
          rw [IntKind.wrap_u64]
          have := HIa.out.2.2.1
          omega
        have hqlt : qda < qa := by omega
        have HI3 := hide hI2
        have HL := hide hqlt
        clear hdec hqd hrd hI2 hqlt
        by_cases hrd : rda < 4294967296
        · have hrk : ¬ ((4294967296 : Int) ≤ rda) := by omega
          rcases hway with hk | ⟨hk, hg⟩
          all_goals go_wp2
          all_goals go_round
          case rel => exact ⟨qda, rda, rfl, rfl, HI3.out.1, HI3.out.2.1, hrd, Nat.le_succ_of_le HI3.out.2.2⟩
          case measure => have := HL.out; simp [intOf]; omega
          case rel => exact ⟨qda, rda, rfl, rfl, HI3.out.1, HI3.out.2.1, hrd, Nat.le_succ_of_le HI3.out.2.2⟩
          case measure => have := HL.out; simp [intOf]; omega
        · have hrk : ((4294967296 : Int) ≤ rda) := by omega
          have HQa := hide (half_break HH.out.1 (Nat.zero_lt_of_lt HUa.out) g3 HI3.out.1 HI3.out.2.1 HI3.out.2.2 (Nat.le_of_not_lt hrd))
          clear hrd
          rcases hway with hk | ⟨hk, hg⟩
          · have hfl : qda < 4294967296 := by rw [HQa.out]; exact half_lt HUa.out HNa.out
            obtain ⟨k1, hk1⟩ : ∃ j, j = u * 4294967296 % 18446744073709551616 := ⟨_, rfl⟩
            obtain ⟨k2, hk2⟩ : ∃ j, j = (k1 + n1) % 18446744073709551616 := ⟨_, rfl⟩
            obtain ⟨k3, hk3⟩ : ∃ j, j = qda * d % 18446744073709551616 := ⟨_, rfl⟩
            obtain ⟨u2, hu2⟩ : ∃ j, j = (u * 4294967296 + n1) % d := ⟨_, rfl⟩
            have hu2d : u2 < d := by rw [hu2]; exact Nat.mod_lt _ (Nat.zero_lt_of_lt HUa.out)
            have s1 : IntKind.u64.wrap ((u : Int) * 4294967296) = (k1 : Int) := by rw [hk1, ← wrpN, Int.natCast_mul]; rfl
            have s2 : IntKind.u64.wrap ((k1 : Int) + (n1 : Int)) = (k2 : Int) := by rw [hk2, ← wrpN, Int.natCast_add]
            have s3 : IntKind.u64.wrap ((qda : Int) * (d : Int)) = (k3 : Int) := by rw [hk3, ← wrpN, Int.natCast_mul]
            have s4 : IntKind.u64.wrap ((k2 : Int) - (k3 : Int)) = (u2 : Int) := by
              have e := Nat.div_add_mod (u * 4294967296 + n1) d
              rw [← HQa.out, ← hu2, Nat.mul_comm] at e
              have hd2 := Hdl.out
              rw [IntKind.wrap_u64]
              generalize qda * d = P at e hk3
              omega
            obtain ⟨q2, hq2⟩ : ∃ j, j = u2 / y1 := ⟨_, rfl⟩
            obtain ⟨r2, hr2⟩ : ∃ j, j = u2 % y1 := ⟨_, rfl⟩
            have hqr2 : q2 * y1 + r2 = u2 := by rw [hq2, hr2, Nat.mul_comm]; exact Nat.div_add_mod u2 y1
            have hq2b : q2 ≤ 4294967297 := by rw [hq2]; exact half_init2 HH.out.1 (by omega) g3 hu2d (by omega)
            have hq2c : (u2 * 4294967296 + n0) / d ≤ q2 := by rw [hq2]; exact half_init HH.out.1 (by omega) hu2d g5
            have hr2b : r2 < 4294967296 := by rw [hr2]; exact Nat.lt_trans (Nat.mod_lt _ (by omega)) g2
            have s5 : (u2 : Int) / (y1 : Int) = (q2 : Int) := by rw [hq2]; simp
            have s6 : IntKind.u64.wrap (q2 : Int) = (q2 : Int) := by rw [IntKind.wrap_u64]; omega
            have s7 : IntKind.u64.wrap ((u2 : Int) - IntKind.u64.wrap ((q2 : Int) * (y1 : Int))) = (r2 : Int) := by
              rw [← Int.natCast_mul, IntKind.wrap_u64, IntKind.wrap_u64]
              have hd2 := Hdl.out
              generalize q2 * y1 = P at hqr2 ⊢
              omega
            have HUb := hide hu2d
            have HNb := hide g5
            have Hu2 := hide hu2
            have Hfl := hide hfl
            have HS := hide (And.intro hqr2 (And.intro hq2c (And.intro hr2b hq2b)))
            clear hk1 hk2 hk3 hu2 hu2d hq2 hr2 hqr2 hq2b hq2c hr2b hfl
            go_wp2
            go_loop [18, 16] (fun vq vr => ∃ q r : Nat, vq = .int .u64 q ∧ vr = .int .u64 r ∧ Hid (q * y1 + r = u2 ∧ (u2 * 4294967296 + n0) / d ≤ q ∧ r < 4294967296 ∧ q ≤ 4294967297)) (fun vq _ => (intOf vq).toNat)
            case atStart => exact ⟨q2, r2, rfl, rfl, HS.out⟩
            case round =>
              obtain ⟨qb, rb, rfl, rfl, HIb⟩ := hrel
              obtain ⟨m1, hm1⟩ : ∃ m, m = qb * y0' % 18446744073709551616 := ⟨_, rfl⟩
              obtain ⟨m2, hm2⟩ : ∃ m, m = 4294967296 * rb % 18446744073709551616 := ⟨_, rfl⟩
              obtain ⟨m3, hm3⟩ : ∃ m, m = (m2 + n0) % 18446744073709551616 := ⟨_, rfl⟩
              have p1 : IntKind.u64.wrap ((qb : Int) * (y0' : Int)) = (m1 : Int) := by rw [hm1, ← wrpN, Int.natCast_mul]
              have p2 : IntKind.u64.wrap (4294967296 * (rb : Int)) = (m2 : Int) := by rw [hm2, ← wrpN, Int.natCast_mul]; rfl
              have p3 : IntKind.u64.wrap ((m2 : Int) + (n0 : Int)) = (m3 : Int) := by rw [hm3, ← wrpN, Int.natCast_add]
              have hcase : (Hid (4294967296 ≤ qb ∨ 4294967296 * rb + n0 < qb * y0') ∧ (((4294967296 : Int) ≤ qb) ∨ (¬ ((4294967296 : Int) ≤ qb) ∧ (m3 : Int) < m1))) ∨ (Hid (qb * y0' ≤ 4294967296 * rb + n0) ∧ ¬ ((4294967296 : Int) ≤ qb) ∧ ¬ ((m3 : Int) < m1)) := by
                by_cases hk : 4294967296 ≤ qb
                · exact .inl ⟨.inl hk, .inl (by omega)⟩
                · have h3 : qb * y0' < 18446744073709551616 := Nat.lt_of_le_of_lt (Nat.mul_le_mul (by omega : qb ≤ 4294967295) (by omega : y0' ≤ 4294967295)) (by decide)
                  have h4 := HIb.out.2.2.1
                  have h5 : m1 = qb * y0' := by rw [hm1, Nat.mod_eq_of_lt h3]
                  by_cases hg : 4294967296 * rb + n0 < qb * y0'
                  · exact .inl ⟨.inr hg, .inr ⟨by omega, by omega⟩⟩
                  · exact .inr ⟨Nat.le_of_not_lt hg, by omega, by omega⟩
              clear hm1 hm2 hm3
              rcases hcase with ⟨HC, hway⟩ | ⟨HC, hk, hg⟩
              · have hdec := half_dec HH.out.1 HIb.out.1 HUb.out HNb.out HIb.out.2.1 HC.out
                obtain ⟨qdb, hqd⟩ : ∃ qdb, qdb = qb - 1 := ⟨_, rfl⟩
                obtain ⟨rdb, hrd⟩ : ∃ rdb, rdb = rb + y1 := ⟨_, rfl⟩
                have hI2 : qdb * y1 + rdb = u2 ∧ (u2 * 4294967296 + n0) / d ≤ qdb ∧ qdb ≤ 4294967296 := by
                  obtain ⟨i1, i2, i3, i4⟩ := HIb.out
                  refine ⟨?_, by rw [hqd]; exact hdec.2, by omega⟩
                  rw [← i1, hqd, hrd]
                  obtain ⟨z, hz⟩ : ∃ z, qb = z + 1 := ⟨qb - 1, by omega⟩
                  rw [hz, Nat.add_sub_cancel, Nat.add_mul]
                  omega
                have p4 : IntKind.u64.wrap ((qb : Int) - 1) = (qdb : Int) := by
                  rw [IntKind.wrap_u64]
                  have := HIb.out.2.2.2
                  omega
                have p5 : IntKind.u64.wrap ((rb : Int) + (y1 : Int)) = (rdb : Int) := by
                  rw [IntKind.wrap_u64]
                  have := HIb.out.2.2.1
                  omega
                have hqlt : qdb < qb := by omega
                have HI3 := hide hI2
                have HL := hide hqlt
                clear hdec hqd hrd hI2 hqlt
                by_cases hrd : rdb < 4294967296
                · have hrk : ¬ ((4294967296 : Int) ≤ rdb) := by omega
                  rcases hway with hk | ⟨hk, hg⟩
                  all_goals go_wp2
                  all_goals go_round
                  case rel => exact ⟨qdb, rdb, rfl, rfl, HI3.out.1, HI3.out.2.1, hrd, Nat.le_succ_of_le HI3.out.2.2⟩
                  case measure => have := HL.out; simp [intOf]; omega
                  case rel => exact ⟨qdb, rdb, rfl, rfl, HI3.out.1, HI3.out.2.1, hrd, Nat.le_succ_of_le HI3.out.2.2⟩
                  case measure => have := HL.out; simp [intOf]; omega
                · have hrk : ((4294967296 : Int) ≤ rdb) := by omega
                  have HQb := hide (half_break HH.out.1 (Nat.zero_lt_of_lt HUb.out) g3 HI3.out.1 HI3.out.2.1 HI3.out.2.2 (Nat.le_of_not_lt hrd))
                  clear hrd
                  rcases hway with hk | ⟨hk, hg⟩
                  · have hgl : qdb < 4294967296 := by rw [HQb.out]; exact half_lt HUb.out HNb.out
                    obtain ⟨j1, hj1⟩ : ∃ j, j = qda * 4294967296 % 18446744073709551616 := ⟨_, rfl⟩
                    obtain ⟨j3, hj3⟩ : ∃ j, j = u2 * 4294967296 % 18446744073709551616 := ⟨_, rfl⟩
                    obtain ⟨j4, hj4⟩ : ∃ j, j = (j3 + n0) % 18446744073709551616 := ⟨_, rfl⟩
                    obtain ⟨j5, hj5⟩ : ∃ j, j = qdb * d % 18446744073709551616 := ⟨_, rfl⟩
                    obtain ⟨rr, hrr⟩ : ∃ j, j = (u2 * 4294967296 + n0) % d := ⟨_, rfl⟩
                    obtain ⟨Qf, hQf⟩ : ∃ j, j = qda * 4294967296 + qdb := ⟨_, rfl⟩
                    obtain ⟨Rf, hRf⟩ : ∃ j, j = rr / 2 ^ n := ⟨_, rfl⟩
                    have t1 : IntKind.u64.wrap ((qda : Int) * 4294967296) = (j1 : Int) := by rw [hj1, ← wrpN, Int.natCast_mul]; rfl
                    have t2 : IntKind.u64.wrap ((j1 : Int) + (qdb : Int)) = (Qf : Int) := by rw [IntKind.wrap_u64]; have := Hfl.out; omega
                    have t3 : IntKind.u64.wrap ((u2 : Int) * 4294967296) = (j3 : Int) := by rw [hj3, ← wrpN, Int.natCast_mul]; rfl
                    have t4 : IntKind.u64.wrap ((j3 : Int) + (n0 : Int)) = (j4 : Int) := by rw [hj4, ← wrpN, Int.natCast_add]
                    have t5 : IntKind.u64.wrap ((qdb : Int) * (d : Int)) = (j5 : Int) := by rw [hj5, ← wrpN, Int.natCast_mul]
                    have t6 : IntKind.u64.wrap ((j4 : Int) - (j5 : Int)) = (rr : Int) := by
                      have e := Nat.div_add_mod (u2 * 4294967296 + n0) d
                      rw [← HQb.out, ← hrr, Nat.mul_comm] at e
                      have hl : rr < d := by rw [hrr]; exact Nat.mod_lt _ (Nat.zero_lt_of_lt HUb.out)
                      have hd2 := Hdl.out
                      rw [IntKind.wrap_u64]
                      generalize qdb * d = P at e hj5
                      omega
                    have t7 : (rr : Int) / 2 ^ n = (Rf : Int) := by rw [hRf]; simp
                    have hfin : Qf = (hi * 18446744073709551616 + lo) / y ∧ Rf = (hi * 18446744073709551616 + lo) % y := by
                      rw [hQf, hRf]
                      exact knuth_join (Nat.two_pow_pos n) (by omega) HH.out.2.2.2.1 HH.out.2.2.1 HQa.out Hu2.out HQb.out hrr
                    have HF := hide hfin
                    clear hfin hj1 hj3 hj4 hj5 hrr hQf hRf hgl
                    go_wp2
                    go_ret2
                    exact ⟨Qf, Rf, rfl, HF.out, Below.refl _ _⟩
                  · have hgl : qdb < 4294967296 := by rw [HQb.out]; exact half_lt HUb.out HNb.out
                    obtain ⟨j1, hj1⟩ : ∃ j, j = qda * 4294967296 % 18446744073709551616 := ⟨_, rfl⟩
                    obtain ⟨j3, hj3⟩ : ∃ j, j = u2 * 4294967296 % 18446744073709551616 := ⟨_, rfl⟩
                    obtain ⟨j4, hj4⟩ : ∃ j, j = (j3 + n0) % 18446744073709551616 := ⟨_, rfl⟩
                    obtain ⟨j5, hj5⟩ : ∃ j, j = qdb * d % 18446744073709551616 := ⟨_, rfl⟩
                    obtain ⟨rr, hrr⟩ : ∃ j, j = (u2 * 4294967296 + n0) % d := ⟨_, rfl⟩
                    obtain ⟨Qf, hQf⟩ : ∃ j, j = qda * 4294967296 + qdb := ⟨_, rfl⟩
                    obtain ⟨Rf, hRf⟩ : ∃ j, j = rr / 2 ^ n := ⟨_, rfl⟩
                    have t1 : IntKind.u64.wrap ((qda : Int) * 4294967296) = (j1 : Int) := by rw [hj1, ← wrpN, Int.natCast_mul]; rfl
                    have t2 : IntKind.u64.wrap ((j1 : Int) + (qdb : Int)) = (Qf : Int) := by rw [IntKind.wrap_u64]; have := Hfl.out; omega
                    have t3 : IntKind.u64.wrap ((u2 : Int) * 4294967296) = (j3 : Int) := by rw [hj3, ← wrpN, Int.natCast_mul]; rfl
                    have t4 : IntKind.u64.wrap ((j3 : Int) + (n0 : Int)) = (j4 : Int) := by rw [hj4, ← wrpN, Int.natCast_add]
                    have t5 : IntKind.u64.wrap ((qdb : Int) * (d : Int)) = (j5 : Int) := by rw [hj5, ← wrpN, Int.natCast_mul]
                    have t6 : IntKind.u64.wrap ((j4 : Int) - (j5 : Int)) = (rr : Int) := by
                      have e := Nat.div_add_mod (u2 * 4294967296 + n0) d
                      rw [← HQb.out, ← hrr, Nat.mul_comm] at e
                      have hl : rr < d := by rw [hrr]; exact Nat.mod_lt _ (Nat.zero_lt_of_lt HUb.out)
                      have hd2 := Hdl.out
                      rw [IntKind.wrap_u64]
                      generalize qdb * d = P at e hj5
                      omega
                    have t7 : (rr : Int) / 2 ^ n = (Rf : Int) := by rw [hRf]; simp
                    have hfin : Qf = (hi * 18446744073709551616 + lo) / y ∧ Rf = (hi * 18446744073709551616 + lo) % y := by
                      rw [hQf, hRf]
                      exact knuth_join (Nat.two_pow_pos n) (by omega) HH.out.2.2.2.1 HH.out.2.2.1 HQa.out Hu2.out HQb.out hrr
                    have HF := hide hfin
                    clear hfin hj1 hj3 hj4 hj5 hrr hQf hRf hgl
                    go_wp2
                    go_ret2
                    exact ⟨Qf, Rf, rfl, HF.out, Below.refl _ _⟩
              · have HQb := hide (half_exit HH.out.1 (Nat.zero_lt_of_lt HUb.out) HIb.out.1 HIb.out.2.1 HC.out)
                have hgl : qb < 4294967296 := by rw [HQb.out]; exact half_lt HUb.out HNb.out
                obtain ⟨j1, hj1⟩ : ∃ j, j = qda * 4294967296 % 18446744073709551616 := ⟨_, rfl⟩
                obtain ⟨j3, hj3⟩ : ∃ j, j = u2 * 4294967296 % 18446744073709551616 := ⟨_, rfl⟩
                obtain ⟨j4, hj4⟩ : ∃ j, j = (j3 + n0) % 18446744073709551616 := ⟨_, rfl⟩
                obtain ⟨j5, hj5⟩ : ∃ j, j = qb * d % 18446744073709551616 := ⟨_, rfl⟩
                obtain ⟨rr, hrr⟩ : ∃ j, j = (u2 * 4294967296 + n0) % d := ⟨_, rfl⟩
                obtain ⟨Qf, hQf⟩ : ∃ j, j = qda * 4294967296 + qb := ⟨_, rfl⟩
                obtain ⟨Rf, hRf⟩ : ∃ j, j = rr / 2 ^ n := ⟨_, rfl⟩
                have t1 : IntKind.u64.wrap ((qda : Int) * 4294967296) = (j1 : Int) := by rw [hj1, ← wrpN, Int.natCast_mul]; rfl
                have t2 : IntKind.u64.wrap ((j1 : Int) + (qb : Int)) = (Qf : Int) := by rw [IntKind.wrap_u64]; have := Hfl.out; omega
                have t3 : IntKind.u64.wrap ((u2 : Int) * 4294967296) = (j3 : Int) := by rw [hj3, ← wrpN, Int.natCast_mul]; rfl
                have t4 : IntKind.u64.wrap ((j3 : Int) + (n0 : Int)) = (j4 : Int) := by rw [hj4, ← wrpN, Int.natCast_add]
                have t5 : IntKind.u64.wrap ((qb : Int) * (d : Int)) = (j5 : Int) := by rw [hj5, ← wrpN, Int.natCast_mul]
                have t6 : IntKind.u64.wrap ((j4 : Int) - (j5 : Int)) = (rr : Int) := by
                  have e := Nat.div_add_mod (u2 * 4294967296 + n0) d
                  rw [← HQb.out, ← hrr, Nat.mul_comm] at e
                  have hl : rr < d := by rw [hrr]; exact Nat.mod_lt _ (Nat.zero_lt_of_lt HUb.out)
                  have hd2 := Hdl.out
                  rw [IntKind.wrap_u64]
                  generalize qb * d = P at e hj5
                  omega
                have t7 : (rr : Int) / 2 ^ n = (Rf : Int) := by rw [hRf]; simp
                have hfin : Qf = (hi * 18446744073709551616 + lo) / y ∧ Rf = (hi * 18446744073709551616 + lo) % y := by
                  rw [hQf, hRf]
                  exact knuth_join (Nat.two_pow_pos n) (by omega) HH.out.2.2.2.1 HH.out.2.2.1 HQa.out Hu2.out HQb.out hrr
                have HF := hide hfin
                clear hfin hj1 hj3 hj4 hj5 hrr hQf hRf hgl
                go_wp2
                go_ret2
                exact ⟨Qf, Rf, rfl, HF.out, Below.refl _ _⟩
          · have hfl : qda < 4294967296 := by rw [HQa.out]; exact half_lt HUa.out HNa.out
            obtain ⟨k1, hk1⟩ : ∃ j, j = u * 4294967296 % 18446744073709551616 := ⟨_, rfl⟩
            obtain ⟨k2, hk2⟩ : ∃ j, j = (k1 + n1) % 18446744073709551616 := ⟨_, rfl⟩
            obtain ⟨k3, hk3⟩ : ∃ j, j = qda * d % 18446744073709551616 := ⟨_, rfl⟩
            obtain ⟨u2, hu2⟩ : ∃ j, j = (u * 4294967296 + n1) % d := ⟨_, rfl⟩
            have hu2d : u2 < d := by rw [hu2]; exact Nat.mod_lt _ (Nat.zero_lt_of_lt HUa.out)
            have s1 : IntKind.u64.wrap ((u : Int) * 4294967296) = (k1 : Int) := by rw [hk1, ← wrpN, Int.natCast_mul]; rfl
            have s2 : IntKind.u64.wrap ((k1 : Int) + (n1 : Int)) = (k2 : Int) := by rw [hk2, ← wrpN, Int.natCast_add]
            have s3 : IntKind.u64.wrap ((qda : Int) * (d : Int)) = (k3 : Int) := by rw [hk3, ← wrpN, Int.natCast_mul]
            have s4 : IntKind.u64.wrap ((k2 : Int) - (k3 : Int)) = (u2 : Int) := by
              have e := Nat.div_add_mod (u * 4294967296 + n1) d
              rw [← HQa.out, ← hu2, Nat.mul_comm] at e
              have hd2 := Hdl.out
              rw [IntKind.wrap_u64]
              generalize qda * d = P at e hk3
              omega
            obtain ⟨q2, hq2⟩ : ∃ j, j = u2 / y1 := ⟨_, rfl⟩
            obtain ⟨r2, hr2⟩ : ∃ j, j = u2 % y1 := ⟨_, rfl⟩
            have hqr2 : q2 * y1 + r2 = u2 := by rw [hq2, hr2, Nat.mul_comm]; exact Nat.div_add_mod u2 y1
            have hq2b : q2 ≤ 4294967297 := by rw [hq2]; exact half_init2 HH.out.1 (by omega) g3 hu2d (by omega)
            have hq2c : (u2 * 4294967296 + n0) / d ≤ q2 := by rw [hq2]; exact half_init HH.out.1 (by omega) hu2d g5
            have hr2b : r2 < 4294967296 := by rw [hr2]; exact Nat.lt_trans (Nat.mod_lt _ (by omega)) g2
            have s5 : (u2 : Int) / (y1 : Int) = (q2 : Int) := by rw [hq2]; simp
            have s6 : IntKind.u64.wrap (q2 : Int) = (q2 : Int) := by rw [IntKind.wrap_u64]; omega
            have s7 : IntKind.u64.wrap ((u2 : Int) - IntKind.u64.wrap ((q2 : Int) * (y1 : Int))) = (r2 : Int) := by
              rw [← Int.natCast_mul, IntKind.wrap_u64, IntKind.wrap_u64]
              have hd2 := Hdl.out
              generalize q2 * y1 = P at hqr2 ⊢
              omega
            have HUb := hide hu2d
            have HNb := hide g5
            have Hu2 := hide hu2
            have Hfl := hide hfl
            have HS := hide (And.intro hqr2 (And.intro hq2c (And.intro hr2b hq2b)))
            clear hk1 hk2 hk3 hu2 hu2d hq2 hr2 hqr2 hq2b hq2c hr2b hfl
            go_wp2
            go_loop [18, 16] (fun vq vr => ∃ q r : Nat, vq = .int .u64 q ∧ vr = .int .u64 r ∧ Hid (q * y1 + r = u2 ∧ (u2 * 4294967296 + n0) / d ≤ q ∧ r < 4294967296 ∧ q ≤ 4294967297)) (fun vq _ => (intOf vq).toNat)
            case atStart => exact ⟨q2, r2, rfl, rfl, HS.out⟩
            case round =>
              obtain ⟨qb, rb, rfl, rfl, HIb⟩ := hrel
              obtain ⟨m1, hm1⟩ : ∃ m, m = qb * y0' % 18446744073709551616 := ⟨_, rfl⟩
              obtain ⟨m2, hm2⟩ : ∃ m, m = 4294967296 * rb % 18446744073709551616 := ⟨_, rfl⟩
              obtain ⟨m3, hm3⟩ : ∃ m, m = (m2 + n0) % 18446744073709551616 := ⟨_, rfl⟩
              have p1 : IntKind.u64.wrap ((qb : Int) * (y0' : Int)) = (m1 : Int) := by rw [hm1, ← wrpN, Int.natCast_mul]
              have p2 : IntKind.u64.wrap (4294967296 * (rb : Int)) = (m2 : Int) := by rw [hm2, ← wrpN, Int.natCast_mul]; rfl
              have p3 : IntKind.u64.wrap ((m2 : Int) + (n0 : Int)) = (m3 : Int) := by rw [hm3, ← wrpN, Int.natCast_add]
              have hcase : (Hid (4294967296 ≤ qb ∨ 4294967296 * rb + n0 < qb * y0') ∧ (((4294967296 : Int) ≤ qb) ∨ (¬ ((4294967296 : Int) ≤ qb) ∧ (m3 : Int) < m1))) ∨ (Hid (qb * y0' ≤ 4294967296 * rb + n0) ∧ ¬ ((4294967296 : Int) ≤ qb) ∧ ¬ ((m3 : Int) < m1)) := by
                by_cases hk : 4294967296 ≤ qb
                · exact .inl ⟨.inl hk, .inl (by omega)⟩
                · have h3 : qb * y0' < 18446744073709551616 := Nat.lt_of_le_of_lt (Nat.mul_le_mul (by omega : qb ≤ 4294967295) (by omega : y0' ≤ 4294967295)) (by decide)
                  have h4 := HIb.out.2.2.1
                  have h5 : m1 = qb * y0' := by rw [hm1, Nat.mod_eq_of_lt h3]
                  by_cases hg : 4294967296 * rb + n0 < qb * y0'
                  · exact .inl ⟨.inr hg, .inr ⟨by omega, by omega⟩⟩
                  · exact .inr ⟨Nat.le_of_not_lt hg, by omega, by omega⟩
              clear hm1 hm2 hm3
              rcases hcase with ⟨HC, hway⟩ | ⟨HC, hk, hg⟩
              · have hdec := half_dec HH.out.1 HIb.out.1 HUb.out HNb.out HIb.out.2.1 HC.out
                obtain ⟨qdb, hqd⟩ : ∃ qdb, qdb = qb - 1 := ⟨_, rfl⟩
                obtain ⟨rdb, hrd⟩ : ∃ rdb, rdb = rb + y1 := ⟨_, rfl⟩
                have hI2 : qdb * y1 + rdb = u2 ∧ (u2 * 4294967296 + n0) / d ≤ qdb ∧ qdb ≤ 4294967296 := by
                  obtain ⟨i1, i2, i3, i4⟩ := HIb.out
                  refine ⟨?_, by rw [hqd]; exact hdec.2, by omega⟩
                  rw [← i1, hqd, hrd]
                  obtain ⟨z, hz⟩ : ∃ z, qb = z + 1 := ⟨qb - 1, by omega⟩
                  rw [hz, Nat.add_sub_cancel, Nat.add_mul]
                  omega
                have p4 : IntKind.u64.wrap ((qb : Int) - 1) = (qdb : Int) := by
                  rw [IntKind.wrap_u64]
                  have := HIb.out.2.2.2
                  omega
                have p5 : IntKind.u64.wrap ((rb : Int) + (y1 : Int)) = (rdb : Int) := by
                  rw [IntKind.wrap_u64]
                  have := HIb.out.2.2.1
                  omega
                have hqlt : qdb < qb := by omega
                have HI3 := hide hI2
                have HL := hide hqlt
                clear hdec hqd hrd hI2 hqlt
                by_cases hrd : rdb < 4294967296
                · have hrk : ¬ ((4294967296 : Int) ≤ rdb) := by omega
                  rcases hway with hk | ⟨hk, hg⟩
                  all_goals go_wp2
                  all_goals go_round
                  case rel => exact ⟨qdb, rdb, rfl, rfl, HI3.out.1, HI3.out.2.1, hrd, Nat.le_succ_of_le HI3.out.2.2⟩
                  case measure => have := HL.out; simp [intOf]; omega
                  case rel => exact ⟨qdb, rdb, rfl, rfl, HI3.out.1, HI3.out.2.1, hrd, Nat.le_succ_of_le HI3.out.2.2⟩
                  case measure => have := HL.out; simp [intOf]; omega
                · have hrk : ((4294967296 : Int) ≤ rdb) := by omega
                  have HQb := hide (half_break HH.out.1 (Nat.zero_lt_of_lt HUb.out) g3 HI3.out.1 HI3.out.2.1 HI3.out.2.2 (Nat.le_of_not_lt hrd))
                  clear hrd
                  rcases hway with hk | ⟨hk, hg⟩
                  · have hgl : qdb < 4294967296 := by rw [HQb.out]; exact half_lt HUb.out HNb.out
                    obtain ⟨j1, hj1⟩ : ∃ j, j = qda * 4294967296 % 18446744073709551616 := ⟨_, rfl⟩
                    obtain ⟨j3, hj3⟩ : ∃ j, j = u2 * 4294967296 % 18446744073709551616 := ⟨_, rfl⟩
                    obtain ⟨j4, hj4⟩ : ∃ j, j = (j3 + n0) % 18446744073709551616 := ⟨_, rfl⟩
                    obtain ⟨j5, hj5⟩ : ∃ j, j = qdb * d % 18446744073709551616 := ⟨_, rfl⟩
                    obtain ⟨rr, hrr⟩ : ∃ j, j = (u2 * 4294967296 + n0) % d := ⟨_, rfl⟩
                    obtain ⟨Qf, hQf⟩ : ∃ j, j = qda * 4294967296 + qdb := ⟨_, rfl⟩
                    obtain ⟨Rf, hRf⟩ : ∃ j, j = rr / 2 ^ n := ⟨_, rfl⟩
                    have t1 : IntKind.u64.wrap ((qda : Int) * 4294967296) = (j1 : Int) := by rw [hj1, ← wrpN, Int.natCast_mul]; rfl
                    have t2 : IntKind.u64.wrap ((j1 : Int) + (qdb : Int)) = (Qf : Int) := by rw [IntKind.wrap_u64]; have := Hfl.out; omega
                    have t3 : IntKind.u64.wrap ((u2 : Int) * 4294967296) = (j3 : Int) := by rw [hj3, ← wrpN, Int.natCast_mul]; rfl
                    have t4 : IntKind.u64.wrap ((j3 : Int) + (n0 : Int)) = (j4 : Int) := by rw [hj4, ← wrpN, Int.natCast_add]
                    have t5 : IntKind.u64.wrap ((qdb : Int) * (d : Int)) = (j5 : Int) := by rw [hj5, ← wrpN, Int.natCast_mul]
                    have t6 : IntKind.u64.wrap ((j4 : Int) - (j5 : Int)) = (rr : Int) := by
                      have e := Nat.div_add_mod (u2 * 4294967296 + n0) d
                      rw [← HQb.out, ← hrr, Nat.mul_comm] at e
                      have hl : rr < d := by rw [hrr]; exact Nat.mod_lt _ (Nat.zero_lt_of_lt HUb.out)
                      have hd2 := Hdl.out
                      rw [IntKind.wrap_u64]
                      generalize qdb * d = P at e hj5
                      omega
                    have t7 : (rr : Int) / 2 ^ n = (Rf : Int) := by rw [hRf]; simp
                    have hfin : Qf = (hi * 18446744073709551616 + lo) / y ∧ Rf = (hi * 18446744073709551616 + lo) % y := by
                      rw [hQf, hRf]
                      exact knuth_join (Nat.two_pow_pos n) (by omega) HH.out.2.2.2.1 HH.out.2.2.1 HQa.out Hu2.out HQb.out hrr
                    have HF := hide hfin
                    clear hfin hj1 hj3 hj4 hj5 hrr hQf hRf hgl
                    go_wp2
                    go_ret2
                    exact ⟨Qf, Rf, rfl, HF.out, Below.refl _ _⟩
                  · have hgl : qdb < 4294967296 := by rw [HQb.out]; exact half_lt HUb.out HNb.out
                    obtain ⟨j1, hj1⟩ : ∃ j, j = qda * 4294967296 % 18446744073709551616 := ⟨_, rfl⟩
                    obtain ⟨j3, hj3⟩ : ∃ j, j = u2 * 4294967296 % 18446744073709551616 := ⟨_, rfl⟩
                    obtain ⟨j4, hj4⟩ : ∃ j, j = (j3 + n0) % 18446744073709551616 := ⟨_, rfl⟩
                    obtain ⟨j5, hj5⟩ : ∃ j, j = qdb * d % 18446744073709551616 := ⟨_, rfl⟩
                    obtain ⟨rr, hrr⟩ : ∃ j, j = (u2 * 4294967296 + n0) % d := ⟨_, rfl⟩
                    obtain ⟨Qf, hQf⟩ : ∃ j, j = qda * 4294967296 + qdb := ⟨_, rfl⟩
                    obtain ⟨Rf, hRf⟩ : ∃ j, j = rr / 2 ^ n := ⟨_, rfl⟩
                    have t1 : IntKind.u64.wrap ((qda : Int) * 4294967296) = (j1 : Int) := by rw [hj1, ← wrpN, Int.natCast_mul]; rfl
                    have t2 : IntKind.u64.wrap ((j1 : Int) + (qdb : Int)) = (Qf : Int) := by rw [IntKind.wrap_u64]; have := Hfl.out; omega
                    have t3 : IntKind.u64.wrap ((u2 : Int) * 4294967296) = (j3 : Int) := by rw [hj3, ← wrpN, Int.natCast_mul]; rfl
                    have t4 : IntKind.u64.wrap ((j3 : Int) + (n0 : Int)) = (j4 : Int) := by rw [hj4, ← wrpN, Int.natCast_add]
                    have t5 : IntKind.u64.wrap ((qdb : Int) * (d : Int)) = (j5 : Int) := by rw [hj5, ← wrpN, Int.natCast_mul]
                    have t6 : IntKind.u64.wrap ((j4 : Int) - (j5 : Int)) = (rr : Int) := by
                      have e := Nat.div_add_mod (u2 * 4294967296 + n0) d
                      rw [← HQb.out, ← hrr, Nat.mul_comm] at e
                      have hl : rr < d := by rw [hrr]; exact Nat.mod_lt _ (Nat.zero_lt_of_lt HUb.out)
                      have hd2 := Hdl.out
                      rw [IntKind.wrap_u64]
                      generalize qdb * d = P at e hj5
                      omega
                    have t7 : (rr : Int) / 2 ^ n = (Rf : Int) := by rw [hRf]; simp
                    have hfin : Qf = (hi * 18446744073709551616 + lo) / y ∧ Rf = (hi * 18446744073709551616 + lo) % y := by
                      rw [hQf, hRf]
                      exact knuth_join (Nat.two_pow_pos n) (by omega) HH.out.2.2.2.1 HH.out.2.2.1 HQa.out Hu2.out HQb.out hrr
                    have HF := hide hfin
                    clear hfin hj1 hj3 hj4 hj5 hrr hQf hRf hgl
                    go_wp2
                    go_ret2
                    exact ⟨Qf, Rf, rfl, HF.out, Below.refl _ _⟩
              · have HQb := hide (half_exit HH.out.1 (Nat.zero_lt_of_lt HUb.out) HIb.out.1 HIb.out.2.1 HC.out)
                have hgl : qb < 4294967296 := by rw [HQb.out]; exact half_lt HUb.out HNb.out
                obtain ⟨j1, hj1⟩ : ∃ j, j = qda * 4294967296 % 18446744073709551616 := ⟨_, rfl⟩
                obtain ⟨j3, hj3⟩ : ∃ j, j = u2 * 4294967296 % 18446744073709551616 := ⟨_, rfl⟩
                obtain ⟨j4, hj4⟩ : ∃ j, j = (j3 + n0) % 18446744073709551616 := ⟨_, rfl⟩
                obtain ⟨j5, hj5⟩ : ∃ j, j = qb * d % 18446744073709551616 := ⟨_, rfl⟩
                obtain ⟨rr, hrr⟩ : ∃ j, j = (u2 * 4294967296 + n0) % d := ⟨_, rfl⟩
                obtain ⟨Qf, hQf⟩ : ∃ j, j = qda * 4294967296 + qb := ⟨_, rfl⟩
                obtain ⟨Rf, hRf⟩ : ∃ j, j = rr / 2 ^ n := ⟨_, rfl⟩
                have t1 : IntKind.u64.wrap ((qda : Int) * 4294967296) = (j1 : Int) := by rw [hj1, ← wrpN, Int.natCast_mul]; rfl
                have t2 : IntKind.u64.wrap ((j1 : Int) + (qb : Int)) = (Qf : Int) := by rw [IntKind.wrap_u64]; have := Hfl.out; omega
                have t3 : IntKind.u64.wrap ((u2 : Int) * 4294967296) = (j3 : Int) := by rw [hj3, ← wrpN, Int.natCast_mul]; rfl
                have t4 : IntKind.u64.wrap ((j3 : Int) + (n0 : Int)) = (j4 : Int) := by rw [hj4, ← wrpN, Int.natCast_add]
                have t5 : IntKind.u64.wrap ((qb : Int) * (d : Int)) = (j5 : Int) := by rw [hj5, ← wrpN, Int.natCast_mul]
                have t6 : IntKind.u64.wrap ((j4 : Int) - (j5 : Int)) = (rr : Int) := by
                  have e := Nat.div_add_mod (u2 * 4294967296 + n0) d
                  rw [← HQb.out, ← hrr, Nat.mul_comm] at e
                  have hl : rr < d := by rw [hrr]; exact Nat.mod_lt _ (Nat.zero_lt_of_lt HUb.out)
                  have hd2 := Hdl.out
                  rw [IntKind.wrap_u64]
                  generalize qb * d = P at e hj5
                  omega
                have t7 : (rr : Int) / 2 ^ n = (Rf : Int) := by rw [hRf]; simp
                have hfin : Qf = (hi * 18446744073709551616 + lo) / y ∧ Rf = (hi * 18446744073709551616 + lo) % y := by
                  rw [hQf, hRf]
                  exact knuth_join (Nat.two_pow_pos n) (by omega) HH.out.2.2.2.1 HH.out.2.2.1 HQa.out Hu2.out HQb.out hrr
                have HF := hide hfin
                clear hfin hj1 hj3 hj4 hj5 hrr hQf hRf hgl
                go_wp2
                go_ret2
                exact ⟨Qf, Rf, rfl, HF.out, Below.refl _ _⟩
      · have HQa := hide (half_exit HH.out.1 (Nat.zero_lt_of_lt HUa.out) HIa.out.1 HIa.out.2.1 HC.out)
        have hfl : qa < 4294967296 := by rw [HQa.out]; exact half_lt HUa.out HNa.out
        obtain ⟨k1, hk1⟩ : ∃ j, j = u * 4294967296 % 18446744073709551616 := ⟨_, rfl⟩
        obtain ⟨k2, hk2⟩ : ∃ j, j = (k1 + n1) % 18446744073709551616 := ⟨_, rfl⟩
        obtain ⟨k3, hk3⟩ : ∃ j, j = qa * d % 18446744073709551616 := ⟨_, rfl⟩
        obtain ⟨u2, hu2⟩ : ∃ j, j = (u * 4294967296 + n1) % d := ⟨_, rfl⟩
        have hu2d : u2 < d := by rw [hu2]; exact Nat.mod_lt _ (Nat.zero_lt_of_lt HUa.out)
        have s1 : IntKind.u64.wrap ((u : Int) * 4294967296) = (k1 : Int) := by rw [hk1, ← wrpN, Int.natCast_mul]; rfl
        have s2 : IntKind.u64.wrap ((k1 : Int) + (n1 : Int)) = (k2 : Int) := by rw [hk2, ← wrpN, Int.natCast_add]
        have s3 : IntKind.u64.wrap ((qa : Int) * (d : Int)) = (k3 : Int) := by rw [hk3, ← wrpN, Int.natCast_mul]
        have s4 : IntKind.u64.wrap ((k2 : Int) - (k3 : Int)) = (u2 : Int) := by
          have e := Nat.div_add_mod (u * 4294967296 + n1) d
          rw [← HQa.out, ← hu2, Nat.mul_comm] at e
          have hd2 := Hdl.out
          rw [IntKind.wrap_u64]
          generalize qa * d = P at e hk3
          omega
        obtain ⟨q2, hq2⟩ : ∃ j, j = u2 / y1 := ⟨_, rfl⟩
        obtain ⟨r2, hr2⟩ : ∃ j, j = u2 % y1 := ⟨_, rfl⟩
        have hqr2 : q2 * y1 + r2 = u2 := by rw [hq2, hr2, Nat.mul_comm]; exact Nat.div_add_mod u2 y1
        have hq2b : q2 ≤ 4294967297 := by rw [hq2]; exact half_init2 HH.out.1 (by omega) g3 hu2d (by omega)
        have hq2c : (u2 * 4294967296 + n0) / d ≤ q2 := by rw [hq2]; exact half_init HH.out.1 (by omega) hu2d g5
        have hr2b : r2 < 4294967296 := by rw [hr2]; exact Nat.lt_trans (Nat.mod_lt _ (by omega)) g2
        have s5 : (u2 : Int) / (y1 : Int) = (q2 : Int) := by rw [hq2]; simp
        have s6 : IntKind.u64.wrap (q2 : Int) = (q2 : Int) := by rw [IntKind.wrap_u64]; omega
        have s7 : IntKind.u64.wrap ((u2 : Int) - IntKind.u64.wrap ((q2 : Int) * (y1 : Int))) = (r2 : Int) := by
          rw [← Int.natCast_mul, IntKind.wrap_u64, IntKind.wrap_u64]
          have hd2 := Hdl.out
          generalize q2 * y1 = P at hqr2 ⊢
          omega
        have HUb := hide hu2d
        have HNb := hide g5
        have Hu2 := hide hu2
        have Hfl := hide hfl
        have HS := hide (And.intro hqr2 (And.intro hq2c (And.intro hr2b hq2b)))
        clear hk1 hk2 hk3 hu2 hu2d hq2 hr2 hqr2 hq2b hq2c hr2b hfl
        go_wp2
        go_loop [18, 16] (fun vq vr => ∃ q r : Nat, vq = .int .u64 q ∧ vr = .int .u64 r ∧ Hid (q * y1 + r = u2 ∧ (u2 * 4294967296 + n0) / d ≤ q ∧ r < 4294967296 ∧ q ≤ 4294967297)) (fun vq _ => (intOf vq).toNat)
        case atStart => exact ⟨q2, r2, rfl, rfl, HS.out⟩
        case round =>
          obtain ⟨qb, rb, rfl, rfl, HIb⟩ := hrel
          obtain ⟨m1, hm1⟩ : ∃ m, m = qb * y0' % 18446744073709551616 := ⟨_, rfl⟩
          obtain ⟨m2, hm2⟩ : ∃ m, m = 4294967296 * rb % 18446744073709551616 := ⟨_, rfl⟩
          obtain ⟨m3, hm3⟩ : ∃ m, m = (m2 + n0) % 18446744073709551616 := ⟨_, rfl⟩
          have p1 : IntKind.u64.wrap ((qb : Int) * (y0' : Int)) = (m1 : Int) := by rw [hm1, ← wrpN, Int.natCast_mul]
          have p2 : IntKind.u64.wrap (4294967296 * (rb : Int)) = (m2 : Int) := by rw [hm2, ← wrpN, Int.natCast_mul]; rfl
          have p3 : IntKind.u64.wrap ((m2 : Int) + (n0 : Int)) = (m3 : Int) := by rw [hm3, ← wrpN, Int.natCast_add]
          have hcase : (Hid (4294967296 ≤ qb ∨ 4294967296 * rb + n0 < qb * y0') ∧ (((4294967296 : Int) ≤ qb) ∨ (¬ ((4294967296 : Int) ≤ qb) ∧ (m3 : Int) < m1))) ∨ (Hid (qb * y0' ≤ 4294967296 * rb + n0) ∧ ¬ ((4294967296 : Int) ≤ qb) ∧ ¬ ((m3 : Int) < m1)) := by
            by_cases hk : 4294967296 ≤ qb
            · exact .inl ⟨.inl hk, .inl (by omega)⟩
            · have h3 : qb * y0' < 18446744073709551616 := Nat.lt_of_le_of_lt (Nat.mul_le_mul (by omega : qb ≤ 4294967295) (by omega : y0' ≤ 4294967295)) (by decide)
              have h4 := HIb.out.2.2.1
              have h5 : m1 = qb * y0' := by rw [hm1, Nat.mod_eq_of_lt h3]
              by_cases hg : 4294967296 * rb + n0 < qb * y0'
              · exact .inl ⟨.inr hg, .inr ⟨by omega, by omega⟩⟩
              · exact .inr ⟨Nat.le_of_not_lt hg, by omega, by omega⟩
          clear hm1 hm2 hm3
          rcases hcase with ⟨HC, hway⟩ | ⟨HC, hk, hg⟩
          · have hdec := half_dec HH.out.1 HIb.out.1 HUb.out HNb.out HIb.out.2.1 HC.out
            obtain ⟨qdb, hqd⟩ : ∃ qdb, qdb = qb - 1 := ⟨_, rfl⟩
            obtain ⟨rdb, hrd⟩ : ∃ rdb, rdb = rb + y1 := ⟨_, rfl⟩
            have hI2 : qdb * y1 + rdb = u2 ∧ (u2 * 4294967296 + n0) / d ≤ qdb ∧ qdb ≤ 4294967296 := by
              obtain ⟨i1, i2, i3, i4⟩ := HIb.out
              refine ⟨?_, by rw [hqd]; exact hdec.2, by omega⟩
              rw [← i1, hqd, hrd]
              obtain ⟨z, hz⟩ : ∃ z, qb = z + 1 := ⟨qb - 1, by omega⟩
              rw [hz, Nat.add_sub_cancel, Nat.add_mul]
              omega
            have p4 : IntKind.u64.wrap ((qb : Int) - 1) = (qdb : Int) := by
              rw [IntKind.wrap_u64]
              have := HIb.out.2.2.2
              omega
            have p5 : IntKind.u64.wrap ((rb : Int) + (y1 : Int)) = (rdb : Int) := by
              rw [IntKind.wrap_u64]
              have := HIb.out.2.2.1
              omega
            have hqlt : qdb < qb := by omega
            have HI3 := hide hI2
            have HL := hide hqlt
            clear hdec hqd hrd hI2 hqlt
            by_cases hrd : rdb < 4294967296
            · have hrk : ¬ ((4294967296 : Int) ≤ rdb) := by omega
              rcases hway with hk | ⟨hk, hg⟩
              all_goals go_wp2
              all_goals go_round
              case rel => exact ⟨qdb, rdb, rfl, rfl, HI3.out.1, HI3.out.2.1, hrd, Nat.le_succ_of_le HI3.out.2.2⟩
              case measure => have := HL.out; simp [intOf]; omega
              case rel => exact ⟨qdb, rdb, rfl, rfl, HI3.out.1, HI3.out.2.1, hrd, Nat.le_succ_of_le HI3.out.2.2⟩
              case measure => have := HL.out; simp [intOf]; omega
            · have hrk : ((4294967296 : Int) ≤ rdb) := by omega
              have HQb := hide (half_break HH.out.1 (Nat.zero_lt_of_lt HUb.out) g3 HI3.out.1 HI3.out.2.1 HI3.out.2.2 (Nat.le_of_not_lt hrd))
              clear hrd
              rcases hway with hk | ⟨hk, hg⟩
              · have hgl : qdb < 4294967296 := by rw [HQb.out]; exact half_lt HUb.out HNb.out
                obtain ⟨j1, hj1⟩ : ∃ j, j = qa * 4294967296 % 18446744073709551616 := ⟨_, rfl⟩
                obtain ⟨j3, hj3⟩ : ∃ j, j = u2 * 4294967296 % 18446744073709551616 := ⟨_, rfl⟩
                obtain ⟨j4, hj4⟩ : ∃ j, j = (j3 + n0) % 18446744073709551616 := ⟨_, rfl⟩
                obtain ⟨j5, hj5⟩ : ∃ j, j = qdb * d % 18446744073709551616 := ⟨_, rfl⟩
                obtain ⟨rr, hrr⟩ : ∃ j, j = (u2 * 4294967296 + n0) % d := ⟨_, rfl⟩
                obtain ⟨Qf, hQf⟩ : ∃ j, j = qa * 4294967296 + qdb := ⟨_, rfl⟩
                obtain ⟨Rf, hRf⟩ : ∃ j, j = rr / 2 ^ n := ⟨_, rfl⟩
                have t1 : IntKind.u64.wrap ((qa : Int) * 4294967296) = (j1 : Int) := by rw [hj1, ← wrpN, Int.natCast_mul]; rfl
                have t2 : IntKind.u64.wrap ((j1 : Int) + (qdb : Int)) = (Qf : Int) := by rw [IntKind.wrap_u64]; have := Hfl.out; omega
                have t3 : IntKind.u64.wrap ((u2 : Int) * 4294967296) = (j3 : Int) := by rw [hj3, ← wrpN, Int.natCast_mul]; rfl
                have t4 : IntKind.u64.wrap ((j3 : Int) + (n0 : Int)) = (j4 : Int) := by rw [hj4, ← wrpN, Int.natCast_add]
                have t5 : IntKind.u64.wrap ((qdb : Int) * (d : Int)) = (j5 : Int) := by rw [hj5, ← wrpN, Int.natCast_mul]
                have t6 : IntKind.u64.wrap ((j4 : Int) - (j5 : Int)) = (rr : Int) := by
                  have e := Nat.div_add_mod (u2 * 4294967296 + n0) d
                  rw [← HQb.out, ← hrr, Nat.mul_comm] at e
                  have hl : rr < d := by rw [hrr]; exact Nat.mod_lt _ (Nat.zero_lt_of_lt HUb.out)
                  have hd2 := Hdl.out
                  rw [IntKind.wrap_u64]
                  generalize qdb * d = P at e hj5
                  omega
                have t7 : (rr : Int) / 2 ^ n = (Rf : Int) := by rw [hRf]; simp
                have hfin : Qf = (hi * 18446744073709551616 + lo) / y ∧ Rf = (hi * 18446744073709551616 + lo) % y := by
                  rw [hQf, hRf]
                  exact knuth_join (Nat.two_pow_pos n) (by omega) HH.out.2.2.2.1 HH.out.2.2.1 HQa.out Hu2.out HQb.out hrr
                have HF := hide hfin
                clear hfin hj1 hj3 hj4 hj5 hrr hQf hRf hgl
                go_wp2
                go_ret2
                exact ⟨Qf, Rf, rfl, HF.out, Below.refl _ _⟩
              · have hgl : qdb < 4294967296 := by rw [HQb.out]; exact half_lt HUb.out HNb.out
                obtain ⟨j1, hj1⟩ : ∃ j, j = qa * 4294967296 % 18446744073709551616 := ⟨_, rfl⟩
                obtain ⟨j3, hj3⟩ : ∃ j, j = u2 * 4294967296 % 18446744073709551616 := ⟨_, rfl⟩
                obtain ⟨j4, hj4⟩ : ∃ j, j = (j3 + n0) % 18446744073709551616 := ⟨_, rfl⟩
                obtain ⟨j5, hj5⟩ : ∃ j, j = qdb * d % 18446744073709551616 := ⟨_, rfl⟩
                obtain ⟨rr, hrr⟩ : ∃ j, j = (u2 * 4294967296 + n0) % d := ⟨_, rfl⟩
                obtain ⟨Qf, hQf⟩ : ∃ j, j = qa * 4294967296 + qdb := ⟨_, rfl⟩
                obtain ⟨Rf, hRf⟩ : ∃ j, j = rr / 2 ^ n := ⟨_, rfl⟩
                have t1 : IntKind.u64.wrap ((qa : Int) * 4294967296) = (j1 : Int) := by rw [hj1, ← wrpN, Int.natCast_mul]; rfl
                have t2 : IntKind.u64.wrap ((j1 : Int) + (qdb : Int)) = (Qf : Int) := by rw [IntKind.wrap_u64]; have := Hfl.out; omega
                have t3 : IntKind.u64.wrap ((u2 : Int) * 4294967296) = (j3 : Int) := by rw [hj3, ← wrpN, Int.natCast_mul]; rfl
                have t4 : IntKind.u64.wrap ((j3 : Int) + (n0 : Int)) = (j4 : Int) := by rw [hj4, ← wrpN, Int.natCast_add]
                have t5 : IntKind.u64.wrap ((qdb : Int) * (d : Int)) = (j5 : Int) := by rw [hj5, ← wrpN, Int.natCast_mul]
                have t6 : IntKind.u64.wrap ((j4 : Int) - (j5 : Int)) = (rr : Int) := by
                  have e := Nat.div_add_mod (u2 * 4294967296 + n0) d
                  rw [← HQb.out, ← hrr, Nat.mul_comm] at e
                  have hl : rr < d := by rw [hrr]; exact Nat.mod_lt _ (Nat.zero_lt_of_lt HUb.out)
                  have hd2 := Hdl.out
                  rw [IntKind.wrap_u64]
                  generalize qdb * d = P at e hj5
                  omega
                have t7 : (rr : Int) / 2 ^ n = (Rf : Int) := by rw [hRf]; simp
                have hfin : Qf = (hi * 18446744073709551616 + lo) / y ∧ Rf = (hi * 18446744073709551616 + lo) % y := by
                  rw [hQf, hRf]
                  exact knuth_join (Nat.two_pow_pos n) (by omega) HH.out.2.2.2.1 HH.out.2.2.1 HQa.out Hu2.out HQb.out hrr
                have HF := hide hfin
                clear hfin hj1 hj3 hj4 hj5 hrr hQf hRf hgl
                go_wp2
                go_ret2
                exact ⟨Qf, Rf, rfl, HF.out, Below.refl _ _⟩
          · have HQb := hide (half_exit HH.out.1 (Nat.zero_lt_of_lt HUb.out) HIb.out.1 HIb.out.2.1 HC.out)
            have hgl : qb < 4294967296 := by rw [HQb.out]; exact half_lt HUb.out HNb.out
            obtain ⟨j1, hj1⟩ : ∃ j, j = qa * 4294967296 % 18446744073709551616 := ⟨_, rfl⟩
            obtain ⟨j3, hj3⟩ : ∃ j, j = u2 * 4294967296 % 18446744073709551616 := ⟨_, rfl⟩
            obtain ⟨j4, hj4⟩ : ∃ j, j = (j3 + n0) % 18446744073709551616 := ⟨_, rfl⟩
            obtain ⟨j5, hj5⟩ : ∃ j, j = qb * d % 18446744073709551616 := ⟨_, rfl⟩
            obtain ⟨rr, hrr⟩ : ∃ j, j = (u2 * 4294967296 + n0) % d := ⟨_, rfl⟩
            obtain ⟨Qf, hQf⟩ : ∃ j, j = qa * 4294967296 + qb := ⟨_, rfl⟩
            obtain ⟨Rf, hRf⟩ : ∃ j, j = rr / 2 ^ n := ⟨_, rfl⟩
            have t1 : IntKind.u64.wrap ((qa : Int) * 4294967296) = (j1 : Int) := by rw [hj1, ← wrpN, Int.natCast_mul]; rfl
            have t2 : IntKind.u64.wrap ((j1 : Int) + (qb : Int)) = (Qf : Int) := by rw [IntKind.wrap_u64]; have := Hfl.out; omega
            have t3 : IntKind.u64.wrap ((u2 : Int) * 4294967296) = (j3 : Int) := by rw [hj3, ← wrpN, Int.natCast_mul]; rfl
            have t4 : IntKind.u64.wrap ((j3 : Int) + (n0 : Int)) = (j4 : Int) := by rw [hj4, ← wrpN, Int.natCast_add]
            have t5 : IntKind.u64.wrap ((qb : Int) * (d : Int)) = (j5 : Int) := by rw [hj5, ← wrpN, Int.natCast_mul]
            have t6 : IntKind.u64.wrap ((j4 : Int) - (j5 : Int)) = (rr : Int) := by
              have e := Nat.div_add_mod (u2 * 4294967296 + n0) d
              rw [← HQb.out, ← hrr, Nat.mul_comm] at e
              have hl : rr < d := by rw [hrr]; exact Nat.mod_lt _ (Nat.zero_lt_of_lt HUb.out)
              have hd2 := Hdl.out
              rw [IntKind.wrap_u64]
              generalize qb * d = P at e hj5
              omega
            have t7 : (rr : Int) / 2 ^ n = (Rf : Int) := by rw [hRf]; simp
            have hfin : Qf = (hi * 18446744073709551616 + lo) / y ∧ Rf = (hi * 18446744073709551616 + lo) % y := by
              rw [hQf, hRf]
              exact knuth_join (Nat.two_pow_pos n) (by omega) HH.out.2.2.2.1 HH.out.2.2.1 HQa.out Hu2.out HQb.out hrr
            have HF := hide hfin
            clear hfin hj1 hj3 hj4 hj5 hrr hQf hRf hgl
            go_wp2
            go_ret2
            exact ⟨Qf, Rf, rfl, HF.out, Below.refl _ _⟩
end Go.Proofs.YtfkcobdkgjhfaaaGreatDoor
