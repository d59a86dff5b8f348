/- Parts of the proofs: Bits3, Bits4, DivD. -/
import Derived.Test.YtfkcobdkgjhfaaaGreatDoorG2
import Derived.Test.YtfkcobdkgjhfaaaGreatDoorG3
/- Walks: bitsDiv, reciprocalWord, divWW. -/
set_option linter.unusedVariables false
set_option linter.unusedSimpArgs false
namespace Go.Proofs.YtfkcobdkgjhfaaaGreatDoor
open Go.RowKit

theorem bitsDiv_any (hi lo y : Nat) (w : World) (hy : y < 18446744073709551616) (hlo : lo < 18446744073709551616) (hhi : hi < y) :
    Calls Tryz.prog 191 #[.int .u64 (hi : Int), .int .u64 (lo : Int), .int .u64 (y : Int)] w (DivP hi lo y w) := by
  have Con := hide (bitsDiv64_any hi lo y w hy hlo hhi)
  go_enter Tryz.func191, Tryz.ntmps191
  go_wp2_with fail
  refine (Con.out).mono ?_
  rintro e w1 ⟨q, r, rfl, h1, h2⟩
  have HF := hide (And.intro h1 h2)
  clear h1 h2
  go_wp2
  go_ret2
  exact ⟨q, r, rfl, HF.out.1, HF.out.2⟩

theorem u64_not (d : Nat) (h : d < 18446744073709551616) : bits .xor .u64 IntKind.u64.max (d : Int) = ((18446744073709551615 - d : Nat) : Int) := by
  show IntKind.u64.wrap ((BitVec.ofInt 64 IntKind.u64.max ^^^ BitVec.ofInt 64 (d : Int)).toNat : Int) = _
  have e : BitVec.ofInt 64 IntKind.u64.max = BitVec.allOnes 64 := by decide
  rw [e, BitVec.allOnes_xor, BitVec.toNat_not, ofInt_u64 d h, IntKind.wrap_u64]
  omega

/-- The reciprocal of a word, shifted. -/
def recN (y : Nat) : Nat := 340282366920938463463374607431768211455 / (y * 2 ^ nlzN y) - 18446744073709551616
theorem rec_spec (y : Nat) (h0 : 0 < y) (hy : y < 18446744073709551616) : ((18446744073709551615 - y * 2 ^ nlzN y) * 18446744073709551616 + 18446744073709551615) / (y * 2 ^ nlzN y) = recN y := by
  obtain ⟨hn, h1, h2⟩ := nlz_spec y h0 hy
  unfold recN
  generalize y * 2 ^ nlzN y = d at *
  have e : 340282366920938463463374607431768211455 = ((18446744073709551615 - d) * 18446744073709551616 + 18446744073709551615) + d * 18446744073709551616 := by
    omega
  rw [e, Nat.add_mul_div_left _ _ (by omega), Nat.add_sub_cancel]

theorem recip_any (y : Nat) (w : World) (h0 : 0 < y) (hy : y < 18446744073709551616) :
    Calls Tryz.prog 192 #[.int .u64 (y : Int)] w fun e w' => ∃ m : Nat, e = .returned (.int .u64 (m : Int)) ∧ Hid (m = recN y) ∧ Below w.heap.size w w' := by
  obtain ⟨hn, h1, h2⟩ := nlz_spec y h0 hy
  have hr := rec_spec y h0 hy
  have Con := hide (nlz_any y hy w)
  obtain ⟨n, hn'⟩ : ∃ n, n = nlzN y := ⟨_, rfl⟩
  obtain ⟨d, hd⟩ : ∃ d, d = y * 2 ^ nlzN y := ⟨_, rfl⟩
  obtain ⟨c, hc⟩ : ∃ c, c = 18446744073709551615 - d := ⟨_, rfl⟩
  rw [← hd] at h1 h2 hr
  rw [← hc] at hr
  have f1 : IntKind.u64.wrap ((y : Int) * 2 ^ n) = (d : Int) := by
    rw [show ((y : Int) * 2 ^ n) = ((y * 2 ^ n : Nat) : Int) by simp, hn', ← hd, wrpN, Nat.mod_eq_of_lt h2]
  have f2 : bits .xor .u64 IntKind.u64.max (d : Int) = (c : Int) := by rw [u64_not d h2, ← hc]
  rw [← hn'] at hn
  have con2 := bitsDiv_any c 18446744073709551615 d w h2 (by omega) (by omega)
  rw [← hn'] at Con
  have Con2 := hide con2
  have HR := hide hr
  clear hn' hd hc hr con2
  go_enter Tryz.func192, Tryz.ntmps192
  go_wp2_with fail
  refine (Con.out).mono ?_
  rintro e w1 ⟨rfl, rfl⟩
  go_wp2_with fail
  refine (Con2.out).mono ?_
  rintro e w2 ⟨q, r, rfl, h3, h4⟩
  have HF : Hid (q = recN y ∧ Below w1.heap.size w1 w2) := ⟨h3.out.1.trans HR.out, h4⟩
  clear h3 h4
  go_wp2
  go_ret
  exact ⟨q, rfl, HF.out.1, HF.out.2⟩
end Go.Proofs.YtfkcobdkgjhfaaaGreatDoor

/- Walks: divWW. -/
set_option linter.unusedVariables false
set_option linter.unusedSimpArgs false
namespace Go.Proofs.YtfkcobdkgjhfaaaGreatDoor
open Go.RowKit

theorem join_half {u l n1 n0 : Nat} (h1 : n1 = l / 4294967296) (h0 : n0 = l % 4294967296) : u * 18446744073709551616 + l = (u * 4294967296 + n1) * 4294967296 + n0 := by omega
theorem recN_lt (y : Nat) (h0 : 0 < y) (hy : y < 18446744073709551616) : recN y < 18446744073709551616 := by
  obtain ⟨hn, h1, h2⟩ := nlz_spec y h0 hy
  unfold recN
  generalize y * 2 ^ nlzN y = d at *
  have : 340282366920938463463374607431768211455 / d < 2 * 18446744073709551616 := by
    rw [Nat.div_lt_iff_lt_mul (by omega)]
    omega
  omega

set_option maxHeartbeats 600000 in
set_option maxRecDepth 20000 in
theorem divWW_any (x1 x0 y m : Nat) (w : World) (hy : y < 18446744073709551616) (hx0 : x0 < 18446744073709551616) (hx1 : x1 < y) (hmr : m = recN y) :
    Calls Tryz.prog 193 #[.int .u64 (x1 : Int), .int .u64 (x0 : Int), .int .u64 (y : Int), .int .u64 (m : Int)] w (DivP x1 x0 y w) := by
  have hm : m < 18446744073709551616 := by rw [hmr]; exact recN_lt y (by omega) hy
  have Con := hide (nlz_any y hy w)
  obtain ⟨n, d, a, b, u, l, y1, y0, n1, n0, hn, hn63, S⟩ := split_of x1 x0 y hy hx0 hx1
  have gd : 9223372036854775808 ≤ d := by have := S.hd; have := S.h2; omega
  have gd1 : d < 18446744073709551616 := by have := S.hd; have := S.h2; omega
  have gu := S.hu
  have gl : l < 18446744073709551616 := by have := S.F8; have := S.h2; omega
  have HM : Hid (m = 340282366920938463463374607431768211455 / d - 18446744073709551616) := by
    show m = _
    rw [hmr, S.hdy, hn]; rfl
  have HT : Hid (u * 18446744073709551616 + l = (x1 * 18446744073709551616 + x0) * 2 ^ n ∧ d = y * 2 ^ n) := by
    refine ⟨?_, S.hdy⟩
    have e1 := S.hN
    have e2 := S.F8
    have e3 := S.F9
    rw [show (4294967295 : Int) = ((4294967295 : Nat) : Int) from rfl, u64_and_nat _ _ gl (by omega), nat_low32] at e3
    rw [← e1]
    clear e1 Con HM hm
    exact join_half (by omega) (by omega)
  rw [← hn] at Con
  obtain ⟨F1, F2, F3, F4, F5, F6, F7, F8, F9, -, -, -, -, -⟩ := S
  clear hmr F6 F7 F8 F9
  by_cases hz : n = 0
  · have z1 : d = y := by have := HT.out.2; rw [this, hz]; simp
    have z2 : u = x1 ∧ l = x0 := by
      have h1 := HT.out.1
      rw [hz] at h1
      have h2 : (x1 * 18446744073709551616 + x0) * 2 ^ 0 = x1 * 18446744073709551616 + x0 := by simp
      rw [h2] at h1
      omega
    obtain ⟨z2, z3⟩ := z2
    subst z1 z2 z3
    subst hz
    clear F1 F2 F3 F4 F5 hn
    go_enter Tryz.func193, Tryz.ntmps193
    go_wp2_with fail
    refine (Con.out).mono ?_
    rintro e w1 ⟨rfl, rfl⟩
    go_wp2_with fail
    refine (mul_any m u hm (by omega) _).mono ?_
    rintro e w2 ⟨th, tl, rfl, q1, rfl⟩
    go_wp2_with fail
    refine (add_any tl l 0 (by omega) _).mono ?_
    rintro e w3 ⟨s1, cc, rfl, q2, rfl⟩
    have hcc : cc ≤ 1 := by have := q1.out.2; have := q2.out.2; omega
    go_wp2_with fail
    refine (add_any th u cc hcc _).mono ?_
    rintro e w4 ⟨t, t', rfl, q3, rfl⟩
    have ht : t < 18446744073709551616 := by have := q3.out.1; omega
    go_wp2_with fail
    refine (mul_any d t (by omega) ht _).mono ?_
    rintro e w5 ⟨dq1, dq0, rfl, q4, rfl⟩
    go_wp2_with fail
    refine (sub_any l dq0 0 (by omega) _).mono ?_
    rintro e w6 ⟨r0, bb, rfl, q5, rfl⟩
    have hbb : bb ≤ 1 := by have := q5.out.2; unfold bor at this; split at this <;> omega
    go_wp2_with fail
    refine (sub_any u dq1 bb hbb _).mono ?_
    rintro e w7 ⟨r1, r1', rfl, q6, rfl⟩
    obtain ⟨_, r, hr, hrl, hr0, hr1⟩ := divww_math gd gd1 gu gl HM.out q1.out q2.out q3.out.1 q4.out q5.out.1 q5.out.2 q6.out.1
    have hT := HT.out
    have fin : ∀ q rr Rf : Nat, u * 18446744073709551616 + l = d * q + rr → rr < d → Rf = rr / 2 ^ 0 → ∀ W : World, DivP u l d W (.returned (.tuple #[.int .u64 (q : Int), .int .u64 (Rf : Int)])) W := by
      intro q rr Rf k1 k2 k3 W
      obtain ⟨z1, z2⟩ := dww_fix (by omega : 0 < d) k1 k2
      refine ⟨q, Rf, rfl, ⟨?_, ?_⟩, Below.refl _ _⟩
      · exact z1
      · rw [k3, z2]; simp
    have Fin := hide fin
    have HR := hide (And.intro hr (And.intro hrl (And.intro hr0 hr1)))
    clear fin hT hr hrl hr0 hr1 q1 q2 q3 q4 q5 q6
    by_cases k1 : r1 = 0
    · have k1b : ((r1 : Int) != 0) = false := by subst k1; rfl
      have k1c : ((r1 : Int) == 0) = true := by subst k1; rfl
      by_cases k2 : r0 < d
      · skip
        have HF := hide (Fin.out t r0 r0 (by have := HR.out; omega) k2 (by simp))
        have k2i : ¬ ((d : Int) ≤ r0) := by omega
        clear k1 k2 Fin HR
        go_wp2
        go_ret2
        exact HF.out _
      · obtain ⟨rf, hrf⟩ : ∃ z, z = r0 - d := ⟨_, rfl⟩
        skip
        obtain ⟨tf, htf⟩ : ∃ z, z = t + 1 := ⟨_, rfl⟩
        have e0 : u * 18446744073709551616 + l = d * tf + rf := by
          have := HR.out
          rw [htf, Nat.mul_add, Nat.mul_one]
          omega
        have htb : tf < 18446744073709551616 := by
          have : d * tf < d * 18446744073709551616 := by omega
          exact Nat.lt_of_mul_lt_mul_left this
        have v2 : IntKind.u64.wrap ((r0 : Int) - (d : Int)) = (rf : Int) := by rw [IntKind.wrap_u64]; have := HR.out; omega
        have v3 : IntKind.u64.wrap ((t : Int) + 1) = (tf : Int) := by rw [IntKind.wrap_u64]; omega
        have HF := hide (Fin.out tf rf rf e0 (by have := HR.out; omega) (by simp))
        have k2i : ((d : Int) ≤ r0) := by omega
        clear hrf htf e0 htb k1 k2 Fin HR
        go_wp2
        go_ret2
        exact HF.out _
    · have k1b : ((r1 : Int) != 0) = true := by rw [bne_iff_ne]; omega
      have k1c : ((r1 : Int) == 0) = false := beq_eq_false_iff_ne.2 (by omega)
      obtain ⟨ra, hra⟩ : ∃ z, z = r - d := ⟨_, rfl⟩
      obtain ⟨ta, hta⟩ : ∃ z, z = t + 1 := ⟨_, rfl⟩
      have e0 : u * 18446744073709551616 + l = d * ta + ra := by
        have := HR.out
        rw [hta, Nat.mul_add, Nat.mul_one]
        omega
      have htb : ta < 18446744073709551616 := by
        have : d * ta < d * 18446744073709551616 := by omega
        exact Nat.lt_of_mul_lt_mul_left this
      have v2 : IntKind.u64.wrap ((r0 : Int) - (d : Int)) = (ra : Int) := by rw [IntKind.wrap_u64]; have := HR.out; omega
      have v3 : IntKind.u64.wrap ((t : Int) + 1) = (ta : Int) := by rw [IntKind.wrap_u64]; omega
      have hrab : ra < 18446744073709551616 := by have := HR.out; omega
      by_cases k2 : ra < d
      · skip
        have HF := hide (Fin.out ta ra ra e0 k2 (by simp))
        have k2i : ¬ ((d : Int) ≤ ra) := by omega
        clear hra hta e0 htb hrab k1 k2 Fin HR
        go_wp2
        go_ret2
        exact HF.out _
      · obtain ⟨rf, hrf⟩ : ∃ z, z = ra - d := ⟨_, rfl⟩
        skip
        obtain ⟨tf, htf⟩ : ∃ z, z = ta + 1 := ⟨_, rfl⟩
        have e1 : u * 18446744073709551616 + l = d * tf + rf := by
          rw [htf, Nat.mul_add, Nat.mul_one]
          omega
        have htb2 : tf < 18446744073709551616 := by
          have : d * tf < d * 18446744073709551616 := by omega
          exact Nat.lt_of_mul_lt_mul_left this
        have v4 : IntKind.u64.wrap ((ra : Int) - (d : Int)) = (rf : Int) := by rw [IntKind.wrap_u64]; omega
        have v5 : IntKind.u64.wrap ((ta : Int) + 1) = (tf : Int) := by rw [IntKind.wrap_u64]; omega
        have HF := hide (Fin.out tf rf rf e1 (by omega) (by simp))
        have k2i : ((d : Int) ≤ ra) := by omega
        clear hrf htf hra hta e0 htb e1 htb2 hrab k1 k2 Fin HR
        go_wp2
        go_ret2
        exact HF.out _
  · have hnb : ((n : Int) != 0) = true := by rw [bne_iff_ne]; omega
    clear hn
    go_enter Tryz.func193, Tryz.ntmps193
    go_wp2_with fail
    refine (Con.out).mono ?_
    rintro e w1 ⟨rfl, rfl⟩
    go_wp2_with fail
    refine (mul_any m u hm (by omega) _).mono ?_
    rintro e w2 ⟨th, tl, rfl, q1, rfl⟩
    go_wp2_with fail
    refine (add_any tl l 0 (by omega) _).mono ?_
    rintro e w3 ⟨s1, cc, rfl, q2, rfl⟩
    have hcc : cc ≤ 1 := by have := q1.out.2; have := q2.out.2; omega
    go_wp2_with fail
    refine (add_any th u cc hcc _).mono ?_
    rintro e w4 ⟨t, t', rfl, q3, rfl⟩
    have ht : t < 18446744073709551616 := by have := q3.out.1; omega
    go_wp2_with fail
    refine (mul_any d t (by omega) ht _).mono ?_
    rintro e w5 ⟨dq1, dq0, rfl, q4, rfl⟩
    go_wp2_with fail
    refine (sub_any l dq0 0 (by omega) _).mono ?_
    rintro e w6 ⟨r0, bb, rfl, q5, rfl⟩
    have hbb : bb ≤ 1 := by have := q5.out.2; unfold bor at this; split at this <;> omega
    go_wp2_with fail
    refine (sub_any u dq1 bb hbb _).mono ?_
    rintro e w7 ⟨r1, r1', rfl, q6, rfl⟩
    obtain ⟨_, r, hr, hrl, hr0, hr1⟩ := divww_math gd gd1 gu gl HM.out q1.out q2.out q3.out.1 q4.out q5.out.1 q5.out.2 q6.out.1
    have hT := HT.out
    have fin : ∀ q rr Rf : Nat, u * 18446744073709551616 + l = d * q + rr → rr < d → Rf = rr / 2 ^ n → ∀ W : World, DivP x1 x0 y W (.returned (.tuple #[.int .u64 (q : Int), .int .u64 (Rf : Int)])) W := by
      intro q rr Rf k1 k2 k3 W
      obtain ⟨z1, z2⟩ := dww_fix (by omega : 0 < d) k1 k2
      refine ⟨q, Rf, rfl, ⟨?_, ?_⟩, Below.refl _ _⟩
      · rw [z1, hT.1, hT.2, Nat.mul_div_mul_right _ _ (Nat.two_pow_pos n)]
      · rw [k3, z2, hT.1, hT.2, Nat.mul_mod_mul_right, Nat.mul_div_cancel _ (Nat.two_pow_pos n)]
    have Fin := hide fin
    have HR := hide (And.intro hr (And.intro hrl (And.intro hr0 hr1)))
    clear fin hT hr hrl hr0 hr1 q1 q2 q3 q4 q5 q6
    by_cases k1 : r1 = 0
    · have k1b : ((r1 : Int) != 0) = false := by subst k1; rfl
      have k1c : ((r1 : Int) == 0) = true := by subst k1; rfl
      by_cases k2 : r0 < d
      · obtain ⟨Rf, hRf⟩ : ∃ z, z = r0 / 2 ^ n := ⟨_, rfl⟩
        have v1 : (r0 : Int) / 2 ^ n = (Rf : Int) := by rw [hRf]; simp
        have HF := hide (Fin.out t r0 Rf (by have := HR.out; omega) k2 hRf)
        have k2i : ¬ ((d : Int) ≤ r0) := by omega
        clear hRf k1 k2 Fin HR
        go_wp2
        go_ret2
        exact HF.out _
      · obtain ⟨rf, hrf⟩ : ∃ z, z = r0 - d := ⟨_, rfl⟩
        obtain ⟨Rf, hRf⟩ : ∃ z, z = rf / 2 ^ n := ⟨_, rfl⟩
        obtain ⟨tf, htf⟩ : ∃ z, z = t + 1 := ⟨_, rfl⟩
        have e0 : u * 18446744073709551616 + l = d * tf + rf := by
          have := HR.out
          rw [htf, Nat.mul_add, Nat.mul_one]
          omega
        have htb : tf < 18446744073709551616 := by
          have : d * tf < d * 18446744073709551616 := by omega
          exact Nat.lt_of_mul_lt_mul_left this
        have v1 : (rf : Int) / 2 ^ n = (Rf : Int) := by rw [hRf]; simp
        have v2 : IntKind.u64.wrap ((r0 : Int) - (d : Int)) = (rf : Int) := by rw [IntKind.wrap_u64]; have := HR.out; omega
        have v3 : IntKind.u64.wrap ((t : Int) + 1) = (tf : Int) := by rw [IntKind.wrap_u64]; omega
        have HF := hide (Fin.out tf rf Rf e0 (by have := HR.out; omega) hRf)
        have k2i : ((d : Int) ≤ r0) := by omega
        clear hRf hrf htf e0 htb k1 k2 Fin HR
        go_wp2
        go_ret2
        exact HF.out _
    · have k1b : ((r1 : Int) != 0) = true := by rw [bne_iff_ne]; omega
      have k1c : ((r1 : Int) == 0) = false := beq_eq_false_iff_ne.2 (by omega)
      obtain ⟨ra, hra⟩ : ∃ z, z = r - d := ⟨_, rfl⟩
      obtain ⟨ta, hta⟩ : ∃ z, z = t + 1 := ⟨_, rfl⟩
      have e0 : u * 18446744073709551616 + l = d * ta + ra := by
        have := HR.out
        rw [hta, Nat.mul_add, Nat.mul_one]
        omega
      have htb : ta < 18446744073709551616 := by
        have : d * ta < d * 18446744073709551616 := by omega
        exact Nat.lt_of_mul_lt_mul_left this
      have v2 : IntKind.u64.wrap ((r0 : Int) - (d : Int)) = (ra : Int) := by rw [IntKind.wrap_u64]; have := HR.out; omega
      have v3 : IntKind.u64.wrap ((t : Int) + 1) = (ta : Int) := by rw [IntKind.wrap_u64]; omega
      have hrab : ra < 18446744073709551616 := by have := HR.out; omega
      by_cases k2 : ra < d
      · obtain ⟨Rf, hRf⟩ : ∃ z, z = ra / 2 ^ n := ⟨_, rfl⟩
        have v1 : (ra : Int) / 2 ^ n = (Rf : Int) := by rw [hRf]; simp
        have HF := hide (Fin.out ta ra Rf e0 k2 hRf)
        have k2i : ¬ ((d : Int) ≤ ra) := by omega
        clear hRf hra hta e0 htb hrab k1 k2 Fin HR
        go_wp2
        go_ret2
        exact HF.out _
      · obtain ⟨rf, hrf⟩ : ∃ z, z = ra - d := ⟨_, rfl⟩
        obtain ⟨Rf, hRf⟩ : ∃ z, z = rf / 2 ^ n := ⟨_, rfl⟩
        obtain ⟨tf, htf⟩ : ∃ z, z = ta + 1 := ⟨_, rfl⟩
        have e1 : u * 18446744073709551616 + l = d * tf + rf := by
          rw [htf, Nat.mul_add, Nat.mul_one]
          omega
        have htb2 : tf < 18446744073709551616 := by
          have : d * tf < d * 18446744073709551616 := by omega
          exact Nat.lt_of_mul_lt_mul_left this
        have v1 : (rf : Int) / 2 ^ n = (Rf : Int) := by rw [hRf]; simp
        have v4 : IntKind.u64.wrap ((ra : Int) - (d : Int)) = (rf : Int) := by rw [IntKind.wrap_u64]; omega
        have v5 : IntKind.u64.wrap ((ta : Int) + 1) = (tf : Int) := by rw [IntKind.wrap_u64]; omega
        have HF := hide (Fin.out tf rf Rf e1 (by omega) hRf)
        have k2i : ((d : Int) ≤ ra) := by omega
        clear hRf hrf htf hra hta e0 htb e1 htb2 hrab k1 k2 Fin HR
        go_wp2
        go_ret2
        exact HF.out _
end Go.Proofs.YtfkcobdkgjhfaaaGreatDoor

/- The division of a row of words by one word, as a plain function. -/
set_option linter.unusedVariables false
set_option linter.unusedSimpArgs false
namespace Go.Proofs.YtfkcobdkgjhfaaaGreatDoor

/-- Quotient's words (lowest first, as many as there are) and what is left. -/
def divD (y : Nat) : List Nat → List Nat × Nat
  | [] => ([], 0)
  | x :: xs => let p := divD y xs; ((p.2 * 18446744073709551616 + x) / y :: p.1, (p.2 * 18446744073709551616 + x) % y)

theorem divD_length (y : Nat) : ∀ xs, (divD y xs).1.length = xs.length
  | [] => rfl
  | x :: xs => by simp [divD, divD_length y xs]
theorem divD_rest {y : Nat} (hy : 0 < y) : ∀ xs, (divD y xs).2 < y
  | [] => hy
  | x :: xs => Nat.mod_lt _ hy
theorem divD_dig {y : Nat} (hy : 0 < y) : ∀ xs, Dig 18446744073709551616 xs → Dig 18446744073709551616 (divD y xs).1
  | [], _ => fun d hd => by simp [divD] at hd
  | x :: xs, h => by
    intro d hd
    simp only [divD, List.mem_cons] at hd
    rcases hd with rfl | hd
    · have h1 := divD_rest hy xs
      have h2 : x < 18446744073709551616 := h x (by simp)
      rw [Nat.div_lt_iff_lt_mul hy]
      have : ((divD y xs).2 + 1) * 18446744073709551616 ≤ y * 18446744073709551616 := Nat.mul_le_mul_right _ h1
      omega
    · exact divD_dig hy xs (fun e he => h e (by simp [he])) d hd
theorem divD_val (y : Nat) : ∀ xs, dval 18446744073709551616 xs = y * dval 18446744073709551616 (divD y xs).1 + (divD y xs).2
  | [] => by simp [dval, divD]
  | x :: xs => by
    have h1 := divD_val y xs
    have h2 := Nat.div_add_mod ((divD y xs).2 * 18446744073709551616 + x) y
    simp only [divD, dval]
    rw [h1]
    generalize (divD y xs).1 = q at *
    generalize (divD y xs).2 = r at *
    generalize (r * 18446744073709551616 + x) / y = a at *
    generalize (r * 18446744073709551616 + x) % y = b at *
    have e : y * (a + 18446744073709551616 * dval 18446744073709551616 q) = y * a + 18446744073709551616 * (y * dval 18446744073709551616 q) := by
      rw [Nat.mul_add, Nat.mul_left_comm]
    omega
theorem divD_quo {y : Nat} (hy : 0 < y) (xs : List Nat) : dval 18446744073709551616 (divD y xs).1 = dval 18446744073709551616 xs / y ∧ (divD y xs).2 = dval 18446744073709551616 xs % y :=
  dww_fix hy (divD_val y xs) (divD_rest hy xs)
end Go.Proofs.YtfkcobdkgjhfaaaGreatDoor
