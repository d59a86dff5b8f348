/- Walks: bitsDiv, reciprocalWord, divWW. -/
import Derived.Test.YtjacmmcmjnkikaaGreatDoorBits2
set_option linter.unusedVariables false
set_option linter.unusedSimpArgs false
namespace Go.Proofs.YtjacmmcmjnkikaaGreatDoor
open Go.RowKit

theorem bitsDiv_any (hi lo y : Nat) (w : World) (hy : y < 18446744073709551616) (hlo : lo < 18446744073709551616) (hhi : hi < y) :
    Calls Tryz.prog 67 #[.int .u64 (hi : Int), .int .u64 (lo : Int), .int .u64 (y : Int)] w (DivP hi lo y w) := by
  have Con := hide (bitsDiv64_any hi lo y w hy hlo hhi)
  go_enter Tryz.func67, Tryz.ntmps67
  go_wp2_with fail
  refine (Con.out).mono ?_
  rintro e w1 ⟨q, r, rfl, h1, h2⟩
  have HF := hide (And.intro h1 h2)
  clear h1 h2
  go_wp2
  go_ret2
  exact ⟨q, r, rfl, HF.out.1, HF.out.2⟩

theorem u64_not (d : Nat) (h : d < 18446744073709551616) : bits .xor .u64 IntKind.u64.max (d : Int) = ((18446744073709551615 - d : Nat) : Int) := by
  show IntKind.u64.wrap ((BitVec.ofInt 64 IntKind.u64.max ^^^ BitVec.ofInt 64 (d : Int)).toNat : Int) = _
  have e : BitVec.ofInt 64 IntKind.u64.max = BitVec.allOnes 64 := by decide
  rw [e, BitVec.allOnes_xor, BitVec.toNat_not, ofInt_u64 d h, IntKind.wrap_u64]
  omega

/-- The reciprocal of a word, shifted. -/
def recN (y : Nat) : Nat := 340282366920938463463374607431768211455 / (y * 2 ^ nlzN y) - 18446744073709551616
theorem rec_spec (y : Nat) (h0 : 0 < y) (hy : y < 18446744073709551616) : ((18446744073709551615 - y * 2 ^ nlzN y) * 18446744073709551616 + 18446744073709551615) / (y * 2 ^ nlzN y) = recN y := by
  obtain ⟨hn, h1, h2⟩ := nlz_spec y h0 hy
  unfold recN
  generalize y * 2 ^ nlzN y = d at *
  have e : 340282366920938463463374607431768211455 = ((18446744073709551615 - d) * 18446744073709551616 + 18446744073709551615) + d * 18446744073709551616 := by
    omega
  rw [e, Nat.add_mul_div_left _ _ (by omega), Nat.add_sub_cancel]

theorem recip_any (y : Nat) (w : World) (h0 : 0 < y) (hy : y < 18446744073709551616) :
    Calls Tryz.prog 68 #[.int .u64 (y : Int)] w fun e w' => ∃ m : Nat, e = .returned (.int .u64 (m : Int)) ∧ Hid (m = recN y) ∧ Below w.heap.size w w' := by
  obtain ⟨hn, h1, h2⟩ := nlz_spec y h0 hy
  have hr := rec_spec y h0 hy
  have Con := hide (nlz_any y hy w)
  obtain ⟨n, hn'⟩ : ∃ n, n = nlzN y := ⟨_, rfl⟩
  obtain ⟨d, hd⟩ : ∃ d, d = y * 2 ^ nlzN y := ⟨_, rfl⟩
  obtain ⟨c, hc⟩ : ∃ c, c = 18446744073709551615 - d := ⟨_, rfl⟩
  rw [← hd] at h1 h2 hr
  rw [← hc] at hr
  have f1 : IntKind.u64.wrap ((y : Int) * 2 ^ n) = (d : Int) := by
    rw [show ((y : Int) * 2 ^ n) = ((y * 2 ^ n : Nat) : Int) by simp, hn', ← hd, wrpN, Nat.mod_eq_of_lt h2]
  have f2 : bits .xor .u64 IntKind.u64.max (d : Int) = (c : Int) := by rw [u64_not d h2, ← hc]
  rw [← hn'] at hn
  have con2 := bitsDiv_any c 18446744073709551615 d w h2 (by omega) (by omega)
  rw [← hn'] at Con
  have Con2 := hide con2
  have HR := hide hr
  clear hn' hd hc hr con2
  go_enter Tryz.func68, Tryz.ntmps68
  go_wp2_with fail
  refine (Con.out).mono ?_
  rintro e w1 ⟨rfl, rfl⟩
  go_wp2_with fail
  refine (Con2.out).mono ?_
  rintro e w2 ⟨q, r, rfl, h3, h4⟩
  have HF : Hid (q = recN y ∧ Below w1.heap.size w1 w2) := ⟨h3.out.1.trans HR.out, h4⟩
  clear h3 h4
  go_wp2
  go_ret
  exact ⟨q, rfl, HF.out.1, HF.out.2⟩
end Go.Proofs.YtjacmmcmjnkikaaGreatDoor
