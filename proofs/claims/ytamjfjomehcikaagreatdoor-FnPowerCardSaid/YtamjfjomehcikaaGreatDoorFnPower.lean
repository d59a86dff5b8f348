/- The law FnPower: its walk. -/
import Derived.Test.YtamjfjomehcikaaGreatDoorExp5
import Derived.Test.YtamjfjomehcikaaGreatDoorSpPow
import Derived.Test.YtamjfjomehcikaaGreatDoorSpec5
set_option linter.unusedVariables false
set_option linter.unusedSimpArgs false
namespace Go.Proofs.YtamjfjomehcikaaGreatDoor
open Go.RowKit

theorem pow10_lt {k n m : Nat} (h : k ≤ n) (hn : 10 ^ n < m) : 10 ^ k < m := Nat.lt_of_le_of_lt (Nat.pow_le_pow_right (by omega) h) hn

theorem pow_half_lt {k q p : Nat} (hk : k ≤ q + q) (h : 10 ^ q < p) : 10 ^ k < p * p :=
  Nat.lt_of_le_of_lt (Nat.pow_le_pow_right (by omega) hk) (by rw [Nat.pow_add]; exact Nat.mul_lt_mul'' h h)

set_option maxHeartbeats 1000000 in
theorem fnPower_walk (n : Int) (w : World) (hv : Vars w w.heap.size) (hwn : (Lit.int .u16 n).wf = true) :
    Calls Tryz.prog 3 #[.int .u16 n] w (BoolP w true) := by
  have hn : 0 ≤ n ∧ n < 65536 := by simp [Lit.wf, IntKind.min, IntKind.max, IntKind.signed, IntKind.bits] at hwn; omega
  obtain ⟨k, hk, hk3⟩ : ∃ k : Nat, n % 301 = (k : Int) ∧ k ≤ 300 := ⟨(n % 301).toNat, by omega, by omega⟩
  have hw17 : (digs 18446744073709551616 (10 ^ k)).length ≤ 16 := digs_length_le (by omega) (by rw [show 16 = 8 + 8 from rfl, Nat.pow_add]; exact pow_half_lt (q := 150) (by omega) (by decide))
  have hi64 : (digs 65536 (10 ^ k)).length ≤ 64 := digs_length_le (by omega) (by rw [show 64 = 32 + 32 from rfl, Nat.pow_add]; exact pow_half_lt (q := 150) (by omega) (by decide))
  have Con := hide (power_any k w (by omega) (pow10_lt (n := 150) (by omega) (by decide)) (by omega) hv)
  have ConP : Hid (∀ W, Calls Tryz.prog 9 #[.int .i64 10, .int .i64 (k : Int)] W (NewI W (digs 65536 (10 ^ k)))) := fun W => spower_any 10 k W (by omega) (by omega) (by omega) (by omega)
  have HL := hide (And.intro hw17 hi64)
  clear hv hwn hw17 hi64
  obtain ⟨ki, hki⟩ : ∃ ki : Int, ki = (k : Int) := ⟨_, rfl⟩
  rw [← hki] at Con ConP hk
  have hk0 : 0 ≤ ki ∧ ki ≤ 300 := by omega
  have hn0 := hn.1
  have hn1 := hn.2
  have hk1 := hk0.1
  have hk2 := hk0.2
  clear hki hn hk0
  go_enter Tryz.func3, Tryz.ntmps3
  go_wp2_with fail
  refine (Con.out).mono ?_
  rintro e w1 ⟨A, c, rfl, hown, hbel⟩
  have HO := hide hown.rd
  have HB := hide hbel
  clear hown hbel Con
  go_wp2_with fail
  refine (ConP.out w1).mono ?_
  rintro e w2 ⟨B, d, rfl, hown2, hbel2⟩
  have con3 := hasWords_any A B c d (digs 18446744073709551616 (10 ^ k)) (digs 65536 (10 ^ k)) w2 (RdG.below (k := .u64) HO.out hbel2) hown2.rd (by have := HL.out.1; omega) (by have := HL.out.2; omega) (dig_digs (by omega) _)
  rw [pk_digs, eqB_self] at con3
  have Con3 := hide con3
  have HB2 := hide (below_next HB.out hbel2)
  clear con3 hown2 hbel2 HB HO ConP HL
  generalize (digs 18446744073709551616 (10 ^ k)).length = q1 at Con3 ⊢
  generalize (digs 65536 (10 ^ k)).length = q2 at Con3 ⊢
  go_wp2_with fail
  refine (Con3.out).mono ?_
  rintro e w3 ⟨rfl, hb3⟩
  have Fin : Hid (BoolP w true (.returned (.bool true)) w3) := ⟨rfl, below_next HB2.out hb3⟩
  clear hb3 HB2 Con3
  go_wp2
  go_ret
  exact Fin.out
end Go.Proofs.YtamjfjomehcikaaGreatDoor
