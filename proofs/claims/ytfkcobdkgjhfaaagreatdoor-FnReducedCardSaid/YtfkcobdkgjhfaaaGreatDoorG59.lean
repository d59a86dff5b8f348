/- Parts of the proofs: RedMath. -/
import Derived.Test.YtfkcobdkgjhfaaaGreatDoorG48
/- Plain: how many noughts a number ends on is one number. -/
set_option linter.unusedVariables false
set_option linter.unusedSimpArgs false
namespace Go.Proofs.YtfkcobdkgjhfaaaGreatDoor

theorem tz_le {a s t : Nat} (hs : 10 ^ s ∣ a) (ht : 10 ^ t ∣ a) (h : a / 10 ^ s % 10 ≠ 0) : t ≤ s := by
  rcases Nat.lt_or_ge s t with hlt | hge
  · exfalso
    obtain ⟨m, hm⟩ := ht
    obtain ⟨d, hd⟩ : ∃ d, t = s + (d + 1) := ⟨t - s - 1, by omega⟩
    have hp : 0 < 10 ^ s := Nat.pow_pos (by omega)
    have e : a / 10 ^ s = 10 * (10 ^ d * m) := by
      rw [hm, hd, Nat.pow_add, Nat.mul_assoc, Nat.mul_div_cancel_left _ hp, Nat.pow_succ, Nat.mul_comm (10 ^ d) 10, Nat.mul_assoc]
    rw [e] at h
    exact h (Nat.mul_mod_right _ _)
  · exact hge
theorem tz_unique {a s t : Nat} (hs : 10 ^ s ∣ a) (hs2 : a / 10 ^ s % 10 ≠ 0) (ht : 10 ^ t ∣ a) (ht2 : a / 10 ^ t % 10 ≠ 0) : s = t :=
  Nat.le_antisymm (tz_le ht hs ht2) (tz_le hs ht hs2)
end Go.Proofs.YtfkcobdkgjhfaaaGreatDoor
