/- Walks: math/bits' Add, Sub (with carry), Mul, LeadingZeros as this program calls them. -/
import Derived.Test.YtamjfjomehcikaaGreatDoorDivMath
import Derived.Test.YtamjfjomehcikaaGreatDoorShelf
import Derived.Test.YtamjfjomehcikaaGreatDoorGen
import Derived.Laws.Externs
set_option linter.unusedVariables false
set_option linter.unusedSimpArgs false
namespace Go.Proofs.YtamjfjomehcikaaGreatDoor
open Go.RowKit

theorem add64_run (x y c : Nat) (hc : c ≤ 1) (w : World) : (callFunc 174 #[.int .u64 (x : Int), .int .u64 (y : Int), .int .u64 (c : Int)]).run Tryz.prog w =
    .ok (.value (.tuple #[.int .u64 (((x + y + c) % 18446744073709551616 : Nat) : Int), .int .u64 (((x + y + c) / 18446744073709551616 : Nat) : Int)])) w := by
  rw [run_callFunc_extern Tryz.func174 (by kernel_rfl) (by kernel_rfl) (by kernel_rfl) (e := add64Entry) (by kernel_rfl), run_add64 x y c (by omega) (by omega) (by omega) (by omega)]
  simp only [Result.andThen]
  congr 5 <;> omega

def sub64E : Array Value → Sem Value := fun args => do
  let (x, y, b) ← Extern.MathBitsCarry.three "Sub64" args
  pure (Extern.MathBitsCarry.pair ((x + Extern.MathBitsCarry.m64 - y - b) % Extern.MathBitsCarry.m64) (if x < y + b then 1 else 0))

/-- The borrow. -/
def bor (x y : Nat) : Nat := if x < y then 1 else 0

theorem sub64_run (x y b : Nat) (hb : b ≤ 1) (w : World) : (callFunc 171 #[.int .u64 (x : Int), .int .u64 (y : Int), .int .u64 (b : Int)]).run Tryz.prog w =
    .ok (.value (.tuple #[.int .u64 (((x + 18446744073709551616 - y - b) % 18446744073709551616 : Nat) : Int), .int .u64 ((bor x (y + b) : Nat) : Int)])) w := by
  have h : (sub64E #[.int .u64 x, .int .u64 y, .int .u64 b]).run Tryz.prog w = .ok (.tuple #[.int .u64 (((x + 18446744073709551616 - y - b) % 18446744073709551616 : Nat) : Int), .int .u64 ((bor x (y + b) : Nat) : Int)]) w := by
    have : b = 0 ∨ b = 1 := by omega
    rcases this with rfl | rfl <;> rfl
  rw [run_callFunc_extern Tryz.func171 (by kernel_rfl) (by kernel_rfl) (by kernel_rfl) (e := sub64E) (by kernel_rfl), h]
  rfl

/-- A pair of words. -/
def PairP (P : Nat → Nat → Prop) (w : World) (e : Ending) (w' : World) : Prop := ∃ a b : Nat, e = .returned (.tuple #[.int .u64 (a : Int), .int .u64 (b : Int)]) ∧ Hid (P a b) ∧ w' = w

set_option maxRecDepth 20000 in
theorem add_any (x y c : Nat) (hc : c ≤ 1) (w : World) : Calls Tryz.prog 158 #[.int .u64 (x : Int), .int .u64 (y : Int), .int .u64 (c : Int)] w (PairP (fun s k => s = (x + y + c) % 18446744073709551616 ∧ k = (x + y + c) / 18446744073709551616) w) := by
  have h := add64_run x y c hc w
  obtain ⟨s, hs⟩ : ∃ s, s = (x + y + c) % 18446744073709551616 := ⟨_, rfl⟩
  obtain ⟨k, hk⟩ : ∃ k, k = (x + y + c) / 18446744073709551616 := ⟨_, rfl⟩
  rw [← hs, ← hk] at h
  have H := hide (And.intro hs hk)
  clear hs hk
  go_enter Tryz.func158, Tryz.ntmps158
  go_wp2
  go_ret2
  exact ⟨s, k, rfl, H.out, rfl⟩
set_option maxRecDepth 20000 in
theorem sub_any (x y b : Nat) (hb : b ≤ 1) (w : World) : Calls Tryz.prog 151 #[.int .u64 (x : Int), .int .u64 (y : Int), .int .u64 (b : Int)] w (PairP (fun s k => s = (x + 18446744073709551616 - y - b) % 18446744073709551616 ∧ k = bor x (y + b)) w) := by
  have h := sub64_run x y b hb w
  obtain ⟨s, hs⟩ : ∃ s, s = (x + 18446744073709551616 - y - b) % 18446744073709551616 := ⟨_, rfl⟩
  obtain ⟨k, hk⟩ : ∃ k, k = bor x (y + b) := ⟨_, rfl⟩
  rw [← hs, ← hk] at h
  have H := hide (And.intro hs hk)
  clear hs hk
  go_enter Tryz.func151, Tryz.ntmps151
  go_wp2
  go_ret2
  exact ⟨s, k, rfl, H.out, rfl⟩
theorem mul_any (x y : Nat) (hx : x < 18446744073709551616) (hy : y < 18446744073709551616) (w : World) : Calls Tryz.prog 120 #[.int .u64 (x : Int), .int .u64 (y : Int)] w (PairP (fun h l => h = x * y / 18446744073709551616 ∧ l = x * y % 18446744073709551616) w) :=
  (Tryz.bits_Mul x y hx hy w).mono fun _ _ ⟨he, hw⟩ => ⟨_, _, he, ⟨rfl, rfl⟩, hw⟩
/-- How far a word is shifted. -/
def nlzN (x : Nat) : Nat := 64 - Lib.bitLen x
theorem nlz_any (x : Nat) (hx : x < 18446744073709551616) (w : World) : Calls Tryz.prog 116 #[.int .u64 (x : Int)] w fun e w' => e = .returned (.int .u64 (nlzN x : Int)) ∧ w' = w := by
  have hb : Lib.bitLen x ≤ 64 := Lib.bitLen_le x 64 (Nat.le_refl _) (by omega)
  have Con := hide (Tryz.bits_LeadingZeros (x : Int) w (by omega) (by omega))
  have e1 : (64 - (Lib.bitLen (x : Int).toNat : Int)) = (nlzN x : Int) := by simp [nlzN]; omega
  rw [e1] at Con
  have hn : nlzN x ≤ 64 := by unfold nlzN; omega
  clear e1
  generalize nlzN x = n at Con hn
  go_enter Tryz.func116, Tryz.ntmps116
  go_wp2_with fail
  refine (Con.out).mono ?_
  rintro e w1 ⟨rfl, rfl⟩
  go_wp2
  go_ret
  exact ⟨rfl, rfl⟩
end Go.Proofs.YtamjfjomehcikaaGreatDoor
