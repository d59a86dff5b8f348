/- Parts of the proofs: Dec4, Neg. -/
import Derived.Test.YtlepebogjpcfoaaGreatDoorG9
import Derived.Test.YtlepebogjpcfoaaGreatDoorG29
import Derived.Test.YtlepebogjpcfoaaGreatDoorG30
/- Walks: Decimal.Abs, and DecAbs of the thin package. -/
set_option linter.unusedVariables false
set_option linter.unusedSimpArgs false
namespace Go.Proofs.YtlepebogjpcfoaaGreatDoor
open Go.RowKit


end Go.Proofs.YtlepebogjpcfoaaGreatDoor

/- Walks: Decimal.Neg, DecNeg of the thin package, Opposite of the reference. -/
set_option linter.unusedVariables false
set_option linter.unusedSimpArgs false
namespace Go.Proofs.YtlepebogjpcfoaaGreatDoor
open Go.RowKit

/-- The sign behind 'Neg'. -/
def negT (neg : Bool) (n : Nat) : Bool := if n = 0 then false else !neg
theorem negT_zero (neg : Bool) : negT neg 0 = false := rfl
theorem negT_pos {n : Nat} (neg : Bool) (h : n ≠ 0) : negT neg n = !neg := by simp [negT, h]


theorem opposite_result (n : Nat) (tmps : Array Value) (h : tmps.getD 2 undef = .pointer (some ⟨n, 0, none⟩)) (W : World) (a b c : Value) (c0 : W.cell? ⟨n, 0, none⟩ = some a) (c1 : W.cell? ⟨n, 1, none⟩ = some b) (c2 : W.cell? ⟨n, 2, none⟩ = some c) :
    (results Tryz.f42 tmps).run Tryz.prog W = .ok (.agg #[a, b, c]) W := by
  have h2 : tmps[2]?.getD undef = .pointer (some ⟨n, 0, none⟩) := by simpa using h
  simp [results, Tryz.results42, go_sem, h2, c0, c1, c2]

theorem opposite_any (neg : Bool) (A : Option Addr) (n c : Nat) (exp : Int) (w : World) :
    Calls Tryz.prog 42 #[.agg #[.bool neg, .slice A n c, .int .i64 exp]] w fun e w' => e = .returned (.agg #[.bool (!neg), .slice A n c, .int .i64 exp]) ∧ Below w.heap.size w w' := by
  have hb0 := hide (below_al (below_al (Below.refl w.heap.size w) (.cells #[.bool neg, .slice A n c, .int .i64 exp] 29)) (.cells #[.bool (!neg), .slice A n c, .int .i64 exp] 29))
  have hB : Blk ((w.alloc (.cells #[.bool neg, .slice A n c, .int .i64 exp] 29)).alloc (.cells #[.bool (!neg), .slice A n c, .int .i64 exp] 29)) (w.heap.size + 1) 29 #[.bool (!neg), .slice A n c, .int .i64 exp] := by
    have := Blk.new (w.alloc (.cells #[.bool neg, .slice A n c, .int .i64 exp] 29)) 29 #[.bool (!neg), .slice A n c, .int .i64 exp]
    simpa using this
  have HB := hide hB
  clear hB
  go_enter Tryz.func42, Tryz.ntmps42
  go_wp2
  exact bodyPost_ret (opposite_result (w.heap.size + 1) _ rfl _ (.bool (!neg)) (.slice A n c) (.int .i64 exp) (HB.out.cell 0) (HB.out.cell 1) (HB.out.cell 2)) rfl ⟨rfl, hb0.out⟩
end Go.Proofs.YtlepebogjpcfoaaGreatDoor
