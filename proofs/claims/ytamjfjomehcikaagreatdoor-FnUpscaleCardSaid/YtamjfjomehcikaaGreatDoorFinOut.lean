/- Walks: the laws' finite says no; small words on boxes. -/
import Derived.Test.YtamjfjomehcikaaGreatDoorLaw1
set_option linter.unusedVariables false
set_option linter.unusedSimpArgs false
namespace Go.Proofs.YtamjfjomehcikaaGreatDoor
open Go.RowKit

/-- 'finite' says no, in whichever way. -/
theorem finite_out (form : Int) (neg : Bool) (A : Option Addr) (n c : Nat) (exp : Int) (w : World) (h : ¬ (n ≤ 3 ∧ ¬ exp < -100 ∧ ¬ 100 < exp)) :
    Calls Tryz.prog 17 #[.agg #[.int .i64 form, .bool neg, .slice A n c, .int .i64 exp]] w (OutP w) := by
  by_cases h1 : 3 < n
  · exact finite_out1 form neg A n c exp w h1
  by_cases h2 : exp < -100
  · exact finite_out2 form neg A n c exp w (by omega) h2
  · exact finite_out3 form neg A n c exp w (by omega) h2 (by omega)

theorem okB_split {form : Int} {xs : List Nat} (h : okB form xs = true) : form = 0 ∧ xs = digs 18446744073709551616 (numW xs) := by
  simp [okB, eqB] at h; exact h

theorem Blk.dec4 {w : World} {g : Nat} {t : TypeId} {a b c d : Value} (h : Blk w g t #[a, b, c, d]) : w.cell? ⟨g, 0, none⟩ = some a ∧ w.cell? ⟨g, 1, none⟩ = some b ∧ w.cell? ⟨g, 2, none⟩ = some c ∧ w.cell? ⟨g, 3, none⟩ = some d :=
  ⟨h.cell 0, h.cell 1, h.cell 2, h.cell 3⟩
theorem Blk.val3 {w : World} {g : Nat} {t : TypeId} {a b c : Value} (h : Blk w g t #[a, b, c]) : w.cell? ⟨g, 0, none⟩ = some a ∧ w.cell? ⟨g, 1, none⟩ = some b ∧ w.cell? ⟨g, 2, none⟩ = some c :=
  ⟨h.cell 0, h.cell 1, h.cell 2⟩

end Go.Proofs.YtamjfjomehcikaaGreatDoor
