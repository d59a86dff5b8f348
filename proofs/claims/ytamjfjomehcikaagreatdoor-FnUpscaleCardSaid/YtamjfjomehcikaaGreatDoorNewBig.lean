/- Walks: NewBigInt, bigFive, bigTen. -/
import Derived.Test.YtamjfjomehcikaaGreatDoorSet64
set_option linter.unusedVariables false
set_option linter.unusedSimpArgs false
namespace Go.Proofs.YtamjfjomehcikaaGreatDoor
open Go.RowKit

set_option maxHeartbeats 500000 in
theorem newBig_any (x : Nat) (w : World) (hx : x < 9223372036854775808) :
    Calls Tryz.prog 50 #[.int .i64 (x : Int)] w (NewBigP w (digs 18446744073709551616 x)) := by
  have con := isetInt64_any w.heap.size w.heap.size 0 76 #[.bool false, .slice none 0 0, .bool false] false (.slice none 0 0) 0 (x : Int) (w.alloc (.cells #[.bool false, .slice none 0 0, .bool false] 76))
    (Blk.new w _ _) rfl rfl (Own.nil _ _).room (by decide) (by simp) (by omega) (by omega)
  rw [decide_eq_false (by omega : ¬ (x : Int) < 0), Int.natAbs_natCast] at con
  have fin : ∀ e w', IntP (w.alloc (.cells #[.bool false, .slice none 0 0, .bool false] 76)) w.heap.size w.heap.size 0 76 #[.bool false, .slice none 0 0, .bool false] (.slice none 0 0) false (digs 18446744073709551616 x) e w' →
      NewBigP w (digs 18446744073709551616 x) (.returned (.pointer (some ⟨w.heap.size, 0, none⟩))) w' := by
    rintro e w' ⟨_, v, hr, hrb, hB, hF⟩
    obtain ⟨A, c, rfl⟩ := hr.room.slice
    refine ⟨_, A, c, rfl, Nat.le_refl _, hr, hB, ?_⟩
    exact ((Below.refl w.heap.size w).alloc (Nat.le_refl _) _).trans (hF.below (by simp) (fun k hk => by rcases hk with rfl | h; exact Nat.le_refl _; cases h))
  have Con := hide con
  have Fin := hide fin
  clear con fin
  obtain ⟨xi, hxi⟩ : ∃ xi : Int, xi = (x : Int) := ⟨_, rfl⟩
  rw [← hxi] at Con ⊢
  clear hxi
  go_enter Tryz.func50, Tryz.ntmps50
  go_wp2_with fail
  refine (Con.out).mono ?_
  rintro e w1 HI
  have HI2 := hide (Fin.out _ _ HI)
  obtain ⟨rfl, _⟩ := HI
  clear Con Fin
  go_wp2
  go_ret
  exact HI2.out
theorem ten_any (w : World) : Calls Tryz.prog 61 #[] w (NewBigP w [10]) := by
  have con := newBig_any 10 w (by omega)
  rw [digs_word (by omega) (by omega)] at con
  have Con := hide con
  clear con
  go_enter Tryz.func61, Tryz.ntmps61
  go_wp2_with fail
  refine (Con.out).mono ?_
  rintro e w1 ⟨g, A, c, rfl, h⟩
  have fin : NewBigP w [10] (.returned (.pointer (some ⟨g, 0, none⟩))) w1 := ⟨g, A, c, rfl, h⟩
  have Fin := hide fin
  clear fin h Con
  go_wp2
  go_ret
  exact Fin.out

end Go.Proofs.YtamjfjomehcikaaGreatDoor
