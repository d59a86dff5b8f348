/- Walks: nat.divW of no words; nat.div by one word, of any row; Int.Rem. -/
import Derived.Test.YtjacmmcmjnkikaaGreatDoorDivOne
set_option linter.unusedVariables false
set_option linter.unusedSimpArgs false
namespace Go.Proofs.YtjacmmcmjnkikaaGreatDoor
open Go.RowKit

set_option maxHeartbeats 500000 in
theorem divW_none (z : Value) (A : Option Addr) (c y : Nat) (w : World) (hy1 : 1 < y) (hz : z = .slice none 0 0) :
    Calls Tryz.prog 45 #[z, .slice A 0 c, .int .u64 (y : Int)] w fun e w' => e = .returned (.tuple #[.slice none 0 0, .int .u64 0]) ∧ w = w' := by
  subst hz
  have y0 : ((y : Int) == 0) = false := beq_eq_false_iff_ne.2 (by omega)
  have y1 : ((y : Int) == 1) = false := beq_eq_false_iff_ne.2 (by omega)
  go_enter Tryz.func45, Tryz.ntmps45
  go_wp2
  go_ret2
  exact ⟨rfl, rfl⟩

set_option maxHeartbeats 500000 in
set_option maxRecDepth 20000 in
theorem divRem_none (base : Nat) (z2 : Value) (m y : Nat) (A : Option Addr) (c : Nat) (gv ov cv : Nat) (w : World) (hz : Room w base z2 m) (hb : base ≤ w.heap.size)
    (hv : w.cell? ⟨gv, ov, none⟩ = some (.int .u64 (y : Int))) (hy1 : 1 < y) :
    Calls Tryz.prog 40 #[.slice none 0 0, .pointer none, z2, .slice A 0 c, .slice (some ⟨gv, ov, none⟩) 1 cv] w (RemP w base z2 0) := by
  have Con := hide (divW_none (.slice none 0 0) A c y w hy1 rfl)
  have Con2 := hide (setWord_any base z2 m 0 w hz hb (by omega))
  clear hz
  go_enter_defers Tryz.func40, Tryz.ntmps40
  go_wp2_with fail
  refine (Con.out).mono ?_
  rintro e w1 ⟨rfl, rfl⟩
  go_wp2_with fail
  refine (Con2.out).mono ?_
  rintro e w2 ⟨R, cr, rfl, hr2, hb2, hf2⟩
  have Fin : Hid (RemP w base z2 0 (.returned (.tuple #[.slice none 0 0, .slice R (digs 18446744073709551616 0).length cr])) w2) :=
    ⟨none, R, 0, 0, cr, rfl, hr2, hb2, hf2⟩
  clear hr2 hb2 hf2 Con Con2
  go_wp2
  refine ⟨_, results_tmp2 (t := 10) (u := 11) rfl _ _ _, ?_⟩
  exact Fin.out

theorem divRem_all (base n : Nat) (z2 : Value) (m y : Nat) (A : Option Addr) (c : Nat) (xs : List Nat) (gv ov cv : Nat) (w : World) (hz : Room w base z2 m) (hb : base ≤ w.heap.size) (hn : n = xs.length) (hnb : n ≤ 1099511627776)
    (hx : RdW w (.slice A n c) xs) (hv : w.cell? ⟨gv, ov, none⟩ = some (.int .u64 (y : Int))) (hy1 : 1 < y) (hy : y < 18446744073709551616) (hd : Dig 18446744073709551616 xs) :
    Calls Tryz.prog 40 #[.slice none 0 0, .pointer none, z2, .slice A n c, .slice (some ⟨gv, ov, none⟩) 1 cv] w (RemP w base z2 (dval 18446744073709551616 xs % y)) := by
  have e3 : dval 18446744073709551616 xs % y = (divD y xs).2 := (divD_quo (by omega) xs).2.symm
  rw [e3]
  by_cases h : n = 0
  · subst h
    obtain rfl := List.eq_nil_of_length_eq_zero hn.symm
    exact divRem_none base z2 m y A c gv ov cv w hz hb hv hy1
  · exact divRem_any base n z2 m y A c xs gv ov cv w hz hb hn hnb (by omega) hx hv hy1 hy hd
end Go.Proofs.YtjacmmcmjnkikaaGreatDoor
