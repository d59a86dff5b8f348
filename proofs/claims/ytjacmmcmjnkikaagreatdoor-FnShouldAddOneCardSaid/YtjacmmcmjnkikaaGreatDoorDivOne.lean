/- Walks: nat.div by one word, without a place for the quotient. -/
import Derived.Test.YtjacmmcmjnkikaaGreatDoorDivV
import Derived.Test.YtjacmmcmjnkikaaGreatDoorSet64
import Derived.Defers
set_option linter.unusedVariables false
set_option linter.unusedSimpArgs false
namespace Go.Proofs.YtjacmmcmjnkikaaGreatDoor
open Go.RowKit

/-- Behind 'nat(nil).div(nil, z2, u, v)', v of one word: the rest in z2's block or in a new one. -/
def RemP (w : World) (base : Nat) (z2 : Value) (m : Nat) (e : Ending) (w' : World) : Prop :=
  ∃ (Q R : Option Addr) (nq cq cr : Nat), e = .returned (.tuple #[.slice Q nq cq, .slice R (digs 18446744073709551616 m).length cr]) ∧ Own w' base (.slice R (digs 18446744073709551616 m).length cr) (digs 18446744073709551616 m) ∧
    ((Value.slice R (digs 18446744073709551616 m).length cr).ownBlock = z2.ownBlock ∨ ∃ k, (Value.slice R (digs 18446744073709551616 m).length cr).ownBlock = some k ∧ w.heap.size ≤ k) ∧ Fr w w' (fun k => z2.ownBlock = some k)

set_option maxHeartbeats 500000 in
set_option maxRecDepth 20000 in
theorem divRem_any (base n : Nat) (z2 : Value) (m y : Nat) (A : Option Addr) (c : Nat) (xs : List Nat) (gv ov cv : Nat) (w : World) (hz : Room w base z2 m) (hb : base ≤ w.heap.size) (hn : n = xs.length) (hnb : n ≤ 1099511627776) (hn1 : 1 ≤ n)
    (hx : RdW w (.slice A n c) xs) (hv : w.cell? ⟨gv, ov, none⟩ = some (.int .u64 (y : Int))) (hy1 : 1 < y) (hy : y < 18446744073709551616) (hd : Dig 18446744073709551616 xs) :
    Calls Tryz.prog 40 #[.slice none 0 0, .pointer none, z2, .slice A n c, .slice (some ⟨gv, ov, none⟩) 1 cv] w (RemP w base z2 ((divD y xs).2)) := by
  have Con := hide (divW_any w.heap.size n (.slice none 0 0) 0 y A c xs w (Own.nil _ _).room (Nat.le_refl _) hn hnb hn1 hx (fun k _ h => by cases h) hy1 hy hd)
  have HZ := hide hz
  clear hx hz hd hn
  go_enter_defers Tryz.func40, Tryz.ntmps40
  go_wp2_with fail
  refine (Con.out).mono ?_
  rintro e w1 ⟨Q, cq, rr, rfl, hrr, hown, hblk, hfr⟩
  have hrl : rr < 18446744073709551616 := by rw [hrr.out]; have := divD_rest (y := y) (by omega) xs; omega
  have hz1 : Room w1 base z2 m := HZ.out.fr hfr (fun k _ h => by cases h)
  have con2 := setWord_any base z2 m rr w1 hz1 (by have := hfr.size; omega) hrl
  rw [hrr.out] at con2
  have hs := hfr.size
  have HF := hide hfr
  rw [← hrr.out] at con2 ⊢
  have Con2 := hide con2
  clear con2 hz1 hown hblk hfr Con hrl
  go_wp2_with fail
  refine (Con2.out).mono ?_
  rintro e w2 ⟨R, cr, rfl, hr2, hb2, hf2⟩
  have fin : RemP w base z2 rr (.returned (.tuple #[.slice Q (trimz (divD y xs).1).length cq, .slice R (digs 18446744073709551616 rr).length cr])) w2 := by
    refine ⟨Q, R, _, cq, cr, rfl, hr2, ?_, Fr.step (HF.out.mono (fun _ _ h => by cases h)) hf2 (fun _ _ h => h)⟩
    exact hb2.imp id (fun ⟨k, h1, h2⟩ => ⟨k, h1, by omega⟩)
  have fin2 := fin
  unfold RemP at fin2
  have fin3 : RemP w base z2 (divD y xs).2 (.returned (.tuple #[.slice Q (trimz (divD y xs).1).length cq, .slice R (digs 18446744073709551616 rr).length cr])) w2 := by
    rw [← hrr.out]; exact fin
  have Fin := hide fin3
  clear fin fin2 fin3 hr2 hb2 hf2 Con2
  go_wp2
  refine ⟨_, results_tmp2 (t := 10) (u := 11) rfl _ _ _, ?_⟩
  exact Fin.out
end Go.Proofs.YtjacmmcmjnkikaaGreatDoor
