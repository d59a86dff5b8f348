/- Walks: the reference's byDigit. -/
import Derived.Test.YtamjfjomehcikaaGreatDoorSpec1
import Derived.Test.YtamjfjomehcikaaGreatDoorSpec2
import Derived.Test.YtamjfjomehcikaaGreatDoorDivB
set_option linter.unusedVariables false
set_option linter.unusedSimpArgs false
namespace Go.Proofs.YtamjfjomehcikaaGreatDoor
open Go.RowKit

theorem mk_nat (n : Nat) (hc : n ≤ 2199023255552) (w : World) :
    (Instr.makeSlice 27 (.int .i64 (n : Int)) (.int .i64 (n : Int))).run Tryz.prog w = .ok (.slice (some ⟨w.heap.size, 0, none⟩) n n) (w.alloc (.cells (madeCells #[.int .i64 0] n) 3)) := by
  obtain ⟨i0, hi, hz0, hz1, hz2⟩ := info_parts infoI
  have := run_make (P := Tryz.prog) w 27 3 i0 (.int .i64 0) Tryz.underlying27 hi hz0 .i64 .i64 n n (by omega) (by omega) (by rw [hz2]; omega) (by omega)
  rw [hz1, Nat.mul_one] at this
  exact this

/-- What a round holds: out's cells from k on are the quotient's. -/
structure ByS (w : World) (g n k d : Nat) (xs : List Nat) (r : Nat) (W : World) : Prop where
  rest : r = (divB 65536 d (xs.drop k)).2
  blk : ∃ cur, Blk W g 3 cur ∧ cur.size = n ∧ (cur.toList.take n).drop k = gv .i64 (divB 65536 d (xs.drop k)).1
  bel : Below w.heap.size w W

theorem ByS.step {w W : World} {g n k d : Nat} {xs : List Nat} {r q r' : Nat} (h : ByS w g n (k + 1) d xs r W) (hg : w.heap.size ≤ g) (hn : n = xs.length) (hk : k < n)
    (hq : q = (r * 65536 + xs.getD k 0) / d ∧ r' = (r * 65536 + xs.getD k 0) % d) :
    (∃ u, W.cell? ⟨g, k, none⟩ = some u) ∧ W.frozen? ⟨g, k, none⟩ = false ∧ ByS w g n k d xs r' (W.setCell ⟨g, k, none⟩ (.int .i64 (q : Int))) := by
  obtain ⟨cur, hB, hs, hd⟩ := h.blk
  have hdrop : xs.drop k = xs.getD k 0 :: xs.drop (k + 1) := by
    rw [getD_at (by omega)]
    exact List.drop_eq_getElem_cons (by omega)
  have e1 : divB 65536 d (xs.drop k) = (q :: (divB 65536 d (xs.drop (k + 1))).1, r') := by
    rw [hdrop, divB_cons, ← h.rest, hq.1, hq.2]
  refine ⟨⟨_, (hB.cell k).trans (Array.getElem?_eq_getElem (by omega))⟩, hB.frozen k, ⟨by rw [e1], ⟨_, hB.set k _, by simpa using hs, ?_⟩, ?_⟩⟩
  · rw [e1]
    simp only [Array.toList_setIfInBounds]
    have hl : k < (cur.toList.take n).length := by simp; omega
    rw [List.take_set, List.drop_eq_getElem_cons (by simpa using hl), List.getElem_set_self, List.drop_set_of_lt (by omega), hd]
    rfl
  · exact ((Fr.of_below h.bel (fun _ => False)).step (S' := fun k => k = g) ((Fr.refl W (fun k => k = g)).setCell (p := ⟨g, k, none⟩) (fun _ => rfl) _) (fun i hi e => absurd hi (by omega))).below (Nat.le_refl _) (fun _ h => h.elim)

/-- Behind byDigit. -/
def ByP (w : World) (d : Nat) (xs : List Nat) (e : Ending) (w' : World) : Prop :=
  ∃ (B : Option Addr) (c : Nat), e = .returned (.tuple #[.slice B (digs 65536 (dval 65536 xs / d)).length c, .int .i64 ((dval 65536 xs % d : Nat) : Int)]) ∧ OwnI w' w.heap.size (.slice B (digs 65536 (dval 65536 xs / d)).length c) (digs 65536 (dval 65536 xs / d)) ∧ Below w.heap.size w w'

set_option maxHeartbeats 1000000 in
theorem byDigit_any (A : Option Addr) (n c d : Nat) (xs : List Nat) (w : World) (hx : RdG .i64 w (.slice A n c) xs) (hn : n = xs.length) (hnb : n ≤ 1099511627776) (hd0 : 0 < d) (hd : d < 65536) (hdg : Dig 65536 xs) :
    Calls Tryz.prog 44 #[.slice A n c, .int .i64 (d : Int)] w (ByP w d xs) := by
  have hmk := mk_nat n (by omega)
  have hst : ByS w w.heap.size n n d xs 0 (w.alloc (.cells (madeCells #[.int .i64 0] n) 3)) := by
    refine ⟨by rw [hn, List.drop_length]; rfl, ⟨_, Blk.new w _ _, size_madeCells _ _, ?_⟩, (Below.refl _ _).alloc (Nat.le_refl _) _⟩
    rw [hn, List.drop_length]
    simp [divB, gv]
  have d0 : 0 < (d : Int) := by omega
  have dn : (d : Int) ≠ 0 := by omega
  have HS := hide hst
  have HX := hide hx.at_
  have HN := hide hn
  have HD := hide hdg
  clear hst hx hn hdg
  go_enter Tryz.func44, Tryz.ntmps44
  go_wp2
  obtain ⟨W0, hW0⟩ : ∃ W0, W0 = w.alloc (.cells (madeCells #[.int .i64 0] n) 3) := ⟨_, rfl⟩
  go_loopw [7, 8] (fun vr vi wr => ∃ (k r : Nat), k ≤ n ∧ vi = .int .i64 ((k : Int) - 1) ∧ vr = .int .i64 (r : Int) ∧ Hid (ByS w w.heap.size n k d xs r wr)) (fun _ vi _ => (intOf vi + 1).toNat)
  case atStart => exact ⟨n, 0, Nat.le_refl _, by go_num, rfl, HS⟩
  case round =>
    obtain ⟨k, r, hk, rfl, rfl, HR⟩ := hrel
    rcases Nat.eq_zero_or_pos k with rfl | hp
    · have hl : (divB 65536 d xs).1.length = n := by rw [divB_length, HN.out]
      have hr : r = (divB 65536 d xs).2 := by have := HR.out.rest; rwa [List.drop_zero] at this
      have hown : OwnI wr w.heap.size (.slice (some ⟨w.heap.size, 0, none⟩) n n) (divB 65536 d xs).1 := by
        obtain ⟨cu, h2, h3, h4⟩ := HR.out.blk
        rw [List.drop_zero] at h4
        rw [List.drop_zero] at h4
        have := OwnG.mk (xs := (divB 65536 d xs).1) (k := .i64) (Nat.le_refl _) h2 (by omega) (by unfold maxLen; omega) h3 (by rw [hl]; exact h4)
        rwa [hl] at this
      have hq := divB_quo (b := 65536) hd0 xs
      have ht := divB_digs (b := 65536) (by omega) hd0 HD.out
      have con := trim_any (some ⟨w.heap.size, 0, none⟩) n (divB 65536 d xs).1 wr (by rw [hl]; exact hown.rd)
      rw [hl] at con
      have Con := hide con
      have fin : ByP w d xs (.returned (.tuple #[.slice (some ⟨w.heap.size, 0, none⟩) (trimz (divB 65536 d xs).1).length n, .int .i64 (r : Int)])) wr := by
        rw [ht, hr, hq.2]
        refine ⟨_, _, rfl, ?_, HR.out.bel⟩
        have := hown.take (trimz (divB 65536 d xs).1).length (by have := trimz_length_le (divB 65536 d xs).1; omega)
        rw [take_trimz, ht] at this
        exact this
      have Fin := hide fin
      clear fin con hown hq ht hl hr HR HS
      generalize (trimz (divB 65536 d xs).1).length = m at Con Fin
      go_wp2_with fail
      refine (Con.out).mono ?_
      rintro e w1 ⟨rfl, rfl⟩
      clear Con
      go_wp2
      go_ret2
      exact Fin.out
    · obtain ⟨j, rfl⟩ : ∃ j, k = j + 1 := ⟨k - 1, by omega⟩
      obtain ⟨gx, o, rfl, hgx, hcell⟩ := HX.out j (by have := HN.out; omega)
      have hcw : wr.cell? ⟨gx, o + j, none⟩ = some (.int .i64 (xs.getD j 0 : Nat)) := (HR.out.bel.cell hgx).trans hcell
      have hxl : xs.getD j 0 < 65536 := HD.out _ (by rw [getD_at (by have := HN.out; omega)]; exact List.getElem_mem _)
      have e1 : ((j + 1 : Nat) : Int) - 1 = (j : Int) := by omega
      have hrl : r < d := by rw [HR.out.rest]; exact divB_rest _ hd0 _
      obtain ⟨⟨u, k1⟩, k2, HT⟩ := HR.out.step (q := (r * 65536 + xs.getD j 0) / d) (r' := (r * 65536 + xs.getD j 0) % d) (Nat.le_refl _) HN.out (by omega) ⟨rfl, rfl⟩
      have HT2 := hide HT
      clear hcell HT HR HS
      generalize xs.getD j 0 = x at hcw hxl HT2
      have e2 : ((r * 65536 + x : Nat) : Int) = (r : Int) * 65536 + (x : Int) := by omega
      rw [Int.natCast_ediv, e2] at HT2
      go_wp2
      go_roundw
      case rel => exact ⟨j, (r * 65536 + x) % d, by omega, rfl, by rw [Int.natCast_emod, e2], HT2⟩
      case measure => simp [intOf]
end Go.Proofs.YtamjfjomehcikaaGreatDoor
