/- Walks: nat.expNN at the small powers; whatever the power. -/
import Derived.Test.YtamjfjomehcikaaGreatDoorExp2
set_option linter.unusedVariables false
set_option linter.unusedSimpArgs false
namespace Go.Proofs.YtamjfjomehcikaaGreatDoor
open Go.RowKit

set_option maxHeartbeats 1000000 in
set_option maxRecDepth 20000 in
theorem expNN_zero (base bx by_ b : Nat) (z : Value) (mz : Nat) (A B : Option Addr) (c d : Nat) (w : World) (hz : Room w base z mz) (hb : base ≤ w.heap.size) (hx : Own w bx (.slice A 1 c) [b]) (hy : Own w by_ (.slice B 0 d) []) (hax : Apart z (.slice A 1 c)) (hay : Apart z (.slice B 0 d)) :
    Calls Tryz.prog 87 #[z, .pointer none, .slice A 1 c, .slice B 0 d, .slice none 0 0, .bool false] w (SetP w base z (digs 18446744073709551616 (b ^ 0))) := by
  have Con := hide (alias_rows base bx mz 1 z _ w hz hx.room_n hax)
  have Cony := hide (fun W (h : Below w.heap.size w W) => alias_rows base by_ mz 0 z (.slice B 0 d) W (hz.fr (Fr.of_below h (fun _ => False)) (fun _ _ h => h)) (hy.below h).room_n hay)
  have ConS : Hid (∀ W (h : Below w.heap.size w W), Calls Tryz.prog 81 #[z, .int .u64 1] W (SetP W base z (digs 18446744073709551616 1))) :=
    fun W h => setWord_any base z mz 1 W (hz.fr (Fr.of_below h (fun _ => False)) (fun _ _ h => h)) (by have := h.size; omega) (by omega)
  rw [Nat.pow_zero]
  clear hx hy hax hay hz
  go_enter_defers Tryz.func87, Tryz.ntmps87
  go_wp2_with fail
  refine (Con.out).mono ?_
  rintro e w9 ⟨rfl, j, hw9⟩
  have HB9 : Hid (Below w.heap.size w w9) := by rw [hw9]; exact below_drewN w j
  clear hw9 Con
  go_wp2_with fail
  refine (Cony.out _ HB9.out).mono ?_
  rintro e w0 ⟨rfl, j2, hw0⟩
  have HB0 : Hid (Below w.heap.size w w0) := below_next HB9.out (by rw [hw0]; exact below_drewN w9 j2)
  clear hw0 Cony HB9
  go_wp2_with fail
  refine (ConS.out _ HB0.out).mono ?_
  rintro e w1 ⟨R, cr, rfl, h1, h2, h3⟩
  have Fin : Hid (SetP w base z (digs 18446744073709551616 1) (.returned (.slice R (digs 18446744073709551616 1).length cr)) w1) :=
    ⟨R, cr, rfl, h1, h2.imp id (fun ⟨k, a, b⟩ => ⟨k, a, by have := HB0.out.size; omega⟩), Fr.step (Fr.of_below HB0.out _) h3 (fun _ _ h => h)⟩
  clear h1 h2 h3 ConS HB0
  generalize (digs 18446744073709551616 1).length = q at Fin ⊢
  go_wp2
  refine ⟨_, results_tmp (t := 12) rfl _ _ _, ?_⟩
  exact Fin.out

set_option maxHeartbeats 1000000 in
set_option maxRecDepth 20000 in
theorem expNN_one (base bx by_ b : Nat) (z : Value) (mz : Nat) (A B : Option Addr) (c d : Nat) (w : World) (hz : Room w base z mz) (hb : base ≤ w.heap.size) (hx : Own w bx (.slice A 1 c) [b]) (hy : Own w by_ (.slice B 1 d) [1]) (hax : Apart z (.slice A 1 c)) (hay : Apart z (.slice B 1 d)) (hb2 : 2 ≤ b) (hbl : b < 18446744073709551616) :
    Calls Tryz.prog 87 #[z, .pointer none, .slice A 1 c, .slice B 1 d, .slice none 0 0, .bool false] w (SetP w base z (digs 18446744073709551616 (b ^ 1))) := by
  obtain ⟨gx, ox, rfl, hgx, hxc⟩ := RdG.at_ (k := .u64) (xs := [b]) hx.rd 0 (by simp)
  obtain ⟨gy, oy, rfl, hgy, hyc⟩ := RdG.at_ (k := .u64) (xs := [1]) hy.rd 0 (by simp)
  have x0 : w.cell? ⟨gx, ox, none⟩ = some (.int .u64 (b : Int)) := by simpa using hxc
  have y0 : w.cell? ⟨gy, oy, none⟩ = some (.int .u64 1) := by simpa using hyc
  have b1 : ((b : Int) == 1) = false := beq_eq_false_iff_ne.2 (by omega)
  have Con := hide (alias_rows base bx mz 1 z _ w hz hx.room_n hax)
  have Cony := hide (fun W (h : Below w.heap.size w W) => alias_rows base by_ mz 1 z (.slice (some ⟨gy, oy, none⟩) 1 d) W (hz.fr (Fr.of_below h (fun _ => False)) (fun _ _ h => h)) (hy.below h).room_n hay)
  have conS := fun W (h : Below w.heap.size w W) => set_any base z mz (.slice (some ⟨gx, ox, none⟩) 1 c) [b] W (hz.fr (Fr.of_below h (fun _ => False)) (fun _ _ h => h)) (hx.below h).rd (by have := h.size; omega) (by simp)
  have e1 : digs 18446744073709551616 (b ^ 1) = [b] := by rw [Nat.pow_one]; exact digs_word hbl (by omega)
  rw [e1]
  have ConS := hide conS
  clear hx hy hax hay hz conS hxc hyc e1
  go_enter_defers Tryz.func87, Tryz.ntmps87
  go_wp2_with fail
  refine (Con.out).mono ?_
  rintro e w9 ⟨rfl, j, hw9⟩
  have HB9 : Hid (Below w.heap.size w w9) := by rw [hw9]; exact below_drewN w j
  clear hw9 Con
  go_wp2_with fail
  refine (Cony.out _ HB9.out).mono ?_
  rintro e w0 ⟨rfl, j2, hw0⟩
  have HB0 : Hid (Below w.heap.size w w0) := below_next HB9.out (by rw [hw0]; exact below_drewN w9 j2)
  have cx : w0.cell? ⟨gx, ox, none⟩ = some (.int .u64 (b : Int)) := (HB0.out.cell hgx).trans x0
  have cy : w0.cell? ⟨gy, oy, none⟩ = some (.int .u64 1) := (HB0.out.cell hgy).trans y0
  clear hw0 Cony HB9 x0 y0
  go_wp2_with fail
  refine (ConS.out _ HB0.out).mono ?_
  rintro e w1 ⟨R, cr, rfl, h1, h2, h3⟩
  have Fin : Hid (SetP w base z [b] (.returned (.slice R [b].length cr)) w1) :=
    ⟨R, cr, rfl, h1, h2.imp id (fun ⟨k, a, b⟩ => ⟨k, a, by have := HB0.out.size; omega⟩), Fr.step (Fr.of_below HB0.out _) h3 (fun _ _ h => h)⟩
  clear h1 h2 h3 ConS HB0
  go_wp2
  refine ⟨_, results_tmp (t := 12) rfl _ _ _, ?_⟩
  exact Fin.out

theorem expNN_any (base bx by_ b n l : Nat) (z : Value) (mz : Nat) (A B : Option Addr) (c d : Nat) (w : World) (hz : Room w base z mz) (hb : base ≤ w.heap.size) (hx : Own w bx (.slice A 1 c) [b]) (hy : Own w by_ (.slice B l d) (digs 18446744073709551616 n)) (hax : Apart z (.slice A 1 c)) (hay : Apart z (.slice B l d))
    (hb2 : 2 ≤ b) (hbl : b < 18446744073709551616) (hnl : n < 18446744073709551616) (hsz : b ^ (n / 2) < 18446744073709551616 ^ 11) (hv : Vars w base) :
    Calls Tryz.prog 87 #[z, .pointer none, .slice A 1 c, .slice B l d, .slice none 0 0, .bool false] w (SetP w base z (digs 18446744073709551616 (b ^ n))) := by
  have hl : l = (digs 18446744073709551616 n).length := RdG.len (k := .u64) hy.rd
  by_cases h0 : n = 0
  · subst h0
    rw [digs_zero] at hl hy
    subst hl
    exact expNN_zero base bx by_ b z mz A B c d w hz hb hx hy hax hay
  · rw [digs_word hnl h0] at hl hy
    subst hl
    by_cases h1 : n = 1
    · subst h1
      exact expNN_one base bx by_ b z mz A B c d w hz hb hx hy hax hay hb2 hbl
    · exact expNN_main base bx by_ b n z mz A B c d w hz hb hx hy hax hay hb2 hbl (by omega) hnl hsz hv
end Go.Proofs.YtamjfjomehcikaaGreatDoor
