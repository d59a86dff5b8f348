/- Walks: nat.mul at few words, whatever the words; z may be one of the factors. -/
import Derived.Test.YtamjfjomehcikaaGreatDoorMul3
set_option linter.unusedVariables false
set_option linter.unusedSimpArgs false
namespace Go.Proofs.YtamjfjomehcikaaGreatDoor
open Go.RowKit

theorem Apart.symm {z x : Value} (h : Apart z x) : Apart x z := fun k hk e => h k e hk

set_option maxHeartbeats 1000000 in
set_option maxRecDepth 20000 in
theorem mul_zero (base n : Nat) (z stk : Value) (m : Nat) (A B : Option Addr) (c d : Nat) (v : Nat) (w : World) (hz : Room w base z m) (hv : v = 0) :
    Calls Tryz.prog 78 #[z, stk, .slice A n c, .slice B 0 d] w (SetP w base z (digs 18446744073709551616 v)) := by
  obtain ⟨Az, cap, rfl⟩ := hz.slice
  have HH : Hid (SetP w base (.slice Az m cap) (digs 18446744073709551616 v) (.returned (.slice Az 0 cap)) w) := by
    rw [hv, digs_zero]
    exact ⟨Az, cap, rfl, (room_cut hz (Nat.zero_le _)).empty, .inl (by cases Az <;> rfl), Fr.refl _ _⟩
  clear hz hv
  by_cases n0 : ((n : Int) == 0) = true
  · go_enter_defers Tryz.func78, Tryz.ntmps78
    go_wp2
    refine ⟨_, results_tmp (t := 8) rfl _ _ _, ?_⟩
    exact HH.out
  · have n1 : ((n : Int) == 0) = false := by simpa using n0
    clear n0
    go_enter_defers Tryz.func78, Tryz.ntmps78
    go_wp2
    refine ⟨_, results_tmp (t := 8) rfl _ _ _, ?_⟩
    exact HH.out

set_option maxHeartbeats 1000000 in
set_option maxRecDepth 20000 in
theorem mul_one (base bx n y : Nat) (z stk : Value) (m : Nat) (A B : Option Addr) (c d : Nat) (xs : List Nat) (w : World) (hz : Room w base z m) (hb : base ≤ w.heap.size) (hx : Own w bx (.slice A n c) xs) (hy : RdW w (.slice B 1 d) [y]) (hn : n = xs.length) (hn1 : 1 ≤ n) (hnb : n ≤ 1048576)
    (hal : Apart z (.slice A n c) ∨ z = .slice A n c) (hy1 : 1 ≤ y) (hyl : y < 18446744073709551616) (hd : Dig 18446744073709551616 xs) :
    Calls Tryz.prog 78 #[z, stk, .slice A n c, .slice B 1 d] w (SetP w base z (digs 18446744073709551616 (dval 18446744073709551616 xs * y))) := by
  obtain ⟨gy, o, rfl, _, hcell⟩ := RdG.at_ (k := .u64) (xs := [y]) hy 0 (by simp)
  have y0 : w.cell? ⟨gy, o, none⟩ = some (.int .u64 (y : Int)) := by simpa using hcell
  have n0 : ((n : Int) == 0) = false := beq_eq_false_iff_ne.2 (by omega)
  have hal2 : Apart z (.slice A n c) ∨ z = .slice A m c := by
    rcases hal with h | h
    · exact .inl h
    · subst h
      obtain ⟨B, q, e⟩ := hz.slice
      injection e with _ e
      subst e
      exact .inr rfl
  have con : Calls Tryz.prog 95 #[z, .slice A n c, .int .u64 (y : Int), .int .u64 0] w (SetP w base z (digs 18446744073709551616 (dval 18446744073709551616 xs * y + 0))) :=
    maWW_any base bx n y 0 z m A c xs w hz hb hx hn hn1 hnb hal2 hy1 hyl (by omega) hd
  rw [Nat.add_zero] at con
  have Con := hide con
  clear con hcell hy hx hz hal hal2 hn hd
  go_enter_defers Tryz.func78, Tryz.ntmps78
  go_wp2_with fail
  refine (Con.out).mono ?_
  rintro e w1 ⟨R, cr, rfl, h⟩
  have Fin : Hid (SetP w base z (digs 18446744073709551616 (dval 18446744073709551616 xs * y)) (.returned (.slice R (digs 18446744073709551616 (dval 18446744073709551616 xs * y)).length cr)) w1) := ⟨R, cr, rfl, h⟩
  clear h Con
  generalize (digs 18446744073709551616 (dval 18446744073709551616 xs * y)).length = q at Fin ⊢
  go_wp2
  refine ⟨_, results_tmp (t := 8) rfl _ _ _, ?_⟩
  exact Fin.out

/-- The first factor is not the shorter one. -/
theorem mul_ge (base bx by_ n l : Nat) (z stk : Value) (m : Nat) (A B : Option Addr) (c d : Nat) (xs ys : List Nat) (w : World) (hz : Room w base z m) (hb : base ≤ w.heap.size) (hx : Own w bx (.slice A n c) xs) (hy : Own w by_ (.slice B l d) ys) (hn : n = xs.length) (hl : l = ys.length)
    (hln : l ≤ n) (hnb : n ≤ 39) (hax : Apart z (.slice A n c) ∨ z = .slice A n c) (hay : Apart z (.slice B l d) ∨ z = .slice B l d) (hdx : Dig 18446744073709551616 xs) (hdy : Dig 18446744073709551616 ys) (hcy : Canon ys) (hv : Vars w base) :
    Calls Tryz.prog 78 #[z, stk, .slice A n c, .slice B l d] w (SetP w base z (digs 18446744073709551616 (dval 18446744073709551616 xs * dval 18446744073709551616 ys))) := by
  by_cases l0 : l = 0
  · subst l0
    obtain rfl := List.eq_nil_of_length_eq_zero hl.symm
    exact mul_zero base n z stk m A B c d _ w hz (by simp [dval])
  · by_cases l1 : l = 1
    · subst l1
      obtain ⟨y, rfl⟩ := List.length_eq_one_iff.1 hl.symm
      have e : dval 18446744073709551616 [y] = y := by simp [dval]
      have hy1 : 1 ≤ y := by
        have := dval_pos (b := 18446744073709551616) (by omega) hcy (by simp)
        omega
      rw [e]
      exact mul_one base bx n y z stk m A B c d xs w hz hb hx hy.rd hn (by omega) (by omega) hax hy1 (hdy y (by simp)) hdx
    · rcases hax with hax | hax
      · rcases hay with hay | hay
        · exact mul_far base bx by_ n l z stk m A B c d xs ys w hz hb hx hy hn hl (by omega) hln (by omega) (by omega) hax hay hdx hdy hv
        · exact mul_neary base bx by_ n l z stk m A B c d xs ys w hz hb hx hy hn hl (by omega) hln (by omega) (by omega) hax hay hdx hdy hv
      · exact mul_nearx base bx by_ n l z stk m A B c d xs ys w hz hb hx hy hn hl (by omega) hln (by omega) (by omega) hax hdx hdy hv

set_option maxHeartbeats 1000000 in
set_option maxRecDepth 20000 in
theorem mul_any2 (base bx by_ n l : Nat) (z stk : Value) (m : Nat) (A B : Option Addr) (c d : Nat) (xs ys : List Nat) (w : World) (hz : Room w base z m) (hb : base ≤ w.heap.size) (hx : Own w bx (.slice A n c) xs) (hy : Own w by_ (.slice B l d) ys) (hn : n = xs.length) (hl : l = ys.length)
    (hnb : n ≤ 39) (hlb : l ≤ 39) (hax : Apart z (.slice A n c) ∨ z = .slice A n c) (hay : Apart z (.slice B l d) ∨ z = .slice B l d) (hdx : Dig 18446744073709551616 xs) (hdy : Dig 18446744073709551616 ys) (hcx : Canon xs) (hcy : Canon ys) (hv : Vars w base) :
    Calls Tryz.prog 78 #[z, stk, .slice A n c, .slice B l d] w (SetP w base z (digs 18446744073709551616 (dval 18446744073709551616 xs * dval 18446744073709551616 ys))) := by
  by_cases hln : l ≤ n
  · exact mul_ge base bx by_ n l z stk m A B c d xs ys w hz hb hx hy hn hl hln hnb hax hay hdx hdy hcy hv
  · have con := mul_ge base by_ bx l n z stk m B A d c ys xs w hz hb hy hx hl hn (by omega) hlb hay hax hdy hdx hcx hv
    rw [Nat.mul_comm] at con
    have Con := hide con
    have hlt : n < l := by omega
    clear con hz hx hy hn hl hax hay hdx hdy hcx hcy hv hln
    go_enter_defers Tryz.func78, Tryz.ntmps78
    go_wp2_with fail
    refine (Con.out).mono ?_
    rintro e w1 ⟨R, cr, rfl, h⟩
    have Fin : Hid (SetP w base z (digs 18446744073709551616 (dval 18446744073709551616 xs * dval 18446744073709551616 ys)) (.returned (.slice R (digs 18446744073709551616 (dval 18446744073709551616 xs * dval 18446744073709551616 ys)).length cr)) w1) := ⟨R, cr, rfl, h⟩
    clear h Con
    generalize (digs 18446744073709551616 (dval 18446744073709551616 xs * dval 18446744073709551616 ys)).length = q at Fin ⊢
    go_wp2
    refine ⟨_, results_tmp (t := 8) rfl _ _ _, ?_⟩
    exact Fin.out
end Go.Proofs.YtamjfjomehcikaaGreatDoor
