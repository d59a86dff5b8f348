/- Walks: spec's trim, Of. -/
import Derived.Test.YtamjfjomehcikaaGreatDoorGen
set_option linter.unusedVariables false
set_option linter.unusedSimpArgs false
namespace Go.Proofs.YtamjfjomehcikaaGreatDoor
open Go.RowKit

abbrev OwnI (w : World) (base : Nat) (v : Value) (xs : List Nat) : Prop := OwnG 3 .i64 w base v xs
theorem infoI : (Tryz.prog.info? 3).map (fun i => (i.zero, i.size, i.bytes)) = some (some (.int .i64 0), 1, 8) := by kernel_rfl

set_option maxHeartbeats 400000 in
theorem trim_any (A : Option Addr) (c : Nat) (xs : List Nat) (w : World) (hx : RdG .i64 w (.slice A xs.length c) xs) :
    Calls Tryz.prog 26 #[.slice A xs.length c] w fun e w' => e = .returned (.slice A (trimz xs).length c) ∧ w = w' := by
  obtain ⟨hl, hc⟩ : xs.length ≤ c ∧ c ≤ maxLen := by
    obtain ⟨B, d, he, h1, h2⟩ := hx.slice
    injection he with _ _ e3
    subst e3
    exact ⟨h1, h2⟩
  unfold maxLen at hc
  have Hx := hide hx.at_
  clear hx
  go_enter Tryz.func26, Tryz.ntmps26
  go_wp2
  go_loop [0] (fun v => ∃ k : Nat, k ≤ xs.length ∧ v = .slice A k c ∧ Hid (trimz (xs.take k) = trimz xs)) (fun v => match v with | .slice _ k _ => k | _ => 0)
  case atStart => exact ⟨xs.length, Nat.le_refl _, rfl, by rw [List.take_of_length_le (Nat.le_refl _)]; rfl⟩
  case round =>
    obtain ⟨k, hk, rfl, ht⟩ := hrel
    rcases Nat.eq_zero_or_pos k with rfl | hp
    · have H : (trimz xs).length = 0 := by rw [← ht.out]; rfl
      have HH := hide H
      clear H
      go_wp2
      go_ret
      rw [HH.out]
      exact ⟨rfl, rfl⟩
    · obtain ⟨k, rfl⟩ : ∃ m, k = m + 1 := ⟨k - 1, by omega⟩
      obtain ⟨g, o, rfl, _, hcell⟩ := Hx.out k (by omega)
      have e1 : ((k + 1 : Nat) : Int) - 1 = (k : Int) := by omega
      by_cases h0 : xs.getD k 0 = 0
      · rw [h0] at hcell
        have HT : Hid (trimz (xs.take k) = trimz xs) := by
          have := ht.out
          rw [trimz_take_zero (by omega) h0] at this
          exact this
        go_wp2
        go_round
        case rel => exact ⟨k, by omega, rfl, HT⟩
        case measure => simp
      · have H : (trimz xs).length = k + 1 := by rw [← ht.out, trimz_take_ne (by omega) h0, List.length_take]; omega
        have HH := hide H
        clear H ht
        generalize xs.getD k 0 = d at hcell h0
        have hd : ((d : Int) == 0) = false := by simpa using h0
        clear h0
        go_wp2
        go_ret
        rw [HH.out]
        exact ⟨rfl, rfl⟩

/-- The four digits of a word. -/
def quad (d : Nat) : List Nat := [d % 65536, d / 65536 % 65536, d / 4294967296 % 65536, d / 281474976710656 % 65536]
def quads (xs : List Nat) : List Nat := (xs.map quad).flatten
theorem quads_snoc (xs : List Nat) (d : Nat) : quads (xs ++ [d]) = quads xs ++ quad d := by simp [quads]
theorem quads_length (xs : List Nat) : (quads xs).length = 4 * xs.length := by
  induction xs with
  | nil => rfl
  | cons d r ih => simp only [quads, List.map_cons, List.flatten_cons, List.length_append, List.length_cons] at ih ⊢; rw [ih]; simp [quad]; omega
theorem dval_quads (xs : List Nat) (h : Dig 18446744073709551616 xs) : dval 65536 (quads xs) = dval 18446744073709551616 xs := by
  induction xs with
  | nil => rfl
  | cons d r ih =>
    have e : quads (d :: r) = quad d ++ quads r := by simp [quads]
    rw [e, dval_append, ih (fun x hx => h x (by simp [hx])), dval_cons]
    have hd := h d (by simp)
    simp only [quad, dval_cons, dval_nil, List.length_cons, List.length_nil]
    omega
theorem dig_quads (xs : List Nat) : Dig 65536 (quads xs) := by
  intro d hd
  simp only [quads, List.mem_flatten, List.mem_map] at hd
  obtain ⟨l, ⟨a, _, rfl⟩, hd⟩ := hd
  simp only [quad, List.mem_cons, List.not_mem_nil, or_false] at hd
  omega
theorem trimz_quads (xs : List Nat) (h : Dig 18446744073709551616 xs) : trimz (quads xs) = digs 65536 (dval 18446744073709551616 xs) := by
  rw [← dval_quads xs h, digs_dval_trim (by omega) (dig_quads xs)]
end Go.Proofs.YtamjfjomehcikaaGreatDoor
