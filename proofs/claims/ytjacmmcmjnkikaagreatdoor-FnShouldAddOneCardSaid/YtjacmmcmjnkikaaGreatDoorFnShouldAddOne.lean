/- The law FnShouldAddOne: its walk. -/
import Derived.Test.YtjacmmcmjnkikaaGreatDoorRound2
import Derived.Test.YtjacmmcmjnkikaaGreatDoorSpAway
import Derived.Test.YtjacmmcmjnkikaaGreatDoorSpec5
set_option linter.unusedVariables false
set_option linter.unusedSimpArgs false
namespace Go.Proofs.YtjacmmcmjnkikaaGreatDoor
open Go.RowKit

theorem tmod2 (h : Int) : ∃ h2 : Int, h.tmod 2 = h2 ∧ -1 ≤ h2 ∧ h2 ≤ 1 := by
  rcases Int.le_total 0 h with h0 | h0
  · have := Int.tmod_eq_emod_of_nonneg (b := 2) h0
    exact ⟨_, rfl, by omega, by omega⟩
  · have h1 := Int.tmod_eq_emod_of_nonneg (a := -h) (b := 2) (by omega)
    rw [Int.neg_tmod] at h1
    exact ⟨_, rfl, by omega, by omega⟩

set_option maxHeartbeats 1000000 in
theorem fnShouldAddOne_at (m : Int) (A : Option Addr) (n c : Nat) (xs : List Nat) (neg : Bool) (h : Int) (w : World) (hv : RdG .u64 w (.slice A n c) xs) (hn : n = xs.length) (hd : Dig 18446744073709551616 xs) (hm0 : 0 ≤ m) (hm1 : m < 256) (hh0 : -128 ≤ h) (hh1 : h ≤ 127) :
    Calls Tryz.prog 3 #[.int .u8 m, .slice A n c, .bool neg, .int .i8 h] w (BoolP w true) := by
  have hP : ∀ W : World, Below w.heap.size w W → BoolP w true (.returned (.bool true)) W := fun W h => ⟨rfl, h⟩
  have Fin := hide hP
  have Fin0 := hide (hP w (Below.refl _ _))
  clear hP
  by_cases hbig : 3 < n
  · clear hv hd hn
    by_cases h4 : 2147483647 < n
    · go_enter Tryz.func3, Tryz.ntmps3
      go_wp2
      go_ret
      exact Fin0.out
    · go_enter Tryz.func3, Tryz.ntmps3
      go_wp2
      go_ret
      exact Fin0.out
  · have Con := hide (of_any (.slice A n c) xs w hv (by omega) hd)
    have hlen : (digs 65536 (numW xs)).length ≤ 12 := by
      refine digs_length_le (by omega) (Nat.lt_of_lt_of_le (dval_lt (by omega) hd) ?_)
      have : (18446744073709551616 : Nat) ^ xs.length ≤ 18446744073709551616 ^ 3 := Nat.pow_le_pow_right (by omega) (by omega)
      refine Nat.le_trans this (by decide)
    have HL := hide hlen
    have HH := hide (And.intro hv (And.intro hn hd))
    obtain ⟨h2, hh, h20, h21⟩ := tmod2 h
    obtain ⟨k, hk, hk8⟩ : ∃ k : Nat, m % 8 = (k : Int) ∧ k < 8 := ⟨(m % 8).toNat, by omega, by omega⟩
    have HK := hide hk8
    clear hv hd hlen hk8 hn
    go_enter Tryz.func3, Tryz.ntmps3
    go_wp2_with fail
    refine (Con.out).mono ?_
    rintro e w1 ⟨B, cB, rfl, hown, hbel⟩
    have hv1 : RdG .u64 w1 (.slice A n c) xs := HH.out.1.below hbel
    have con2 := hasWords_any A B c cB xs (digs 65536 (numW xs)) w1 (by rw [← HH.out.2.1]; exact hv1) hown.rd (by have := HH.out.2.1; omega) (by have := HL.out; omega) (dig_digs (by omega) _)
    rw [pk_digs, ← HH.out.2.1] at con2
    have con3 : ∀ W, Below w1.heap.size w1 W → Calls Tryz.prog 6 #[.int .i64 (k : Int), .slice A n c, .bool neg, .int .i64 h2] W (RoundP W (addOne k neg h2 (numW xs))) := fun W (hb : Below w1.heap.size w1 W) => isao_any k (.slice A n c) xs neg h2 W HK.out (hv1.below hb) (by have := HH.out.2.1; omega) HH.out.2.2
    have con4 := fun W (hb : Below w1.heap.size w1 W) => Away_any k HK.out neg h2 B _ cB (digs 65536 (numW xs)) W (hown.below hb).rd rfl (by have := HL.out; omega) (dig_digs (by omega) _)
    rw [dval_digs (by omega)] at con4
    have con5 : ∀ W, Calls Tryz.prog 6 #[.int .i64 6, .slice none 0 0, .bool false, .int .i64 0] W (RoundP W true) := fun W => isao_any 6 (.slice none 0 0) [] false 0 W (by omega) (.inl ⟨_, _, rfl, rfl, Nat.zero_le _⟩) (by simp) (fun d hd => by simp at hd)
    generalize addOne k neg h2 (numW xs) = b at con3 con4
    have Con2 := hide con2
    have Con3 := hide con3
    have Con4 := hide con4
    have Con5 := hide con5
    have HB := hide hbel
    clear con2 con3 con4 con5 hv1 hown hbel HH Con Fin0
    generalize (digs 65536 (numW xs)).length = nB at Con2 Con4 HL ⊢
    generalize eqB xs (digs 18446744073709551616 (numW xs)) = q at Con2
    go_wp2_with fail
    refine (Con2.out).mono ?_
    rintro e w2 ⟨rfl, hb2⟩
    have HB2 := hide hb2
    clear hb2 Con2
    cases q
    · have F2 := hide (Fin.out w2 (below_next HB.out HB2.out))
      clear Fin HB HB2 Con3 Con4 Con5
      go_wp2
      go_ret
      exact F2.out
    · go_wp2_with fail
      refine (Con3.out _ HB2.out).mono ?_
      rintro e w3 ⟨rfl, hb3⟩
      have HB3 := hide (below_next HB2.out hb3)
      clear hb3 Con3 HB2
      go_wp2_with fail
      refine (Con4.out _ HB3.out).mono ?_
      rintro e w4 ⟨rfl, hb4⟩
      have HB4 := hide (below_next HB3.out hb4)
      clear hb4 Con4 HB3
      have C5 := hide (Con5.out w4)
      clear Con5
      cases b
      all_goals go_wp2_with fail
      all_goals refine (C5.out).mono ?_
      all_goals rintro e w5 ⟨rfl, hb5⟩
      all_goals have F5 := hide (Fin.out w5 (below_next HB.out (below_next HB4.out hb5)))
      all_goals clear hb5 C5 HB4 HB Fin
      all_goals go_wp2
      all_goals go_ret
      all_goals exact F5.out

theorem fnShouldAddOne_walk (m : Int) (A : Option Addr) (c : Nat) (xs : List Nat) (neg : Bool) (h : Int) (w : World) (hm : (Lit.int .u8 m).wf = true) (hv : RdG .u64 w (.slice A xs.length c) xs) (hd : Dig 18446744073709551616 xs) (hh : (Lit.int .i8 h).wf = true) :
    Calls Tryz.prog 3 #[.int .u8 m, .slice A xs.length c, .bool neg, .int .i8 h] w (BoolP w true) := by
  have h1 : 0 ≤ m ∧ m < 256 := by simp [Lit.wf, IntKind.min, IntKind.max, IntKind.signed, IntKind.bits] at hm; omega
  have h2 : -128 ≤ h ∧ h ≤ 127 := by simp [Lit.wf, IntKind.min, IntKind.max, IntKind.signed, IntKind.bits] at hh; omega
  exact fnShouldAddOne_at m A xs.length c xs neg h w hv rfl hd h1.1 h1.2 h2.1 h2.2
end Go.Proofs.YtjacmmcmjnkikaaGreatDoor
