/- Walks: the reference's away and Away. -/
import Derived.Test.YtjacmmcmjnkikaaGreatDoorSpDig
import Derived.Test.YtjacmmcmjnkikaaGreatDoorRound
set_option linter.unusedVariables false
set_option linter.unusedSimpArgs false
namespace Go.Proofs.YtjacmmcmjnkikaaGreatDoor
open Go.RowKit

theorem addOne_last (k : Nat) (neg : Bool) (half : Int) (v : Nat) : addOne k neg half (v % 10) = addOne k neg half v := by
  have h2 : v % 10 % 2 = v % 2 := by omega
  have h5 : v % 10 % 5 = v % 5 := by omega
  unfold addOne
  split <;> simp only [h2, h5]

set_option maxHeartbeats 1000000 in
theorem away_any (k : Nat) (hk : k < 8) (neg : Bool) (half : Int) (last : Nat) (hl : last < 10) (w : World) :
    Calls Tryz.prog 14 #[.bool neg, .int .i64 (last : Int), .int .i64 half, .int .i64 (k : Int)] w fun e w' => e = .returned (.bool (addOne k neg half last)) ∧ w = w' := by
  rcases eight_way hk with rfl | rfl | rfl | rfl | rfl | rfl | rfl | rfl
  · clear hk
    go_enter Tryz.func14, Tryz.ntmps14
    go_wp2
    go_ret
    exact ⟨rfl, rfl⟩
  · clear hk
    obtain ⟨b, hbv⟩ : ∃ b, b = addOne 1 neg half last := ⟨_, rfl⟩
    have h1 : decide (half ≥ 0) = b := hbv.symm
    rw [← hbv]
    clear hbv
    go_enter Tryz.func14, Tryz.ntmps14
    go_wp2
    go_ret
    exact ⟨by first | rfl | rw [← h1], rfl⟩
  · clear hk
    have e : ((last : Int) % 2 == 1) = decide (last % 2 = 1) := by
      by_cases hr : last % 2 = 1
      · rw [decide_eq_true hr]; exact beq_iff_eq.2 (by omega)
      · rw [decide_eq_false hr]; exact beq_eq_false_iff_ne.2 (by omega)
    obtain ⟨b, hbv⟩ : ∃ b, b = addOne 2 neg half last := ⟨_, rfl⟩
    rw [← hbv]
    have Hb := hide hbv
    clear hbv
    by_cases h1 : 0 < half
    · have e1 : Hid (b = true) := Hb.out.trans (by simp [addOne, h1])
      clear Hb
      go_enter Tryz.func14, Tryz.ntmps14
      go_wp2
      go_ret
      exact ⟨by rw [e1.out]; rfl, rfl⟩
    · by_cases h2 : half = 0
      · subst h2
        have e1 : Hid (b = decide (last % 2 = 1)) := Hb.out.trans (by simp [addOne])
        clear Hb h1
        go_enter Tryz.func14, Tryz.ntmps14
        go_wp2
        go_ret
        exact ⟨by rw [e1.out, ← e]; rfl, rfl⟩
      · have e1 : Hid (b = false) := Hb.out.trans (by show (if 0 < half then true else if half < 0 then false else decide (last % 2 = 1)) = false; rw [if_neg h1, if_pos (by omega)])
        clear Hb
        go_enter Tryz.func14, Tryz.ntmps14
        go_wp2
        go_ret
        exact ⟨by rw [e1.out]; rfl, rfl⟩
  · clear hk
    go_enter Tryz.func14, Tryz.ntmps14
    go_wp2
    go_ret
    exact ⟨rfl, rfl⟩
  · clear hk
    go_enter Tryz.func14, Tryz.ntmps14
    go_wp2
    go_ret
    exact ⟨rfl, rfl⟩
  · clear hk
    obtain ⟨b, hbv⟩ : ∃ b, b = addOne 5 neg half last := ⟨_, rfl⟩
    have h1 : decide (half > 0) = b := hbv.symm
    rw [← hbv]
    clear hbv
    go_enter Tryz.func14, Tryz.ntmps14
    go_wp2
    go_ret
    exact ⟨by first | rfl | rw [← h1], rfl⟩
  · clear hk
    go_enter Tryz.func14, Tryz.ntmps14
    go_wp2
    go_ret
    exact ⟨rfl, rfl⟩
  · clear hk
    have e : ((last : Int) % 5 == 0) = decide (last % 5 = 0) := by
      by_cases hr : last % 5 = 0
      · rw [decide_eq_true hr]; exact beq_iff_eq.2 (by omega)
      · rw [decide_eq_false hr]; exact beq_eq_false_iff_ne.2 (by omega)
    obtain ⟨b, hbv⟩ : ∃ b, b = addOne 7 neg half last := ⟨_, rfl⟩
    rw [← hbv]
    have e1 : Hid (b = decide (last % 5 = 0)) := hbv
    clear hbv
    go_enter Tryz.func14, Tryz.ntmps14
    go_wp2
    go_ret
    exact ⟨by rw [e1.out, ← e]; rfl, rfl⟩

theorem Away_any (k : Nat) (hk : k < 8) (neg : Bool) (half : Int) (A : Option Addr) (n c : Nat) (xs : List Nat) (w : World) (hx : RdG .i64 w (.slice A n c) xs) (hn : n = xs.length) (hnb : n ≤ 1099511627776) (hdg : Dig 65536 xs) :
    Calls Tryz.prog 7 #[.bool neg, .slice A n c, .int .i64 half, .int .i64 (k : Int)] w fun e w' => e = .returned (.bool (addOne k neg half (dval 65536 xs))) ∧ Below w.heap.size w w' := by
  have Con := hide (byDigit_any A n c 10 xs w hx hn hnb (by omega) (by omega) hdg)
  have HK := hide hk
  rw [← addOne_last]
  obtain ⟨b, hbv⟩ : ∃ b, b = addOne k neg half (dval 65536 xs % 10) := ⟨_, rfl⟩
  rw [← hbv]
  have Hb := hide hbv
  clear hx hn hdg hk hbv
  obtain ⟨kk, hkk⟩ : ∃ kk : Int, kk = (k : Int) := ⟨_, rfl⟩
  rw [← hkk]
  have HKK := hide hkk
  clear hkk
  go_enter Tryz.func7, Tryz.ntmps7
  go_wp2_with fail
  refine (Con.out).mono ?_
  rintro e w1 ⟨B, d, rfl, -, hbel⟩
  have con2 := away_any k HK.out neg half (dval 65536 xs % 10) (Nat.mod_lt _ (by omega)) w1
  rw [← HKK.out] at con2
  have Con2 := hide con2
  have HB := hide hbel
  clear con2 hbel Con
  generalize (digs 65536 (dval 65536 xs / 10)).length = m
  generalize ((dval 65536 xs % 10 : Nat) : Int) = last at Con2 ⊢
  go_wp2_with fail
  refine (Con2.out).mono ?_
  rintro e w2 ⟨rfl, rfl⟩
  go_wp2
  go_ret
  exact ⟨by rw [Hb.out]; rfl, HB.out⟩
end Go.Proofs.YtjacmmcmjnkikaaGreatDoor
