/- Walks: whether 1 is added: each way, the switch, the thin package's door. -/
import Derived.Test.YtjacmmcmjnkikaaGreatDoorRound
set_option linter.unusedVariables false
set_option linter.unusedSimpArgs false
namespace Go.Proofs.YtjacmmcmjnkikaaGreatDoor
open Go.RowKit

/-- The post of each way. -/
def RoundP (w : World) (b : Bool) (e : Ending) (w' : World) : Prop := e = .returned (.bool b) ∧ Below w.heap.size w w'

theorem roundDown_any (p : Value) (neg : Bool) (half : Int) (w : World) : Calls Tryz.prog 15 #[p, .bool neg, .int .i64 half] w (RoundP w false) := by
  have hb := hide (Below.refl w.heap.size w)
  go_enter Tryz.func15, Tryz.ntmps15
  go_wp2
  go_ret
  exact ⟨rfl, hb.out⟩
theorem roundUp_any (p : Value) (neg : Bool) (half : Int) (w : World) : Calls Tryz.prog 21 #[p, .bool neg, .int .i64 half] w (RoundP w true) := by
  have hb := hide (Below.refl w.heap.size w)
  go_enter Tryz.func21, Tryz.ntmps21
  go_wp2
  go_ret
  exact ⟨rfl, hb.out⟩
theorem roundHalfUp_any (p : Value) (neg : Bool) (half : Int) (w : World) : Calls Tryz.prog 16 #[p, .bool neg, .int .i64 half] w (RoundP w (decide (0 ≤ half))) := by
  have hb := hide (Below.refl w.heap.size w)
  obtain ⟨b, hbv⟩ : ∃ b, b = decide (0 ≤ half) := ⟨_, rfl⟩
  have h1 : decide (half ≥ 0) = b := hbv.symm
  rw [← hbv]
  clear hbv
  go_enter Tryz.func16, Tryz.ntmps16
  go_wp2
  go_ret
  exact ⟨by first | rfl | rw [← h1], hb.out⟩
theorem roundHalfDown_any (p : Value) (neg : Bool) (half : Int) (w : World) : Calls Tryz.prog 20 #[p, .bool neg, .int .i64 half] w (RoundP w (decide (0 < half))) := by
  have hb := hide (Below.refl w.heap.size w)
  obtain ⟨b, hbv⟩ : ∃ b, b = decide (0 < half) := ⟨_, rfl⟩
  have h1 : decide (half > 0) = b := hbv.symm
  rw [← hbv]
  clear hbv
  go_enter Tryz.func20, Tryz.ntmps20
  go_wp2
  go_ret
  exact ⟨by first | rfl | rw [← h1], hb.out⟩
theorem roundFloor_any (p : Value) (neg : Bool) (half : Int) (w : World) : Calls Tryz.prog 19 #[p, .bool neg, .int .i64 half] w (RoundP w neg) := by
  have hb := hide (Below.refl w.heap.size w)
  go_enter Tryz.func19, Tryz.ntmps19
  go_wp2
  go_ret
  exact ⟨rfl, hb.out⟩
theorem roundCeiling_any (p : Value) (neg : Bool) (half : Int) (w : World) : Calls Tryz.prog 18 #[p, .bool neg, .int .i64 half] w (RoundP w (!neg)) := by
  have hb := hide (Below.refl w.heap.size w)
  go_enter Tryz.func18, Tryz.ntmps18
  go_wp2
  go_ret
  exact ⟨rfl, hb.out⟩
theorem roundHalfEven_any (g : Nat) (A : Option Addr) (n c : Nat) (xs : List Nat) (neg : Bool) (half : Int) (w : World) (hB : BigRd w g A n c xs) :
    Calls Tryz.prog 17 #[.pointer (some ⟨g, 0, none⟩), .bool neg, .int .i64 half] w (RoundP w (if 0 < half then true else if half < 0 then false else decide (dval 18446744073709551616 xs % 2 = 1))) := by
  have hb := hide (Below.refl w.heap.size w)
  have con := bbit0_any g 0 A n c xs w (hB.blk.cell 1) hB.rd hB.len hB.dig
  clear hB
  generalize dval 18446744073709551616 xs % 2 = r at con ⊢
  have Con := hide con
  clear con
  by_cases h1 : 0 < half
  · rw [if_pos h1]
    go_enter Tryz.func17, Tryz.ntmps17
    go_wp2
    go_ret
    exact ⟨rfl, hb.out⟩
  · rw [if_neg h1]
    by_cases h2 : half < 0
    · rw [if_pos h2]
      go_enter Tryz.func17, Tryz.ntmps17
      go_wp2
      go_ret
      exact ⟨rfl, hb.out⟩
    · rw [if_neg h2]
      have e : ((r : Int) == 1) = decide (r = 1) := by
        by_cases hr : r = 1
        · subst hr; rfl
        · rw [decide_eq_false hr]; exact beq_eq_false_iff_ne.2 (by omega)
      go_enter Tryz.func17, Tryz.ntmps17
      go_wp2_with fail
      refine (Con.out).mono ?_
      rintro e w1 ⟨rfl, rfl⟩
      go_wp2
      go_ret
      refine ⟨?_, hb.out⟩
      first | rfl | simp

theorem sao_any (k : Nat) (g : Nat) (A : Option Addr) (n c : Nat) (xs : List Nat) (neg : Bool) (half : Int) (w : World) (hk : k < 8) (hB : BigRd w g A n c xs) :
    Calls Tryz.prog 11 #[modeS k, .pointer (some ⟨g, 0, none⟩), .bool neg, .int .i64 half] w (RoundP w (addOne k neg half (dval 18446744073709551616 xs))) := by
  rcases eight_way hk with rfl | rfl | rfl | rfl | rfl | rfl | rfl | rfl
  · have con := roundDown_any (.pointer (some ⟨g, 0, none⟩)) neg half w
    show Calls _ _ #[.string { data := #[100, 111, 119, 110] }, _, _, _] _ (RoundP w false)
    generalize false = b at con ⊢
    have Con := hide con
    clear hB hk con
    go_enter Tryz.func11, Tryz.ntmps11
    go_wp2_with fail
    refine (Con.out).mono ?_
    rintro e w1 ⟨rfl, hb⟩
    have Fin := hide hb
    clear hb Con
    go_wp2
    go_ret
    exact ⟨rfl, Fin.out⟩
  · have con := roundHalfUp_any (.pointer (some ⟨g, 0, none⟩)) neg half w
    show Calls _ _ #[.string { data := #[104, 97, 108, 102, 95, 117, 112] }, _, _, _] _ (RoundP w (decide (0 ≤ half)))
    generalize (decide (0 ≤ half)) = b at con ⊢
    have Con := hide con
    clear hB hk con
    go_enter Tryz.func11, Tryz.ntmps11
    go_wp2_with fail
    refine (Con.out).mono ?_
    rintro e w1 ⟨rfl, hb⟩
    have Fin := hide hb
    clear hb Con
    go_wp2
    go_ret
    exact ⟨rfl, Fin.out⟩
  · have con := roundHalfEven_any g A n c xs neg half w hB
    show Calls _ _ #[.string { data := #[104, 97, 108, 102, 95, 101, 118, 101, 110] }, _, _, _] _ (RoundP w (if 0 < half then true else if half < 0 then false else decide (dval 18446744073709551616 xs % 2 = 1)))
    generalize (if 0 < half then true else if half < 0 then false else decide (dval 18446744073709551616 xs % 2 = 1)) = b at con ⊢
    have Con := hide con
    clear hB hk con
    go_enter Tryz.func11, Tryz.ntmps11
    go_wp2_with fail
    refine (Con.out).mono ?_
    rintro e w1 ⟨rfl, hb⟩
    have Fin := hide hb
    clear hb Con
    go_wp2
    go_ret
    exact ⟨rfl, Fin.out⟩
  · have con := roundCeiling_any (.pointer (some ⟨g, 0, none⟩)) neg half w
    show Calls _ _ #[.string { data := #[99, 101, 105, 108, 105, 110, 103] }, _, _, _] _ (RoundP w (!neg))
    generalize (!neg) = b at con ⊢
    have Con := hide con
    clear hB hk con
    go_enter Tryz.func11, Tryz.ntmps11
    go_wp2_with fail
    refine (Con.out).mono ?_
    rintro e w1 ⟨rfl, hb⟩
    have Fin := hide hb
    clear hb Con
    go_wp2
    go_ret
    exact ⟨rfl, Fin.out⟩
  · have con := roundFloor_any (.pointer (some ⟨g, 0, none⟩)) neg half w
    show Calls _ _ #[.string { data := #[102, 108, 111, 111, 114] }, _, _, _] _ (RoundP w neg)
    generalize neg = b at con ⊢
    have Con := hide con
    clear hB hk con
    go_enter Tryz.func11, Tryz.ntmps11
    go_wp2_with fail
    refine (Con.out).mono ?_
    rintro e w1 ⟨rfl, hb⟩
    have Fin := hide hb
    clear hb Con
    go_wp2
    go_ret
    exact ⟨rfl, Fin.out⟩
  · have con := roundHalfDown_any (.pointer (some ⟨g, 0, none⟩)) neg half w
    show Calls _ _ #[.string { data := #[104, 97, 108, 102, 95, 100, 111, 119, 110] }, _, _, _] _ (RoundP w (decide (0 < half)))
    generalize (decide (0 < half)) = b at con ⊢
    have Con := hide con
    clear hB hk con
    go_enter Tryz.func11, Tryz.ntmps11
    go_wp2_with fail
    refine (Con.out).mono ?_
    rintro e w1 ⟨rfl, hb⟩
    have Fin := hide hb
    clear hb Con
    go_wp2
    go_ret
    exact ⟨rfl, Fin.out⟩
  · have con := roundUp_any (.pointer (some ⟨g, 0, none⟩)) neg half w
    show Calls _ _ #[.string { data := #[117, 112] }, _, _, _] _ (RoundP w true)
    generalize true = b at con ⊢
    have Con := hide con
    clear hB hk con
    go_enter Tryz.func11, Tryz.ntmps11
    go_wp2_with fail
    refine (Con.out).mono ?_
    rintro e w1 ⟨rfl, hb⟩
    have Fin := hide hb
    clear hb Con
    go_wp2
    go_ret
    exact ⟨rfl, Fin.out⟩
  · have con := round05_any g A n c xs neg half w hB
    show Calls _ _ #[.string { data := #[48, 53, 117, 112] }, _, _, _] _ (RoundP w (decide (dval 18446744073709551616 xs % 5 = 0)))
    generalize (decide (dval 18446744073709551616 xs % 5 = 0)) = b at con ⊢
    have Con := hide con
    clear hB hk con
    go_enter Tryz.func11, Tryz.ntmps11
    go_wp2_with fail
    refine (Con.out).mono ?_
    rintro e w1 ⟨rfl, hb⟩
    have Fin := hide hb
    clear hb Con
    go_wp2
    go_ret
    exact ⟨rfl, Fin.out⟩

set_option maxHeartbeats 500000 in
theorem isao_any (k : Nat) (v : Value) (xs : List Nat) (neg : Bool) (half : Int) (w : World) (hk : k < 8) (hv : RdW w v xs) (hn : xs.length ≤ 1048576) (hd : Dig 18446744073709551616 xs) :
    Calls Tryz.prog 6 #[.int .i64 (k : Int), v, .bool neg, .int .i64 half] w (RoundP w (addOne k neg half (dval 18446744073709551616 xs))) := by
  obtain ⟨A0, c0, rfl⟩ : ∃ A c, v = .slice A xs.length c := by
    rcases hv with ⟨A, c, rfl, rfl, _⟩ | ⟨g, o, c, rfl, _⟩
    · exact ⟨A, c, rfl⟩
    · exact ⟨_, c, rfl⟩
  have Con := hide (rounder_any k hk w)
  have Con2 := hide (whole_any _ xs w hv hn)
  have HH := hide (And.intro hk (And.intro hn hd))
  clear hv hd hk hn
  obtain ⟨kk, hkk⟩ : ∃ kk : Int, kk = (k : Int) := ⟨_, rfl⟩
  rw [← hkk] at Con ⊢
  clear hkk
  go_enter Tryz.func6, Tryz.ntmps6
  go_wp2_with fail
  refine (Con.out).mono ?_
  rintro e w1 ⟨rfl, rfl⟩
  clear Con
  go_wp2_with fail
  refine (Con2.out).mono ?_
  rintro e w1 ⟨g, A, c, rfl, hg, hown, hblk, hbel⟩
  have hB : BigRd w1 g A (trimz xs).length c (trimz xs) := ⟨hblk, hown.rd, rfl, by have := trimz_length_le xs; have := HH.out.2.1; omega, trimz_dig HH.out.2.2, fun k hk => (hown.lt hk).2⟩
  have con3 := sao_any k g A _ c _ neg half w1 HH.out.1 hB
  rw [dval_trimz] at con3
  have Con3 := hide con3
  have HB := hide hbel
  clear con3 hB hown hblk hbel hg Con2
  go_wp2_with fail
  refine (Con3.out).mono ?_
  rintro e w2 ⟨rfl, hb⟩
  have Fin := hide (below_next HB.out hb)
  clear hb Con3
  go_wp2
  go_ret
  exact ⟨rfl, Fin.out⟩
end Go.Proofs.YtjacmmcmjnkikaaGreatDoor
