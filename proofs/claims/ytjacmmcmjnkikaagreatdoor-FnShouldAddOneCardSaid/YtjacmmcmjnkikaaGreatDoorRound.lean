/- Walks: the names of the ways of rounding; whether 1 is added, by each way. -/
import Derived.Test.YtjacmmcmjnkikaaGreatDoorRem2
import Derived.Test.YtjacmmcmjnkikaaGreatDoorBig2
set_option linter.unusedVariables false
set_option linter.unusedSimpArgs false
namespace Go.Proofs.YtjacmmcmjnkikaaGreatDoor
open Go.RowKit

/-- Whether 1 is added: by the way (a number), the sign, what is cut off, and the magnitude. -/
def addOne (k : Nat) (neg : Bool) (half : Int) (v : Nat) : Bool :=
  match k with
  | 0 => false
  | 1 => decide (0 ≤ half)
  | 2 => if 0 < half then true else if half < 0 then false else decide (v % 2 = 1)
  | 3 => !neg
  | 4 => neg
  | 5 => decide (0 < half)
  | 6 => true
  | _ => decide (v % 5 = 0)

/-- A way's name. -/
def modeS (k : Nat) : Value :=
  match k with
  | 0 => .string { data := #[100, 111, 119, 110] }
  | 1 => .string { data := #[104, 97, 108, 102, 95, 117, 112] }
  | 2 => .string { data := #[104, 97, 108, 102, 95, 101, 118, 101, 110] }
  | 3 => .string { data := #[99, 101, 105, 108, 105, 110, 103] }
  | 4 => .string { data := #[102, 108, 111, 111, 114] }
  | 5 => .string { data := #[104, 97, 108, 102, 95, 100, 111, 119, 110] }
  | 6 => .string { data := #[117, 112] }
  | _ => .string { data := #[48, 53, 117, 112] }

theorem eight_way {k : Nat} (h : k < 8) : k = 0 ∨ k = 1 ∨ k = 2 ∨ k = 3 ∨ k = 4 ∨ k = 5 ∨ k = 6 ∨ k = 7 := by omega

theorem rounder_any (k : Nat) (hk : k < 8) (w : World) : Calls Tryz.prog 10 #[.int .i64 (k : Int)] w fun e w' => e = .returned (modeS k) ∧ w = w' := by
  rcases eight_way hk with rfl | rfl | rfl | rfl | rfl | rfl | rfl | rfl
  all_goals clear hk
  all_goals go_enter Tryz.func10, Tryz.ntmps10
  all_goals go_wp2
  all_goals go_ret
  all_goals exact ⟨rfl, rfl⟩

theorem mod10_mod5 (v : Nat) (h : v % 5 ≠ 0) : v % 10 ≠ 0 := by omega

/-- A BigInt that is only read, with its words. -/
structure BigRd (w : World) (g : Nat) (A : Option Addr) (n c : Nat) (xs : List Nat) : Prop where
  blk : Blk w g 48 #[.bool false, .slice A n c, .bool false]
  rd : RdW w (.slice A n c) xs
  len : n = xs.length
  big : n ≤ 1099511627776
  dig : Dig 18446744073709551616 xs
  apart : ∀ k, (Value.slice A n c).ownBlock = some k → k < w.heap.size
theorem BigRd.below {w w' : World} {g : Nat} {A : Option Addr} {n c : Nat} {xs : List Nat} (h : BigRd w g A n c xs) (hb : Below w.heap.size w w') : BigRd w' g A n c xs :=
  ⟨h.blk.below hb, RdG.below (k := .u64) h.rd hb, h.len, h.big, h.dig, fun k hk => Nat.lt_of_lt_of_le (h.apart k hk) hb.size⟩

/-- A BigInt of the call's own in block gz. -/
structure BigZ (w : World) (gz : Nat) (xs : List Nat) : Prop where
  mk :: (row : ∃ A c, Blk w gz 48 #[.bool false, .slice A xs.length c, .bool false] ∧ Own w gz (.slice A xs.length c) xs)

/-- Behind a call that laid xs into the BigInt in block gz. -/
def ZP (W : World) (gz : Nat) (xs : List Nat) (e : Ending) (w' : World) : Prop :=
  e = .returned (.pointer (some ⟨gz, 0, none⟩)) ∧ (∃ A c, Blk w' gz 48 #[.bool false, .slice A xs.length c, .bool false] ∧ Own w' gz (.slice A xs.length c) xs) ∧ Below gz W w'

theorem zrem_any (gz g gy y : Nat) (A : Option Addr) (n c : Nat) (xs zs : List Nat) (W : World) (hz : ∃ A c, Blk W gz 48 #[.bool false, .slice A zs.length c, .bool false] ∧ Own W gz (.slice A zs.length c) zs)
    (hB : BigRd W g A n c xs) (hg : g < gz) (ha : ∀ k, (Value.slice A n c).ownBlock = some k → k < gz) (Y : ∃ Ay cy, Blk W gy 48 #[.bool false, .slice Ay [y].length cy, .bool false] ∧ Own W (gz + 1) (.slice Ay [y].length cy) [y]) (hgy : gz < gy) (hy1 : 1 < y) (hy : y < 18446744073709551616) :
    Calls Tryz.prog 26 #[.pointer (some ⟨gz, 0, none⟩), .pointer (some ⟨g, 0, none⟩), .pointer (some ⟨gy, 0, none⟩)] W (ZP W gz (digs 18446744073709551616 (dval 18446744073709551616 xs % y))) := by
  obtain ⟨Az, cz, hzb, hzo⟩ := hz
  obtain ⟨Ay, cy, hyb, hyo⟩ := Y
  rcases hyo.form with ⟨_, h⟩ | ⟨gv, cap, cur, h1, hgv, hvb, hcap, _, hcs, htake⟩
  · cases h
  · injection h1 with h1 h2 h3
    subst h1; subst h3
    have hv : W.cell? ⟨gv, 0, none⟩ = some (.int .u64 (y : Int)) := by
      have := hyo.words 0 (by simp)
      simpa using this
    refine (brem_any gz gz 0 g 0 gy 0 48 48 _ _ false false false _ zs.length y A n c gv 0 cy xs W hzb rfl rfl rfl hzo.room (by decide) hB.blk rfl rfl hB.rd
      (fun k hk => Nat.ne_of_lt (ha k hk)) (by decide) (hyb.cell 1) hv (by omega) (by omega) (by omega) (Nat.le_of_lt hzb.lt) hB.len hB.big hB.dig hy1 hy).mono ?_
    rintro e w' ⟨rfl, B, d, hr, _, hb, hf⟩
    refine ⟨rfl, ⟨B, d, ?_, hr⟩, hf.below (Nat.le_of_lt hzb.lt) (fun k hk => ?_)⟩
    · rw [Bool.and_false] at hb; exact hb
    · rcases hk with rfl | hk
      · exact Nat.le_refl _
      · exact (hzo.lt hk).1

theorem zsign (gz m : Nat) (w : World) (hz : ∃ A c, Blk w gz 48 #[.bool false, .slice A (digs 18446744073709551616 m).length c, .bool false] ∧ Own w gz (.slice A (digs 18446744073709551616 m).length c) (digs 18446744073709551616 m)) :
    Calls Tryz.prog 28 #[.pointer (some ⟨gz, 0, none⟩)] w fun e w' => e = .returned (.int .i64 (if m = 0 then 0 else 1)) ∧ w = w' := by
  obtain ⟨A, c, hb, _⟩ := hz
  refine (bsign_any gz 0 false A _ c w (hb.cell 0) (hb.cell 1) (hb.cell 2)).mono ?_
  rintro e w' ⟨rfl, rfl⟩
  refine ⟨?_, rfl⟩
  by_cases h : m = 0
  · subst h; rw [digs_zero]; rfl
  · rw [if_neg h, sgnI_pos]
    have := List.length_pos_iff.2 (digs_ne_nil (b := 18446744073709551616) (by omega) (Nat.pos_of_ne_zero h))
    omega

set_option maxHeartbeats 1000000 in
set_option maxRecDepth 20000 in
theorem round05_any (g : Nat) (A : Option Addr) (n c : Nat) (xs : List Nat) (neg : Bool) (half : Int) (w : World) (hB : BigRd w g A n c xs) :
    Calls Tryz.prog 22 #[.pointer (some ⟨g, 0, none⟩), .bool neg, .int .i64 half] w fun e w' => e = .returned (.bool (decide (dval 18446744073709551616 xs % 5 = 0))) ∧ Below w.heap.size w w' := by
  have HB := hide hB
  have hlt := hB.blk.lt
  obtain ⟨b, hbv⟩ : ∃ b, b = decide (dval 18446744073709551616 xs % 5 = 0) := ⟨_, rfl⟩
  rw [← hbv]
  have Hbv := hide hbv
  clear hbv
  clear hB
  obtain ⟨gz, hgz⟩ : ∃ gz, gz = w.heap.size := ⟨_, rfl⟩
  have HG := hide hgz
  have hal : Blk (w.alloc (.cells #[.bool false, .slice none 0 0, .bool false] 48)) gz 48 #[.bool false, .slice none 0 0, .bool false] := by rw [hgz]; exact Blk.new w _ _
  have Con := hide (five_any (w.alloc (.cells #[.bool false, .slice none 0 0, .bool false] 48)))
  have HW := hide (show (w.alloc (.cells #[.bool false, .slice none 0 0, .bool false] 48)).heap.size = gz + 1 by rw [hgz]; simp)
  have HA := hide hal
  clear hal
  rw [← hgz] at hlt
  go_enter Tryz.func22, Tryz.ntmps22
  go_wp2_with fail
  rw [← hgz]
  clear hgz
  refine (Con.out).mono ?_
  rintro e w1 ⟨gy, Ay, cy, rfl, hgy, hoy, hby, hbel⟩
  rw [HW.out] at hgy hoy hbel
  have hb1 : Below gz w w1 := ((Below.refl gz w).alloc (Nat.le_of_eq HG.out) _).trans (hbel.mono (by omega))
  have hB1 := HB.out.below (by rw [← HG.out]; exact hb1)
  have hz1 : Blk w1 gz 48 #[.bool false, .slice none 0 0, .bool false] := HA.out.below (by rw [HW.out]; exact hbel)
  have con2 := zrem_any gz g gy 5 A n c xs [] w1 ⟨none, 0, hz1, Own.nil _ _⟩ hB1 hlt (fun k hk => by rw [HG.out]; exact HB.out.apart k hk) ⟨Ay, cy, hby, hoy⟩ (by omega) (by omega) (by omega)
  have Con2 := hide con2
  have Hb1 := hide hb1
  clear con2 Con hoy hby hbel hb1 hz1 hB1 hgy HA HW
  go_wp2_with fail
  refine (Con2.out).mono ?_
  rintro e w2 ⟨rfl, hz2, hb2⟩
  have Con3 := hide (zsign gz _ w2 hz2)
  have Hb2 := hide (Hb1.out.trans hb2)
  have HZ2 := hide hz2
  clear Con2 hz2 hb2 Hb1
  by_cases h5 : dval 18446744073709551616 xs % 5 = 0
  · rw [h5] at Con3
    have Fin : Hid (Below w.heap.size w w2) := by rw [← HG.out]; exact Hb2.out
    have eb : Hid (b = true) := Hbv.out.trans (decide_eq_true h5)
    clear h5 HZ2 Hb2 Hbv
    go_wp2_with fail
    refine (Con3.out).mono ?_
    rintro e w3 ⟨rfl, rfl⟩
    go_wp2
    go_ret
    exact ⟨by rw [eb.out]; rfl, Fin.out⟩
  · have h10 := mod10_mod5 _ h5
    rw [if_neg h5] at Con3
    have eb : Hid (b = false) := Hbv.out.trans (decide_eq_false h5)
    have H10 := hide h10
    clear h5 h10 Hbv
    go_wp2_with fail
    refine (Con3.out).mono ?_
    rintro e w3 ⟨rfl, rfl⟩
    have Con4 := hide (ten_any w2)
    clear Con3
    go_wp2_with fail
    refine (Con4.out).mono ?_
    rintro e w4 ⟨gy, Ay, cy, rfl, hgy, hoy, hby, hbel⟩
    have hs2 : gz < w2.heap.size := by obtain ⟨_, _, h, _⟩ := HZ2.out; exact h.lt
    have hb4 : Below gz w w4 := Hb2.out.trans (hbel.mono (by omega))
    have hB4 := HB.out.below (by rw [← HG.out]; exact hb4)
    have hz4 : ∃ A c, Blk w4 gz 48 #[.bool false, .slice A (digs 18446744073709551616 (dval 18446744073709551616 xs % 5)).length c, .bool false] ∧ Own w4 gz (.slice A (digs 18446744073709551616 (dval 18446744073709551616 xs % 5)).length c) (digs 18446744073709551616 (dval 18446744073709551616 xs % 5)) := by
      obtain ⟨A, c, h1, h2⟩ := HZ2.out
      exact ⟨A, c, h1.below hbel, h2.below hbel⟩
    have con5 := zrem_any gz g gy 10 A n c xs _ w4 hz4 hB4 hlt (fun k hk => by rw [HG.out]; exact HB.out.apart k hk) ⟨Ay, cy, hby, hoy.lower (by omega)⟩ (by omega) (by omega) (by omega)
    have Con5 := hide con5
    have Hb4 := hide hb4
    clear con5 Con4 hoy hby hbel hb4 hz4 hB4 hgy HZ2 Hb2
    go_wp2_with fail
    refine (Con5.out).mono ?_
    rintro e w5 ⟨rfl, hz5, hb5⟩
    have con6 := zsign gz _ w5 hz5
    rw [if_neg H10.out] at con6
    have Con6 := hide con6
    have Fin : Hid (Below w.heap.size w w5) := by rw [← HG.out]; exact Hb4.out.trans hb5
    clear con6 Con5 hz5 hb5 Hb4
    go_wp2_with fail
    refine (Con6.out).mono ?_
    rintro e w6 ⟨rfl, rfl⟩
    go_wp2
    go_ret
    exact ⟨by rw [eb.out]; rfl, Fin.out⟩
end Go.Proofs.YtjacmmcmjnkikaaGreatDoor
