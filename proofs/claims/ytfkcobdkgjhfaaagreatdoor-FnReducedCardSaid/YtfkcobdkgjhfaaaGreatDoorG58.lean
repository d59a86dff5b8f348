/- Parts of the proofs: Red1. -/
import Derived.Test.YtfkcobdkgjhfaaaGreatDoorG9
import Derived.Test.YtfkcobdkgjhfaaaGreatDoorG30
import Derived.Test.YtfkcobdkgjhfaaaGreatDoorG48
import Derived.Test.YtfkcobdkgjhfaaaGreatDoorG57
/- Walk: Decimal.Reduce, where the coefficient is one word. -/
set_option linter.unusedVariables false
set_option linter.unusedSimpArgs false
namespace Go.Proofs.YtfkcobdkgjhfaaaGreatDoor
open Go.RowKit

/-- Behind Reduce: in d the number without the noughts at its end, and how many there were. -/
def RedP (w : World) (gd : Nat) (n : Bool) (a : Nat) (e : Int) (e' : Ending) (w' : World) : Prop :=
  ∃ (t : Nat) (B : Option Addr) (c : Nat), e' = .returned (.tuple #[.pointer (some ⟨gd, 0, none⟩), .int .i64 (t : Int)]) ∧ 10 ^ t ∣ a ∧ a / 10 ^ t % 10 ≠ 0 ∧ Own w' w.heap.size (.slice B (digs 18446744073709551616 (a / 10 ^ t)).length c) (digs 18446744073709551616 (a / 10 ^ t)) ∧
    Blk w' gd 71 (decC 0 n (e + (t : Int)) false (.slice B (digs 18446744073709551616 (a / 10 ^ t)).length c) false) ∧ Fr w w' (fun k => k = gd)
theorem dvd_step {a t : Nat} (k : Nat) (h : 10 ^ t ∣ a) (h0 : a / 10 ^ t % 10 ^ k = 0) : 10 ^ (t + k) ∣ a := by
  obtain ⟨m, hm⟩ := h
  have hp : 0 < 10 ^ t := Nat.pow_pos (by omega)
  rw [hm, Nat.mul_div_cancel_left _ hp] at h0
  obtain ⟨m2, hm2⟩ := Nat.dvd_of_mod_eq_zero h0
  exact ⟨m2, by rw [hm, hm2, Nat.pow_add, Nat.mul_assoc]⟩
theorem tz_small {a t : Nat} (ha : 0 < a) (ha2 : a < 18446744073709551616) (h : 10 ^ t ∣ a) : t ≤ 19 := by
  have h1 : 10 ^ t ≤ a := Nat.le_of_dvd ha h
  have h2 : 10 ^ t < 10 ^ 20 := Nat.lt_of_le_of_lt h1 (Nat.lt_of_lt_of_le ha2 (by decide))
  have := (Nat.pow_lt_pow_iff_right (a := 10) (by omega)).1 h2
  omega
/-- What the loops hold: t noughts are struck. -/
structure RzI (a t : Nat) (X : Int) : Prop where
  x : X = ((a / 10 ^ t : Nat) : Int)
  dv : 10 ^ t ∣ a
theorem RzI.pos {a t : Nat} {X : Int} (h : RzI a t X) (ha : 0 < a) : 0 < a / 10 ^ t := Nat.div_pos (Nat.le_of_dvd ha h.dv) (Nat.pow_pos (by omega))

set_option maxHeartbeats 4000000 in
set_option maxRecDepth 20000 in
theorem red_small_p (gd gx : Nat) (e : Int) (A : Option Addr) (c a : Nat) (w : World) (hx : Blk w gx 71 (decC 0 false e false (.slice A 1 c) false)) (hxr : RdW w (.slice A 1 c) [a]) (hd : Blk w gd 71 (decC 0 false 0 false (.slice none 0 0) false)) (hne : gd ≠ gx) (hxb : ∀ k, (Value.slice A 1 c).ownBlock = some k → k ≠ gd) (ha : 0 < a) (ha2 : a < 18446744073709551616) (he : -1000 ≤ e ∧ e ≤ 1000) :
    Calls Tryz.prog 38 #[.pointer (some ⟨gd, 0, none⟩), .pointer (some ⟨gx, 0, none⟩)] w (RedP w gd false a e) := by
  have c1 := dsign_any gx false e A 1 c w hx
  have hsg : sgnI false 1 = 1 := rfl
  rw [hsg] at c1
  have Con1 := hide c1
  have Con2 := hide (dset_any w.heap.size gd gx 0 false 0 false (.slice none 0 0) false 0 false e false (.slice A 1 c) false 0 [a] w hd (Own.nil _ _).room hx hxr hxb hne (Nat.le_refl _) (by simp))
  have x0 : w.cell? ⟨gx, 0, none⟩ = some (.int .i8 0) := hx.cell 0
  have hda : digs 18446744073709551616 a = [a] := digs_word ha2 (by omega)
  have HA := hide (And.intro ha (And.intro ha2 hda))
  have HE0 := hide he
  clear c1 hsg hx hxr hd hne hxb hda ha ha2 he
  go_enter Tryz.func38, Tryz.ntmps38
  go_wp2_with fail
  refine (Con1.out).mono ?_
  rintro e1 w1 ⟨rfl, rfl⟩
  go_wp2_with fail
  refine (Con2.out).mono ?_
  rintro e3 w3 ⟨rfl, A3, c3, ho, -, hB, hF⟩
  have ho' : Own w3 w.heap.size (.slice A3 1 c3) [a] := ho
  have hB' : Blk w3 gd 71 (decC 0 false e false (.slice A3 1 c3) false) := hB
  have Con3 := hide (bisU64_any gd 3 1 c3 A3 w3 (hB'.cell 3) (hB'.cell 4))
  have Con4 := hide (bU64_one gd 3 a c3 A3 w3 (hB'.cell 4) ho'.rd)
  have HO : Hid (Own w3 w.heap.size (.slice A3 1 c3) [a] ∧ Blk w3 gd 71 (decC 0 false e false (.slice A3 1 c3) false) ∧ Fr w w3 (fun k => k = gd)) := ⟨ho', hB', hF.mono (fun k _ h => h.elim id (fun h => by cases h))⟩
  clear ho ho' hB hB' hF Con1 Con2 x0
  go_wp2_with fail
  refine (Con3.out).mono ?_
  rintro e4 w4 ⟨rfl, rfl⟩
  go_wp2_with fail
  refine (Con4.out).mono ?_
  rintro e5 w5 ⟨rfl, rfl⟩
  have HS : Hid (RzI a 0 (a : Int)) := ⟨by simp, by simp⟩
  clear Con3 Con4
  go_wp2_with fail
  go_loopw [6, 8] (fun vn vi wr => ∃ (t : Nat) (X : Int), vn = .int .i64 (t : Int) ∧ vi = .int .u64 X ∧ w3 = wr ∧ Hid (RzI a t X)) (fun _ vi _ => match vi with | .int _ i => i.toNat | _ => 0)
  case atStart => exact ⟨0, (a : Int), rfl, rfl, by first | rfl | trivial, HS⟩
  case round =>
    obtain ⟨t0, X0, rfl, rfl, rfl, HI0⟩ := hrel
    clear HS
    by_cases hbig : 10000 ≤ X0
    · have hp := HI0.out.pos HA.out.1
      obtain ⟨Y, hY⟩ : ∃ Y, Y = a / 10 ^ t0 := ⟨_, rfl⟩
      have hXY : X0 = (Y : Int) := by rw [hY]; exact HI0.out.x
      have hYs : Y < 18446744073709551616 := by rw [hY]; exact Nat.lt_of_le_of_lt (Nat.div_le_self _ _) HA.out.2.1
      obtain ⟨r, hr⟩ : ∃ r, r = Y % 10000 := ⟨_, rfl⟩
      have hr1 : X0 % 10000 = (r : Int) := by rw [hXY, hr]; omega
      have hr2 : X0.tmod 10000 = (r : Int) := by rw [Int.tmod_eq_emod_of_nonneg (by omega)]; exact hr1
      have hr3 : IntKind.u64.wrap (r : Int) = (r : Int) := by simp [IntKind.wrap, IntKind.signed, IntKind.bits]; omega
      by_cases hr0 : r = 0
      · have hd4 : 10 ^ (t0 + 4) ∣ a := dvd_step 4 HI0.out.dv (by rw [← hY]; omega)
        have hts := tz_small HA.out.1 HA.out.2.1 hd4
        obtain ⟨q, hq⟩ : ∃ q, q = Y / 10000 := ⟨_, rfl⟩
        have hq1 : X0 / 10000 = (q : Int) := by rw [hXY, hq]; omega
        have hq2 : X0.tdiv 10000 = (q : Int) := by rw [Int.tdiv_eq_ediv_of_nonneg (by omega)]; exact hq1
        have hq3 : IntKind.u64.wrap (q : Int) = (q : Int) := by simp [IntKind.wrap, IntKind.signed, IntKind.bits]; omega
        have hw : IntKind.i64.wrap ((t0 : Int) + 4) = ((t0 + 4 : Nat) : Int) := by simp [IntKind.wrap, IntKind.signed, IntKind.bits]; omega
        have HN : Hid (RzI a (t0 + 4) (q : Int)) := ⟨by rw [hq, hY, Nat.pow_add, ← Nat.div_div_eq_div_mul], hd4⟩
        have HM : Hid ((q : Int).toNat < X0.toNat) := by show _ < _; omega
        subst hr0
        clear hr hq hY hYs hp hts hd4 hXY HI0
        go_wp2
        go_roundw
        case rel => exact ⟨t0 + 4, (q : Int), rfl, rfl, by first | rfl | trivial, HN⟩
        case measure => exact HM.out
      · have hrb : ((r : Int) == 0) = false := beq_eq_false_iff_ne.2 (by omega)
        clear hr hY hYs hp hXY hr0
        go_wp2_with fail
        clear hrb hr1 hr2 hr3 hbig
        go_loopw [6, 8] (fun vn vi wr => ∃ (t : Nat) (X : Int), vn = .int .i64 (t : Int) ∧ vi = .int .u64 X ∧ w3 = wr ∧ Hid (RzI a t X)) (fun _ vi _ => match vi with | .int _ i => i.toNat | _ => 0)
        case atStart => exact ⟨t0, X0, rfl, rfl, by first | rfl | trivial, HI0⟩
        case round =>
          obtain ⟨t, X, rfl, rfl, rfl, HI⟩ := hrel
          clear HI0
          have hp := HI.out.pos HA.out.1
          obtain ⟨Y, hY⟩ : ∃ Y, Y = a / 10 ^ t := ⟨_, rfl⟩
          have hXY : X = (Y : Int) := by rw [hY]; exact HI.out.x
          have hYs : Y < 18446744073709551616 := by rw [hY]; exact Nat.lt_of_le_of_lt (Nat.div_le_self _ _) HA.out.2.1
          rw [← hY] at hp
          obtain ⟨r, hr⟩ : ∃ r, r = Y % 10 := ⟨_, rfl⟩
          have hr1 : X % 10 = (r : Int) := by rw [hXY, hr]; omega
          have hr2 : X.tmod 10 = (r : Int) := by rw [Int.tmod_eq_emod_of_nonneg (by omega)]; exact hr1
          have hr3 : IntKind.u64.wrap (r : Int) = (r : Int) := by simp [IntKind.wrap, IntKind.signed, IntKind.bits]; omega
          by_cases hr0 : r = 0
          · have hts := tz_small HA.out.1 HA.out.2.1 (dvd_step 1 HI.out.dv (by rw [← hY]; omega))
            obtain ⟨q, hq⟩ : ∃ q, q = Y / 10 := ⟨_, rfl⟩
            have hq1 : X / 10 = (q : Int) := by rw [hXY, hq]; omega
            have hq2 : X.tdiv 10 = (q : Int) := by rw [Int.tdiv_eq_ediv_of_nonneg (by omega)]; exact hq1
            have hq3 : IntKind.u64.wrap (q : Int) = (q : Int) := by simp [IntKind.wrap, IntKind.signed, IntKind.bits]; omega
            have hw : IntKind.i64.wrap ((t : Int) + 1) = ((t + 1 : Nat) : Int) := by simp [IntKind.wrap, IntKind.signed, IntKind.bits]; omega
            have HN : Hid (RzI a (t + 1) (q : Int)) := ⟨by rw [hq, hY, Nat.pow_succ, Nat.div_div_eq_div_mul], dvd_step 1 HI.out.dv (by rw [← hY]; omega)⟩
            have HM : Hid ((q : Int).toNat < X.toNat) := by show _ < _; omega
            subst hr0
            clear hr hq hY hYs hp hts hXY HI
            go_wp2
            go_roundw
            case rel => exact ⟨t + 1, (q : Int), rfl, rfl, by first | rfl | trivial, HN⟩
            case measure => exact HM.out
          · have hrb : ((r : Int) == 0) = false := beq_eq_false_iff_ne.2 (by omega)
            have HL : Hid (a / 10 ^ t % 10 ≠ 0) := by show _ ≠ _; rw [← hY, ← hr]; exact hr0
            clear hr hY hYs hp hXY hr0
            by_cases ht0 : t = 0
            · subst ht0
              have HE : Hid (RedP w gd false a e (.returned (.tuple #[.pointer (some ⟨gd, 0, none⟩), .int .i64 ((0 : Nat) : Int)])) w3) := by
                have hz : a / 10 ^ 0 = a := by simp
                have hx := HI.out.x
                refine ⟨0, A3, c3, rfl, by simp, ?_, ?_, ?_, HO.out.2.2⟩
                · rw [hz]; have := HL.out; rw [hz] at this; exact this
                · rw [hz, HA.out.2.2]; exact HO.out.1
                · rw [hz, HA.out.2.2]; simpa using HO.out.2.1
              clear HI HL HO
              go_wp2
              go_ret2
              exact HE.out
            · have hts := tz_small HA.out.1 HA.out.2.1 HI.out.dv
              have htb : (((t : Nat) : Int) == 0) = false := beq_eq_false_iff_ne.2 (by omega)
              obtain ⟨x1, hx1⟩ : ∃ x1 : Int, x1 = e + (t : Int) := ⟨_, rfl⟩
              have hwe := HE0.out
              have w1' : IntKind.i32.wrap (t : Int) = (t : Int) := by simp [IntKind.wrap, IntKind.signed, IntKind.bits]; omega
              have w2' : IntKind.i32.wrap (e + (t : Int)) = x1 := by rw [hx1]; simp [IntKind.wrap, IntKind.signed, IntKind.bits]; omega
              have hB := HO.out.2.1
              have d2 : w3.cell? ⟨gd, 2, none⟩ = some (.int .i32 e) := hB.cell 2
              have f2 := hB.frozen 2
              obtain ⟨Y, hY⟩ : ∃ Y, Y = a / 10 ^ t := ⟨_, rfl⟩
              have hXY : X = (Y : Int) := by rw [hY]; exact HI.out.x
              have hYs : Y < 18446744073709551616 := by rw [hY]; exact Nat.lt_of_le_of_lt (Nat.div_le_self _ _) HA.out.2.1
              subst hXY
              have hFa : Fr w3 (w3.setCell ⟨gd, 2, none⟩ (.int .i32 x1)) (fun k => k = gd) := (Fr.refl w3 (fun k => k = gd)).setCell (p := ⟨gd, 2, none⟩) (fun _ => rfl) _
              have hBa : Blk (w3.setCell ⟨gd, 2, none⟩ (.int .i32 x1)) gd 71 (decC 0 false x1 false (.slice A3 1 c3) false) := hB.set 2 _
              have con := bsetU64_any w.heap.size gd 3 71 (decC 0 false x1 false (.slice A3 1 c3) false) false false (.slice A3 1 c3) 1 Y (w3.setCell ⟨gd, 2, none⟩ (.int .i32 x1)) hBa rfl rfl rfl (HO.out.1.room.fr hFa (HO.out.1.room.ne_blk hB (by decide))) (by decide) (by have := HO.out.2.2.size; simpa using this) hYs
              have Con := hide con
              have HFa := hide hFa
              have HY := hide hY
              have HX1 := hide hx1
              clear con hFa hBa hB hwe hY hYs hx1
              go_wp2_with fail
              refine (Con.out).mono ?_
              rintro e5 w5 ⟨rfl, B5, c5, hr5, hrb5, hB5, hF5⟩
              have hB5' : Blk w5 gd 71 (decC 0 false x1 false (.slice B5 (digs 18446744073709551616 Y).length c5) false) := hB5
              have d1 : w5.cell? ⟨gd, 1, none⟩ = some (.bool false) := hB5'.cell 1
              have f1 := hB5'.frozen 1
              have hg5 := hr5.room.ne_blk hB5' (by decide)
              have hFb : Fr w5 (w5.setCell ⟨gd, 1, none⟩ (.bool false)) (fun k => k = gd) := (Fr.refl w5 (fun k => k = gd)).setCell (p := ⟨gd, 1, none⟩) (fun _ => rfl) _
              have HE : Hid (RedP w gd false a e (.returned (.tuple #[.pointer (some ⟨gd, 0, none⟩), .int .i64 (t : Int)])) (w5.setCell ⟨gd, 1, none⟩ (.bool false))) := by
                refine ⟨t, B5, c5, rfl, HI.out.dv, HL.out, ?_, ?_, ?_⟩
                · rw [← HY.out]; exact hr5.fr hFb hg5
                · rw [← HY.out, ← HX1.out]; exact hB5'.set 1 _
                · refine Fr.step (Fr.step HO.out.2.2 HFa.out (fun _ _ h => h)) (Fr.step hF5 hFb (fun _ _ h => .inl h)) (fun i hi h => ?_)
                  rcases h with h | h
                  · exact h
                  · have := (HO.out.1.lt h).1; omega
              clear hr5 hrb5 hB5 hF5 hB5' hg5 hFb HI HL HO Con HFa HY HX1
              go_wp2
              go_ret2
              exact HE.out
    · go_wp2_with fail
      clear hbig
      go_loopw [6, 8] (fun vn vi wr => ∃ (t : Nat) (X : Int), vn = .int .i64 (t : Int) ∧ vi = .int .u64 X ∧ w3 = wr ∧ Hid (RzI a t X)) (fun _ vi _ => match vi with | .int _ i => i.toNat | _ => 0)
      case atStart => exact ⟨t0, X0, rfl, rfl, by first | rfl | trivial, HI0⟩
      case round =>
        obtain ⟨t, X, rfl, rfl, rfl, HI⟩ := hrel
        clear HI0
        have hp := HI.out.pos HA.out.1
        obtain ⟨Y, hY⟩ : ∃ Y, Y = a / 10 ^ t := ⟨_, rfl⟩
        have hXY : X = (Y : Int) := by rw [hY]; exact HI.out.x
        have hYs : Y < 18446744073709551616 := by rw [hY]; exact Nat.lt_of_le_of_lt (Nat.div_le_self _ _) HA.out.2.1
        rw [← hY] at hp
        obtain ⟨r, hr⟩ : ∃ r, r = Y % 10 := ⟨_, rfl⟩
        have hr1 : X % 10 = (r : Int) := by rw [hXY, hr]; omega
        have hr2 : X.tmod 10 = (r : Int) := by rw [Int.tmod_eq_emod_of_nonneg (by omega)]; exact hr1
        have hr3 : IntKind.u64.wrap (r : Int) = (r : Int) := by simp [IntKind.wrap, IntKind.signed, IntKind.bits]; omega
        by_cases hr0 : r = 0
        · have hts := tz_small HA.out.1 HA.out.2.1 (dvd_step 1 HI.out.dv (by rw [← hY]; omega))
          obtain ⟨q, hq⟩ : ∃ q, q = Y / 10 := ⟨_, rfl⟩
          have hq1 : X / 10 = (q : Int) := by rw [hXY, hq]; omega
          have hq2 : X.tdiv 10 = (q : Int) := by rw [Int.tdiv_eq_ediv_of_nonneg (by omega)]; exact hq1
          have hq3 : IntKind.u64.wrap (q : Int) = (q : Int) := by simp [IntKind.wrap, IntKind.signed, IntKind.bits]; omega
          have hw : IntKind.i64.wrap ((t : Int) + 1) = ((t + 1 : Nat) : Int) := by simp [IntKind.wrap, IntKind.signed, IntKind.bits]; omega
          have HN : Hid (RzI a (t + 1) (q : Int)) := ⟨by rw [hq, hY, Nat.pow_succ, Nat.div_div_eq_div_mul], dvd_step 1 HI.out.dv (by rw [← hY]; omega)⟩
          have HM : Hid ((q : Int).toNat < X.toNat) := by show _ < _; omega
          subst hr0
          clear hr hq hY hYs hp hts hXY HI
          go_wp2
          go_roundw
          case rel => exact ⟨t + 1, (q : Int), rfl, rfl, by first | rfl | trivial, HN⟩
          case measure => exact HM.out
        · have hrb : ((r : Int) == 0) = false := beq_eq_false_iff_ne.2 (by omega)
          have HL : Hid (a / 10 ^ t % 10 ≠ 0) := by show _ ≠ _; rw [← hY, ← hr]; exact hr0
          clear hr hY hYs hp hXY hr0
          by_cases ht0 : t = 0
          · subst ht0
            have HE : Hid (RedP w gd false a e (.returned (.tuple #[.pointer (some ⟨gd, 0, none⟩), .int .i64 ((0 : Nat) : Int)])) w3) := by
              have hz : a / 10 ^ 0 = a := by simp
              have hx := HI.out.x
              refine ⟨0, A3, c3, rfl, by simp, ?_, ?_, ?_, HO.out.2.2⟩
              · rw [hz]; have := HL.out; rw [hz] at this; exact this
              · rw [hz, HA.out.2.2]; exact HO.out.1
              · rw [hz, HA.out.2.2]; simpa using HO.out.2.1
            clear HI HL HO
            go_wp2
            go_ret2
            exact HE.out
          · have hts := tz_small HA.out.1 HA.out.2.1 HI.out.dv
            have htb : (((t : Nat) : Int) == 0) = false := beq_eq_false_iff_ne.2 (by omega)
            obtain ⟨x1, hx1⟩ : ∃ x1 : Int, x1 = e + (t : Int) := ⟨_, rfl⟩
            have hwe := HE0.out
            have w1' : IntKind.i32.wrap (t : Int) = (t : Int) := by simp [IntKind.wrap, IntKind.signed, IntKind.bits]; omega
            have w2' : IntKind.i32.wrap (e + (t : Int)) = x1 := by rw [hx1]; simp [IntKind.wrap, IntKind.signed, IntKind.bits]; omega
            have hB := HO.out.2.1
            have d2 : w3.cell? ⟨gd, 2, none⟩ = some (.int .i32 e) := hB.cell 2
            have f2 := hB.frozen 2
            obtain ⟨Y, hY⟩ : ∃ Y, Y = a / 10 ^ t := ⟨_, rfl⟩
            have hXY : X = (Y : Int) := by rw [hY]; exact HI.out.x
            have hYs : Y < 18446744073709551616 := by rw [hY]; exact Nat.lt_of_le_of_lt (Nat.div_le_self _ _) HA.out.2.1
            subst hXY
            have hFa : Fr w3 (w3.setCell ⟨gd, 2, none⟩ (.int .i32 x1)) (fun k => k = gd) := (Fr.refl w3 (fun k => k = gd)).setCell (p := ⟨gd, 2, none⟩) (fun _ => rfl) _
            have hBa : Blk (w3.setCell ⟨gd, 2, none⟩ (.int .i32 x1)) gd 71 (decC 0 false x1 false (.slice A3 1 c3) false) := hB.set 2 _
            have con := bsetU64_any w.heap.size gd 3 71 (decC 0 false x1 false (.slice A3 1 c3) false) false false (.slice A3 1 c3) 1 Y (w3.setCell ⟨gd, 2, none⟩ (.int .i32 x1)) hBa rfl rfl rfl (HO.out.1.room.fr hFa (HO.out.1.room.ne_blk hB (by decide))) (by decide) (by have := HO.out.2.2.size; simpa using this) hYs
            have Con := hide con
            have HFa := hide hFa
            have HY := hide hY
            have HX1 := hide hx1
            clear con hFa hBa hB hwe hY hYs hx1
            go_wp2_with fail
            refine (Con.out).mono ?_
            rintro e5 w5 ⟨rfl, B5, c5, hr5, hrb5, hB5, hF5⟩
            have hB5' : Blk w5 gd 71 (decC 0 false x1 false (.slice B5 (digs 18446744073709551616 Y).length c5) false) := hB5
            have d1 : w5.cell? ⟨gd, 1, none⟩ = some (.bool false) := hB5'.cell 1
            have f1 := hB5'.frozen 1
            have hg5 := hr5.room.ne_blk hB5' (by decide)
            have hFb : Fr w5 (w5.setCell ⟨gd, 1, none⟩ (.bool false)) (fun k => k = gd) := (Fr.refl w5 (fun k => k = gd)).setCell (p := ⟨gd, 1, none⟩) (fun _ => rfl) _
            have HE : Hid (RedP w gd false a e (.returned (.tuple #[.pointer (some ⟨gd, 0, none⟩), .int .i64 (t : Int)])) (w5.setCell ⟨gd, 1, none⟩ (.bool false))) := by
              refine ⟨t, B5, c5, rfl, HI.out.dv, HL.out, ?_, ?_, ?_⟩
              · rw [← HY.out]; exact hr5.fr hFb hg5
              · rw [← HY.out, ← HX1.out]; exact hB5'.set 1 _
              · refine Fr.step (Fr.step HO.out.2.2 HFa.out (fun _ _ h => h)) (Fr.step hF5 hFb (fun _ _ h => .inl h)) (fun i hi h => ?_)
                rcases h with h | h
                · exact h
                · have := (HO.out.1.lt h).1; omega
            clear hr5 hrb5 hB5 hF5 hB5' hg5 hFb HI HL HO Con HFa HY HX1
            go_wp2
            go_ret2
            exact HE.out

set_option maxHeartbeats 4000000 in
set_option maxRecDepth 20000 in
theorem red_small_n (gd gx : Nat) (e : Int) (A : Option Addr) (c a : Nat) (w : World) (hx : Blk w gx 71 (decC 0 true e false (.slice A 1 c) false)) (hxr : RdW w (.slice A 1 c) [a]) (hd : Blk w gd 71 (decC 0 false 0 false (.slice none 0 0) false)) (hne : gd ≠ gx) (hxb : ∀ k, (Value.slice A 1 c).ownBlock = some k → k ≠ gd) (ha : 0 < a) (ha2 : a < 18446744073709551616) (he : -1000 ≤ e ∧ e ≤ 1000) :
    Calls Tryz.prog 38 #[.pointer (some ⟨gd, 0, none⟩), .pointer (some ⟨gx, 0, none⟩)] w (RedP w gd true a e) := by
  have c1 := dsign_any gx true e A 1 c w hx
  have hsg : sgnI true 1 = -1 := rfl
  rw [hsg] at c1
  have Con1 := hide c1
  have Con2 := hide (dset_any w.heap.size gd gx 0 false 0 false (.slice none 0 0) false 0 true e false (.slice A 1 c) false 0 [a] w hd (Own.nil _ _).room hx hxr hxb hne (Nat.le_refl _) (by simp))
  have x0 : w.cell? ⟨gx, 0, none⟩ = some (.int .i8 0) := hx.cell 0
  have hda : digs 18446744073709551616 a = [a] := digs_word ha2 (by omega)
  have HA := hide (And.intro ha (And.intro ha2 hda))
  have HE0 := hide he
  clear c1 hsg hx hxr hd hne hxb hda ha ha2 he
  go_enter Tryz.func38, Tryz.ntmps38
  go_wp2_with fail
  refine (Con1.out).mono ?_
  rintro e1 w1 ⟨rfl, rfl⟩
  go_wp2_with fail
  refine (Con2.out).mono ?_
  rintro e3 w3 ⟨rfl, A3, c3, ho, -, hB, hF⟩
  have ho' : Own w3 w.heap.size (.slice A3 1 c3) [a] := ho
  have hB' : Blk w3 gd 71 (decC 0 true e false (.slice A3 1 c3) false) := hB
  have Con3 := hide (bisU64_any gd 3 1 c3 A3 w3 (hB'.cell 3) (hB'.cell 4))
  have Con4 := hide (bU64_one gd 3 a c3 A3 w3 (hB'.cell 4) ho'.rd)
  have HO : Hid (Own w3 w.heap.size (.slice A3 1 c3) [a] ∧ Blk w3 gd 71 (decC 0 true e false (.slice A3 1 c3) false) ∧ Fr w w3 (fun k => k = gd)) := ⟨ho', hB', hF.mono (fun k _ h => h.elim id (fun h => by cases h))⟩
  clear ho ho' hB hB' hF Con1 Con2 x0
  go_wp2_with fail
  refine (Con3.out).mono ?_
  rintro e4 w4 ⟨rfl, rfl⟩
  go_wp2_with fail
  refine (Con4.out).mono ?_
  rintro e5 w5 ⟨rfl, rfl⟩
  have HS : Hid (RzI a 0 (a : Int)) := ⟨by simp, by simp⟩
  clear Con3 Con4
  go_wp2_with fail
  go_loopw [6, 8] (fun vn vi wr => ∃ (t : Nat) (X : Int), vn = .int .i64 (t : Int) ∧ vi = .int .u64 X ∧ w3 = wr ∧ Hid (RzI a t X)) (fun _ vi _ => match vi with | .int _ i => i.toNat | _ => 0)
  case atStart => exact ⟨0, (a : Int), rfl, rfl, by first | rfl | trivial, HS⟩
  case round =>
    obtain ⟨t0, X0, rfl, rfl, rfl, HI0⟩ := hrel
    clear HS
    by_cases hbig : 10000 ≤ X0
    · have hp := HI0.out.pos HA.out.1
      obtain ⟨Y, hY⟩ : ∃ Y, Y = a / 10 ^ t0 := ⟨_, rfl⟩
      have hXY : X0 = (Y : Int) := by rw [hY]; exact HI0.out.x
      have hYs : Y < 18446744073709551616 := by rw [hY]; exact Nat.lt_of_le_of_lt (Nat.div_le_self _ _) HA.out.2.1
      obtain ⟨r, hr⟩ : ∃ r, r = Y % 10000 := ⟨_, rfl⟩
      have hr1 : X0 % 10000 = (r : Int) := by rw [hXY, hr]; omega
      have hr2 : X0.tmod 10000 = (r : Int) := by rw [Int.tmod_eq_emod_of_nonneg (by omega)]; exact hr1
      have hr3 : IntKind.u64.wrap (r : Int) = (r : Int) := by simp [IntKind.wrap, IntKind.signed, IntKind.bits]; omega
      by_cases hr0 : r = 0
      · have hd4 : 10 ^ (t0 + 4) ∣ a := dvd_step 4 HI0.out.dv (by rw [← hY]; omega)
        have hts := tz_small HA.out.1 HA.out.2.1 hd4
        obtain ⟨q, hq⟩ : ∃ q, q = Y / 10000 := ⟨_, rfl⟩
        have hq1 : X0 / 10000 = (q : Int) := by rw [hXY, hq]; omega
        have hq2 : X0.tdiv 10000 = (q : Int) := by rw [Int.tdiv_eq_ediv_of_nonneg (by omega)]; exact hq1
        have hq3 : IntKind.u64.wrap (q : Int) = (q : Int) := by simp [IntKind.wrap, IntKind.signed, IntKind.bits]; omega
        have hw : IntKind.i64.wrap ((t0 : Int) + 4) = ((t0 + 4 : Nat) : Int) := by simp [IntKind.wrap, IntKind.signed, IntKind.bits]; omega
        have HN : Hid (RzI a (t0 + 4) (q : Int)) := ⟨by rw [hq, hY, Nat.pow_add, ← Nat.div_div_eq_div_mul], hd4⟩
        have HM : Hid ((q : Int).toNat < X0.toNat) := by show _ < _; omega
        subst hr0
        clear hr hq hY hYs hp hts hd4 hXY HI0
        go_wp2
        go_roundw
        case rel => exact ⟨t0 + 4, (q : Int), rfl, rfl, by first | rfl | trivial, HN⟩
        case measure => exact HM.out
      · have hrb : ((r : Int) == 0) = false := beq_eq_false_iff_ne.2 (by omega)
        clear hr hY hYs hp hXY hr0
        go_wp2_with fail
        clear hrb hr1 hr2 hr3 hbig
        go_loopw [6, 8] (fun vn vi wr => ∃ (t : Nat) (X : Int), vn = .int .i64 (t : Int) ∧ vi = .int .u64 X ∧ w3 = wr ∧ Hid (RzI a t X)) (fun _ vi _ => match vi with | .int _ i => i.toNat | _ => 0)
        case atStart => exact ⟨t0, X0, rfl, rfl, by first | rfl | trivial, HI0⟩
        case round =>
          obtain ⟨t, X, rfl, rfl, rfl, HI⟩ := hrel
          clear HI0
          have hp := HI.out.pos HA.out.1
          obtain ⟨Y, hY⟩ : ∃ Y, Y = a / 10 ^ t := ⟨_, rfl⟩
          have hXY : X = (Y : Int) := by rw [hY]; exact HI.out.x
          have hYs : Y < 18446744073709551616 := by rw [hY]; exact Nat.lt_of_le_of_lt (Nat.div_le_self _ _) HA.out.2.1
          rw [← hY] at hp
          obtain ⟨r, hr⟩ : ∃ r, r = Y % 10 := ⟨_, rfl⟩
          have hr1 : X % 10 = (r : Int) := by rw [hXY, hr]; omega
          have hr2 : X.tmod 10 = (r : Int) := by rw [Int.tmod_eq_emod_of_nonneg (by omega)]; exact hr1
          have hr3 : IntKind.u64.wrap (r : Int) = (r : Int) := by simp [IntKind.wrap, IntKind.signed, IntKind.bits]; omega
          by_cases hr0 : r = 0
          · have hts := tz_small HA.out.1 HA.out.2.1 (dvd_step 1 HI.out.dv (by rw [← hY]; omega))
            obtain ⟨q, hq⟩ : ∃ q, q = Y / 10 := ⟨_, rfl⟩
            have hq1 : X / 10 = (q : Int) := by rw [hXY, hq]; omega
            have hq2 : X.tdiv 10 = (q : Int) := by rw [Int.tdiv_eq_ediv_of_nonneg (by omega)]; exact hq1
            have hq3 : IntKind.u64.wrap (q : Int) = (q : Int) := by simp [IntKind.wrap, IntKind.signed, IntKind.bits]; omega
            have hw : IntKind.i64.wrap ((t : Int) + 1) = ((t + 1 : Nat) : Int) := by simp [IntKind.wrap, IntKind.signed, IntKind.bits]; omega
            have HN : Hid (RzI a (t + 1) (q : Int)) := ⟨by rw [hq, hY, Nat.pow_succ, Nat.div_div_eq_div_mul], dvd_step 1 HI.out.dv (by rw [← hY]; omega)⟩
            have HM : Hid ((q : Int).toNat < X.toNat) := by show _ < _; omega
            subst hr0
            clear hr hq hY hYs hp hts hXY HI
            go_wp2
            go_roundw
            case rel => exact ⟨t + 1, (q : Int), rfl, rfl, by first | rfl | trivial, HN⟩
            case measure => exact HM.out
          · have hrb : ((r : Int) == 0) = false := beq_eq_false_iff_ne.2 (by omega)
            have HL : Hid (a / 10 ^ t % 10 ≠ 0) := by show _ ≠ _; rw [← hY, ← hr]; exact hr0
            clear hr hY hYs hp hXY hr0
            by_cases ht0 : t = 0
            · subst ht0
              have HE : Hid (RedP w gd true a e (.returned (.tuple #[.pointer (some ⟨gd, 0, none⟩), .int .i64 ((0 : Nat) : Int)])) w3) := by
                have hz : a / 10 ^ 0 = a := by simp
                have hx := HI.out.x
                refine ⟨0, A3, c3, rfl, by simp, ?_, ?_, ?_, HO.out.2.2⟩
                · rw [hz]; have := HL.out; rw [hz] at this; exact this
                · rw [hz, HA.out.2.2]; exact HO.out.1
                · rw [hz, HA.out.2.2]; simpa using HO.out.2.1
              clear HI HL HO
              go_wp2
              go_ret2
              exact HE.out
            · have hts := tz_small HA.out.1 HA.out.2.1 HI.out.dv
              have htb : (((t : Nat) : Int) == 0) = false := beq_eq_false_iff_ne.2 (by omega)
              obtain ⟨x1, hx1⟩ : ∃ x1 : Int, x1 = e + (t : Int) := ⟨_, rfl⟩
              have hwe := HE0.out
              have w1' : IntKind.i32.wrap (t : Int) = (t : Int) := by simp [IntKind.wrap, IntKind.signed, IntKind.bits]; omega
              have w2' : IntKind.i32.wrap (e + (t : Int)) = x1 := by rw [hx1]; simp [IntKind.wrap, IntKind.signed, IntKind.bits]; omega
              have hB := HO.out.2.1
              have d2 : w3.cell? ⟨gd, 2, none⟩ = some (.int .i32 e) := hB.cell 2
              have f2 := hB.frozen 2
              obtain ⟨Y, hY⟩ : ∃ Y, Y = a / 10 ^ t := ⟨_, rfl⟩
              have hXY : X = (Y : Int) := by rw [hY]; exact HI.out.x
              have hYs : Y < 18446744073709551616 := by rw [hY]; exact Nat.lt_of_le_of_lt (Nat.div_le_self _ _) HA.out.2.1
              subst hXY
              have hFa : Fr w3 (w3.setCell ⟨gd, 2, none⟩ (.int .i32 x1)) (fun k => k = gd) := (Fr.refl w3 (fun k => k = gd)).setCell (p := ⟨gd, 2, none⟩) (fun _ => rfl) _
              have hBa : Blk (w3.setCell ⟨gd, 2, none⟩ (.int .i32 x1)) gd 71 (decC 0 true x1 false (.slice A3 1 c3) false) := hB.set 2 _
              have con := bsetU64_any w.heap.size gd 3 71 (decC 0 true x1 false (.slice A3 1 c3) false) false false (.slice A3 1 c3) 1 Y (w3.setCell ⟨gd, 2, none⟩ (.int .i32 x1)) hBa rfl rfl rfl (HO.out.1.room.fr hFa (HO.out.1.room.ne_blk hB (by decide))) (by decide) (by have := HO.out.2.2.size; simpa using this) hYs
              have Con := hide con
              have HFa := hide hFa
              have HY := hide hY
              have HX1 := hide hx1
              clear con hFa hBa hB hwe hY hYs hx1
              go_wp2_with fail
              refine (Con.out).mono ?_
              rintro e5 w5 ⟨rfl, B5, c5, hr5, hrb5, hB5, hF5⟩
              have hB5' : Blk w5 gd 71 (decC 0 true x1 false (.slice B5 (digs 18446744073709551616 Y).length c5) false) := hB5
              have d1 : w5.cell? ⟨gd, 1, none⟩ = some (.bool true) := hB5'.cell 1
              have f1 := hB5'.frozen 1
              have hg5 := hr5.room.ne_blk hB5' (by decide)
              have hFb : Fr w5 (w5.setCell ⟨gd, 1, none⟩ (.bool true)) (fun k => k = gd) := (Fr.refl w5 (fun k => k = gd)).setCell (p := ⟨gd, 1, none⟩) (fun _ => rfl) _
              have HE : Hid (RedP w gd true a e (.returned (.tuple #[.pointer (some ⟨gd, 0, none⟩), .int .i64 (t : Int)])) (w5.setCell ⟨gd, 1, none⟩ (.bool true))) := by
                refine ⟨t, B5, c5, rfl, HI.out.dv, HL.out, ?_, ?_, ?_⟩
                · rw [← HY.out]; exact hr5.fr hFb hg5
                · rw [← HY.out, ← HX1.out]; exact hB5'.set 1 _
                · refine Fr.step (Fr.step HO.out.2.2 HFa.out (fun _ _ h => h)) (Fr.step hF5 hFb (fun _ _ h => .inl h)) (fun i hi h => ?_)
                  rcases h with h | h
                  · exact h
                  · have := (HO.out.1.lt h).1; omega
              clear hr5 hrb5 hB5 hF5 hB5' hg5 hFb HI HL HO Con HFa HY HX1
              go_wp2
              go_ret2
              exact HE.out
    · go_wp2_with fail
      clear hbig
      go_loopw [6, 8] (fun vn vi wr => ∃ (t : Nat) (X : Int), vn = .int .i64 (t : Int) ∧ vi = .int .u64 X ∧ w3 = wr ∧ Hid (RzI a t X)) (fun _ vi _ => match vi with | .int _ i => i.toNat | _ => 0)
      case atStart => exact ⟨t0, X0, rfl, rfl, by first | rfl | trivial, HI0⟩
      case round =>
        obtain ⟨t, X, rfl, rfl, rfl, HI⟩ := hrel
        clear HI0
        have hp := HI.out.pos HA.out.1
        obtain ⟨Y, hY⟩ : ∃ Y, Y = a / 10 ^ t := ⟨_, rfl⟩
        have hXY : X = (Y : Int) := by rw [hY]; exact HI.out.x
        have hYs : Y < 18446744073709551616 := by rw [hY]; exact Nat.lt_of_le_of_lt (Nat.div_le_self _ _) HA.out.2.1
        rw [← hY] at hp
        obtain ⟨r, hr⟩ : ∃ r, r = Y % 10 := ⟨_, rfl⟩
        have hr1 : X % 10 = (r : Int) := by rw [hXY, hr]; omega
        have hr2 : X.tmod 10 = (r : Int) := by rw [Int.tmod_eq_emod_of_nonneg (by omega)]; exact hr1
        have hr3 : IntKind.u64.wrap (r : Int) = (r : Int) := by simp [IntKind.wrap, IntKind.signed, IntKind.bits]; omega
        by_cases hr0 : r = 0
        · have hts := tz_small HA.out.1 HA.out.2.1 (dvd_step 1 HI.out.dv (by rw [← hY]; omega))
          obtain ⟨q, hq⟩ : ∃ q, q = Y / 10 := ⟨_, rfl⟩
          have hq1 : X / 10 = (q : Int) := by rw [hXY, hq]; omega
          have hq2 : X.tdiv 10 = (q : Int) := by rw [Int.tdiv_eq_ediv_of_nonneg (by omega)]; exact hq1
          have hq3 : IntKind.u64.wrap (q : Int) = (q : Int) := by simp [IntKind.wrap, IntKind.signed, IntKind.bits]; omega
          have hw : IntKind.i64.wrap ((t : Int) + 1) = ((t + 1 : Nat) : Int) := by simp [IntKind.wrap, IntKind.signed, IntKind.bits]; omega
          have HN : Hid (RzI a (t + 1) (q : Int)) := ⟨by rw [hq, hY, Nat.pow_succ, Nat.div_div_eq_div_mul], dvd_step 1 HI.out.dv (by rw [← hY]; omega)⟩
          have HM : Hid ((q : Int).toNat < X.toNat) := by show _ < _; omega
          subst hr0
          clear hr hq hY hYs hp hts hXY HI
          go_wp2
          go_roundw
          case rel => exact ⟨t + 1, (q : Int), rfl, rfl, by first | rfl | trivial, HN⟩
          case measure => exact HM.out
        · have hrb : ((r : Int) == 0) = false := beq_eq_false_iff_ne.2 (by omega)
          have HL : Hid (a / 10 ^ t % 10 ≠ 0) := by show _ ≠ _; rw [← hY, ← hr]; exact hr0
          clear hr hY hYs hp hXY hr0
          by_cases ht0 : t = 0
          · subst ht0
            have HE : Hid (RedP w gd true a e (.returned (.tuple #[.pointer (some ⟨gd, 0, none⟩), .int .i64 ((0 : Nat) : Int)])) w3) := by
              have hz : a / 10 ^ 0 = a := by simp
              have hx := HI.out.x
              refine ⟨0, A3, c3, rfl, by simp, ?_, ?_, ?_, HO.out.2.2⟩
              · rw [hz]; have := HL.out; rw [hz] at this; exact this
              · rw [hz, HA.out.2.2]; exact HO.out.1
              · rw [hz, HA.out.2.2]; simpa using HO.out.2.1
            clear HI HL HO
            go_wp2
            go_ret2
            exact HE.out
          · have hts := tz_small HA.out.1 HA.out.2.1 HI.out.dv
            have htb : (((t : Nat) : Int) == 0) = false := beq_eq_false_iff_ne.2 (by omega)
            obtain ⟨x1, hx1⟩ : ∃ x1 : Int, x1 = e + (t : Int) := ⟨_, rfl⟩
            have hwe := HE0.out
            have w1' : IntKind.i32.wrap (t : Int) = (t : Int) := by simp [IntKind.wrap, IntKind.signed, IntKind.bits]; omega
            have w2' : IntKind.i32.wrap (e + (t : Int)) = x1 := by rw [hx1]; simp [IntKind.wrap, IntKind.signed, IntKind.bits]; omega
            have hB := HO.out.2.1
            have d2 : w3.cell? ⟨gd, 2, none⟩ = some (.int .i32 e) := hB.cell 2
            have f2 := hB.frozen 2
            obtain ⟨Y, hY⟩ : ∃ Y, Y = a / 10 ^ t := ⟨_, rfl⟩
            have hXY : X = (Y : Int) := by rw [hY]; exact HI.out.x
            have hYs : Y < 18446744073709551616 := by rw [hY]; exact Nat.lt_of_le_of_lt (Nat.div_le_self _ _) HA.out.2.1
            subst hXY
            have hFa : Fr w3 (w3.setCell ⟨gd, 2, none⟩ (.int .i32 x1)) (fun k => k = gd) := (Fr.refl w3 (fun k => k = gd)).setCell (p := ⟨gd, 2, none⟩) (fun _ => rfl) _
            have hBa : Blk (w3.setCell ⟨gd, 2, none⟩ (.int .i32 x1)) gd 71 (decC 0 true x1 false (.slice A3 1 c3) false) := hB.set 2 _
            have con := bsetU64_any w.heap.size gd 3 71 (decC 0 true x1 false (.slice A3 1 c3) false) false false (.slice A3 1 c3) 1 Y (w3.setCell ⟨gd, 2, none⟩ (.int .i32 x1)) hBa rfl rfl rfl (HO.out.1.room.fr hFa (HO.out.1.room.ne_blk hB (by decide))) (by decide) (by have := HO.out.2.2.size; simpa using this) hYs
            have Con := hide con
            have HFa := hide hFa
            have HY := hide hY
            have HX1 := hide hx1
            clear con hFa hBa hB hwe hY hYs hx1
            go_wp2_with fail
            refine (Con.out).mono ?_
            rintro e5 w5 ⟨rfl, B5, c5, hr5, hrb5, hB5, hF5⟩
            have hB5' : Blk w5 gd 71 (decC 0 true x1 false (.slice B5 (digs 18446744073709551616 Y).length c5) false) := hB5
            have d1 : w5.cell? ⟨gd, 1, none⟩ = some (.bool true) := hB5'.cell 1
            have f1 := hB5'.frozen 1
            have hg5 := hr5.room.ne_blk hB5' (by decide)
            have hFb : Fr w5 (w5.setCell ⟨gd, 1, none⟩ (.bool true)) (fun k => k = gd) := (Fr.refl w5 (fun k => k = gd)).setCell (p := ⟨gd, 1, none⟩) (fun _ => rfl) _
            have HE : Hid (RedP w gd true a e (.returned (.tuple #[.pointer (some ⟨gd, 0, none⟩), .int .i64 (t : Int)])) (w5.setCell ⟨gd, 1, none⟩ (.bool true))) := by
              refine ⟨t, B5, c5, rfl, HI.out.dv, HL.out, ?_, ?_, ?_⟩
              · rw [← HY.out]; exact hr5.fr hFb hg5
              · rw [← HY.out, ← HX1.out]; exact hB5'.set 1 _
              · refine Fr.step (Fr.step HO.out.2.2 HFa.out (fun _ _ h => h)) (Fr.step hF5 hFb (fun _ _ h => .inl h)) (fun i hi h => ?_)
                rcases h with h | h
                · exact h
                · have := (HO.out.1.lt h).1; omega
            clear hr5 hrb5 hB5 hF5 hB5' hg5 hFb HI HL HO Con HFa HY HX1
            go_wp2
            go_ret2
            exact HE.out

end Go.Proofs.YtfkcobdkgjhfaaaGreatDoor
