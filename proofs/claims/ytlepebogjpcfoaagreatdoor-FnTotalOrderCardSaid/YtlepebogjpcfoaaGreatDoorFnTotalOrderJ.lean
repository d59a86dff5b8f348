/- 'laws.FnTotalOrder': FOR EVERY INPUT THE LAW RETURNS TRUE, AND ITS ARGUMENTS READ BEHIND THE CALL AS THEY READ BEFORE. No condition is set on the input; the listed package variables start as the program's text lays them (tied by the card). -/
import Derived.Test.YtlepebogjpcfoaaGreatDoorTie
import Derived.Test.YtlepebogjpcfoaaGreatDoorCards
import Derived.LaidMore
import Derived.OpenVars
import Derived.SevenTiedAt
import Derived.Test.YtlepebogjpcfoaaGreatDoorG2
import Derived.Test.YtlepebogjpcfoaaGreatDoorG28
import Derived.Test.YtlepebogjpcfoaaGreatDoorG40
import Derived.Test.YtlepebogjpcfoaaGreatDoorG44
import Derived.Test.YtlepebogjpcfoaaGreatDoorG45
/- The law FnTotalOrder: its walk. -/
set_option linter.unusedVariables false
set_option linter.unusedSimpArgs false
namespace Go.Proofs.YtlepebogjpcfoaaGreatDoor
open Go.RowKit

theorem totE_small (n1 : Bool) (a : Nat) (e1 : Int) (n2 : Bool) (b : Nat) (e2 : Int) : -1 ≤ totE n1 a e1 n2 b e2 ∧ totE n1 a e1 n2 b e2 ≤ 1 := by
  unfold totE totV totR
  rw [ordV_val]
  generalize valI n1 _ = p
  generalize valI n2 _ = q
  by_cases h1 : p < q
  · simp only [if_pos h1]
    split
    · split <;> omega
    · split <;> omega
  · by_cases h2 : q < p
    · simp only [if_neg h1, if_pos h2]
      split
      · split <;> omega
      · split <;> omega
    · simp only [if_neg h1, if_neg h2]
      cases n1 <;> cases n2 <;> simp only [reduceIte, ne_eq, not_true_eq_false, Bool.true_eq_false, Bool.false_eq_true]
      all_goals repeat' split
      all_goals omega

/-- A decimal that 'finite' says yes to. -/
structure OkD (form : Int) (xs : List Nat) (exp : Int) : Prop where
  frm : form = 0
  can : xs = digs 18446744073709551616 (numW xs)
  len : xs.length ≤ 3
  lo : -100 ≤ exp
  hi : exp ≤ 100
theorem ValOk.okD {w : World} {base : Nat} {s : Bool} {B : Option Addr} {l c : Nat} {ex form : Int} {neg : Bool} {xs : List Nat} {exp : Int} (h : ValOk w base s B l c ex form neg xs exp) : OkD form xs exp := ⟨h.frm, h.can, h.len, h.lo, h.hi⟩

/-- A small number, as a decimal. -/
def OneP (x : Nat) (w : World) (e : Ending) (w' : World) : Prop := ∃ (B : Option Addr) (c : Nat), e = .returned (.agg #[.int .i64 0, .bool false, .slice B 1 c, .int .i64 0]) ∧ RdG .u64 w' (.slice B 1 c) [x] ∧ Below w.heap.size w w'
theorem one_any (x : Nat) (w : World) (h0 : 0 < x) (h1 : x < 100) : Calls Tryz.prog 26 #[.int .i64 (x : Int)] w (OneP x w) := by
  refine (fromInt64_any (x : Int) w (by omega) (by omega)).mono ?_
  rintro e w' ⟨B, c, rfl, hown, hb⟩
  have e1 : digs 18446744073709551616 (x : Int).natAbs = [x] := digs_word (by omega) (by omega)
  have e2 : decide ((x : Int) < 0) = false := by simp
  rw [e1] at hown ⊢
  rw [e2]
  exact ⟨B, c, rfl, RdG.of_w hown.rd, hb⟩

/-- Total of two decimals that 'finite' says yes to. -/
theorem itot_ok (form1 : Int) (neg1 : Bool) (A1 : Option Addr) (c1 : Nat) (xs1 : List Nat) (exp1 : Int) (form2 : Int) (neg2 : Bool) (A2 : Option Addr) (c2 : Nat) (xs2 : List Nat) (exp2 : Int) (w : World)
    (h1 : OkD form1 xs1 exp1) (h2 : OkD form2 xs2 exp2) (hr1 : RdG .u64 w (.slice A1 xs1.length c1) xs1) (hr2 : RdG .u64 w (.slice A2 xs2.length c2) xs2) (hv : VarsL w w.heap.size) :
    Calls Tryz.prog 19 #[.agg #[.int .i64 form1, .bool neg1, .slice A1 xs1.length c1, .int .i64 exp1], .agg #[.int .i64 form2, .bool neg2, .slice A2 xs2.length c2, .int .i64 exp2]] w (DcmpP w (totE neg1 (numW xs1) exp1 neg2 (numW xs2) exp2)) := by
  obtain ⟨rfl, e1, l1, lo1, hi1⟩ := h1
  obtain ⟨rfl, e2, l2, lo2, hi2⟩ := h2
  have := itot_fin neg1 neg2 A1 A2 c1 c2 (numW xs1) (numW xs2) (exp1 - min exp1 exp2).toNat (exp2 - min exp1 exp2).toNat exp1 exp2 (min exp1 exp2) w (by rw [← e1]; exact hr1) (by rw [← e2]; exact hr2) (by rw [← e1]; exact l1) (by rw [← e2]; exact l2) (by omega) (by omega) (by omega) (by omega) (by omega) (by omega) (by omega) hv
  rw [← e1, ← e2] at this
  exact this

/-- The three boxes and the row of three. -/
structure TriL (w : World) (g1 g2 g3 gs : Nat) (X1 X2 X3 : Array Value) (W : World) : Prop where
  bel : Below w.heap.size w W
  x1 : Blk W g1 24 X1
  x2 : Blk W g2 24 X2
  x3 : Blk W g3 24 X3
  row : Blk W gs 24 (X1 ++ X2 ++ X3)
theorem TriL.below {w : World} {g1 g2 g3 gs : Nat} {X1 X2 X3 : Array Value} {W W' : World} (h : TriL w g1 g2 g3 gs X1 X2 X3 W) (hb : Below W.heap.size W W') : TriL w g1 g2 g3 gs X1 X2 X3 W' :=
  ⟨below_next h.bel hb, h.x1.below hb, h.x2.below hb, h.x3.below hb, h.row.below hb⟩
theorem TriL.next {w : World} {g1 g2 g3 gs : Nat} {X1 X2 X3 : Array Value} {W W' : World} (h : TriL w g1 g2 g3 gs X1 X2 X3 W) (h1 : W'.os = W.os) (h2 : W'.tape = W.tape) (h3 : W'.output = W.output) (h4 : W.heap.size ≤ W'.heap.size) (h5 : ∀ k, k < W.heap.size → W'.heap[k]? = W.heap[k]?) : TriL w g1 g2 g3 gs X1 X2 X3 W' :=
  h.below ⟨h1, h2, h3, h4, h5⟩

set_option maxHeartbeats 2000000 in
set_option maxRecDepth 20000 in
theorem fnTotalOrder_walk (form1 : Int) (neg1 : Bool) (A1 : Option Addr) (c1 : Nat) (xs1 : List Nat) (exp1 : Int) (form2 : Int) (neg2 : Bool) (A2 : Option Addr) (c2 : Nat) (xs2 : List Nat) (exp2 : Int) (form3 : Int) (neg3 : Bool) (A3 : Option Addr) (c3 : Nat) (xs3 : List Nat) (exp3 : Int) (w : World) (hvars : VarsL w w.heap.size)
    (hv1 : RdG .u64 w (.slice A1 xs1.length c1) xs1) (hd1 : Dig 18446744073709551616 xs1) (_ : (Lit.int .i64 form1).wf = true) (_ : (Lit.int .i64 exp1).wf = true) (hv2 : RdG .u64 w (.slice A2 xs2.length c2) xs2) (hd2 : Dig 18446744073709551616 xs2) (_ : (Lit.int .i64 form2).wf = true) (_ : (Lit.int .i64 exp2).wf = true) (hv3 : RdG .u64 w (.slice A3 xs3.length c3) xs3) (hd3 : Dig 18446744073709551616 xs3) (_ : (Lit.int .i64 form3).wf = true) (_ : (Lit.int .i64 exp3).wf = true) :
    Calls Tryz.prog 8 #[.agg #[.int .i64 form1, .bool neg1, .slice A1 xs1.length c1, .int .i64 exp1], .agg #[.int .i64 form2, .bool neg2, .slice A2 xs2.length c2, .int .i64 exp2], .agg #[.int .i64 form3, .bool neg3, .slice A3 xs3.length c3, .int .i64 exp3]] w (BoolP w true) := by
  have Fin := hide (show ∀ W : World, Below w.heap.size w W → BoolP w true (.returned (.bool true)) W from fun W h => ⟨rfl, h⟩)
  obtain ⟨X1, hX1⟩ : ∃ X : Array Value, X = #[.int .i64 form1, .bool neg1, .slice A1 xs1.length c1, .int .i64 exp1] := ⟨_, rfl⟩
  obtain ⟨X2, hX2⟩ : ∃ X : Array Value, X = #[.int .i64 form2, .bool neg2, .slice A2 xs2.length c2, .int .i64 exp2] := ⟨_, rfl⟩
  obtain ⟨X3, hX3⟩ : ∃ X : Array Value, X = #[.int .i64 form3, .bool neg3, .slice A3 xs3.length c3, .int .i64 exp3] := ⟨_, rfl⟩
  obtain ⟨g1, hg1⟩ : ∃ g, g = w.heap.size := ⟨_, rfl⟩
  obtain ⟨g2, hg2⟩ : ∃ g, g = w.heap.size + 1 := ⟨_, rfl⟩
  obtain ⟨g3, hg3⟩ : ∃ g, g = w.heap.size + 1 + 1 := ⟨_, rfl⟩
  obtain ⟨W0, hW0⟩ : ∃ W0, W0 = ((w.alloc (.cells #[.int .i64 form1, .bool neg1, .slice A1 xs1.length c1, .int .i64 exp1] 24)).alloc (.cells #[.int .i64 form2, .bool neg2, .slice A2 xs2.length c2, .int .i64 exp2] 24)).alloc (.cells #[.int .i64 form3, .bool neg3, .slice A3 xs3.length c3, .int .i64 exp3] 24) := ⟨_, rfl⟩
  have hb0 : Below w.heap.size w W0 := by rw [hW0]; exact below_al (below_al (below_al (Below.refl _ _) _) _) _
  have hx1 : Blk W0 g1 24 X1 := by rw [hW0, hg1, hX1]; exact ((Blk.new w _ _).alloc _).alloc _
  have hx2 : Blk W0 g2 24 X2 := by
    rw [hW0, hg2, hX2]
    have := (Blk.new (w.alloc (.cells #[.int .i64 form1, .bool neg1, .slice A1 xs1.length c1, .int .i64 exp1] 24)) 24 #[.int .i64 form2, .bool neg2, .slice A2 xs2.length c2, .int .i64 exp2]).alloc (.cells #[.int .i64 form3, .bool neg3, .slice A3 xs3.length c3, .int .i64 exp3] 24)
    simpa using this
  have hx3 : Blk W0 g3 24 X3 := by
    rw [hW0, hg3, hX3]
    have := Blk.new ((w.alloc (.cells #[.int .i64 form1, .bool neg1, .slice A1 xs1.length c1, .int .i64 exp1] 24)).alloc (.cells #[.int .i64 form2, .bool neg2, .slice A2 xs2.length c2, .int .i64 exp2] 24)) 24 #[.int .i64 form3, .bool neg3, .slice A3 xs3.length c3, .int .i64 exp3]
    simpa using this
  have HH := hide (And.intro hb0 (And.intro hx1 (And.intro hx2 hx3)))
  have HR := hide (And.intro hv1 (And.intro hv2 (And.intro hv3 hvars)))
  have ConF1 := hide (fun W (h : Below w.heap.size w W) => finite_any form1 neg1 A1 c1 xs1 exp1 W (hv1.below h) hd1)
  have ConF2 := hide (fun W (h : Below w.heap.size w W) => finite_any form2 neg2 A2 c2 xs2 exp2 W (hv2.below h) hd2)
  have ConF3 := hide (fun W (h : Below w.heap.size w W) => finite_any form3 neg3 A3 c3 xs3 exp3 W (hv3.below h) hd3)
  clear hb0 hx1 hx2 hx3 hv1 hv2 hv3 hd1 hd2 hd3 hvars
  go_enter Tryz.func8, Tryz.ntmps8
  go_wp2_with fail
  rw [← hW0, ← hg3, ← hg2, ← hg1]
  clear hW0 hg3 hg2 hg1
  by_cases hbig1 : 2147483647 < xs1.length
  · refine (fits_no form1 neg1 A1 xs1.length c1 exp1 _ hbig1).mono ?_
    rintro e w1 ⟨rfl, hb⟩
    have F2 := hide (Fin.out _ (below_next HH.out.1 hb))
    clear hb HH HR ConF1 ConF2 ConF3 hX1 hX2 hX3
    go_wp2
    go_ret
    exact F2.out
  refine (fits_yes form1 neg1 A1 xs1.length c1 exp1 _ (by omega)).mono ?_
  rintro e w1 ⟨rfl, hb⟩
  have hx2 := HH.out.2.2.1.below hb
  rw [hX2] at hx2
  obtain ⟨y0, y1, y2, y3⟩ := hx2.dec4
  have Hb1 := hide hb
  clear hb hx2
  go_wp2_with fail
  by_cases hbig2 : 2147483647 < xs2.length
  · refine (fits_no form2 neg2 A2 xs2.length c2 exp2 _ hbig2).mono ?_
    rintro e w2 ⟨rfl, hb⟩
    have F2 := hide (Fin.out _ (below_next HH.out.1 (below_next Hb1.out hb)))
    clear hb HH HR ConF1 ConF2 ConF3 hX1 hX2 hX3 Hb1 y0 y1 y2 y3
    go_wp2
    go_ret
    exact F2.out
  refine (fits_yes form2 neg2 A2 xs2.length c2 exp2 _ (by omega)).mono ?_
  rintro e w2 ⟨rfl, hb⟩
  have hx3 := HH.out.2.2.2.below (below_next Hb1.out hb)
  rw [hX3] at hx3
  obtain ⟨z0, z1, z2, z3⟩ := hx3.dec4
  have Hb2 := hide (below_next Hb1.out hb)
  clear hb hx3 Hb1 y0 y1 y2 y3
  go_wp2_with fail
  by_cases hbig3 : 2147483647 < xs3.length
  · refine (fits_no form3 neg3 A3 xs3.length c3 exp3 _ hbig3).mono ?_
    rintro e w3 ⟨rfl, hb⟩
    have F2 := hide (Fin.out _ (below_next HH.out.1 (below_next Hb2.out hb)))
    clear hb HH HR ConF1 ConF2 ConF3 hX1 hX2 hX3 Hb2 z0 z1 z2 z3
    go_wp2
    go_ret
    exact F2.out
  refine (fits_yes form3 neg3 A3 xs3.length c3 exp3 _ (by omega)).mono ?_
  rintro e w3 ⟨rfl, hb⟩
  have hb03 := below_next Hb2.out hb
  obtain ⟨gs, hgs⟩ : ∃ g, g = w3.heap.size := ⟨_, rfl⟩
  obtain ⟨W3, hW3⟩ : ∃ W, W = w3.alloc (.cells #[.int .i64 form1, .bool neg1, .slice A1 xs1.length c1, .int .i64 exp1, .int .i64 form2, .bool neg2, .slice A2 xs2.length c2, .int .i64 exp2, .int .i64 form3, .bool neg3, .slice A3 xs3.length c3, .int .i64 exp3] 24) := ⟨_, rfl⟩
  have hbel3 : Below w3.heap.size w3 W3 := by rw [hW3]; exact below_al (Below.refl _ _) _
  have hall := below_next hb03 hbel3
  have hrow : Blk W3 gs 24 (X1 ++ X2 ++ X3) := by rw [hW3, hgs, hX1, hX2, hX3]; exact Blk.new _ _ _
  have HS0 : Hid (TriL w g1 g2 g3 gs X1 X2 X3 W3) := ⟨below_next HH.out.1 hall, HH.out.2.1.below hall, HH.out.2.2.1.below hall, HH.out.2.2.2.below hall, hrow⟩
  have hx1 := HH.out.2.1.below hb03
  have hx2 := HH.out.2.2.1.below hb03
  have hx3 := HH.out.2.2.2.below hb03
  rw [hX1] at hx1
  rw [hX2] at hx2
  rw [hX3] at hx3
  obtain ⟨x0, x1, x2, x3⟩ := hx1.dec4
  obtain ⟨y0, y1, y2, y3⟩ := hx2.dec4
  clear z0 z1 z2 z3
  obtain ⟨z0, z1, z2, z3⟩ := hx3.dec4
  clear hx1 hx2 hx3 hb hb03 hbel3 hall hrow Hb2 HH
  go_wp2_with fail
  rw [← hW3]
  clear hW3 x0 x1 x2 x3 y0 y1 y2 y3 z0 z1 z2 z3 hbig1 hbig2 hbig3
  subst hgs
  go_loopw [29] (fun vi wr => ∃ i : Nat, i ≤ 3 ∧ vi = .int .i64 (i : Int) ∧ Hid (TriL w g1 g2 g3 w3.heap.size X1 X2 X3 wr ∧ (0 < i → OkD form1 xs1 exp1) ∧ (1 < i → OkD form2 xs2 exp2) ∧ (2 < i → OkD form3 xs3 exp3))) (fun vi _ => match vi with | .int _ i => 3 - i.toNat | _ => 0)
  case atStart => exact ⟨0, by omega, rfl, HS0, fun h => by omega, fun h => by omega, fun h => by omega⟩
  case round =>
    obtain ⟨i, hi, rfl, HI⟩ := hrel
    clear HS0
    have hrow := HI.out.1.row
    rw [hX1, hX2, hX3] at hrow
    have hi4 : i = 0 ∨ i = 1 ∨ i = 2 ∨ i = 3 := by omega
    rcases hi4 with rfl | rfl | rfl | rfl
    · have q0 : wr.cell? ⟨w3.heap.size, 0, none⟩ = some (.int .i64 form1) := hrow.cell 0
      have q1 : wr.cell? ⟨w3.heap.size, 1, none⟩ = some (.bool neg1) := hrow.cell 1
      have q2 : wr.cell? ⟨w3.heap.size, 2, none⟩ = some (.slice A1 xs1.length c1) := hrow.cell 2
      have q3 : wr.cell? ⟨w3.heap.size, 3, none⟩ = some (.int .i64 exp1) := hrow.cell 3
      clear hrow
      go_wp2_with fail
      refine (ConF1.out _ (below_al HI.out.1.bel _)).mono ?_
      rintro e w5 ⟨s, B, l, dd, ex, ok, rfl, hb5, hok⟩
      have hb6 : Below wr.heap.size wr (w5.alloc (.cells #[.bool s, .slice B l dd, .int .i64 ex] 29)) := below_al (below_next (below_al (Below.refl _ _) _) hb5) _
      cases ok with
      | false =>
        have F2 := hide (Fin.out _ (below_next HI.out.1.bel hb6))
        clear hb5 hok hb6 HI q0 q1 q2 q3 HR ConF1 ConF2 ConF3
        go_wp2
        go_ret
        exact F2.out
      | true =>
        have hk := (hok rfl).okD
        have HN : Hid (TriL w g1 g2 g3 w3.heap.size X1 X2 X3 (w5.alloc (.cells #[.bool s, .slice B l dd, .int .i64 ex] 29)) ∧ (0 < 1 → OkD form1 xs1 exp1) ∧ (1 < 1 → OkD form2 xs2 exp2) ∧ (2 < 1 → OkD form3 xs3 exp3)) := ⟨HI.out.1.below hb6, fun _ => hk, fun h => by omega, fun h => by omega⟩
        clear hb5 hok hb6 hk q0 q1 q2 q3 HI
        go_wp2
        go_roundw
        case rel => exact ⟨1, by omega, rfl, HN⟩
        case measure => decide
    · have q0 : wr.cell? ⟨w3.heap.size, 4, none⟩ = some (.int .i64 form2) := hrow.cell 4
      have q1 : wr.cell? ⟨w3.heap.size, 5, none⟩ = some (.bool neg2) := hrow.cell 5
      have q2 : wr.cell? ⟨w3.heap.size, 6, none⟩ = some (.slice A2 xs2.length c2) := hrow.cell 6
      have q3 : wr.cell? ⟨w3.heap.size, 7, none⟩ = some (.int .i64 exp2) := hrow.cell 7
      clear hrow
      go_wp2_with fail
      refine (ConF2.out _ (below_al HI.out.1.bel _)).mono ?_
      rintro e w5 ⟨s, B, l, dd, ex, ok, rfl, hb5, hok⟩
      have hb6 : Below wr.heap.size wr (w5.alloc (.cells #[.bool s, .slice B l dd, .int .i64 ex] 29)) := below_al (below_next (below_al (Below.refl _ _) _) hb5) _
      cases ok with
      | false =>
        have F2 := hide (Fin.out _ (below_next HI.out.1.bel hb6))
        clear hb5 hok hb6 HI q0 q1 q2 q3 HR ConF1 ConF2 ConF3
        go_wp2
        go_ret
        exact F2.out
      | true =>
        have hk := (hok rfl).okD
        have HN : Hid (TriL w g1 g2 g3 w3.heap.size X1 X2 X3 (w5.alloc (.cells #[.bool s, .slice B l dd, .int .i64 ex] 29)) ∧ (0 < 2 → OkD form1 xs1 exp1) ∧ (1 < 2 → OkD form2 xs2 exp2) ∧ (2 < 2 → OkD form3 xs3 exp3)) := ⟨HI.out.1.below hb6, fun _ => HI.out.2.1 (by omega), fun _ => hk, fun h => by omega⟩
        clear hb5 hok hb6 hk q0 q1 q2 q3 HI
        go_wp2
        go_roundw
        case rel => exact ⟨2, by omega, rfl, HN⟩
        case measure => decide
    · have q0 : wr.cell? ⟨w3.heap.size, 8, none⟩ = some (.int .i64 form3) := hrow.cell 8
      have q1 : wr.cell? ⟨w3.heap.size, 9, none⟩ = some (.bool neg3) := hrow.cell 9
      have q2 : wr.cell? ⟨w3.heap.size, 10, none⟩ = some (.slice A3 xs3.length c3) := hrow.cell 10
      have q3 : wr.cell? ⟨w3.heap.size, 11, none⟩ = some (.int .i64 exp3) := hrow.cell 11
      clear hrow
      go_wp2_with fail
      refine (ConF3.out _ (below_al HI.out.1.bel _)).mono ?_
      rintro e w5 ⟨s, B, l, dd, ex, ok, rfl, hb5, hok⟩
      have hb6 : Below wr.heap.size wr (w5.alloc (.cells #[.bool s, .slice B l dd, .int .i64 ex] 29)) := below_al (below_next (below_al (Below.refl _ _) _) hb5) _
      cases ok with
      | false =>
        have F2 := hide (Fin.out _ (below_next HI.out.1.bel hb6))
        clear hb5 hok hb6 HI q0 q1 q2 q3 HR ConF1 ConF2 ConF3
        go_wp2
        go_ret
        exact F2.out
      | true =>
        have hk := (hok rfl).okD
        have HN : Hid (TriL w g1 g2 g3 w3.heap.size X1 X2 X3 (w5.alloc (.cells #[.bool s, .slice B l dd, .int .i64 ex] 29)) ∧ (0 < 3 → OkD form1 xs1 exp1) ∧ (1 < 3 → OkD form2 xs2 exp2) ∧ (2 < 3 → OkD form3 xs3 exp3)) := ⟨HI.out.1.below hb6, fun _ => HI.out.2.1 (by omega), fun _ => HI.out.2.2.1 (by omega), fun _ => hk⟩
        clear hb5 hok hb6 hk q0 q1 q2 q3 HI
        go_wp2
        go_roundw
        case rel => exact ⟨3, by omega, rfl, HN⟩
        case measure => decide
    · have K1 := HI.out.2.1 (by omega)
      have K2 := HI.out.2.2.1 (by omega)
      have K3 := HI.out.2.2.2 (by omega)
      have ConXY : Hid (∀ W, Below w.heap.size w W → Calls Tryz.prog 19 #[Value.agg #[Value.int IntKind.i64 form1, Value.bool neg1, Value.slice A1 xs1.length c1, Value.int IntKind.i64 exp1], Value.agg #[Value.int IntKind.i64 form2, Value.bool neg2, Value.slice A2 xs2.length c2, Value.int IntKind.i64 exp2]] W (DcmpP W (totE neg1 (numW xs1) exp1 neg2 (numW xs2) exp2))) := fun W h => itot_ok form1 neg1 A1 c1 xs1 exp1 form2 neg2 A2 c2 xs2 exp2 W K1 K2 (HR.out.1.below h) (HR.out.2.1.below h) ((HR.out.2.2.2.below h).raise h.size)
      have ConYX : Hid (∀ W, Below w.heap.size w W → Calls Tryz.prog 19 #[Value.agg #[Value.int IntKind.i64 form2, Value.bool neg2, Value.slice A2 xs2.length c2, Value.int IntKind.i64 exp2], Value.agg #[Value.int IntKind.i64 form1, Value.bool neg1, Value.slice A1 xs1.length c1, Value.int IntKind.i64 exp1]] W (DcmpP W (totE neg2 (numW xs2) exp2 neg1 (numW xs1) exp1))) := fun W h => itot_ok form2 neg2 A2 c2 xs2 exp2 form1 neg1 A1 c1 xs1 exp1 W K2 K1 (HR.out.2.1.below h) (HR.out.1.below h) ((HR.out.2.2.2.below h).raise h.size)
      have ConYZ : Hid (∀ W, Below w.heap.size w W → Calls Tryz.prog 19 #[Value.agg #[Value.int IntKind.i64 form2, Value.bool neg2, Value.slice A2 xs2.length c2, Value.int IntKind.i64 exp2], Value.agg #[Value.int IntKind.i64 form3, Value.bool neg3, Value.slice A3 xs3.length c3, Value.int IntKind.i64 exp3]] W (DcmpP W (totE neg2 (numW xs2) exp2 neg3 (numW xs3) exp3))) := fun W h => itot_ok form2 neg2 A2 c2 xs2 exp2 form3 neg3 A3 c3 xs3 exp3 W K2 K3 (HR.out.2.1.below h) (HR.out.2.2.1.below h) ((HR.out.2.2.2.below h).raise h.size)
      have ConXZ : Hid (∀ W, Below w.heap.size w W → Calls Tryz.prog 19 #[Value.agg #[Value.int IntKind.i64 form1, Value.bool neg1, Value.slice A1 xs1.length c1, Value.int IntKind.i64 exp1], Value.agg #[Value.int IntKind.i64 form3, Value.bool neg3, Value.slice A3 xs3.length c3, Value.int IntKind.i64 exp3]] W (DcmpP W (totE neg1 (numW xs1) exp1 neg3 (numW xs3) exp3))) := fun W h => itot_ok form1 neg1 A1 c1 xs1 exp1 form3 neg3 A3 c3 xs3 exp3 W K1 K3 (HR.out.1.below h) (HR.out.2.2.1.below h) ((HR.out.2.2.2.below h).raise h.size)
      have ConI1 : Hid (∀ W, Calls Tryz.prog 26 #[.int .i64 1] W (OneP 1 W)) := fun W => one_any 1 W (by omega) (by omega)
      have ConI2 : Hid (∀ W, Calls Tryz.prog 26 #[.int .i64 2] W (OneP 2 W)) := fun W => one_any 2 W (by omega) (by omega)
      have Con12 : Hid (∀ W B1 d1 B2 d2, RdG .u64 W (.slice B1 1 d1) [1] → RdG .u64 W (.slice B2 1 d2) [2] → Below w.heap.size w W → Calls Tryz.prog 19 #[.agg #[.int .i64 0, .bool false, .slice B1 1 d1, .int .i64 0], .agg #[.int .i64 0, .bool false, .slice B2 1 d2, .int .i64 0]] W (DcmpP W (-1))) := fun W B1 d1 B2 d2 h1 h2 h => by
        have n1 : digs 18446744073709551616 1 = [1] := digs_word (by omega) (by omega)
        have n2 : digs 18446744073709551616 2 = [2] := digs_word (by omega) (by omega)
        have := itot_fin false false B1 B2 d1 d2 1 2 0 0 0 0 0 W (by rw [n1]; exact h1) (by rw [n2]; exact h2) (by rw [n1]; decide) (by rw [n2]; decide) (by omega) (by omega) (by omega) (by omega) (by omega) (by omega) (by omega) ((HR.out.2.2.2.below h).raise h.size)
        rw [n1, n2, show totV false (1 * 10 ^ 0) 0 false (2 * 10 ^ 0) 0 = -1 by unfold totV totR; rw [if_pos rfl, ordV_val]; decide] at this
        exact this
      have hlaw := totE_trans neg1 (numW xs1) exp1 neg2 (numW xs2) exp2 neg3 (numW xs3) exp3
      have hanti := totE_anti neg1 (numW xs1) exp1 neg2 (numW xs2) exp2
      have hsm : ∀ (n1 : Bool) (a : Nat) (e1 : Int) (n2 : Bool) (b : Nat) (e2 : Int), -1 ≤ totE n1 a e1 n2 b e2 ∧ totE n1 a e1 n2 b e2 ≤ 1 := totE_small
      have hs21 := hsm neg2 (numW xs2) exp2 neg1 (numW xs1) exp1
      clear hsm
      generalize totE neg1 (numW xs1) exp1 neg2 (numW xs2) exp2 = t12 at *
      generalize totE neg2 (numW xs2) exp2 neg1 (numW xs1) exp1 = t21 at *
      generalize totE neg2 (numW xs2) exp2 neg3 (numW xs3) exp3 = t23 at *
      generalize totE neg1 (numW xs1) exp1 neg3 (numW xs3) exp3 = t13 at *
      have hneg : IntKind.i64.wrap (-t21) = t12 := by
        rw [hanti]; simp [IntKind.wrap, IntKind.signed, IntKind.bits]; omega
      have htt : (t12 == t12) = true := by simp
      have HS := hide HI.out.1
      rw [hX1, hX2, hX3] at HS
      have HLaw := hide hlaw
      unfold DcmpP at ConXY ConYX ConYZ ConXZ Con12
      unfold OneP at ConI1 ConI2
      clear hlaw hanti hs21 HI hrow K1 K2 K3 HR ConF1 ConF2 ConF3 hX1 hX2 hX3
      go_wp2_with fail
      go_region_held3 (fun W => ((W.cell? ⟨g1, 0, none⟩ = some (.int .i64 form1) ∧ W.cell? ⟨g1, 1, none⟩ = some (.bool neg1) ∧ W.cell? ⟨g1, 2, none⟩ = some (.slice A1 xs1.length c1) ∧ W.cell? ⟨g1, 3, none⟩ = some (.int .i64 exp1)) ∧ (W.cell? ⟨g2, 0, none⟩ = some (.int .i64 form2) ∧ W.cell? ⟨g2, 1, none⟩ = some (.bool neg2) ∧ W.cell? ⟨g2, 2, none⟩ = some (.slice A2 xs2.length c2) ∧ W.cell? ⟨g2, 3, none⟩ = some (.int .i64 exp2)))) (first | exact ⟨HS.out.x1.dec4, HS.out.x2.dec4⟩ | go_keep)
        (first
          | (go_at_call_of 26 (Value.int IntKind.i64 1); go_loud (refine (ConI1.out _).mono ?_; rintro e4 w4 ⟨P1, r1, rfl, hr4, hb4⟩; have HS := hide (HS.out.next hb4.os hb4.tape hb4.output hb4.size hb4.block); have HA := hide hr4; clear hb4 hr4))
          | (go_at_call_of 26 (Value.int IntKind.i64 2); go_loud (refine (ConI2.out _).mono ?_; rintro e5 w5 ⟨P2, r2, rfl, hr5, hb5⟩; have HA := hide (RdG.below (w := w4) HA.out (Below.mk hb5.os hb5.tape hb5.output hb5.size hb5.block)); have HS := hide (HS.out.next hb5.os hb5.tape hb5.output hb5.size hb5.block); have HB := hide hr5; clear hb5 hr5))
          | (go_at_call_of 19 P1; go_loud (refine (Con12.out _ P1 r1 P2 r2 HA.out HB.out ?_).mono ?_; exact Below.mk HS.out.bel.os HS.out.bel.tape HS.out.bel.output HS.out.bel.size HS.out.bel.block; rintro e6 w6 ⟨rfl, hb6⟩; have HS := hide (HS.out.next hb6.os hb6.tape hb6.output hb6.size hb6.block); clear hb6))
          | (go_at_call_of 19 [Value.agg #[Value.int IntKind.i64 form2, Value.bool neg2, Value.slice A2 xs2.length c2, Value.int IntKind.i64 exp2]]; go_loud (refine (ConXY.out _ ?_).mono ?_; exact Below.mk HS.out.bel.os HS.out.bel.tape HS.out.bel.output HS.out.bel.size HS.out.bel.block; rintro e6 w6 ⟨rfl, hb6⟩; have HS := hide (HS.out.next hb6.os hb6.tape hb6.output hb6.size hb6.block); clear hb6))
          | (go_at_call_of 19 [Value.agg #[Value.int IntKind.i64 form1, Value.bool neg1, Value.slice A1 xs1.length c1, Value.int IntKind.i64 exp1]]; go_loud (refine (ConYX.out _ ?_).mono ?_; exact Below.mk HS.out.bel.os HS.out.bel.tape HS.out.bel.output HS.out.bel.size HS.out.bel.block; rintro e6 w6 ⟨rfl, hb6⟩; have HS := hide (HS.out.next hb6.os hb6.tape hb6.output hb6.size hb6.block); clear hb6)))
      obtain ⟨x0, x1, x2, x3⟩ := HS.out.x1.dec4
      obtain ⟨y0, y1, y2, y3⟩ := HS.out.x2.dec4
      obtain ⟨z0, z1, z2, z3⟩ := HS.out.x3.dec4
      clear HA HB hneg htt
      by_cases h12 : 0 < t12
      · clear HLaw
        go_wp2_with fail
        refine (ConXY.out _ ?_).mono ?_
        · exact Below.mk HS.out.bel.os HS.out.bel.tape HS.out.bel.output HS.out.bel.size HS.out.bel.block
        rintro e w7 ⟨rfl, hb7⟩
        have HS := hide (HS.out.next hb7.os hb7.tape hb7.output hb7.size hb7.block)
        clear hb7 x0 x1 x2 x3 y0 y1 y2 y3 z0 z1 z2 z3
        obtain ⟨x0, x1, x2, x3⟩ := HS.out.x1.dec4
        obtain ⟨y0, y1, y2, y3⟩ := HS.out.x2.dec4
        obtain ⟨z0, z1, z2, z3⟩ := HS.out.x3.dec4
        have F9 := hide (Fin.out _ HS.out.bel)
        clear HS x0 x1 x2 x3 y0 y1 y2 y3 z0 z1 z2 z3 ConXY ConYX ConYZ ConXZ Con12 ConI1 ConI2
        go_wp2
        go_ret
        exact F9.out
      · by_cases h23 : 0 < t23
        · clear HLaw
          go_wp2_with fail
          refine (ConXY.out _ ?_).mono ?_
          · exact Below.mk HS.out.bel.os HS.out.bel.tape HS.out.bel.output HS.out.bel.size HS.out.bel.block
          rintro e w7 ⟨rfl, hb7⟩
          have HS := hide (HS.out.next hb7.os hb7.tape hb7.output hb7.size hb7.block)
          clear hb7 x0 x1 x2 x3 y0 y1 y2 y3 z0 z1 z2 z3
          obtain ⟨x0, x1, x2, x3⟩ := HS.out.x1.dec4
          obtain ⟨y0, y1, y2, y3⟩ := HS.out.x2.dec4
          obtain ⟨z0, z1, z2, z3⟩ := HS.out.x3.dec4
          go_wp2_with fail
          refine (ConYZ.out _ ?_).mono ?_
          · exact Below.mk HS.out.bel.os HS.out.bel.tape HS.out.bel.output HS.out.bel.size HS.out.bel.block
          rintro e w7 ⟨rfl, hb7⟩
          have HS := hide (HS.out.next hb7.os hb7.tape hb7.output hb7.size hb7.block)
          clear hb7 x0 x1 x2 x3 y0 y1 y2 y3 z0 z1 z2 z3
          obtain ⟨x0, x1, x2, x3⟩ := HS.out.x1.dec4
          obtain ⟨y0, y1, y2, y3⟩ := HS.out.x2.dec4
          obtain ⟨z0, z1, z2, z3⟩ := HS.out.x3.dec4
          have F9 := hide (Fin.out _ HS.out.bel)
          clear HS x0 x1 x2 x3 y0 y1 y2 y3 z0 z1 z2 z3 ConXY ConYX ConYZ ConXZ Con12 ConI1 ConI2
          go_wp2
          go_ret
          exact F9.out
        · have h13 : t13 ≤ 0 := by have := HLaw.out; omega
          clear HLaw
          go_wp2_with fail
          refine (ConXY.out _ ?_).mono ?_
          · exact Below.mk HS.out.bel.os HS.out.bel.tape HS.out.bel.output HS.out.bel.size HS.out.bel.block
          rintro e w7 ⟨rfl, hb7⟩
          have HS := hide (HS.out.next hb7.os hb7.tape hb7.output hb7.size hb7.block)
          clear hb7 x0 x1 x2 x3 y0 y1 y2 y3 z0 z1 z2 z3
          obtain ⟨x0, x1, x2, x3⟩ := HS.out.x1.dec4
          obtain ⟨y0, y1, y2, y3⟩ := HS.out.x2.dec4
          obtain ⟨z0, z1, z2, z3⟩ := HS.out.x3.dec4
          go_wp2_with fail
          refine (ConYZ.out _ ?_).mono ?_
          · exact Below.mk HS.out.bel.os HS.out.bel.tape HS.out.bel.output HS.out.bel.size HS.out.bel.block
          rintro e w7 ⟨rfl, hb7⟩
          have HS := hide (HS.out.next hb7.os hb7.tape hb7.output hb7.size hb7.block)
          clear hb7 x0 x1 x2 x3 y0 y1 y2 y3 z0 z1 z2 z3
          obtain ⟨x0, x1, x2, x3⟩ := HS.out.x1.dec4
          obtain ⟨y0, y1, y2, y3⟩ := HS.out.x2.dec4
          obtain ⟨z0, z1, z2, z3⟩ := HS.out.x3.dec4
          go_wp2_with fail
          refine (ConXZ.out _ ?_).mono ?_
          · exact Below.mk HS.out.bel.os HS.out.bel.tape HS.out.bel.output HS.out.bel.size HS.out.bel.block
          rintro e w7 ⟨rfl, hb7⟩
          have HS := hide (HS.out.next hb7.os hb7.tape hb7.output hb7.size hb7.block)
          clear hb7 x0 x1 x2 x3 y0 y1 y2 y3 z0 z1 z2 z3
          obtain ⟨x0, x1, x2, x3⟩ := HS.out.x1.dec4
          obtain ⟨y0, y1, y2, y3⟩ := HS.out.x2.dec4
          obtain ⟨z0, z1, z2, z3⟩ := HS.out.x3.dec4
          have F9 := hide (Fin.out _ HS.out.bel)
          clear HS x0 x1 x2 x3 y0 y1 y2 y3 z0 z1 z2 z3 ConXY ConYX ConYZ ConXZ Con12 ConI1 ConI2
          go_wp2
          go_ret
          exact F9.out
end Go.Proofs.YtlepebogjpcfoaaGreatDoor

set_option linter.unusedVariables false
set_option linter.unusedSimpArgs false
namespace Go.Proofs.YtlepebogjpcfoaaGreatDoor
open Go Go.ChangeShapes Go.WideShapes Go.ChangeAt Go.RowKit Go.Joins

/-- The heap that the door's own run leaves meets the condition. -/
theorem fnTotalOrder_met (os : Os) (args : Array Value) : laidMetH Tryz.prog Rows.fnTotalOrderRow.laid ((World.doorLaid Tryz.prog 400 os).forCall (fun _ _ => 0) ⟨#[], args, []⟩).memory :=
  laidMetH_of_parts3 (fuel := 8) (laidMet_of_run' 8 (by kernel_rfl) (by kernel_rfl)) (by kernel_rfl) (by kernel_rfl)

set_option maxRecDepth 100000 in
theorem fnTotalOrder_lifted (os : Os) (started : os.Started) (H : Type) (enc : TypeId × Value → H) :
    ReturnsInHanded {} Tryz.checked os 8 .any (fun w args => (Rows.fnTotalOrderSpec.pre enc Tryz.prog Tryz.f8 [] false w args ∧ laidMetH Tryz.prog Rows.fnTotalOrderRow.laid w) ∧ sizedMet enc Tryz.prog Tryz.f8 (OpenSpec.ofChange Rows.fnTotalOrderSpec) false w args) (Rows.fnTotalOrderSpec.post enc Tryz.prog Tryz.f8 false true false false) := by
  refine returnsInHanded_of_change_and (C := Tryz.checked) (X := fun w _ => laidMetH Tryz.prog Rows.fnTotalOrderRow.laid w) (fun _ _ _ hh h => h.of_heap hh) own started (by kernel_rfl) Tryz.func8
    (ChangeSpec.witness_shaped (enc := enc) (C := Tryz.checked) (os := os) (X := fun w _ => laidMetH Tryz.prog Rows.fnTotalOrderRow.laid w) false (World.doorLaid Tryz.prog 400 os) #[.agg #[.int .i64 0, .bool false, .slice none 0 0, .int .i64 0], .agg #[.int .i64 0, .bool false, .slice none 0 0, .int .i64 0], .agg #[.int .i64 0, .bool false, .slice none 0 0, .int .i64 0]] 8 rfl (World.shaped_of_RefB (by kernel_rfl) (by kernel_rfl)) (by kernel_rfl) (by kernel_rfl) (by kernel_rfl) (fnTotalOrder_met os _)) ?_
  intro W base args ds gs before hval0 hW _ _ hL _
  have hval : ∀ (j : Nat) t v, Tryz.f8.params[j]? = some t → args[j]? = some v → Value.okWide Tryz.prog W .any base t v := hval0
  have hW' := hW
  obtain ⟨p, q, hA0, hV, rfl, _, _⟩ := hW
  have hA : DataW.TrodAll enc Tryz.prog W 0 (fun _ => true) true Tryz.f8.params.toList args.toList ds p := hA0
  rw [Tryz.params8] at hA hval
  obtain ⟨v0, vs0, d0, ds0, p0, q0, hargs, rfl, rfl, h0, r0⟩ := trodAll_cons hA
  obtain ⟨v1, vs1, d1, ds1, p1, q1, rfl, rfl, rfl, h1, r1⟩ := trodAll_cons r0
  obtain ⟨v2, vs2, d2, ds2, p2, q2, rfl, rfl, rfl, h2, r2⟩ := trodAll_cons r1
  obtain ⟨rfl, rfl, rfl⟩ := trodAll_nil r2
  obtain rfl : args = #[v0, v1, v2] := by cases args; simp_all
  have hlen := trodVars_len hV
  obtain ⟨g1, g2, g3, g4, g5, rfl⟩ : ∃ g1 g2 g3 g4 g5, gs = [g1, g2, g3, g4, g5] := by
    match gs, hlen with
    | [g1, g2, g3, g4, g5], _ => exact ⟨_, _, _, _, _, rfl⟩
  have lt0 : ∀ x ∈ p0, x.block < W.heap.size := by obtain ⟨m, hm⟩ := h0; exact DataW.trod_lt m _ _ _ hm
  obtain ⟨form0, neg0, A0, c0, xs0, exp0, rfl, hv0, hd0, wf0, we0⟩ := dec_open (hval 0 24 v0 rfl rfl) h0
  have lt1 : ∀ x ∈ p1, x.block < W.heap.size := by obtain ⟨m, hm⟩ := h1; exact DataW.trod_lt m _ _ _ hm
  obtain ⟨form1, neg1, A1, c1, xs1, exp1, rfl, hv1, hd1, wf1, we1⟩ := dec_open (hval 1 24 v1 rfl rfl) h1
  have lt2 : ∀ x ∈ p2, x.block < W.heap.size := by obtain ⟨m, hm⟩ := h2; exact DataW.trod_lt m _ _ _ hm
  obtain ⟨form2, neg2, A2, c2, xs2, exp2, rfl, hv2, hd2, wf2, we2⟩ := dec_open (hval 2 24 v2 rfl rfl) h2
  clear hA0 hval0
  have hvars : VarsL W W.heap.size := varsL_of hL (by kernel_rfl) (by first | exact List.mem_of_getElem? (i := 0) rfl | exact List.mem_of_getElem? (i := 1) rfl | exact List.mem_of_getElem? (i := 2) rfl | exact List.mem_of_getElem? (i := 3) rfl | exact List.mem_of_getElem? (i := 4) rfl | exact List.mem_of_getElem? (i := 5) rfl | exact List.mem_of_getElem? (i := 6) rfl) (by first | exact List.mem_of_getElem? (i := 0) rfl | exact List.mem_of_getElem? (i := 1) rfl | exact List.mem_of_getElem? (i := 2) rfl | exact List.mem_of_getElem? (i := 3) rfl | exact List.mem_of_getElem? (i := 4) rfl | exact List.mem_of_getElem? (i := 5) rfl | exact List.mem_of_getElem? (i := 6) rfl) (by first | exact List.mem_of_getElem? (i := 0) rfl | exact List.mem_of_getElem? (i := 1) rfl | exact List.mem_of_getElem? (i := 2) rfl | exact List.mem_of_getElem? (i := 3) rfl | exact List.mem_of_getElem? (i := 4) rfl | exact List.mem_of_getElem? (i := 5) rfl | exact List.mem_of_getElem? (i := 6) rfl) (by first | exact List.mem_of_getElem? (i := 0) rfl | exact List.mem_of_getElem? (i := 1) rfl | exact List.mem_of_getElem? (i := 2) rfl | exact List.mem_of_getElem? (i := 3) rfl | exact List.mem_of_getElem? (i := 4) rfl | exact List.mem_of_getElem? (i := 5) rfl | exact List.mem_of_getElem? (i := 6) rfl)
  refine (fnTotalOrder_walk form0 neg0 A0 c0 xs0 exp0 form1 neg1 A1 c1 xs1 exp1 form2 neg2 A2 c2 xs2 exp2 W hvars hv0 hd0 wf0 we0 hv1 hd1 wf1 we1 hv2 hd2 wf2 we2).mono fun e W' ⟨he, bel⟩ => ?_
  subst he
  exact ⟨_, rfl, _, _, _, [], _, q, hW', trodAll_mk1 (shut_bool Tryz.underlying4 _), (trodAll_cons_mk (Below.trod laidOut (by kernel_rfl) (of_decide_eq_true (by kernel_rfl)) h0 bel lt0) (trodAll_cons_mk (Below.trod laidOut (by kernel_rfl) (of_decide_eq_true (by kernel_rfl)) h1 bel lt1) (trodAll_cons_mk (Below.trod laidOut (by kernel_rfl) (of_decide_eq_true (by kernel_rfl)) h2 bel lt2) trodAll_mk0))), bel.trodVars laidOut (by kernel_rfl) hV, bel.frame _, fun h => by cases h⟩

/-! The row's closed facts, each a declaration of its own (in one they want more memory than there is). -/
theorem fnTotalOrder_c0 : (Rows.fnTotalOrderRow.wf (OpenSpec.ofChange Rows.fnTotalOrderSpec)) = true := by kernel_rfl
theorem fnTotalOrder_c1 : (laidOutB Tryz.prog) = true := by kernel_rfl
theorem fnTotalOrder_c2 : (mapsRowed Tryz.prog) = true := by kernel_rfl
theorem fnTotalOrder_c3 : (Tryz.f8.params.all (Tryz.prog.readableRec ·)) = true := by kernel_rfl
theorem fnTotalOrder_c4 : (namedTie Tryz.prog Rows.fnTotalOrderRow.named Rows.fnTotalOrderSpec.vars) = true := by kernel_rfl
theorem fnTotalOrder_c5 : ((Rows.fnTotalOrderRow.stops == [])) = true := by kernel_rfl
theorem fnTotalOrder_c6 : ((Tryz.prog.stops == [])) = true := by kernel_rfl
theorem fnTotalOrder_c7 : ((Rows.fnTotalOrderRow.knobs == [])) = true := by kernel_rfl
theorem fnTotalOrder_c8 : ((Tryz.prog.stopKnobs == [])) = true := by kernel_rfl
theorem fnTotalOrder_c9 : ((Rows.fnTotalOrderRow.inPlace == Tryz.prog.inPlace 8)) = true := by kernel_rfl
theorem fnTotalOrder_c10 : ((Rows.fnTotalOrderRow.unfollowed == Tryz.prog.unfollowed 8)) = true := by kernel_rfl
theorem fnTotalOrder_c11 : ((Rows.fnTotalOrderRow.recurses == Tryz.prog.recurses 8)) = true := by kernel_rfl
theorem fnTotalOrder_c12 : ((Rows.fnTotalOrderRow.named == Tryz.prog.varsNamed 8)) = true := by kernel_rfl
theorem fnTotalOrder_c13 : ((Rows.fnTotalOrderRow.maps == (Tryz.f8.params.toList ++ Rows.fnTotalOrderSpec.plain.varTypes Tryz.prog).any (Tryz.prog.mapsRec ·))) = true := by kernel_rfl
theorem fnTotalOrder_c14 : ((Rows.fnTotalOrderRow.ifaces == (Tryz.f8.params.toList ++ Rows.fnTotalOrderSpec.plain.varTypes Tryz.prog).any (Tryz.prog.ifacesRec ·))) = true := by kernel_rfl
theorem fnTotalOrder_c15 : ((Rows.fnTotalOrderRow.mapsOut == Tryz.prog.mapsAmong Tryz.f8.resultTypes.toList)) = true := by kernel_rfl
theorem fnTotalOrder_c16 : ((Rows.fnTotalOrderRow.loops == (Tryz.f8.params.toList ++ Rows.fnTotalOrderSpec.plain.varTypes Tryz.prog).any (Tryz.prog.loopsFrom ·))) = true := by kernel_rfl
theorem fnTotalOrder_c17 : ((Rows.fnTotalOrderRow.wideKeys == (Tryz.f8.params.toList ++ Rows.fnTotalOrderSpec.plain.varTypes Tryz.prog ++ Tryz.f8.resultTypes.toList).any (Tryz.prog.wideKeysFrom ·))) = true := by kernel_rfl
theorem fnTotalOrder_c18 : (Rows.fnTotalOrderSpec.vars.all (Tryz.prog.varReadable ·)) = true := by kernel_rfl
theorem fnTotalOrder_c19 : (Tryz.f8.resultTypes.all (fun t => Tryz.prog.readableRec t && decide (t < Tryz.prog.types.size))) = true := by kernel_rfl
theorem fnTotalOrder_c20 : ((Rows.fnTotalOrderRow.ifacesOut == Tryz.f8.resultTypes.toList.any (Tryz.prog.ifacesRec ·))) = true := by kernel_rfl
theorem fnTotalOrder_c21 : ((Rows.fnTotalOrderRow.loopsOut == Tryz.f8.resultTypes.toList.any (Tryz.prog.loopsFrom ·))) = true := by kernel_rfl
theorem fnTotalOrder_c22 : ((Rows.fnTotalOrderRow.plainKeys == Tryz.prog.plainKeys)) = true := by kernel_rfl
theorem fnTotalOrder_c23 : (Rows.fnTotalOrderRow.shortTexts.isNone) = true := by kernel_rfl
theorem fnTotalOrder_c24 : (Tryz.prog.stopsHeard) = true := by kernel_rfl
theorem fnTotalOrder_c25 : (Tryz.prog.mayEnter) = true := by kernel_rfl
theorem fnTotalOrder_c26 : ((Rows.fnTotalOrderRow.lifted == Tryz.prog.liftsFinal)) = true := by kernel_rfl
theorem fnTotalOrder_c27 : ((Tryz.prog.make == some Rows.fnTotalOrderRow.make)) = true := by kernel_rfl
theorem fnTotalOrder_c28 : ((Rows.fnTotalOrderRow.kinds == (if Rows.fnTotalOrderRow.domain.isEmpty then [] else Tryz.f8.params.toList.map fun t => match Tryz.prog.underlying t with | some (.int k) => some k | _ => none))) = true := by kernel_rfl
theorem fnTotalOrder_c29 : ((Rows.fnTotalOrderRow.pinned == Rows.fnTotalOrderRow.pinnedBy)) = true := by kernel_rfl
theorem fnTotalOrder_c30 : ((Rows.fnTotalOrderRow.veiled == (Tryz.f8.params.toList ++ Rows.fnTotalOrderSpec.plain.varTypes Tryz.prog ++ Tryz.f8.resultTypes.toList).any (Tryz.prog.veiledRec ·))) = true := by kernel_rfl
theorem fnTotalOrder_c31 : (Rows.fnTotalOrderRow.veiledFits Tryz.prog Tryz.f8.params.toList (Tryz.f8.params.toList ++ Rows.fnTotalOrderSpec.plain.varTypes Tryz.prog ++ Tryz.f8.resultTypes.toList)) = true := by kernel_rfl
theorem fnTotalOrder_both {a b : Bool} (h : a = true) (k : b = true) : (a && b) = true := by subst h; exact k
set_option maxRecDepth 100000 in
theorem fnTotalOrder_closed : joinedFacts Tryz.prog 8 Tryz.f8 Rows.fnTotalOrderSpec Rows.fnTotalOrderRow = true := by
  unfold joinedFacts
  exact (fnTotalOrder_both (fnTotalOrder_both (fnTotalOrder_both (fnTotalOrder_both (fnTotalOrder_both (fnTotalOrder_both (fnTotalOrder_both (fnTotalOrder_both (fnTotalOrder_both (fnTotalOrder_both (fnTotalOrder_both (fnTotalOrder_both (fnTotalOrder_both (fnTotalOrder_both (fnTotalOrder_both (fnTotalOrder_both (fnTotalOrder_both (fnTotalOrder_both (fnTotalOrder_both (fnTotalOrder_both (fnTotalOrder_both (fnTotalOrder_both (fnTotalOrder_both (fnTotalOrder_both (fnTotalOrder_both (fnTotalOrder_both (fnTotalOrder_both (fnTotalOrder_both (fnTotalOrder_both (fnTotalOrder_both (fnTotalOrder_both fnTotalOrder_c0 fnTotalOrder_c1) fnTotalOrder_c2) fnTotalOrder_c3) fnTotalOrder_c4) fnTotalOrder_c5) fnTotalOrder_c6) fnTotalOrder_c7) fnTotalOrder_c8) fnTotalOrder_c9) fnTotalOrder_c10) fnTotalOrder_c11) fnTotalOrder_c12) fnTotalOrder_c13) fnTotalOrder_c14) fnTotalOrder_c15) fnTotalOrder_c16) fnTotalOrder_c17) fnTotalOrder_c18) fnTotalOrder_c19) fnTotalOrder_c20) fnTotalOrder_c21) fnTotalOrder_c22) fnTotalOrder_c23) fnTotalOrder_c24) fnTotalOrder_c25) fnTotalOrder_c26) fnTotalOrder_c27) fnTotalOrder_c28) fnTotalOrder_c29) fnTotalOrder_c30) fnTotalOrder_c31)

theorem fnTotalOrder_over : Rows.fnTotalOrderRow.holds Tryz.pinned (OpenSpec.ofChange Rows.fnTotalOrderSpec) :=
  OpenClaim.holds_of_wide 8 Tryz.f8 rfl rfl rfl rfl rfl rfl rfl ⟨rfl, rfl, rfl, rfl, rfl⟩ rfl rfl rfl rfl rfl (by kernel_rfl) Tryz.func8 fnTotalOrder_closed
    (of_decide_eq_true (by kernel_rfl)) (by unfold Func.isWrapper; first | (rw [if_pos (by decide +kernel)]; kernel_rfl) | (rw [if_neg (by decide +kernel)]; exact ⟨rfl, rfl⟩))
    (fun os started H enc _ => fnTotalOrder_lifted os started H enc)

/-- The tied card. -/
theorem fnTotalOrder_holds : Rows.FnTotalOrderCardSaid :=
  Claim7.holds_tied_plain_at .later [] [.data, .data, .data, .data, .data, .data, .data] true Rows.fnTotalOrderCard.stood.harness Rows.fnTotalOrderCard.stood.looks
    fnTotalOrder_over (fun _ h => by cases h) (by kernel_rfl) (fun _ h => by cases h) fnTotalOrder_row_tie rfl ⟨rfl, rfl⟩ (by kernel_rfl) (by kernel_rfl)
    (fun f fn hf hfn => by
      obtain rfl : f = 8 := Option.some.inj ((show Tryz.prog.funcNamed "loop.example/pub-g03241/laws.FnTotalOrder" = some 8 by kernel_rfl).symm.trans hf) |>.symm
      obtain rfl : fn = Tryz.f8 := (Option.some.inj (Tryz.func8.symm.trans hfn)).symm
      have hall : Tryz.f8.params.all (fun t => !(Tryz.prog.wantsStandIn t)) = true := by kernel_rfl
      exact ⟨by kernel_rfl, fun j t ht => by
        obtain ⟨hj, rfl⟩ := Array.getElem?_eq_some_iff.1 ht
        have h1 := Array.all_eq_true.1 hall j hj
        have h2 : Tryz.prog.wantsStandIn (Tryz.f8.params[j]) = false := by simpa using h1
        exact h2⟩)
    (by kernel_rfl)
#print axioms fnTotalOrder_holds
end Go.Proofs.YtlepebogjpcfoaaGreatDoor
