/- Parts of the proofs: I64a, I64M, I64d, I64i. -/
import Derived.Test.YtfkcobdkgjhfaaaGreatDoorG10
import Derived.Test.YtfkcobdkgjhfaaaGreatDoorG29
import Derived.Test.YtfkcobdkgjhfaaaGreatDoorG30
import Derived.Test.YtfkcobdkgjhfaaaGreatDoorG35
import Derived.Test.YtfkcobdkgjhfaaaGreatDoorG39
import Derived.Test.YtfkcobdkgjhfaaaGreatDoorG45
import Derived.Test.YtfkcobdkgjhfaaaGreatDoorG65
/- Walks: errors.New, ErrDecimal.Err without an error, New of a Decimal, Int64 of a BigInt. -/
set_option linter.unusedVariables false
set_option linter.unusedSimpArgs false
namespace Go.Proofs.YtfkcobdkgjhfaaaGreatDoor
open Go.RowKit

theorem errNew_any (d) (w : World) : Calls Tryz.prog 72 #[.string d] w fun e w' => (∃ t v, e = .returned (.iface t v)) ∧ Below w.heap.size w w' := by
  have HB : Hid (Below w.heap.size w (w.alloc (.cells #[.string d] 162))) := below_al (Below.refl _ _) _
  go_enter Tryz.func72, Tryz.ntmps72
  go_wp2
  go_ret
  exact ⟨⟨_, _, rfl⟩, HB.out⟩
theorem edErr_nil (g : Nat) (f : Value) (w : World) (h0 : w.cell? ⟨g, 0, none⟩ = some .nilIface) (h1 : w.cell? ⟨g, 1, none⟩ = some (.pointer none)) :
    Calls Tryz.prog 83 #[.pointer (some ⟨g, 0, none⟩)] w fun e w' => e = .returned .nilIface ∧ w = w' := by
  go_enter Tryz.func83, Tryz.ntmps83
  go_wp2
  go_ret
  exact ⟨rfl, rfl⟩
theorem low64_any (A : Option Addr) (c a : Nat) (w : World) (hx : RdW w (.slice A (digs 18446744073709551616 a).length c) (digs 18446744073709551616 a)) :
    Calls Tryz.prog 125 #[.slice A (digs 18446744073709551616 a).length c] w fun e w' => e = .returned (.int .u64 ((a % 18446744073709551616 : Nat) : Int)) ∧ w = w' := by
  rcases Nat.eq_zero_or_pos a with h | h
  · subst h
    rw [digs_zero] at hx ⊢
    have e0 : Hid (((0 % 18446744073709551616 : Nat) : Int) = 0) := rfl
    clear hx
    go_enter Tryz.func125, Tryz.ntmps125
    go_wp2
    go_ret
    exact ⟨rfl, rfl⟩
  · obtain ⟨l, hl⟩ : ∃ l, (digs 18446744073709551616 a).length = l := ⟨_, rfl⟩
    have hl1 : 1 ≤ l := by rw [← hl]; exact List.length_pos_iff.2 (digs_ne_nil (by omega) h)
    rw [hl] at hx ⊢
    obtain ⟨g, o, rfl, -, hc⟩ := RdG.at_ (k := .u64) hx 0 (by omega)
    have e1 : (digs 18446744073709551616 a).getD 0 0 = a % 18446744073709551616 := by rw [digs_pos (by omega) h]; rfl
    rw [e1, Nat.add_zero] at hc
    have b0 : ((l : Int) == 0) = false := beq_eq_false_iff_ne.2 (by omega)
    have b1 : 0 < l := hl1
    generalize a % 18446744073709551616 = x at *
    clear hx e1 hl hl1 h
    go_enter Tryz.func125, Tryz.ntmps125
    go_wp2
    go_ret
    exact ⟨rfl, rfl⟩
theorem iInt64_any (g o c a : Nat) (A : Option Addr) (w : World) (h0 : w.cell? ⟨g, o, none⟩ = some (.bool false)) (h1 : w.cell? ⟨g, o + 1, none⟩ = some (.slice A (digs 18446744073709551616 a).length c)) (hx : RdW w (.slice A (digs 18446744073709551616 a).length c) (digs 18446744073709551616 a)) :
    Calls Tryz.prog 113 #[.pointer (some ⟨g, o, none⟩)] w fun e w' => e = .returned (.int .i64 (IntKind.i64.wrap (a : Int))) ∧ w = w' := by
  have Con := hide (low64_any A c a w hx)
  obtain ⟨x, hxx⟩ : ∃ x, x = a % 18446744073709551616 := ⟨_, rfl⟩
  rw [← hxx] at Con
  obtain ⟨y, hy⟩ : ∃ y, y = IntKind.i64.wrap (a : Int) := ⟨_, rfl⟩
  have e1 : IntKind.i64.wrap (x : Int) = y := by rw [hy, hxx]; simp [IntKind.wrap, IntKind.signed, IntKind.bits]
  have e2 : wrap64 (x : Int) = y := by rw [← e1, IntKind.wrap_i64]; unfold wrap64; omega
  rw [← hy]
  clear hxx hy
  go_enter Tryz.func113, Tryz.ntmps113
  go_wp2_with fail
  refine (Con.out).mono ?_
  rintro e w1 ⟨rfl, rfl⟩
  clear Con
  go_wp2
  go_ret
  exact ⟨rfl, rfl⟩
theorem bInt64_any (g o c a : Nat) (A : Option Addr) (w : World) (h0 : w.cell? ⟨g, o, none⟩ = some (.bool false)) (h1 : w.cell? ⟨g, o + 1, none⟩ = some (.slice A (digs 18446744073709551616 a).length c)) (hx : RdW w (.slice A (digs 18446744073709551616 a).length c) (digs 18446744073709551616 a)) :
    Calls Tryz.prog 84 #[.pointer (some ⟨g, o, none⟩)] w fun e w' => e = .returned (.int .i64 (IntKind.i64.wrap (a : Int))) ∧ w = w' := by
  have Con := hide (iInt64_any g o c a A w h0 h1 hx)
  obtain ⟨y, hy⟩ : ∃ y, y = IntKind.i64.wrap (a : Int) := ⟨_, rfl⟩
  rw [← hy] at Con ⊢
  clear hy h1 hx
  go_enter Tryz.func84, Tryz.ntmps84
  go_wp2_with fail
  refine (Con.out).mono ?_
  rintro e w1 ⟨rfl, rfl⟩
  clear Con
  go_wp2
  go_ret
  exact ⟨rfl, rfl⟩
/-- A new Decimal of an int64. -/
def NewDP (w : World) (x : Int) (e : Ending) (w' : World) : Prop :=
  ∃ g A c, e = .returned (.pointer (some ⟨g, 0, none⟩)) ∧ w.heap.size ≤ g ∧ Own w' w.heap.size (.slice A (digs 18446744073709551616 x.natAbs).length c) (digs 18446744073709551616 x.natAbs) ∧ Blk w' g 71 (decC 0 (decide (x < 0)) 0 false (.slice A (digs 18446744073709551616 x.natAbs).length c) false) ∧ Below w.heap.size w w'
theorem newD_any (x : Int) (w : World) (hx0 : -9223372036854775808 ≤ x) (hx1 : x < 9223372036854775808) :
    Calls Tryz.prog 112 #[.int .i64 x, .int .i32 0] w (NewDP w x) := by
  obtain ⟨W, hW⟩ : ∃ W, W = w.alloc (.cells (decC 0 false 0 false (.slice none 0 0) false) 71) := ⟨_, rfl⟩
  obtain ⟨g, hg⟩ : ∃ g, g = w.heap.size := ⟨_, rfl⟩
  have hb : Below w.heap.size w W := by rw [hW]; exact below_al (Below.refl _ _) _
  have hB : Blk W g 71 (decC 0 false 0 false (.slice none 0 0) false) := by rw [hW, hg]; exact Blk.new w _ _
  have Con := hide (setFinite_any w.heap.size g 0 false 0 false (.slice none 0 0) false 0 x 0 W hB (Own.nil _ _).room hb.size hx0 hx1)
  have HB := hide (And.intro hb (show w.heap.size ≤ g by omega))
  clear hb hB hx0 hx1
  unfold decC at hW
  go_enter Tryz.func112, Tryz.ntmps112
  go_wp2_with fail
  rw [← hW, ← hg]
  clear hW hg
  refine (Con.out).mono ?_
  rintro e w1 ⟨rfl, A, c, h1, h2, h3, h4⟩
  have HF : Hid (NewDP w x (.returned (.pointer (some ⟨g, 0, none⟩))) w1) := ⟨g, A, c, rfl, HB.out.2, h1, h3, (Fr.step (Fr.of_below HB.out.1 (fun k => w.heap.size ≤ k)) h4 (fun i _ hi => by
    rcases hi with hi | hi
    · rw [hi]; exact HB.out.2
    · cases hi)).below (Nat.le_refl _) (fun _ h => h)⟩
  clear h1 h2 h3 h4 Con HB
  go_wp2
  go_ret
  exact HF.out
theorem dMax_any (w : World) : Calls Tryz.prog 81 #[] w (NewDP w 9223372036854775807) := by
  have Con := hide (newD_any 9223372036854775807 w (by decide) (by decide))
  go_enter Tryz.func81, Tryz.ntmps81
  go_wp2_with fail
  refine (Con.out).mono ?_
  rintro e w1 HI
  have HI2 := hide HI
  obtain ⟨g, A, c, rfl, -⟩ := HI
  clear Con
  go_wp2
  go_ret
  exact HI2.out
theorem dMin_any (w : World) : Calls Tryz.prog 82 #[] w (NewDP w (-9223372036854775808)) := by
  have Con := hide (newD_any (-9223372036854775808) w (by decide) (by decide))
  go_enter Tryz.func82, Tryz.ntmps82
  go_wp2_with fail
  refine (Con.out).mono ?_
  rintro e w1 HI
  have HI2 := hide HI
  obtain ⟨g, A, c, rfl, -⟩ := HI
  clear Con
  go_wp2
  go_ret
  exact HI2.out
end Go.Proofs.YtfkcobdkgjhfaaaGreatDoor

/- Plain: the numbers of Int64. No program in sight. -/
set_option linter.unusedVariables false
set_option linter.unusedSimpArgs false
namespace Go.Proofs.YtfkcobdkgjhfaaaGreatDoor
open Go.RowKit

/-- A signed magnitude. -/
def sgZ (n : Bool) (a : Nat) : Int := if n then -(a : Int) else a
/-- What an int64 holds of a number. -/
def sx (m : Int) : Int := IntKind.i64.wrap m
theorem sx_eq (m : Int) : sx m = (m + 9223372036854775808) % 18446744073709551616 - 9223372036854775808 := by
  unfold sx; rw [IntKind.wrap_i64]
theorem sx_w (m : Int) : wrap64 m = sx m := by rw [sx_eq]; unfold wrap64; omega
theorem sx_mul (m k : Int) : sx (sx m * k) = sx (m * k) := by
  rw [sx_eq, sx_eq, sx_eq]
  have h : ((m + 9223372036854775808) % 18446744073709551616 - 9223372036854775808) * k = m * k - 18446744073709551616 * ((m + 9223372036854775808) / 18446744073709551616 * k) := by
    have h1 := Int.emod_add_mul_ediv (m + 9223372036854775808) 18446744073709551616
    have h2 : (m + 9223372036854775808) % 18446744073709551616 - 9223372036854775808 = m - 18446744073709551616 * ((m + 9223372036854775808) / 18446744073709551616) := by omega
    rw [h2, Int.sub_mul, Int.mul_assoc]
  rw [h]
  generalize (m + 9223372036854775808) / 18446744073709551616 * k = z
  generalize m * k = y
  omega
theorem sx_add (m k : Int) : sx (sx m + k) = sx (m + k) := by
  rw [sx_eq, sx_eq, sx_eq]; omega
theorem sx_neg (m : Int) : sx (-(sx m)) = sx (-m) := by
  rw [sx_eq, sx_eq, sx_eq]; omega
theorem sx_id {m : Int} (h1 : -9223372036854775808 ≤ m) (h2 : m < 9223372036854775808) : sx m = m := by
  rw [sx_eq]; omega
theorem sx_in (m : Int) : -9223372036854775808 ≤ sx m ∧ sx m < 9223372036854775808 := by
  rw [sx_eq]; omega
theorem sx_fix {m : Int} : sx m = m ↔ -9223372036854775808 ≤ m ∧ m ≤ 9223372036854775807 := by
  constructor
  · intro h; have := sx_in m; omega
  · intro h; exact sx_id h.1 (by omega)
theorem sx_zero : sx 0 = 0 := sx_id (by decide) (by decide)
/-- The value of an integer part, as an int64. -/
def resZ (n : Bool) (r : Nat) : Int := if n then sx (-(sx (r : Int))) else sx (r : Int)
theorem resZ_eq (n : Bool) (r : Nat) : resZ n r = sx (sgZ n r) := by
  unfold resZ sgZ; cases n
  · rfl
  · exact sx_neg _
theorem ordV_int (n1 : Bool) (a : Nat) (n2 : Bool) (b : Nat) : ordV n1 a n2 b = if sgZ n1 a < sgZ n2 b then -1 else if sgZ n2 b < sgZ n1 a then 1 else 0 := by
  rw [ordV_eq]
  cases n1 <;> cases n2 <;> simp only [sumV, sgZ, sgnV, Bool.not_true, Bool.not_false, reduceIte, Bool.true_eq_false, Bool.false_eq_true]
  · by_cases h : b ≤ a
    · rw [if_pos h]
      simp only [reduceIte, Bool.false_eq_true]
      repeat' split
      all_goals omega
    · rw [if_neg h]
      simp only [reduceIte]
      repeat' split
      all_goals omega
  · repeat' split
    all_goals omega
  · repeat' split
    all_goals omega
  · by_cases h : b ≤ a
    · rw [if_pos h]
      simp only [reduceIte]
      repeat' split
      all_goals omega
    · rw [if_neg h]
      simp only [reduceIte, Bool.false_eq_true]
      repeat' split
      all_goals omega
theorem sgZ_abs (x : Int) : sgZ (decide (x < 0)) x.natAbs = x := by
  unfold sgZ
  by_cases h : x < 0
  · rw [decide_eq_true h]; simp; omega
  · rw [decide_eq_false h]; simp; omega
/-- Whether a decimal is an int64: its fraction is 0, and its whole part is one. -/
def fitZ (n : Bool) (q r : Nat) : Bool := decide (q = 0) && decide (sx (sgZ n r) = sgZ n r)
/-- Above all int64. -/
theorem ord_max (n : Bool) (r : Nat) : (0 < ordV n r false 9223372036854775807) ↔ 9223372036854775807 < sgZ n r := by
  rw [ordV_int]
  have e : sgZ false 9223372036854775807 = 9223372036854775807 := rfl
  rw [e]
  split
  · omega
  · split <;> omega
theorem ord_min (n : Bool) (r : Nat) : (ordV n r true 9223372036854775808 < 0) ↔ sgZ n r < -9223372036854775808 := by
  rw [ordV_int]
  have e : sgZ true 9223372036854775808 = -9223372036854775808 := rfl
  rw [e]
  split
  · omega
  · split <;> omega
/-- The reference's own answer: the int64 is the value again. -/
theorem same_int (n : Bool) (r : Nat) : (ordV (decide (sx (sgZ n r) < 0)) (sx (sgZ n r)).natAbs n r == 0) = decide (sx (sgZ n r) = sgZ n r) := by
  rw [ordV_int, sgZ_abs]
  by_cases h : sx (sgZ n r) = sgZ n r
  · rw [decide_eq_true h, h]; simp
  · rw [decide_eq_false h]
    rcases Int.lt_or_gt_of_ne h with h1 | h1
    · rw [if_pos h1]; rfl
    · rw [if_neg (by omega), if_pos h1]; rfl
end Go.Proofs.YtfkcobdkgjhfaaaGreatDoor

/- Walk: Decimal.Int64. -/
set_option linter.unusedVariables false
set_option linter.unusedSimpArgs false
namespace Go.Proofs.YtfkcobdkgjhfaaaGreatDoor
open Go.RowKit

/-- Behind Decimal.Int64. -/
def I64P (w : World) (n : Bool) (a : Nat) (e : Int) (e' : Ending) (w' : World) : Prop :=
  ∃ p q ep eq, ModN a e p ep q eq ∧ Below w.heap.size w w' ∧ ((fitZ n q (p * 10 ^ ep.natAbs) = true ∧ e' = .returned (.tuple #[.int .i64 (resZ n (p * 10 ^ ep.natAbs)), .nilIface])) ∨ (fitZ n q (p * 10 ^ ep.natAbs) = false ∧ ∃ t v, e' = .returned (.tuple #[.int .i64 0, .iface t v])))

set_option maxHeartbeats 2000000 in
set_option maxRecDepth 20000 in
theorem dInt64_any (gd : Nat) (n : Bool) (e : Int) (A : Option Addr) (c a : Nat) (w : World) (hd : Blk w gd 71 (decC 0 n e false (.slice A (digs 18446744073709551616 a).length c) false)) (hr : RdW w (.slice A (digs 18446744073709551616 a).length c) (digs 18446744073709551616 a))
    (hab : ∀ k, (Value.slice A (digs 18446744073709551616 a).length c).ownBlock = some k → k < w.heap.size) (hl : (digs 18446744073709551616 a).length ≤ 3) (hv : VarsD w w.heap.size) (he : -100 ≤ e ∧ e ≤ 100) :
    Calls Tryz.prog 45 #[.pointer (some ⟨gd, 0, none⟩)] w (I64P w n a e) := by
  obtain ⟨gi, hgi⟩ : ∃ g, g = w.heap.size := ⟨_, rfl⟩
  obtain ⟨gf, hgf⟩ : ∃ g, g = w.heap.size + 1 := ⟨_, rfl⟩
  obtain ⟨W0, hW0⟩ : ∃ W, W = (w.alloc (.cells #[.int .i8 0, .bool false, .int .i32 0, .bool false, .slice none 0 0, .bool false] 71)).alloc (.cells #[.int .i8 0, .bool false, .int .i32 0, .bool false, .slice none 0 0, .bool false] 71) := ⟨_, rfl⟩
  have hb0 : Below w.heap.size w W0 := by rw [hW0]; exact below_al (below_al (Below.refl _ _) _) _
  have hBi : Blk W0 gi 71 (decC 0 false 0 false (.slice none 0 0) false) := by rw [hW0, hgi]; exact (Blk.new w _ _).alloc _
  have hBf : Blk W0 gf 71 (decC 0 false 0 false (.slice none 0 0) false) := by
    rw [hW0, hgf]
    have := Blk.new (w.alloc (.cells #[.int .i8 0, .bool false, .int .i32 0, .bool false, .slice none 0 0, .bool false] 71)) 71 (decC 0 false 0 false (.slice none 0 0) false)
    unfold decC at this ⊢
    simpa using this
  have x0 : w.cell? ⟨gd, 0, none⟩ = some (.int .i8 0) := hd.cell 0
  have hgdl := hd.lt
  have Con1 := hide (modf_any gd gi gf n e A c a W0 (hd.below hb0) (RdG.below (k := .u64) hr hb0) hBi hBf ⟨by omega, by omega, by omega⟩ (fun k hk => ⟨by have := hab k hk; omega, by have := hab k hk; omega⟩) hl w.heap.size (hv.below hb0) ⟨by omega, by omega⟩ (by omega))
  have H0 := hide (And.intro hd (And.intro hl (And.intro hv (And.intro he hb0))))
  have HG : Hid (w.heap.size ≤ gi ∧ w.heap.size ≤ gf ∧ gi ≠ gf ∧ gd < w.heap.size) := ⟨by omega, by omega, by omega, hgdl⟩
  clear hd hr hab hl hv he hb0 hBi hBf hgdl
  go_enter Tryz.func45, Tryz.ntmps45
  go_upto_region 4 with fail
  rw [← hW0, ← hgf, ← hgi]
  clear hW0 hgf hgi x0
  go_wp2_with fail
  refine (Con1.out).mono ?_
  rintro e1 w1 ⟨rfl, p, q, ep, eq, P, Q, cp, cq, hN, hrp, hrq, hBp, hBq, hF, hkp⟩
  clear Con1
  have hbw : Below w.heap.size w w1 := (Fr.step (Fr.of_below H0.out.2.2.2.2 (fun k => w.heap.size ≤ k)) hF (fun i _ hi => by have hi : i = gi ∨ i = gf := hi; have := HG.out; omega)).below (Nat.le_refl _) (fun _ h => h)
  have Con2 := hide (dzero_any gf n eq Q _ cq w1 hBq)
  have hq0 : (digs 18446744073709551616 q).length = 0 ↔ q = 0 := digs_len_zero (by omega)
  have HP : Hid (DecAt w1 gi n ep P cp p) := ⟨hBp, hrp⟩
  have H1 := hide (And.intro hN (And.intro hbw (And.intro hkp hq0)))
  clear hN hbw hkp hq0 hrp hrq hBp hBq hF
  obtain ⟨lq, hlq⟩ : ∃ l, l = (digs 18446744073709551616 q).length := ⟨_, rfl⟩
  rw [← hlq] at Con2 H1
  clear hlq
  go_wp2_with fail
  refine (Con2.out).mono ?_
  rintro e2 w2 ⟨rfl, rfl⟩
  clear Con2
  obtain ⟨R, hR⟩ : ∃ R, R = p * 10 ^ ep.natAbs := ⟨_, rfl⟩
  have FinN : Hid (∀ W t v, Below w1.heap.size w1 W → fitZ n q R = false → I64P w n a e (.returned (.tuple #[.int .i64 0, .iface t v])) W) := fun W t v hW hf => ⟨p, q, ep, eq, H1.out.1, below_next H1.out.2.1 hW, .inr ⟨by rw [← hR]; exact hf, t, v, rfl⟩⟩
  have FinY : Hid (∀ W, Below w1.heap.size w1 W → fitZ n q R = true → I64P w n a e (.returned (.tuple #[.int .i64 (resZ n R), .nilIface])) W) := fun W hW hf => ⟨p, q, ep, eq, H1.out.1, below_next H1.out.2.1 hW, .inl ⟨by rw [← hR]; exact hf, by rw [← hR]⟩⟩
  have HR := hide hR
  clear hR
  by_cases hl0 : lq = 0
  · have d1 : decide (lq = 0) = true := decide_eq_true hl0
    have HQ : Hid (q = 0) := H1.out.2.2.2.1 hl0
    clear hl0
    obtain ⟨ge, hge⟩ : ∃ g, g = w1.heap.size := ⟨_, rfl⟩
    obtain ⟨W2, hW2⟩ : ∃ W, W = w1.alloc (.cells #[.nilIface, .pointer none, .int .u32 0] 138) := ⟨_, rfl⟩
    have hb2 : Below w1.heap.size w1 W2 := by rw [hW2]; exact below_al (Below.refl _ _) _
    have hBe : Blk W2 ge 138 #[.nilIface, .pointer none, .int .u32 0] := by rw [hW2, hge]; exact Blk.new w1 _ _
    have con3 := dMax_any W2
    unfold NewDP at con3
    have Con3 := hide con3
    have H2 := hide (And.intro hb2 hBe)
    clear con3 hb2 hBe
    go_wp2_with fail
    rw [← hW2, ← hge]
    clear hW2 hge
    refine (Con3.out).mono ?_
    rintro e3 w3 ⟨gm, Am, cm, rfl, hgm, hom, hBm, hb3⟩
    have hb13 := below_next H2.out.1 hb3
    have hle3 := H1.out.1.le
    have hex3 := H1.out.1.exps ⟨by have := H0.out.2.2.2.1; omega, by have := H0.out.2.2.2.1; omega⟩
    have hxp : ep ≤ 100 := by
      rcases H1.out.1 with ⟨_, _, h, _, _⟩ | ⟨_, h, _, _, _⟩
      · have := H0.out.2.2.2.1; omega
      · omega
    have hpl : (digs 18446744073709551616 p).length ≤ 3 := Nat.le_trans (digs_length_mono (by omega) hle3.1) H0.out.2.1
    have hgil := HP.out.blk.lt
    have hm3 : (digs 18446744073709551616 9223372036854775807).length ≤ 3 := digs_length_le (by omega) (by decide)
    have con4 := dcmp_any gi gm n false ep 0 0 P Am cp cm p 9223372036854775807 ep.natAbs 0 w3 (HP.out.below hb13) ⟨hBm, hom.rd⟩ (by have := H2.out.1.size; omega) hpl hm3 (fun k hk => Nat.lt_of_lt_of_le (H1.out.2.2.1 k hk) hb13.size) (fun k hk => (hom.lt hk).2) (by omega) (by omega) (.inr rfl) (by omega) (by omega) (by omega) (by omega) ((H0.out.2.2.1.l.below (below_next H1.out.2.1 hb13)).raise (below_next H1.out.2.1 hb13).size)
    unfold DcmpP at con4
    rw [Nat.pow_zero, Nat.mul_one, ← HR.out] at con4
    obtain ⟨c1, hc1⟩ : ∃ c, c = ordV n R false 9223372036854775807 := ⟨_, rfl⟩
    rw [← hc1] at con4
    have Con4 := hide con4
    have HC1 := hide hc1
    have H3 := hide (And.intro hb3 (And.intro hpl (And.intro hxp hex3)))
    clear con4 hc1 hgm hom hBm hb3 hb13 hle3 hex3 hxp hpl hgil hm3 Con3
    go_wp2_with fail
    refine (Con4.out).mono ?_
    rintro e4 w4 ⟨rfl, hb4⟩
    have hb24 := below_next H3.out.1 hb4
    have hb14 := below_next H2.out.1 hb24
    clear Con4
    by_cases h1 : 0 < c1
    · have hf : fitZ n q R = false := by
        unfold fitZ
        have h2 := (ord_max n R).1 (by rw [← HC1.out]; exact h1)
        rw [decide_eq_false (p := sx (sgZ n R) = sgZ n R) (fun h => by have := sx_fix.1 h; omega), Bool.and_false]
      have HF0 := hide (fun W t v hW => FinN.out W t v (below_next hb14 hW) hf)
      clear FinN FinY HC1 HP HR H0 H1 H2 H3 hb14 hb24 hb4 hf
      go_wp2_with fail
      refine (errNew_any _ _).mono ?_
      rintro e5 w5 ⟨⟨t, v, rfl⟩, hb5⟩
      have HF := hide (HF0.out w5 t v hb5)
      clear hb5 HF0
      go_wp2
      go_ret2
      exact HF.out
    · have con5 := dMin_any w4
      unfold NewDP at con5
      have Con5 := hide con5
      have H4 := hide hb24
      clear con5 hb14 hb24 hb4
      go_wp2_with fail
      refine (Con5.out).mono ?_
      rintro e5 w5 ⟨gm2, Am2, cm2, rfl, hgm, hom, hBm, hb5⟩
      have hb25 := below_next H4.out hb5
      have hb15 := below_next H2.out.1 hb25
      have hgil := (HP.out.below (below_next H2.out.1 H4.out)).blk.lt
      have hm3 : (digs 18446744073709551616 9223372036854775808).length ≤ 3 := digs_length_le (by omega) (by decide)
      have con6 := dcmp_any gi gm2 n true ep 0 0 P Am2 cp cm2 p 9223372036854775808 ep.natAbs 0 w5 (HP.out.below hb15) ⟨hBm, hom.rd⟩ (by omega) H3.out.2.1 hm3 (fun k hk => Nat.lt_of_lt_of_le (H1.out.2.2.1 k hk) hb15.size) (fun k hk => (hom.lt hk).2) (by have := H3.out.2.2.2; omega) (by omega) (.inr rfl) (by have := H3.out.2.2; omega) (by omega) (by omega) (by omega) ((H0.out.2.2.1.l.below (below_next H1.out.2.1 hb15)).raise (below_next H1.out.2.1 hb15).size)
      unfold DcmpP at con6
      rw [Nat.pow_zero, Nat.mul_one, ← HR.out] at con6
      obtain ⟨c2, hc2⟩ : ∃ c, c = ordV n R true 9223372036854775808 := ⟨_, rfl⟩
      rw [← hc2] at con6
      have Con6 := hide con6
      have HC2 := hide hc2
      have H5 := hide hb25
      clear con6 hc2 hgm hom hBm hb5 hb15 hb25 hgil hm3 Con5
      go_wp2_with fail
      refine (Con6.out).mono ?_
      rintro e6 w6 ⟨rfl, hb6⟩
      have hb26 := below_next H5.out hb6
      have hb16 := below_next H2.out.1 hb26
      clear Con6
      by_cases h2 : c2 < 0
      · have hf : fitZ n q R = false := by
          unfold fitZ
          have h3 := (ord_min n R).1 (by rw [← HC2.out]; exact h2)
          rw [decide_eq_false (p := sx (sgZ n R) = sgZ n R) (fun h => by have := sx_fix.1 h; omega), Bool.and_false]
        have HF0 := hide (fun W t v hW => FinN.out W t v (below_next hb16 hW) hf)
        clear FinN FinY HC1 HC2 HP HR H0 H1 H2 H3 H4 H5 hb16 hb26 hb6 hf
        go_wp2_with fail
        refine (errNew_any _ _).mono ?_
        rintro e7 w7 ⟨⟨t, v, rfl⟩, hb7⟩
        have HF := hide (HF0.out w7 t v hb7)
        clear hb7 HF0
        go_wp2
        go_ret2
        exact HF.out
      · have hf : fitZ n q R = true := by
          unfold fitZ
          rw [decide_eq_true HQ.out, decide_eq_true, Bool.and_self]
          refine sx_fix.2 ⟨?_, ?_⟩
          · rcases Int.lt_or_le (sgZ n R) (-9223372036854775808) with h | h
            · exact absurd ((ord_min n R).2 h) (by rw [← HC2.out]; omega)
            · exact h
          · rcases Int.lt_or_le 9223372036854775807 (sgZ n R) with h | h
            · exact absurd ((ord_max n R).2 h) (by rw [← HC1.out]; omega)
            · exact h
        have HF0 := hide (FinY.out w6 hb16 hf)
        have hBe6 := H2.out.2.below hb26
        have y0 : w6.cell? ⟨ge, 0, none⟩ = some .nilIface := hBe6.cell 0
        have y1 : w6.cell? ⟨ge, 1, none⟩ = some (.pointer none) := hBe6.cell 1
        have hP6 := HP.out.below hb16
        have z0 : w6.cell? ⟨gi, 2, none⟩ = some (.int .i32 ep) := hP6.blk.cell 2
        have x1 : w6.cell? ⟨gd, 1, none⟩ = some (.bool n) := (H0.out.1.below (below_next H1.out.2.1 hb16)).cell 1
        have ConE := hide (edErr_nil ge (.int .u32 0) w6 y0 y1)
        have ConI := hide (bInt64_any gi 3 cp p P w6 (hP6.blk.cell 3) (hP6.blk.cell 4) hP6.rd)
        obtain ⟨m, hm⟩ : ∃ m : Nat, ep = (m : Int) := ⟨ep.natAbs, by have := H3.out.2.2.2.1.1; omega⟩
        have hm100 : m ≤ 100 := by have := H3.out.2.2.1; omega
        have HRm : Hid (R = p * 10 ^ m) := by rw [HR.out, hm]; rfl
        clear FinN FinY HC1 HC2 HP HR H0 H1 H2 H3 H4 H5 hb16 hb26 hb6 hf hBe6 hP6 y0 y1 HQ
        subst hm
        go_wp2_with fail
        refine (ConE.out).mono ?_
        rintro e7 w7 ⟨rfl, rfl⟩
        clear ConE
        go_wp2_with fail
        refine (ConI.out).mono ?_
        rintro e8 w8 ⟨rfl, rfl⟩
        clear ConI
        have H8 : Hid (sx (p : Int) = IntKind.i64.wrap (p : Int)) := rfl
        obtain ⟨v0, hv0⟩ : ∃ v, v = IntKind.i64.wrap (p : Int) := ⟨_, rfl⟩
        rw [← hv0] at H8 ⊢
        clear hv0
        go_wp2
        go_loopw [8, 9] (fun vv vi wr => ∃ (j : Nat) (x : Int), j ≤ m ∧ vv = .int .i64 x ∧ vi = .int .i32 (j : Int) ∧ Hid (x = sx ((p * 10 ^ j : Nat) : Int)) ∧ wr = w6) (fun _ vi _ => m - (intOf vi).toNat)
        case atStart => exact ⟨0, v0, Nat.zero_le _, rfl, by go_num, by rw [Nat.pow_zero, Nat.mul_one]; exact H8.out.symm, rfl⟩
        case round =>
          obtain ⟨j, x, hj, rfl, rfl, HX, rfl⟩ := hrel
          by_cases hjm : j < m
          · obtain ⟨y, hy⟩ : ∃ y, y = sx (x * 10) := ⟨_, rfl⟩
            have HY : Hid (y = sx ((p * 10 ^ (j + 1) : Nat) : Int)) := by
              rw [hy, HX.out, sx_mul, Nat.pow_succ, ← Nat.mul_assoc]
              rw [Int.natCast_mul (p * 10 ^ j) 10]; rfl
            have k1 : IntKind.i64.wrap (x * 10) = y := hy.symm
            have k2 : wrap64 (x * 10) = y := by rw [sx_w]; exact hy.symm
            clear hy HX H8
            go_wp2
            go_roundw
            case rel => exact ⟨j + 1, y, by omega, rfl, by go_num, HY, trivial⟩
            case measure => simp [intOf]; omega
          · obtain rfl : j = m := by omega
            have HX2 : Hid (x = sx (R : Int)) := HX.out.trans (congrArg (fun (r : Nat) => sx (r : Int)) HRm.out.symm)
            clear HX H8 HRm
            cases n with
            | false =>
              have HZ : Hid (I64P w false a e (.returned (.tuple #[.int .i64 x, .nilIface])) wr) := by
                have h := HF0.out
                unfold resZ at h
                rw [HX2.out]; exact h
              clear HX2 HF0
              go_wp2
              go_ret2
              exact HZ.out
            | true =>
              obtain ⟨y, hy⟩ : ∃ y, y = sx (-x) := ⟨_, rfl⟩
              have k1 : IntKind.i64.wrap (-x) = y := hy.symm
              have k2 : wrap64 (-x) = y := by rw [sx_w]; exact hy.symm
              have HZ : Hid (I64P w true a e (.returned (.tuple #[.int .i64 y, .nilIface])) wr) := by
                have h := HF0.out
                unfold resZ at h
                rw [hy, HX2.out]; exact h
              clear HX2 HF0 hy
              go_wp2
              go_ret2
              exact HZ.out
  · have d1 : decide (lq = 0) = false := decide_eq_false hl0
    have HQ : Hid (fitZ n q R = false) := by
      unfold fitZ
      rw [decide_eq_false (fun h => hl0 (H1.out.2.2.2.2 h))]; rfl
    clear hl0 FinY H1 HP HR
    go_wp2_with fail
    refine (errNew_any _ _).mono ?_
    rintro e3 w3 ⟨⟨t, v, rfl⟩, hb3⟩
    have HF := hide (FinN.out w3 t v hb3 HQ.out)
    clear hb3 FinN
    go_wp2
    go_ret2
    exact HF.out
end Go.Proofs.YtfkcobdkgjhfaaaGreatDoor

/- Walk: the thin package's Int64. -/
set_option linter.unusedVariables false
set_option linter.unusedSimpArgs false
namespace Go.Proofs.YtfkcobdkgjhfaaaGreatDoor
open Go.RowKit

/-- Behind the thin Int64. -/
def II64P (w : World) (n : Bool) (a : Nat) (e : Int) (e' : Ending) (w' : World) : Prop :=
  ∃ p q ep eq, ModN a e p ep q eq ∧ Below w.heap.size w w' ∧ ((fitZ n q (p * 10 ^ ep.natAbs) = true ∧ e' = .returned (.tuple #[.int .i64 (resZ n (p * 10 ^ ep.natAbs)), .bool true])) ∨ (fitZ n q (p * 10 ^ ep.natAbs) = false ∧ e' = .returned (.tuple #[.int .i64 0, .bool false])))

set_option maxHeartbeats 1000000 in
set_option maxRecDepth 20000 in
theorem implI64_any (n : Bool) (A : Option Addr) (c a : Nat) (e : Int) (w : World) (hv : RdW w (.slice A (digs 18446744073709551616 a).length c) (digs 18446744073709551616 a)) (hl : (digs 18446744073709551616 a).length ≤ 3) (he : -100 ≤ e ∧ e ≤ 100) (hvars : VarsD w w.heap.size) :
    Calls Tryz.prog 25 #[.agg #[.int .i64 0, .bool n, .slice A (digs 18446744073709551616 a).length c, .int .i64 e]] w (II64P w n a e) := by
  obtain ⟨g1, hg1⟩ : ∃ g, g = w.heap.size := ⟨_, rfl⟩
  obtain ⟨W0, hW0⟩ : ∃ W, W = w.alloc (.cells #[.int .i64 0, .bool n, .slice A (digs 18446744073709551616 a).length c, .int .i64 e] 24) := ⟨_, rfl⟩
  have hb0 : Below w.heap.size w W0 := by rw [hW0]; exact below_al (Below.refl _ _) _
  have hB1 : Blk W0 g1 24 #[.int .i64 0, .bool n, .slice A (digs 18446744073709551616 a).length c, .int .i64 e] := by rw [hW0, hg1]; exact Blk.new w _ _
  obtain ⟨x0, x1, x2, x3⟩ := hB1.dec4
  have con1 := made_fin 0 n (.slice A (digs 18446744073709551616 a).length c) (digs 18446744073709551616 a) e W0 (RdG.below (k := .u64) hv hb0) (by omega) (by decide) (by decide) (by decide) (by omega) (by omega)
  rw [trimz_of_canon (canon_digs (by omega) _)] at con1
  have Con1 := hide con1
  have H := hide (And.intro hb0 (And.intro hl (And.intro he hvars)))
  clear hv hl he con1 hb0 hB1 hvars
  go_enter Tryz.func25, Tryz.ntmps25
  rw [hW0] at x0 x1 x2 x3
  go_wp2_with fail
  rw [← hW0]
  clear hW0 hg1 x0 x1 x2 x3
  refine (Con1.out).mono ?_
  rintro e1 w1 ⟨gx, A1, c1, rfl, hgx, ho, hB, hbel⟩
  have hb1 := below_next H.out.1 hbel
  have Con3 := hide (dInt64_any gx n e A1 c1 a w1 hB ho.rd (fun k hk => (ho.lt hk).2) H.out.2.1 ((H.out.2.2.2.below hb1).raise hb1.size) H.out.2.2.1)
  have H1 := hide hb1
  clear hgx ho hB hbel hb1 Con1 H
  go_wp2_with fail
  refine (Con3.out).mono ?_
  rintro e2 w2 ⟨p, q, ep, eq, hN, hb2, hc⟩
  clear Con3
  rcases hc with ⟨hf, rfl⟩ | ⟨hf, t, v, rfl⟩
  · obtain ⟨r, hr⟩ : ∃ r, r = resZ n (p * 10 ^ ep.natAbs) := ⟨_, rfl⟩
    have HF : Hid (∀ W, Below w2.heap.size w2 W → II64P w n a e (.returned (.tuple #[.int .i64 r, .bool true])) W) := fun W hW => ⟨p, q, ep, eq, hN, below_next (below_next H1.out hb2) hW, .inl ⟨hf, by rw [hr]⟩⟩
    rw [← hr]
    clear hr hf hN hb2 H1
    go_wp2_with fail
    go_region
    all_goals go_wp2
    all_goals go_ret2
    all_goals exact HF.out _ (Below.mk rfl rfl rfl (Nat.le_refl _) (fun _ _ => rfl))
  · have HF : Hid (∀ W, Below w2.heap.size w2 W → II64P w n a e (.returned (.tuple #[.int .i64 0, .bool false])) W) := fun W hW => ⟨p, q, ep, eq, hN, below_next (below_next H1.out hb2) hW, .inr ⟨hf, rfl⟩⟩
    clear hf hN hb2 H1
    go_wp2_with fail
    go_region
    all_goals go_wp2
    all_goals go_ret2
    all_goals exact HF.out _ (Below.mk rfl rfl rfl (Nat.le_refl _) (fun _ _ => rfl))
end Go.Proofs.YtfkcobdkgjhfaaaGreatDoor
