/- Parts of the proofs: SpOrd2, OrdMath, DecCmp1. -/
import Derived.Deep.RegionWith
import Derived.BigRegion
import Derived.Deep.RegionHeld3
import Derived.Test.YtfkcobdkgjhfaaaGreatDoorG19
import Derived.Test.YtfkcobdkgjhfaaaGreatDoorG30
import Derived.Test.YtfkcobdkgjhfaaaGreatDoorG34
/- Walk: the reference's Order. -/
set_option linter.unusedVariables false
set_option linter.unusedSimpArgs false
namespace Go.Proofs.YtfkcobdkgjhfaaaGreatDoor
open Go.RowKit

/-- The order of two values with magnitudes at one exponent. -/
def ordV (n1 : Bool) (a : Nat) (n2 : Bool) (b : Nat) : Int := sgnI (sumV n1 a (!n2) b).1 (digs 65536 (sumV n1 a (!n2) b).2).length

set_option maxHeartbeats 2000000 in
theorem sorder_any (n1 n2 : Bool) (B1 B2 : Option Addr) (l1 l2 c1 c2 a b sa sb : Nat) (m x1 x2 : Int) (w : World) (hx1 : x1 = m + (sa : Int)) (hx2 : x2 = m + (sb : Int)) (hr1 : RdG .i64 w (.slice B1 l1 c1) (digs 65536 a)) (hr2 : RdG .i64 w (.slice B2 l2 c2) (digs 65536 b)) (h1 : l1 ≤ 120) (h2 : l2 ≤ 120) (hz : sa = 0 ∨ sb = 0) (hsa : sa ≤ 200) (hsb : sb ≤ 200) (hm : -1000 ≤ m) (hm2 : m ≤ 1000) :
    Calls Tryz.prog 15 #[.agg #[.bool n1, .slice B1 l1 c1, .int .i64 x1], .agg #[.bool n2, .slice B2 l2 c2, .int .i64 x2]] w (fun e w' => e = .returned (.int .i64 (ordV n1 (a * 10 ^ sa) n2 (b * 10 ^ sb))) ∧ Below w.heap.size w w') := by
  obtain ⟨g1, hg1⟩ : ∃ g, g = w.heap.size := ⟨_, rfl⟩
  obtain ⟨g2, hg2⟩ : ∃ g, g = w.heap.size + 1 := ⟨_, rfl⟩
  obtain ⟨W0, hW0⟩ : ∃ W0, W0 = (w.alloc (.cells #[.bool n1, .slice B1 l1 c1, .int .i64 x1] 29)).alloc (.cells #[.bool n2, .slice B2 l2 c2, .int .i64 x2] 29) := ⟨_, rfl⟩
  have hb : Below w.heap.size w W0 := by rw [hW0]; exact below_al (below_al (Below.refl _ _) _) _
  have hB1 : Blk W0 g1 29 #[.bool n1, .slice B1 l1 c1, .int .i64 x1] := by rw [hW0, hg1]; exact (Blk.new w _ _).alloc _
  have hB2 : Blk W0 g2 29 #[.bool n2, .slice B2 l2 c2, .int .i64 x2] := by
    rw [hW0, hg2]
    have := Blk.new (w.alloc (.cells #[.bool n1, .slice B1 l1 c1, .int .i64 x1] 29)) 29 #[.bool n2, .slice B2 l2 c2, .int .i64 x2]
    simpa using this
  have HS : Hid (Below w.heap.size w W0 ∧ Blk W0 g1 29 #[.bool n1, .slice B1 l1 c1, .int .i64 x1] ∧ Blk W0 g2 29 #[.bool n2, .slice B2 l2 c2, .int .i64 x2]) := ⟨hb, hB1, hB2⟩
  obtain ⟨q, hq⟩ : ∃ q, q = ordV n1 (a * 10 ^ sa) n2 (b * 10 ^ sb) := ⟨_, rfl⟩
  obtain ⟨p1, p2, hp⟩ : ∃ p1 p2, (p1, p2) = sumV n1 (a * 10 ^ sa) (!n2) (b * 10 ^ sb) := ⟨_, _, rfl⟩
  have ConO : Hid (∀ W, Calls Tryz.prog 37 #[.agg #[.bool n2, .slice B2 l2 c2, .int .i64 x2]] W fun e w' => e = .returned (.agg #[.bool (!n2), .slice B2 l2 c2, .int .i64 x2]) ∧ Below W.heap.size W w') := fun W => opposite_any n2 B2 l2 c2 x2 W
  have ConS : Hid (∀ W, Below w.heap.size w W → Calls Tryz.prog 13 #[.agg #[.bool n1, .slice B1 l1 c1, .int .i64 x1], .agg #[.bool (!n2), .slice B2 l2 c2, .int .i64 x2]] W (fun e w' => ∃ (R : Option Addr) (l c : Nat), e = .returned (.agg #[.bool p1, .slice R l c, .int .i64 m]) ∧ q = sgnI p1 l ∧ Below W.heap.size W w')) := fun W hW => by
    refine (sum_core n1 (!n2) B1 B2 l1 l2 c1 c2 a b sa sb m x1 x2 W hx1 hx2 (hr1.below hW) (hr2.below hW) h1 h2 hz hsa hsb hm hm2).mono ?_
    rintro e w' ⟨R, c, rfl, _, hb⟩
    rw [hq]
    unfold ordV
    rw [← hp]
    exact ⟨R, _, c, rfl, rfl, hb⟩
  have HQ := hide hq
  rw [← hq]
  clear hb hB1 hB2 hr1 hr2 hx1 hx2 h1 h2 hz hsa hsb hm hm2 hq hp
  go_enter Tryz.func15, Tryz.ntmps15
  go_wp2_with fail
  rw [← hW0, ← hg2, ← hg1]
  clear hW0 hg1 hg2
  go_region_held3 (fun W => (W.cell? ⟨g1, 0, none⟩ = some (.bool n1) ∧ W.cell? ⟨g1, 1, none⟩ = some (.slice B1 l1 c1) ∧ W.cell? ⟨g1, 2, none⟩ = some (.int .i64 x1)) ∧ (W.cell? ⟨g2, 0, none⟩ = some (.bool n2) ∧ W.cell? ⟨g2, 1, none⟩ = some (.slice B2 l2 c2) ∧ W.cell? ⟨g2, 2, none⟩ = some (.int .i64 x2))) (first | exact ⟨HS.out.2.1.val3, HS.out.2.2.val3⟩ | go_keep)
    (first
      | (go_at_call 37; go_loud (refine (ConO.out _).mono ?_; rintro e4 w4 ⟨rfl, hb4⟩; have HS := hide (And.intro (below_next HS.out.1 (Below.mk hb4.os hb4.tape hb4.output hb4.size hb4.block)) (And.intro (HS.out.2.1.below (Below.mk hb4.os hb4.tape hb4.output hb4.size hb4.block)) (HS.out.2.2.below (Below.mk hb4.os hb4.tape hb4.output hb4.size hb4.block)))); clear hb4))
      | (go_at_call 13; go_loud (refine (ConS.out _ ?_).mono ?_; exact Below.mk HS.out.1.os HS.out.1.tape HS.out.1.output HS.out.1.size HS.out.1.block; rintro e5 w5 ⟨R5, l5, d5, rfl, hq5, hb5⟩; have HS := hide (And.intro (below_next HS.out.1 (Below.mk hb5.os hb5.tape hb5.output hb5.size hb5.block)) (And.intro (HS.out.2.1.below (Below.mk hb5.os hb5.tape hb5.output hb5.size hb5.block)) (HS.out.2.2.below (Below.mk hb5.os hb5.tape hb5.output hb5.size hb5.block)))); have H5 := hide hq5; clear hb5 hq5))
      | (go_at_call 14; go_loud (refine (ssign_any p1 R5 l5 d5 m _).mono ?_; rw [← H5.out]; rintro e6 w6 ⟨rfl, hb6⟩; have HS := hide (And.intro (below_next HS.out.1 (Below.mk hb6.os hb6.tape hb6.output hb6.size hb6.block)) (And.intro (HS.out.2.1.below (Below.mk hb6.os hb6.tape hb6.output hb6.size hb6.block)) (HS.out.2.2.below (Below.mk hb6.os hb6.tape hb6.output hb6.size hb6.block)))); clear hb6)))
  all_goals go_wp2
  all_goals go_ret
  all_goals exact ⟨rfl, HS.out.1⟩
end Go.Proofs.YtfkcobdkgjhfaaaGreatDoor

/- Plain: the order of two values by their signs, their figures and their magnitudes. -/
set_option linter.unusedVariables false
set_option linter.unusedSimpArgs false
namespace Go.Proofs.YtfkcobdkgjhfaaaGreatDoor
open Go.RowKit

theorem digs_len_zero {b n : Nat} (hb : 1 < b) : (digs b n).length = 0 ↔ n = 0 := by
  constructor
  · intro h
    have := lt_of_digs_length (b := b) (k := 0) (n := n) hb (by omega)
    simpa using this
  · rintro rfl
    simp [digs]

/-- The sign of a magnitude. -/
def sgnV (n : Bool) (a : Nat) : Int := if a = 0 then 0 else if n then -1 else 1

theorem sgnV_len (b : Nat) (hb : 1 < b) (n : Bool) (a : Nat) : sgnI n (digs b a).length = sgnV n a := by
  unfold sgnI sgnV; simp only [digs_len_zero hb]
theorem sgnV_scale (n : Bool) (a s : Nat) : sgnV n (a * 10 ^ s) = sgnV n a := by
  have : 0 < 10 ^ s := Nat.pow_pos (by omega)
  unfold sgnV; simp [Nat.mul_eq_zero]

theorem ordV_eq (n1 : Bool) (a : Nat) (n2 : Bool) (b : Nat) : ordV n1 a n2 b = sgnV (sumV n1 a (!n2) b).1 (sumV n1 a (!n2) b).2 := sgnV_len _ (by omega) _ _
theorem ordV_same (n : Bool) (a b : Nat) : ordV n a n b = if n then -cmpI a b else cmpI a b := by
  rw [ordV_eq]
  rcases Nat.lt_trichotomy a b with h | h | h
  · have h1 : ¬ b ≤ a := by omega
    have h2 : ¬ b - a = 0 := by omega
    rw [cmpI_lt h]
    cases n <;> simp [sumV, sgnV, h1, h2]
  · rw [cmpI_eq h]
    subst h
    cases n <;> simp [sumV, sgnV]
  · have h1 : b ≤ a := by omega
    have h2 : ¬ a - b = 0 := by omega
    rw [cmpI_gt h]
    cases n <;> simp [sumV, sgnV, h1, h2]
theorem sumV_zero {n1 : Bool} {a : Nat} (n2 : Bool) : sgnV (sumV n1 a n2 0).1 (sumV n1 a n2 0).2 = sgnV n1 a := by
  unfold sumV; by_cases h : n1 = n2 <;> simp [h]
theorem sumV_zero_left {n1 : Bool} {b : Nat} (n2 : Bool) : sgnV (sumV n1 0 n2 b).1 (sumV n1 0 n2 b).2 = sgnV n2 b := by
  unfold sumV
  by_cases h : n1 = n2
  · simp [h]
  · by_cases hb : b = 0
    · simp [h, hb, sgnV]
    · have : ¬ b ≤ 0 := by omega
      simp [h, hb]
theorem sgnV_flip (n : Bool) (b : Nat) : sgnV (!n) b = - sgnV n b := by
  unfold sgnV; cases n <;> by_cases hb : b = 0 <;> simp [hb]
theorem sgnV_zero {n : Bool} {a : Nat} (h : sgnV n a = 0) : a = 0 := by
  unfold sgnV at h; by_cases ha : a = 0
  · exact ha
  · cases n <;> simp [ha] at h
theorem sgnV_one {n : Bool} {a : Nat} (h : sgnV n a = 1) : n = false ∧ 0 < a := by
  unfold sgnV at h; by_cases ha : a = 0
  · simp [ha] at h
  · cases n
    · exact ⟨rfl, by omega⟩
    · simp [ha] at h
theorem sgnV_neg1 {n : Bool} {a : Nat} (h : sgnV n a = -1) : n = true ∧ 0 < a := by
  unfold sgnV at h; by_cases ha : a = 0
  · simp [ha] at h
  · cases n
    · simp [ha] at h
    · exact ⟨rfl, by omega⟩
theorem sgnV_cases (n : Bool) (a : Nat) : sgnV n a = 0 ∨ sgnV n a = 1 ∨ sgnV n a = -1 := by
  unfold sgnV; by_cases ha : a = 0 <;> cases n <;> simp [ha]

theorem sgn_opp {a b : Nat} (ha : 0 < a) : sgnV (sumV false a (!true) b).1 (sumV false a (!true) b).2 = 1 := by
  have : ¬ (a + b = 0) := by omega
  unfold sumV sgnV; simp; omega
theorem sgn_opp' {a b : Nat} (ha : 0 < a) : sgnV (sumV true a (!false) b).1 (sumV true a (!false) b).2 = -1 := by
  have : ¬ (a + b = 0) := by omega
  unfold sumV sgnV; simp; omega

theorem ordV_lt {n1 n2 : Bool} {a b : Nat} (h : sgnV n1 a < sgnV n2 b) : ordV n1 a n2 b = -1 := by
  rw [ordV_eq]
  rcases sgnV_cases n1 a with h1 | h1 | h1 <;> rcases sgnV_cases n2 b with h2 | h2 | h2 <;> rw [h1, h2] at h <;> try (exfalso; omega)
  · rw [sgnV_zero h1, sumV_zero_left, sgnV_flip, h2]
  · obtain ⟨rfl, _⟩ := sgnV_neg1 h1
    rw [sgnV_zero h2, sumV_zero, h1]
  · obtain ⟨rfl, ha⟩ := sgnV_neg1 h1
    obtain ⟨rfl, _⟩ := sgnV_one h2
    exact sgn_opp' ha
theorem ordV_gt {n1 n2 : Bool} {a b : Nat} (h : sgnV n2 b < sgnV n1 a) : ordV n1 a n2 b = 1 := by
  rw [ordV_eq]
  rcases sgnV_cases n1 a with h1 | h1 | h1 <;> rcases sgnV_cases n2 b with h2 | h2 | h2 <;> rw [h1, h2] at h <;> try (exfalso; omega)
  · rw [sgnV_zero h1, sumV_zero_left, sgnV_flip, h2]; rfl
  · rw [sgnV_zero h2, sumV_zero, h1]
  · obtain ⟨rfl, ha⟩ := sgnV_one h1
    obtain ⟨rfl, _⟩ := sgnV_neg1 h2
    exact sgn_opp ha
theorem ordV_zero {n1 n2 : Bool} {a b : Nat} (h : sgnV n1 a = 0) (h2 : sgnV n2 b = 0) : ordV n1 a n2 b = 0 := by
  rw [ordV_eq, sgnV_zero h2, sumV_zero, h]

theorem cmpI_scale (a b s : Nat) : cmpI (a * 10 ^ s) (b * 10 ^ s) = cmpI a b := by
  have h : 0 < 10 ^ s := Nat.pow_pos (by omega)
  unfold cmpI
  simp only [Nat.mul_lt_mul_right h]

theorem figs_lt {a b sa sb : Nat} (hb : 0 < b) (h : figs a + sa < figs b + sb) : a * 10 ^ sa < b * 10 ^ sb := by
  have h1 : a < 10 ^ figs a := by
    unfold figs
    by_cases h0 : a = 0
    · simp [h0]
    · rw [if_neg h0]; exact lt_of_digs_length (by omega) (Nat.le_refl _)
  have h2 : 10 ^ (figs b - 1) ≤ b := by
    unfold figs
    rw [if_neg (by omega)]
    apply Nat.not_lt.1
    intro hlt
    have := digs_length_le (b := 10) (by omega) hlt
    have : (digs 10 b).length ≠ 0 := by rw [Ne, digs_len_zero (by omega)]; omega
    omega
  have hf : 1 ≤ figs b := by
    unfold figs; rw [if_neg (by omega)]
    have : (digs 10 b).length ≠ 0 := by rw [Ne, digs_len_zero (by omega)]; omega
    omega
  have hp : 0 < 10 ^ sa := Nat.pow_pos (by omega)
  calc a * 10 ^ sa < 10 ^ figs a * 10 ^ sa := Nat.mul_lt_mul_of_pos_right h1 hp
    _ = 10 ^ (figs a + sa) := by rw [Nat.pow_add]
    _ ≤ 10 ^ (figs b - 1 + sb) := Nat.pow_le_pow_right (by omega) (by omega)
    _ = 10 ^ (figs b - 1) * 10 ^ sb := by rw [Nat.pow_add]
    _ ≤ b * 10 ^ sb := Nat.mul_le_mul_right _ h2

end Go.Proofs.YtfkcobdkgjhfaaaGreatDoor

/- Walks: Decimal.Cmp where the signs or the figures tell, and at one exponent. -/
set_option linter.unusedVariables false
set_option linter.unusedSimpArgs false
namespace Go.Proofs.YtfkcobdkgjhfaaaGreatDoor
open Go.RowKit

/-- A finite decimal in a block of its own. -/
structure DecAt (w : World) (g : Nat) (n : Bool) (e : Int) (A : Option Addr) (c a : Nat) : Prop where
  blk : Blk w g 71 (decC 0 n e false (.slice A (digs 18446744073709551616 a).length c) false)
  rd : RdW w (.slice A (digs 18446744073709551616 a).length c) (digs 18446744073709551616 a)
theorem DecAt.below {w w' : World} {g : Nat} {n : Bool} {e : Int} {A : Option Addr} {c a : Nat} (h : DecAt w g n e A c a) (hb : Below w.heap.size w w') : DecAt w' g n e A c a := ⟨h.blk.below hb, RdG.below (k := .u64) h.rd hb⟩
theorem DecAt.drew {w : World} {g : Nat} {n : Bool} {e : Int} {A : Option Addr} {c a : Nat} (h : DecAt w g n e A c a) : DecAt w.drew g n e A c a := ⟨h.blk, h.rd⟩

def DcmpP (w : World) (v : Int) (e : Ending) (w' : World) : Prop := e = .returned (.int .i64 v) ∧ Below w.heap.size w w'

theorem figs_small {a : Nat} (h : (digs 18446744073709551616 a).length ≤ 3) : figs a ≤ 60 := by
  unfold figs
  split
  · omega
  · exact digs_length_le (by omega) (Nat.lt_of_lt_of_le (lt_of_digs_length (by omega) h) (by decide))

set_option maxRecDepth 20000 in
theorem dcmp_sgn (ga gb : Nat) (na nb : Bool) (ea eb : Int) (A B : Option Addr) (ca cb a b : Nat) (r : Int) (w : World) (ha : DecAt w ga na ea A ca a) (hb : DecAt w gb nb eb B cb b)
    (h : sgnV na a < sgnV nb b ∧ r = -1 ∨ sgnV nb b < sgnV na a ∧ r = 1 ∨ (sgnV na a = 0 ∧ sgnV nb b = 0) ∧ r = 0) :
    Calls Tryz.prog 80 #[.pointer (some ⟨ga, 0, none⟩), .pointer (some ⟨gb, 0, none⟩)] w (DcmpP w r) := by
  have c1 := dsign_any ga na ea A _ ca w ha.blk
  have c2 := dsign_any gb nb eb B _ cb w hb.blk
  rw [sgnV_len _ (by omega)] at c1 c2
  generalize sgnV na a = p at *
  generalize sgnV nb b = q at *
  have Con1 := hide c1
  have Con2 := hide c2
  clear c1 c2 ha hb
  rcases h with ⟨h1, rfl⟩ | ⟨h1, rfl⟩ | ⟨⟨rfl, rfl⟩, rfl⟩
  · go_enter Tryz.func80, Tryz.ntmps80
    go_wp2_with fail
    refine (Con1.out).mono ?_
    rintro e w1 ⟨rfl, rfl⟩
    go_wp2_with fail
    refine (Con2.out).mono ?_
    rintro e w1 ⟨rfl, rfl⟩
    go_wp2
    go_ret
    exact ⟨rfl, Below.refl _ _⟩
  · have h2 : ¬ p < q := by omega
    go_enter Tryz.func80, Tryz.ntmps80
    go_wp2_with fail
    refine (Con1.out).mono ?_
    rintro e w1 ⟨rfl, rfl⟩
    go_wp2_with fail
    refine (Con2.out).mono ?_
    rintro e w1 ⟨rfl, rfl⟩
    go_wp2
    go_ret
    exact ⟨rfl, Below.refl _ _⟩
  · go_enter Tryz.func80, Tryz.ntmps80
    go_wp2_with fail
    refine (Con1.out).mono ?_
    rintro e w1 ⟨rfl, rfl⟩
    go_wp2_with fail
    refine (Con2.out).mono ?_
    rintro e w1 ⟨rfl, rfl⟩
    go_wp2
    go_ret
    exact ⟨rfl, Below.refl _ _⟩

set_option maxHeartbeats 1000000 in
set_option maxRecDepth 20000 in
theorem dcmp_eq (ga gb : Nat) (n : Bool) (ex : Int) (A B : Option Addr) (ca cb a b : Nat) (w : World) (ha : DecAt w ga n ex A ca a) (hb : DecAt w gb n ex B cb b) (hne : ga ≠ gb) (ha0 : 0 < a) (hb0 : 0 < b) (hla : (digs 18446744073709551616 a).length ≤ 3) (hlb : (digs 18446744073709551616 b).length ≤ 3) :
    Calls Tryz.prog 80 #[.pointer (some ⟨ga, 0, none⟩), .pointer (some ⟨gb, 0, none⟩)] w (DcmpP w (if n then -cmpI a b else cmpI a b)) := by
  have c1 := dsign_any ga n ex A _ ca w ha.blk
  have c2 := dsign_any gb n ex B _ cb w hb.blk
  rw [sgnV_len _ (by omega)] at c1 c2
  have hsa : sgnV n a = if n then -1 else 1 := by unfold sgnV; rw [if_neg (by omega)]
  have hsb : sgnV n b = if n then -1 else 1 := by unfold sgnV; rw [if_neg (by omega)]
  rw [hsa] at c1
  rw [hsb] at c2
  have Con1 := hide c1
  have Con2 := hide c2
  have Con3 : Hid (∀ W, Below w.heap.size w W → Calls Tryz.prog 111 #[.pointer (some ⟨ga, 3, none⟩), .pointer (some ⟨gb, 3, none⟩)] W (CmpP W a b)) := fun W hW => by
    have h1 := ha.below hW
    have h2 := hb.below hW
    exact bigcmp_any ga 3 gb 3 _ _ _ _ A B ca cb a b W (BigAt.dec h1.blk h1.rd) (BigAt.dec h2.blk h2.rd) (by intro e; injection e with e1 e2; exact hne e1) (by omega) (by omega)
  have a0 : w.cell? ⟨ga, 0, none⟩ = some (.int .i8 0) := ha.blk.cell 0
  have b0 : w.cell? ⟨gb, 0, none⟩ = some (.int .i8 0) := hb.blk.cell 0
  have a2 : w.cell? ⟨ga, 2, none⟩ = some (.int .i32 ex) := ha.blk.cell 2
  have b2 : w.cell? ⟨gb, 2, none⟩ = some (.int .i32 ex) := hb.blk.cell 2
  have hq : (ex == ex) = true := by simp
  obtain ⟨k, hk⟩ : ∃ k, k = cmpI a b := ⟨_, rfl⟩
  obtain ⟨kn, hkn⟩ : ∃ kn, kn = -k := ⟨_, rfl⟩
  have hw : IntKind.i64.wrap (-k) = kn := by
    rw [hkn, hk]; unfold cmpI; split <;> (try split) <;> rfl
  unfold CmpP at Con3
  rw [← hk] at Con3 ⊢
  rw [← hkn]
  clear c1 c2 ha hb hsa hsb hk hkn ha0 hb0 hla hlb
  cases n
  · go_enter Tryz.func80, Tryz.ntmps80
    go_wp2_with fail
    refine (Con1.out).mono ?_
    rintro e w1 ⟨rfl, rfl⟩
    go_wp2_with fail
    refine (Con2.out).mono ?_
    rintro e w1 ⟨rfl, rfl⟩
    go_wp2_with fail
    go_quiet (fail)
    go_wp2_with fail
    go_region_held3 (fun _ => True) (trivial)
      ((go_at_call 111; go_loud (refine (Con3.out _ ?_).mono ?_; exact Below.mk rfl rfl rfl (Nat.le_refl _) (fun _ _ => rfl); rintro e4 w4 ⟨rfl, hb4⟩; have HB := hide (Below.mk hb4.os hb4.tape hb4.output hb4.size hb4.block); clear hb4)))
    all_goals go_wp2
    all_goals go_ret
    all_goals exact ⟨rfl, Below.mk HB.out.os HB.out.tape HB.out.output HB.out.size HB.out.block⟩
  · go_enter Tryz.func80, Tryz.ntmps80
    go_wp2_with fail
    refine (Con1.out).mono ?_
    rintro e w1 ⟨rfl, rfl⟩
    go_wp2_with fail
    refine (Con2.out).mono ?_
    rintro e w1 ⟨rfl, rfl⟩
    go_wp2_with fail
    go_quiet (fail)
    go_wp2_with fail
    go_region_held3 (fun _ => True) (trivial)
      ((go_at_call 111; go_loud (refine (Con3.out _ ?_).mono ?_; exact Below.mk rfl rfl rfl (Nat.le_refl _) (fun _ _ => rfl); rintro e4 w4 ⟨rfl, hb4⟩; have HB := hide (Below.mk hb4.os hb4.tape hb4.output hb4.size hb4.block); clear hb4)))
    all_goals go_wp2
    all_goals go_ret
    all_goals exact ⟨rfl, Below.mk HB.out.os HB.out.tape HB.out.output HB.out.size HB.out.block⟩
end Go.Proofs.YtfkcobdkgjhfaaaGreatDoor
