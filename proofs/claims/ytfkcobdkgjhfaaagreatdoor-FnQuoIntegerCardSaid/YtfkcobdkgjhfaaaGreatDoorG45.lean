/- Parts of the proofs: SpOrd. -/
import Derived.Deep.RegionWith
import Derived.BigRegion
import Derived.Deep.RegionHeld3
import Derived.Test.YtfkcobdkgjhfaaaGreatDoorG24
import Derived.Test.YtfkcobdkgjhfaaaGreatDoorG31
import Derived.Test.YtfkcobdkgjhfaaaGreatDoorG37
import Derived.Test.YtfkcobdkgjhfaaaGreatDoorG43
import Derived.Test.YtfkcobdkgjhfaaaGreatDoorG44
/- Walks: the reference's widened, Sum, Order. -/
set_option linter.unusedVariables false
set_option linter.unusedSimpArgs false
namespace Go.Proofs.YtfkcobdkgjhfaaaGreatDoor
open Go.RowKit

theorem wide10 {s : Nat} (hs : s ≤ 200) : (digs 65536 (10 ^ s)).length ≤ 64 :=
  digs_length_le (by omega) (Nat.lt_of_le_of_lt (Nat.pow_le_pow_right (by omega) hs) (by decide))
theorem wide_prod {a s : Nat} (ha : (digs 65536 a).length ≤ 120) (hs : s ≤ 200) : (digs 65536 (a * 10 ^ s)).length ≤ 184 := by
  have h1 := lt_of_digs_length (b := 65536) (by omega) ha
  have h2 := lt_of_digs_length (b := 65536) (by omega) (wide10 hs)
  refine digs_length_le (by omega) ?_
  exact Nat.lt_of_lt_of_eq (Nat.mul_lt_mul'' h1 h2) (by rw [← Nat.pow_add])

set_option maxHeartbeats 1000000 in
theorem widened_any (neg : Bool) (B : Option Addr) (l c a s : Nat) (m : Int) (w : World) (hr : RdG .i64 w (.slice B l c) (digs 65536 a)) (hl : l ≤ 120) (hs : s ≤ 200) (hm : -1000 ≤ m) (hm2 : m ≤ 1000) :
    Calls Tryz.prog 33 #[.agg #[.bool neg, .slice B l c, .int .i64 (m + (s : Int))], .int .i64 m] w (NewI w (digs 65536 (a * 10 ^ s))) := by
  have hlen := RdG.len hr
  obtain ⟨W1, hW1⟩ : ∃ W1, W1 = w.alloc (.cells #[.bool neg, .slice B l c, .int .i64 (m + (s : Int))] 29) := ⟨_, rfl⟩
  obtain ⟨g1, hg1⟩ : ∃ g, g = w.heap.size := ⟨_, rfl⟩
  have hb1 : Below w.heap.size w W1 := by rw [hW1]; exact below_al (Below.refl _ _) _
  have hB1 : Blk W1 g1 29 #[.bool neg, .slice B l c, .int .i64 (m + (s : Int))] := by rw [hW1, hg1]; exact Blk.new w _ _
  have HH := hide (And.intro hb1 (And.intro hB1 (And.intro hr hlen)))
  have h10 := wide10 hs
  have Con1 : Hid (∀ W, Calls Tryz.prog 60 #[.int .i64 10, .int .i64 (s : Int)] W (NewI W (digs 65536 (10 ^ s)))) := fun W => spower_any 10 s W (by omega) (by omega) (by omega) (by omega)
  have Con2 : Hid (∀ (R : Option Addr) (cr : Nat) W, RdG .i64 W (.slice B l c) (digs 65536 a) → RdG .i64 W (.slice R (digs 65536 (10 ^ s)).length cr) (digs 65536 (10 ^ s)) → Calls Tryz.prog 59 #[.slice B l c, .slice R (digs 65536 (10 ^ s)).length cr] W (NewI W (digs 65536 (a * 10 ^ s)))) := fun R cr W h1 h2 => by
    have := smul_any B R l _ c cr (digs 65536 a) (digs 65536 (10 ^ s)) W h1 h2 hlen rfl (by omega) (by omega) (dig_digs (by omega) _) (dig_digs (by omega) _)
    rwa [dval_digs (by omega), dval_digs (by omega)] at this
  have hw1 : IntKind.i64.wrap (m + (s : Int) - m) = (s : Int) := by rw [IntKind.wrap_i64]; omega
  have hw2 : IntKind.i64.wrap (s : Int) = (s : Int) := by rw [IntKind.wrap_i64]; omega
  have e1 : m + (s : Int) - m = (s : Int) := by omega
  clear hb1 hB1 hr hlen h10
  go_enter Tryz.func33, Tryz.ntmps33
  go_wp2_with fail
  rw [← hW1, ← hg1]
  clear hW1 hg1
  have k1 := HH.out.2.1.val3
  go_region_held3 (fun W => W.cell? ⟨g1, 0, none⟩ = some (.bool neg) ∧ W.cell? ⟨g1, 1, none⟩ = some (.slice B l c) ∧ W.cell? ⟨g1, 2, none⟩ = some (.int .i64 (m + (s : Int)))) (first | exact k1 | exact k2 | exact k3 | go_keep)
    (first
      | (go_at_call 60; go_loud (refine (Con1.out _).mono ?_; rintro e2 w2 ⟨R2, c2, rfl, ho2, hb2⟩; have hb2' : Below W1.heap.size W1 w2 := ⟨hb2.os, hb2.tape, hb2.output, hb2.size, hb2.block⟩; have k2 := (HH.out.2.1.below hb2').val3; have H2 := hide (And.intro (below_next HH.out.1 hb2') (And.intro ho2.rd (HH.out.2.1.below hb2'))); clear ho2 hb2 hb2'))
      | (go_at_call 59; go_loud (refine (Con2.out R2 c2 w2 (HH.out.2.2.1.below H2.out.1) H2.out.2.1).mono ?_; rintro e3 w3 ⟨R3, c3, rfl, ho3, hb3⟩; have k3 : w3.cell? ⟨g1, 0, none⟩ = some (.bool neg) ∧ w3.cell? ⟨g1, 1, none⟩ = some (.slice B l c) ∧ w3.cell? ⟨g1, 2, none⟩ = some (.int .i64 (m + (s : Int))) := (H2.out.2.2.below hb3).val3; have H3 : Hid (NewI w (digs 65536 (a * 10 ^ s)) (.returned (.slice R3 (digs 65536 (a * 10 ^ s)).length c3)) w3) := ⟨R3, c3, rfl, OwnG.lower ho3 H2.out.1.size, below_next H2.out.1 hb3⟩; clear ho3 hb3)))
  all_goals generalize (digs 65536 (a * 10 ^ s)).length = q at *
  all_goals go_wp2
  all_goals go_ret
  all_goals exact H3.out

/-- The sum of two values with one exponent: its sign and its magnitude. -/
def sumV (n1 : Bool) (a : Nat) (n2 : Bool) (b : Nat) : Bool × Nat := if n1 = n2 then (n1, a + b) else if b ≤ a then (n1, a - b) else (n2, b - a)

theorem sum_result (n : Nat) (tmps : Array Value) (h : tmps.getD 4 undef = .pointer (some ⟨n, 0, none⟩)) (W : World) (a b c : Value) (c0 : W.cell? ⟨n, 0, none⟩ = some a) (c1 : W.cell? ⟨n, 1, none⟩ = some b) (c2 : W.cell? ⟨n, 2, none⟩ = some c) :
    (results Tryz.f13 tmps).run Tryz.prog W = .ok (.agg #[a, b, c]) W := by
  have h2 : tmps[4]?.getD undef = .pointer (some ⟨n, 0, none⟩) := by simpa using h
  simp [results, Tryz.results13, go_sem, h2, c0, c1, c2]

/-- Behind Sum. -/
def SumP (w : World) (p : Bool × Nat) (m : Int) (e : Ending) (w' : World) : Prop :=
  ∃ (R : Option Addr) (c : Nat), e = .returned (.agg #[.bool p.1, .slice R (digs 65536 p.2).length c, .int .i64 m]) ∧ RdG .i64 w' (.slice R (digs 65536 p.2).length c) (digs 65536 p.2) ∧ Below w.heap.size w w'

/-- What Sum holds. -/
structure SumL (w : World) (g1 g2 g3 : Nat) (n1 n2 : Bool) (B1 B2 : Option Addr) (l1 l2 c1 c2 a b : Nat) (e1 e2 : Int) (v0 v1 v2 : Value) (W : World) : Prop where
  bel : Below w.heap.size w W
  b1 : Blk W g1 29 #[.bool n1, .slice B1 l1 c1, .int .i64 e1]
  b2 : Blk W g2 29 #[.bool n2, .slice B2 l2 c2, .int .i64 e2]
  b3 : Blk W g3 29 #[v0, v1, v2]
  r1 : RdG .i64 W (.slice B1 l1 c1) (digs 65536 a)
  r2 : RdG .i64 W (.slice B2 l2 c2) (digs 65536 b)
  ne1 : g1 ≠ g3
  ne2 : g2 ≠ g3
  ge : w.heap.size ≤ g3
theorem SumL.below {w : World} {g1 g2 g3 : Nat} {n1 n2 : Bool} {B1 B2 : Option Addr} {l1 l2 c1 c2 a b : Nat} {e1 e2 : Int} {v0 v1 v2 : Value} {W W' : World} (h : SumL w g1 g2 g3 n1 n2 B1 B2 l1 l2 c1 c2 a b e1 e2 v0 v1 v2 W) (hb : Below W.heap.size W W') : SumL w g1 g2 g3 n1 n2 B1 B2 l1 l2 c1 c2 a b e1 e2 v0 v1 v2 W' :=
  ⟨below_next h.bel hb, h.b1.below hb, h.b2.below hb, h.b3.below hb, h.r1.below hb, h.r2.below hb, h.ne1, h.ne2, h.ge⟩
theorem SumL.next {w : World} {g1 g2 g3 : Nat} {n1 n2 : Bool} {B1 B2 : Option Addr} {l1 l2 c1 c2 a b : Nat} {e1 e2 : Int} {v0 v1 v2 : Value} {W W' : World} (h : SumL w g1 g2 g3 n1 n2 B1 B2 l1 l2 c1 c2 a b e1 e2 v0 v1 v2 W) (h1 : W'.os = W.os) (h2 : W'.tape = W.tape) (h3 : W'.output = W.output) (h4 : W.heap.size ≤ W'.heap.size) (h5 : ∀ k, k < W.heap.size → W'.heap[k]? = W.heap[k]?) : SumL w g1 g2 g3 n1 n2 B1 B2 l1 l2 c1 c2 a b e1 e2 v0 v1 v2 W' :=
  h.below ⟨h1, h2, h3, h4, h5⟩
theorem SumL.cells {w : World} {g1 g2 g3 : Nat} {n1 n2 : Bool} {B1 B2 : Option Addr} {l1 l2 c1 c2 a b : Nat} {e1 e2 : Int} {v0 v1 v2 : Value} {W : World} (h : SumL w g1 g2 g3 n1 n2 B1 B2 l1 l2 c1 c2 a b e1 e2 v0 v1 v2 W) :
    (W.cell? ⟨g1, 0, none⟩ = some (.bool n1) ∧ W.cell? ⟨g1, 1, none⟩ = some (.slice B1 l1 c1) ∧ W.cell? ⟨g1, 2, none⟩ = some (.int .i64 e1)) ∧ (W.cell? ⟨g2, 0, none⟩ = some (.bool n2) ∧ W.cell? ⟨g2, 1, none⟩ = some (.slice B2 l2 c2) ∧ W.cell? ⟨g2, 2, none⟩ = some (.int .i64 e2)) := ⟨h.b1.val3, h.b2.val3⟩

theorem SumL.fin {w : World} {g1 g2 g3 : Nat} {n1 n2 : Bool} {B1 B2 : Option Addr} {l1 l2 c1 c2 a b : Nat} {e1 e2 : Int} {v0 v1 v2 : Value} {W : World} (h : SumL w g1 g2 g3 n1 n2 B1 B2 l1 l2 c1 c2 a b e1 e2 v0 v1 v2 W) (p : Bool × Nat) (m : Int) (R : Option Addr) (c : Nat) (ho : OwnI W w.heap.size (.slice R (digs 65536 p.2).length c) (digs 65536 p.2)) :
    Hid (SumP w p m (.returned (.agg #[.bool p.1, .slice R (digs 65536 p.2).length c, .int .i64 m])) (((W.setCell ⟨g3, 0, none⟩ (.bool p.1)).setCell ⟨g3, 1, none⟩ (.slice R (digs 65536 p.2).length c)).setCell ⟨g3, 2, none⟩ (.int .i64 m)) ∧
      Blk (((W.setCell ⟨g3, 0, none⟩ (.bool p.1)).setCell ⟨g3, 1, none⟩ (.slice R (digs 65536 p.2).length c)).setCell ⟨g3, 2, none⟩ (.int .i64 m)) g3 29 #[.bool p.1, .slice R (digs 65536 p.2).length c, .int .i64 m] ∧
      Blk (((W.setCell ⟨g3, 0, none⟩ (.bool p.1)).setCell ⟨g3, 1, none⟩ (.slice R (digs 65536 p.2).length c)).setCell ⟨g3, 2, none⟩ (.int .i64 m)) g1 29 #[.bool n1, .slice B1 l1 c1, .int .i64 e1] ∧ Blk (((W.setCell ⟨g3, 0, none⟩ (.bool p.1)).setCell ⟨g3, 1, none⟩ (.slice R (digs 65536 p.2).length c)).setCell ⟨g3, 2, none⟩ (.int .i64 m)) g2 29 #[.bool n2, .slice B2 l2 c2, .int .i64 e2]) := by
  have hB := h.b3
  have hge := h.ge
  refine ⟨⟨R, c, rfl, ?_, ?_⟩, ((hB.set 0 _).set 1 _).set 2 _, ((h.b1.far h.ne1 _).far h.ne1 _).far h.ne1 _, ((h.b2.far h.ne2 _).far h.ne2 _).far h.ne2 _⟩
  · have fr := (((Fr.refl W (fun k => k = g3)).setCell (p := ⟨g3, 0, none⟩) (fun _ => rfl) (.bool p.1)).setCell (p := ⟨g3, 1, none⟩) (fun _ => rfl) (.slice R (digs 65536 p.2).length c)).setCell (p := ⟨g3, 2, none⟩) (fun _ => rfl) (.int .i64 m)
    exact OwnG.rd (ho.fr fr (ho.ne_blk hB (by decide)))
  · refine ⟨h.bel.os, h.bel.tape, h.bel.output, by simpa [World.setCell] using h.bel.size, fun k hk => ?_⟩
    have e : k ≠ g3 := by omega
    rw [Below.heap_setCell _ _ _ _ e, Below.heap_setCell _ _ _ _ e, Below.heap_setCell _ _ _ _ e]
    exact h.bel.block k hk
set_option maxHeartbeats 4000000 in
set_option maxRecDepth 20000 in
theorem sum_core (n1 n2 : Bool) (B1 B2 : Option Addr) (l1 l2 c1 c2 a b sa sb : Nat) (m x1 x2 : Int) (w : World) (hx1 : x1 = m + (sa : Int)) (hx2 : x2 = m + (sb : Int)) (hr1 : RdG .i64 w (.slice B1 l1 c1) (digs 65536 a)) (hr2 : RdG .i64 w (.slice B2 l2 c2) (digs 65536 b)) (h1 : l1 ≤ 120) (h2 : l2 ≤ 120) (hz : sa = 0 ∨ sb = 0) (hsa : sa ≤ 200) (hsb : sb ≤ 200) (hm : -1000 ≤ m) (hm2 : m ≤ 1000) :
    Calls Tryz.prog 13 #[.agg #[.bool n1, .slice B1 l1 c1, .int .i64 x1], .agg #[.bool n2, .slice B2 l2 c2, .int .i64 x2]] w (SumP w (sumV n1 (a * 10 ^ sa) n2 (b * 10 ^ sb)) m) := by
  obtain ⟨g1, hg1⟩ : ∃ g, g = w.heap.size := ⟨_, rfl⟩
  obtain ⟨g2, hg2⟩ : ∃ g, g = w.heap.size + 1 := ⟨_, rfl⟩
  obtain ⟨g3, hg3⟩ : ∃ g, g = w.heap.size + 1 + 1 := ⟨_, rfl⟩
  obtain ⟨W0, hW0⟩ : ∃ W0, W0 = ((w.alloc (.cells #[.bool n1, .slice B1 l1 c1, .int .i64 x1] 29)).alloc (.cells #[.bool n2, .slice B2 l2 c2, .int .i64 x2] 29)).alloc (.cells #[.bool false, .slice none 0 0, .int .i64 0] 29) := ⟨_, rfl⟩
  have hL : SumL w g1 g2 g3 n1 n2 B1 B2 l1 l2 c1 c2 a b x1 x2 (.bool false) (.slice none 0 0) (.int .i64 0) W0 := by
    have hb : Below w.heap.size w W0 := by rw [hW0]; exact below_al (below_al (below_al (Below.refl _ _) _) _) _
    refine ⟨hb, ?_, ?_, ?_, hr1.below hb, hr2.below hb, by omega, by omega, by omega⟩
    · rw [hW0, hg1]; exact ((Blk.new w _ _).alloc _).alloc _
    · rw [hW0, hg2]
      have := Blk.new (w.alloc (.cells #[.bool n1, .slice B1 l1 c1, .int .i64 x1] 29)) 29 #[.bool n2, .slice B2 l2 c2, .int .i64 x2]
      exact Blk.alloc (by simpa using this) _
    · rw [hW0, hg3]
      have := Blk.new ((w.alloc (.cells #[.bool n1, .slice B1 l1 c1, .int .i64 x1] 29)).alloc (.cells #[.bool n2, .slice B2 l2 c2, .int .i64 x2] 29)) 29 #[.bool false, .slice none 0 0, .int .i64 0]
      simpa using this
  have hif : (if x2 < x1 then x2 else x1) = m := by split <;> omega
  have hmn : min x1 x2 = m := by omega
  have HS := hide hL
  have ConW1 : Hid (∀ W, RdG .i64 W (.slice B1 l1 c1) (digs 65536 a) → Calls Tryz.prog 33 #[.agg #[.bool n1, .slice B1 l1 c1, .int .i64 x1], .int .i64 m] W (NewI W (digs 65536 (a * 10 ^ sa)))) := fun W h => by rw [hx1]; exact widened_any n1 B1 l1 c1 a sa m W h h1 hsa hm hm2
  have ConW2 : Hid (∀ W, RdG .i64 W (.slice B2 l2 c2) (digs 65536 b) → Calls Tryz.prog 33 #[.agg #[.bool n2, .slice B2 l2 c2, .int .i64 x2], .int .i64 m] W (NewI W (digs 65536 (b * 10 ^ sb)))) := fun W h => by rw [hx2]; exact widened_any n2 B2 l2 c2 b sb m W h h2 hsb hm hm2
  have hA := wide_prod (a := a) (s := sa) (by have := RdG.len hr1; omega) hsa
  have hB := wide_prod (a := b) (s := sb) (by have := RdG.len hr2; omega) hsb
  have HZ := hide (And.intro hA hB)
  clear hL hr1 hr2 hA hB hz hx1 hx2
  go_enter Tryz.func13, Tryz.ntmps13
  go_wp2_with fail
  rw [← hW0, ← hg3, ← hg2, ← hg1]
  clear hW0 hg1 hg2 hg3
  go_region_held3 (fun W => (W.cell? ⟨g1, 0, none⟩ = some (.bool n1) ∧ W.cell? ⟨g1, 1, none⟩ = some (.slice B1 l1 c1) ∧ W.cell? ⟨g1, 2, none⟩ = some (.int .i64 x1)) ∧ (W.cell? ⟨g2, 0, none⟩ = some (.bool n2) ∧ W.cell? ⟨g2, 1, none⟩ = some (.slice B2 l2 c2) ∧ W.cell? ⟨g2, 2, none⟩ = some (.int .i64 x2))) (first | exact HS.out.cells | go_keep)
    (first
      | (go_at_call_of 33 (Value.slice B1 l1 c1); go_loud (refine (ConW1.out _ ?_).mono ?_; exact HS.out.r1; rintro e4 w4 ⟨R4, d4, rfl, ho4, hb4⟩; have HS := hide (HS.out.next hb4.os hb4.tape hb4.output hb4.size hb4.block); have H4 : Hid (∀ W, Below w4.heap.size w4 W → RdG .i64 W (.slice R4 (digs 65536 (a * 10 ^ sa)).length d4) (digs 65536 (a * 10 ^ sa))) := fun W hW => (OwnG.rd ho4).below hW; clear ho4 hb4))
      | (go_at_call_of 33 (Value.slice B2 l2 c2); go_loud (refine (ConW2.out _ ?_).mono ?_; exact HS.out.r2; rintro e5 w5 ⟨R5, d5, rfl, ho5, hb5⟩; have HS := hide (HS.out.next hb5.os hb5.tape hb5.output hb5.size hb5.block); have H5 : Hid (∀ W, Below w5.heap.size w5 W → RdG .i64 W (.slice R5 (digs 65536 (b * 10 ^ sb)).length d5) (digs 65536 (b * 10 ^ sb))) := fun W hW => (OwnG.rd ho5).below hW; have H4 : Hid (∀ W, Below w5.heap.size w5 W → RdG .i64 W (.slice R4 (digs 65536 (a * 10 ^ sa)).length d4) (digs 65536 (a * 10 ^ sa))) := hide (fun W hW => H4.out W (below_next hb5 hW)); clear ho5 hb5)))
  have hla := HZ.out.1
  have hlb := HZ.out.2
  have CA : Hid (∀ W, Below w5.heap.size w5 W → Calls Tryz.prog 34 #[.slice R4 (digs 65536 (a * 10 ^ sa)).length d4, .slice R5 (digs 65536 (b * 10 ^ sb)).length d5] W (NewI W (digs 65536 (a * 10 ^ sa + b * 10 ^ sb)))) := fun W hW => by
    have := sadd_any R4 R5 _ _ d4 d5 _ _ W (H4.out W hW) (H5.out W hW) rfl rfl (by omega) (by omega) (dig_digs (by omega) _) (dig_digs (by omega) _)
    rwa [dval_digs (by omega), dval_digs (by omega)] at this
  have CC : Hid (∀ W, Below w5.heap.size w5 W → Calls Tryz.prog 35 #[.slice R4 (digs 65536 (a * 10 ^ sa)).length d4, .slice R5 (digs 65536 (b * 10 ^ sb)).length d5] W (fun e W' => e = .returned (.int .i64 (cmpI (a * 10 ^ sa) (b * 10 ^ sb))) ∧ Below W.heap.size W W')) := fun W hW =>
    cmp_any R4 R5 d4 d5 _ _ W (H4.out W hW) (H5.out W hW) (by omega) (by omega)
  have CS : b * 10 ^ sb ≤ a * 10 ^ sa → Hid (∀ W, Below w5.heap.size w5 W → Calls Tryz.prog 36 #[.slice R4 (digs 65536 (a * 10 ^ sa)).length d4, .slice R5 (digs 65536 (b * 10 ^ sb)).length d5] W (NewI W (digs 65536 (a * 10 ^ sa - b * 10 ^ sb)))) := fun h W hW =>
    ssub_any R4 R5 _ _ d4 d5 _ _ W (H4.out W hW) (H5.out W hW) rfl rfl (by omega) (by omega) h
  have CT : a * 10 ^ sa ≤ b * 10 ^ sb → Hid (∀ W, Below w5.heap.size w5 W → Calls Tryz.prog 36 #[.slice R5 (digs 65536 (b * 10 ^ sb)).length d5, .slice R4 (digs 65536 (a * 10 ^ sa)).length d4] W (NewI W (digs 65536 (b * 10 ^ sb - a * 10 ^ sa)))) := fun h W hW =>
    ssub_any R5 R4 _ _ d5 d4 _ _ W (H5.out W hW) (H4.out W hW) rfl rfl (by omega) (by omega) h
  cases n1 <;> cases n2
  case false.false =>
    have HV : Hid (sumV false (a * 10 ^ sa) false (b * 10 ^ sb) = (false, a * 10 ^ sa + b * 10 ^ sb)) := by simp [hide, Hid, sumV]
    go_wp2_with fail
    go_region_held3 (fun W => W.cell? ⟨g1, 0, none⟩ = some (.bool false)) (first | exact HF.out.2.2.1.val3.1 | exact HS.out.cells.1.1 | go_keep)
      ((go_at_call 34; go_loud (refine (CA.out _ ?_).mono ?_; exact Below.mk rfl rfl rfl (Nat.le_refl _) (fun _ _ => rfl); rintro e6 w6 ⟨R6, d6, rfl, ho6, hb6⟩; have ho7 := OwnG.lower (base' := w.heap.size) ho6 HS.out.bel.size; have HS := hide (HS.out.next hb6.os hb6.tape hb6.output hb6.size hb6.block); have HF := HS.out.fin (false, a * 10 ^ sa + b * 10 ^ sb) m R6 d6 ho7; have ⟨k0, k1, k2⟩ := HS.out.b3.val3; have l0 := HS.out.b3.frozen 0; have l1 := HS.out.b3.frozen 1; have l2 := HS.out.b3.frozen 2; have ne1 := HS.out.ne1; have ne2 := HS.out.ne2; clear ho6 ho7 hb6)))
    go_wp2
    rw [HV.out]
    exact bodyPost_ret (sum_result g3 _ rfl _ (.bool false) (.slice R6 (digs 65536 (a * 10 ^ sa + b * 10 ^ sb)).length d6) (.int .i64 m) (HF.out.2.1.cell 0) (HF.out.2.1.cell 1) (HF.out.2.1.cell 2)) rfl HF.out.1
  case true.true =>
    have HV : Hid (sumV true (a * 10 ^ sa) true (b * 10 ^ sb) = (true, a * 10 ^ sa + b * 10 ^ sb)) := by simp [hide, Hid, sumV]
    go_wp2_with fail
    go_region_held3 (fun W => W.cell? ⟨g1, 0, none⟩ = some (.bool true)) (first | exact HF.out.2.2.1.val3.1 | exact HS.out.cells.1.1 | go_keep)
      ((go_at_call 34; go_loud (refine (CA.out _ ?_).mono ?_; exact Below.mk rfl rfl rfl (Nat.le_refl _) (fun _ _ => rfl); rintro e6 w6 ⟨R6, d6, rfl, ho6, hb6⟩; have ho7 := OwnG.lower (base' := w.heap.size) ho6 HS.out.bel.size; have HS := hide (HS.out.next hb6.os hb6.tape hb6.output hb6.size hb6.block); have HF := HS.out.fin (true, a * 10 ^ sa + b * 10 ^ sb) m R6 d6 ho7; have ⟨k0, k1, k2⟩ := HS.out.b3.val3; have l0 := HS.out.b3.frozen 0; have l1 := HS.out.b3.frozen 1; have l2 := HS.out.b3.frozen 2; have ne1 := HS.out.ne1; have ne2 := HS.out.ne2; clear ho6 ho7 hb6)))
    go_wp2
    rw [HV.out]
    exact bodyPost_ret (sum_result g3 _ rfl _ (.bool true) (.slice R6 (digs 65536 (a * 10 ^ sa + b * 10 ^ sb)).length d6) (.int .i64 m) (HF.out.2.1.cell 0) (HF.out.2.1.cell 1) (HF.out.2.1.cell 2)) rfl HF.out.1
  case false.true =>
    rcases Nat.lt_or_ge (a * 10 ^ sa) (b * 10 ^ sb) with hlt | hle
    · have HV : Hid (sumV false (a * 10 ^ sa) true (b * 10 ^ sb) = (true, b * 10 ^ sb - a * 10 ^ sa)) := by
        have : ¬ (b * 10 ^ sb ≤ a * 10 ^ sa) := by omega
        simp [hide, Hid, sumV, this]
      have CT := CT (by omega)
      have ⟨kq, hkq, hk0⟩ : ∃ k : Int, k = cmpI (a * 10 ^ sa) (b * 10 ^ sb) ∧ k < 0 := ⟨_, rfl, by unfold cmpI; split <;> (try split) <;> omega⟩
      rw [← hkq] at CC
      clear hkq hlt hla hlb CA
      go_wp2_with fail
      refine (CC.out _ (Below.refl _ _)).mono ?_
      rintro e8 w8 ⟨rfl, hb8⟩
      have HS := hide (HS.out.next hb8.os hb8.tape hb8.output hb8.size hb8.block)
      have CT := hide (fun W hW => CT.out W (below_next hb8 hW))
      clear hb8 CC
      go_wp2_with fail
      go_region_held3 (fun W => W.cell? ⟨g2, 0, none⟩ = some (.bool true)) (first | exact HF.out.2.2.2.val3.1 | exact HS.out.cells.2.1 | go_keep)
        ((go_at_call 36; go_loud (refine (CT.out _ ?_).mono ?_; exact Below.mk rfl rfl rfl (Nat.le_refl _) (fun _ _ => rfl); rintro e6 w6 ⟨R6, d6, rfl, ho6, hb6⟩; have ho7 := OwnG.lower (base' := w.heap.size) ho6 HS.out.bel.size; have HS := hide (HS.out.next hb6.os hb6.tape hb6.output hb6.size hb6.block); have HF := HS.out.fin (true, b * 10 ^ sb - a * 10 ^ sa) m R6 d6 ho7; have ⟨k0, k1, k2⟩ := HS.out.b3.val3; have l0 := HS.out.b3.frozen 0; have l1 := HS.out.b3.frozen 1; have l2 := HS.out.b3.frozen 2; have ne1 := HS.out.ne1; have ne2 := HS.out.ne2; clear ho6 ho7 hb6)))
      go_wp2
      rw [HV.out]
      exact bodyPost_ret (sum_result g3 _ rfl _ (.bool true) (.slice R6 (digs 65536 (b * 10 ^ sb - a * 10 ^ sa)).length d6) (.int .i64 m) (HF.out.2.1.cell 0) (HF.out.2.1.cell 1) (HF.out.2.1.cell 2)) rfl HF.out.1
    · have HV : Hid (sumV false (a * 10 ^ sa) true (b * 10 ^ sb) = (false, a * 10 ^ sa - b * 10 ^ sb)) := by
        have : (b * 10 ^ sb ≤ a * 10 ^ sa) := by omega
        simp [hide, Hid, sumV, this]
      have CS := CS (by omega)
      have ⟨kq, hkq, hk0⟩ : ∃ k : Int, k = cmpI (a * 10 ^ sa) (b * 10 ^ sb) ∧ 0 ≤ k := ⟨_, rfl, by unfold cmpI; split <;> (try split) <;> omega⟩
      rw [← hkq] at CC
      clear hkq hle hla hlb CA
      go_wp2_with fail
      refine (CC.out _ (Below.refl _ _)).mono ?_
      rintro e8 w8 ⟨rfl, hb8⟩
      have HS := hide (HS.out.next hb8.os hb8.tape hb8.output hb8.size hb8.block)
      have CS := hide (fun W hW => CS.out W (below_next hb8 hW))
      clear hb8 CC
      go_wp2_with fail
      go_region_held3 (fun W => W.cell? ⟨g1, 0, none⟩ = some (.bool false)) (first | exact HF.out.2.2.1.val3.1 | exact HS.out.cells.1.1 | go_keep)
        ((go_at_call 36; go_loud (refine (CS.out _ ?_).mono ?_; exact Below.mk rfl rfl rfl (Nat.le_refl _) (fun _ _ => rfl); rintro e6 w6 ⟨R6, d6, rfl, ho6, hb6⟩; have ho7 := OwnG.lower (base' := w.heap.size) ho6 HS.out.bel.size; have HS := hide (HS.out.next hb6.os hb6.tape hb6.output hb6.size hb6.block); have HF := HS.out.fin (false, a * 10 ^ sa - b * 10 ^ sb) m R6 d6 ho7; have ⟨k0, k1, k2⟩ := HS.out.b3.val3; have l0 := HS.out.b3.frozen 0; have l1 := HS.out.b3.frozen 1; have l2 := HS.out.b3.frozen 2; have ne1 := HS.out.ne1; have ne2 := HS.out.ne2; clear ho6 ho7 hb6)))
      go_wp2
      rw [HV.out]
      exact bodyPost_ret (sum_result g3 _ rfl _ (.bool false) (.slice R6 (digs 65536 (a * 10 ^ sa - b * 10 ^ sb)).length d6) (.int .i64 m) (HF.out.2.1.cell 0) (HF.out.2.1.cell 1) (HF.out.2.1.cell 2)) rfl HF.out.1
  case true.false =>
    rcases Nat.lt_or_ge (a * 10 ^ sa) (b * 10 ^ sb) with hlt | hle
    · have HV : Hid (sumV true (a * 10 ^ sa) false (b * 10 ^ sb) = (false, b * 10 ^ sb - a * 10 ^ sa)) := by
        have : ¬ (b * 10 ^ sb ≤ a * 10 ^ sa) := by omega
        simp [hide, Hid, sumV, this]
      have CT := CT (by omega)
      have ⟨kq, hkq, hk0⟩ : ∃ k : Int, k = cmpI (a * 10 ^ sa) (b * 10 ^ sb) ∧ k < 0 := ⟨_, rfl, by unfold cmpI; split <;> (try split) <;> omega⟩
      rw [← hkq] at CC
      clear hkq hlt hla hlb CA
      go_wp2_with fail
      refine (CC.out _ (Below.refl _ _)).mono ?_
      rintro e8 w8 ⟨rfl, hb8⟩
      have HS := hide (HS.out.next hb8.os hb8.tape hb8.output hb8.size hb8.block)
      have CT := hide (fun W hW => CT.out W (below_next hb8 hW))
      clear hb8 CC
      go_wp2_with fail
      go_region_held3 (fun W => W.cell? ⟨g2, 0, none⟩ = some (.bool false)) (first | exact HF.out.2.2.2.val3.1 | exact HS.out.cells.2.1 | go_keep)
        ((go_at_call 36; go_loud (refine (CT.out _ ?_).mono ?_; exact Below.mk rfl rfl rfl (Nat.le_refl _) (fun _ _ => rfl); rintro e6 w6 ⟨R6, d6, rfl, ho6, hb6⟩; have ho7 := OwnG.lower (base' := w.heap.size) ho6 HS.out.bel.size; have HS := hide (HS.out.next hb6.os hb6.tape hb6.output hb6.size hb6.block); have HF := HS.out.fin (false, b * 10 ^ sb - a * 10 ^ sa) m R6 d6 ho7; have ⟨k0, k1, k2⟩ := HS.out.b3.val3; have l0 := HS.out.b3.frozen 0; have l1 := HS.out.b3.frozen 1; have l2 := HS.out.b3.frozen 2; have ne1 := HS.out.ne1; have ne2 := HS.out.ne2; clear ho6 ho7 hb6)))
      go_wp2
      rw [HV.out]
      exact bodyPost_ret (sum_result g3 _ rfl _ (.bool false) (.slice R6 (digs 65536 (b * 10 ^ sb - a * 10 ^ sa)).length d6) (.int .i64 m) (HF.out.2.1.cell 0) (HF.out.2.1.cell 1) (HF.out.2.1.cell 2)) rfl HF.out.1
    · have HV : Hid (sumV true (a * 10 ^ sa) false (b * 10 ^ sb) = (true, a * 10 ^ sa - b * 10 ^ sb)) := by
        have : (b * 10 ^ sb ≤ a * 10 ^ sa) := by omega
        simp [hide, Hid, sumV, this]
      have CS := CS (by omega)
      have ⟨kq, hkq, hk0⟩ : ∃ k : Int, k = cmpI (a * 10 ^ sa) (b * 10 ^ sb) ∧ 0 ≤ k := ⟨_, rfl, by unfold cmpI; split <;> (try split) <;> omega⟩
      rw [← hkq] at CC
      clear hkq hle hla hlb CA
      go_wp2_with fail
      refine (CC.out _ (Below.refl _ _)).mono ?_
      rintro e8 w8 ⟨rfl, hb8⟩
      have HS := hide (HS.out.next hb8.os hb8.tape hb8.output hb8.size hb8.block)
      have CS := hide (fun W hW => CS.out W (below_next hb8 hW))
      clear hb8 CC
      go_wp2_with fail
      go_region_held3 (fun W => W.cell? ⟨g1, 0, none⟩ = some (.bool true)) (first | exact HF.out.2.2.1.val3.1 | exact HS.out.cells.1.1 | go_keep)
        ((go_at_call 36; go_loud (refine (CS.out _ ?_).mono ?_; exact Below.mk rfl rfl rfl (Nat.le_refl _) (fun _ _ => rfl); rintro e6 w6 ⟨R6, d6, rfl, ho6, hb6⟩; have ho7 := OwnG.lower (base' := w.heap.size) ho6 HS.out.bel.size; have HS := hide (HS.out.next hb6.os hb6.tape hb6.output hb6.size hb6.block); have HF := HS.out.fin (true, a * 10 ^ sa - b * 10 ^ sb) m R6 d6 ho7; have ⟨k0, k1, k2⟩ := HS.out.b3.val3; have l0 := HS.out.b3.frozen 0; have l1 := HS.out.b3.frozen 1; have l2 := HS.out.b3.frozen 2; have ne1 := HS.out.ne1; have ne2 := HS.out.ne2; clear ho6 ho7 hb6)))
      go_wp2
      rw [HV.out]
      exact bodyPost_ret (sum_result g3 _ rfl _ (.bool true) (.slice R6 (digs 65536 (a * 10 ^ sa - b * 10 ^ sb)).length d6) (.int .i64 m) (HF.out.2.1.cell 0) (HF.out.2.1.cell 1) (HF.out.2.1.cell 2)) rfl HF.out.1
end Go.Proofs.YtfkcobdkgjhfaaaGreatDoor
