/- Parts of the proofs: Both, FnUpMath, LaidV, LaidL, LaidD. -/
import Derived.Deep.RegionHeld3
import Derived.LaidMore
import Derived.Test.YtfkcobdkgjhfaaaGreatDoorG1
import Derived.Test.YtfkcobdkgjhfaaaGreatDoorG2
import Derived.Test.YtfkcobdkgjhfaaaGreatDoorG13
import Derived.Test.YtfkcobdkgjhfaaaGreatDoorG14
import Derived.Test.YtfkcobdkgjhfaaaGreatDoorG27
import Derived.Test.YtfkcobdkgjhfaaaGreatDoorG31
/- Walks: the laws' finite, whatever it says; both. -/
set_option linter.unusedVariables false
set_option linter.unusedSimpArgs false
namespace Go.Proofs.YtfkcobdkgjhfaaaGreatDoor
open Go.RowKit

/-- A value that 'finite' says yes to. -/
structure ValOk (w : World) (base : Nat) (s : Bool) (B : Option Addr) (l c : Nat) (ex : Int) (form : Int) (neg : Bool) (xs : List Nat) (exp : Int) : Prop where
  sgn : s = neg
  exq : ex = exp
  frm : form = 0
  can : xs = digs 18446744073709551616 (numW xs)
  len : xs.length ≤ 3
  lo : -100 ≤ exp
  hi : exp ≤ 100
  own : OwnI w base (.slice B l c) (digs 65536 (numW xs))
theorem ValOk.below {w w' : World} {base : Nat} {s : Bool} {B : Option Addr} {l c : Nat} {ex form : Int} {neg : Bool} {xs : List Nat} {exp : Int} (h : ValOk w base s B l c ex form neg xs exp) (hb : Below w.heap.size w w') : ValOk w' base s B l c ex form neg xs exp :=
  ⟨h.sgn, h.exq, h.frm, h.can, h.len, h.lo, h.hi, h.own.below hb⟩
theorem ValOk.lower {w : World} {base b : Nat} {s : Bool} {B : Option Addr} {l c : Nat} {ex form : Int} {neg : Bool} {xs : List Nat} {exp : Int} (h : ValOk w base s B l c ex form neg xs exp) (hb : b ≤ base) : ValOk w b s B l c ex form neg xs exp :=
  ⟨h.sgn, h.exq, h.frm, h.can, h.len, h.lo, h.hi, h.own.lower hb⟩

/-- Behind 'finite'. -/
def FinP (w : World) (form : Int) (neg : Bool) (xs : List Nat) (exp : Int) (e : Ending) (w' : World) : Prop :=
  ∃ (s : Bool) (B : Option Addr) (l c : Nat) (ex : Int) (ok : Bool), e = .returned (.tuple #[.agg #[.bool s, .slice B l c, .int .i64 ex], .bool ok]) ∧ Below w.heap.size w w' ∧ (ok = true → ValOk w' w.heap.size s B l c ex form neg xs exp)

theorem finite_any (form : Int) (neg : Bool) (A : Option Addr) (c : Nat) (xs : List Nat) (exp : Int) (w : World) (hv : RdG .u64 w (.slice A xs.length c) xs) (hd : Dig 18446744073709551616 xs) :
    Calls Tryz.prog 9 #[.agg #[.int .i64 form, .bool neg, .slice A xs.length c, .int .i64 exp]] w (FinP w form neg xs exp) := by
  by_cases h : xs.length ≤ 3 ∧ ¬ exp < -100 ∧ ¬ 100 < exp
  · refine (finite_in form neg A c xs exp w hv h.1 h.2.1 h.2.2 hd).mono ?_
    rintro e w' ⟨B, d, rfl, hown, hbel⟩
    refine ⟨neg, B, _, d, exp, okB form xs, rfl, hbel, fun hok => ?_⟩
    obtain ⟨h1, h2⟩ := okB_split hok
    exact ⟨rfl, rfl, h1, h2, h.1, by omega, by omega, hown⟩
  · refine (finite_out form neg A xs.length c exp w h).mono ?_
    rintro e w' ⟨rfl, hbel⟩
    exact ⟨false, none, 0, 0, 0, false, rfl, hbel, fun h => by cases h⟩

/-- Behind 'both'. -/
def BothP (w : World) (form1 : Int) (neg1 : Bool) (xs1 : List Nat) (exp1 : Int) (form2 : Int) (neg2 : Bool) (xs2 : List Nat) (exp2 : Int) (e : Ending) (w' : World) : Prop :=
  ∃ (s1 : Bool) (B1 : Option Addr) (l1 c1 : Nat) (ex1 : Int) (s2 : Bool) (B2 : Option Addr) (l2 c2 : Nat) (ex2 : Int) (ok1 ok2 : Bool), e = .returned (.tuple #[.agg #[.bool s1, .slice B1 l1 c1, .int .i64 ex1], .agg #[.bool s2, .slice B2 l2 c2, .int .i64 ex2], .bool (ok1 && ok2)]) ∧ Below w.heap.size w w' ∧
    (ok1 = true → ValOk w' w.heap.size s1 B1 l1 c1 ex1 form1 neg1 xs1 exp1) ∧ (ok2 = true → ValOk w' w.heap.size s2 B2 l2 c2 ex2 form2 neg2 xs2 exp2)

theorem both_result (n m : Nat) (ok : Bool) (tmps : Array Value) (h : tmps.getD 4 undef = .pointer (some ⟨n, 0, none⟩)) (h2 : tmps.getD 5 undef = .pointer (some ⟨m, 0, none⟩)) (h3 : tmps.getD 6 undef = .bool ok) (W : World) (a b c a' b' c' : Value) (c0 : W.cell? ⟨n, 0, none⟩ = some a) (c1 : W.cell? ⟨n, 1, none⟩ = some b) (c2 : W.cell? ⟨n, 2, none⟩ = some c)
    (d0 : W.cell? ⟨m, 0, none⟩ = some a') (d1 : W.cell? ⟨m, 1, none⟩ = some b') (d2 : W.cell? ⟨m, 2, none⟩ = some c') :
    (results Tryz.f20 tmps).run Tryz.prog W = .ok (.tuple #[.agg #[a, b, c], .agg #[a', b', c'], .bool ok]) W := by
  have e4 : tmps[4]?.getD undef = .pointer (some ⟨n, 0, none⟩) := by simpa using h
  have e5 : tmps[5]?.getD undef = .pointer (some ⟨m, 0, none⟩) := by simpa using h2
  have e6 : tmps[6]?.getD undef = .bool ok := by simpa using h3
  simp [results, Tryz.results20, go_sem, e4, e5, e6, c0, c1, c2, d0, d1, d2]

set_option maxHeartbeats 1000000 in
theorem both_any (form1 : Int) (neg1 : Bool) (A1 : Option Addr) (c1 : Nat) (xs1 : List Nat) (exp1 : Int) (form2 : Int) (neg2 : Bool) (A2 : Option Addr) (c2 : Nat) (xs2 : List Nat) (exp2 : Int) (w : World)
    (hv1 : RdG .u64 w (.slice A1 xs1.length c1) xs1) (hd1 : Dig 18446744073709551616 xs1) (hv2 : RdG .u64 w (.slice A2 xs2.length c2) xs2) (hd2 : Dig 18446744073709551616 xs2) :
    Calls Tryz.prog 20 #[.agg #[.int .i64 form1, .bool neg1, .slice A1 xs1.length c1, .int .i64 exp1], .agg #[.int .i64 form2, .bool neg2, .slice A2 xs2.length c2, .int .i64 exp2]] w (BothP w form1 neg1 xs1 exp1 form2 neg2 xs2 exp2) := by
  have Con1 := hide (fun W (h : Below w.heap.size w W) => finite_any form1 neg1 A1 c1 xs1 exp1 W (hv1.below h) hd1)
  have Con2 := hide (fun W (h : Below w.heap.size w W) => finite_any form2 neg2 A2 c2 xs2 exp2 W (hv2.below h) hd2)
  clear hv1 hv2 hd1 hd2
  obtain ⟨W0, hW0⟩ : ∃ W0, W0 = ((((w.alloc (.cells #[.int .i64 form1, .bool neg1, .slice A1 xs1.length c1, .int .i64 exp1] 24)).alloc (.cells #[.int .i64 form2, .bool neg2, .slice A2 xs2.length c2, .int .i64 exp2] 24)).alloc (.cells #[.bool false, .slice none 0 0, .int .i64 0] 29)).alloc (.cells #[.bool false, .slice none 0 0, .int .i64 0] 29)) := ⟨_, rfl⟩
  obtain ⟨g1, hg1⟩ : ∃ g, g = w.heap.size := ⟨_, rfl⟩
  obtain ⟨g2, hg2⟩ : ∃ g, g = w.heap.size + 1 := ⟨_, rfl⟩
  obtain ⟨g4, hg4⟩ : ∃ g, g = w.heap.size + 1 + 1 := ⟨_, rfl⟩
  obtain ⟨g5, hg5⟩ : ∃ g, g = w.heap.size + 1 + 1 + 1 := ⟨_, rfl⟩
  have hb0 : Below w.heap.size w W0 := by rw [hW0]; exact below_al (below_al (below_al (below_al (Below.refl _ _) _) _) _) _
  have hx2 : Blk W0 g2 24 #[.int .i64 form2, .bool neg2, .slice A2 xs2.length c2, .int .i64 exp2] := by
    rw [hW0, hg2]
    have := Blk.new (w.alloc (.cells #[.int .i64 form1, .bool neg1, .slice A1 xs1.length c1, .int .i64 exp1] 24)) 24 #[.int .i64 form2, .bool neg2, .slice A2 xs2.length c2, .int .i64 exp2]
    have h2 := (this.alloc (.cells #[.bool false, .slice none 0 0, .int .i64 0] 29)).alloc (.cells #[.bool false, .slice none 0 0, .int .i64 0] 29)
    simpa using h2
  have hx4 : Blk W0 g4 29 #[.bool false, .slice none 0 0, .int .i64 0] := by
    rw [hW0, hg4]
    have := Blk.new ((w.alloc (.cells #[.int .i64 form1, .bool neg1, .slice A1 xs1.length c1, .int .i64 exp1] 24)).alloc (.cells #[.int .i64 form2, .bool neg2, .slice A2 xs2.length c2, .int .i64 exp2] 24)) 29 #[.bool false, .slice none 0 0, .int .i64 0]
    have h2 := this.alloc (.cells #[.bool false, .slice none 0 0, .int .i64 0] 29)
    simpa using h2
  have hx5 : Blk W0 g5 29 #[.bool false, .slice none 0 0, .int .i64 0] := by
    rw [hW0, hg5]
    have := Blk.new (((w.alloc (.cells #[.int .i64 form1, .bool neg1, .slice A1 xs1.length c1, .int .i64 exp1] 24)).alloc (.cells #[.int .i64 form2, .bool neg2, .slice A2 xs2.length c2, .int .i64 exp2] 24)).alloc (.cells #[.bool false, .slice none 0 0, .int .i64 0] 29)) 29 #[.bool false, .slice none 0 0, .int .i64 0]
    simpa using this
  have HH := hide (And.intro hb0 (And.intro hx2 (And.intro hx4 (And.intro hx5 (And.intro hg4 hg5)))))
  clear hb0 hx2 hx4 hx5
  go_enter Tryz.func20, Tryz.ntmps20
  go_wp2_with fail
  rw [← hW0, ← hg5, ← hg4, ← hg2]
  clear hW0 hg5 hg4 hg2 hg1
  refine (Con1.out W0 HH.out.1).mono ?_
  rintro e w1 ⟨s1, B1, l1, d1, ex1, ok1, rfl, hb1, hok1⟩
  have hs1 : g2 < w1.heap.size ∧ g4 < w1.heap.size ∧ g5 < w1.heap.size := ⟨(HH.out.2.1.below hb1).lt, (HH.out.2.2.1.below hb1).lt, (HH.out.2.2.2.1.below hb1).lt⟩
  obtain ⟨W2, hW2⟩ : ∃ W2, W2 = w1.alloc (.cells #[.bool s1, .slice B1 l1 d1, .int .i64 ex1] 29) := ⟨_, rfl⟩
  have hb2 : Below w1.heap.size w1 W2 := by rw [hW2]; exact below_al (Below.refl _ _) _
  have hb02 : Below W0.heap.size W0 W2 := below_next hb1 hb2
  have hx7 : Blk W2 w1.heap.size 29 #[.bool s1, .slice B1 l1 d1, .int .i64 ex1] := by rw [hW2]; exact Blk.new _ _ _
  obtain ⟨p0, p1, p2, p3⟩ := (HH.out.2.1.below hb02).dec4
  have H2 := hide (And.intro hb02 (And.intro hx7 (And.intro hb2 (And.intro hok1 hs1))))
  rw [hW2] at p0 p1 p2 p3
  clear hb1 hb2 hb02 hx7 hok1 hs1 Con1
  go_wp2_with fail
  rw [← hW2]
  clear hW2 p0 p1 p2 p3
  obtain ⟨g7, hg7⟩ : ∃ g, g = w1.heap.size := ⟨_, rfl⟩
  have hb12 := H2.out.2.2.1
  have Hb12 := hide hb12
  clear hb12
  rw [← hg7] at H2 ⊢
  clear hg7
  have hbW2 : Below w.heap.size w W2 := below_next HH.out.1 H2.out.1
  refine (Con2.out W2 hbW2).mono ?_
  rintro e w3 ⟨s2, B2, l2, d2, ex2, ok2, rfl, hb3, hok2⟩
  obtain ⟨W4, hW4⟩ : ∃ W4, W4 = w3.alloc (.cells #[.bool s2, .slice B2 l2 d2, .int .i64 ex2] 29) := ⟨_, rfl⟩
  obtain ⟨g9, hg9⟩ : ∃ g, g = w3.heap.size := ⟨_, rfl⟩
  have hb34 : Below w3.heap.size w3 W4 := by rw [hW4]; exact below_al (Below.refl _ _) _
  have hb24 : Below W2.heap.size W2 W4 := below_next hb3 hb34
  have hb04 : Below W0.heap.size W0 W4 := below_next H2.out.1 hb24
  have hx7 : Blk W4 g7 29 #[.bool s1, .slice B1 l1 d1, .int .i64 ex1] := H2.out.2.1.below hb24
  have hx9 : Blk W4 g9 29 #[.bool s2, .slice B2 l2 d2, .int .i64 ex2] := by rw [hW4, hg9]; exact Blk.new _ _ _
  have hx4 := HH.out.2.2.1.below hb04
  have hx5 := HH.out.2.2.2.1.below hb04
  have hsz2 : W2.heap.size ≤ w3.heap.size := hb3.size
  have hn74 : g7 ≠ g4 := by have := H2.out.2.2.2.2.2.1; omega
  have hn75 : g7 ≠ g5 := by have := H2.out.2.2.2.2.2.2; omega
  have h7l := H2.out.2.1.lt
  have h4l := (HH.out.2.2.1.below H2.out.1).lt
  have h5l := (HH.out.2.2.2.1.below H2.out.1).lt
  have hn94 : g9 ≠ g4 := by omega
  have hn95 : g9 ≠ g5 := by omega
  have hn45 : g4 ≠ g5 := by have := HH.out.2.2.2.2.1; have := HH.out.2.2.2.2.2; omega
  obtain ⟨a0, a1, a2⟩ := hx7.val3
  obtain ⟨b0, b1, b2⟩ := hx9.val3
  obtain ⟨c0, c1, c2⟩ := hx4.val3
  obtain ⟨d0, d1', d2'⟩ := hx5.val3
  have f40 := hx4.frozen 0
  have f41 := hx4.frozen 1
  have f42 := hx4.frozen 2
  have f50 := hx5.frozen 0
  have f51 := hx5.frozen 1
  have f52 := hx5.frozen 2
  have fin : ∀ W' : World, Blk W' g4 29 #[.bool s1, .slice B1 l1 d1, .int .i64 ex1] → Blk W' g5 29 #[.bool s2, .slice B2 l2 d2, .int .i64 ex2] → Fr W4 W' (fun k => k = g4 ∨ k = g5) →
      (W'.cell? ⟨g4, 0, none⟩ = some (.bool s1) ∧ W'.cell? ⟨g4, 1, none⟩ = some (.slice B1 l1 d1) ∧ W'.cell? ⟨g4, 2, none⟩ = some (.int .i64 ex1)) ∧ (W'.cell? ⟨g5, 0, none⟩ = some (.bool s2) ∧ W'.cell? ⟨g5, 1, none⟩ = some (.slice B2 l2 d2) ∧ W'.cell? ⟨g5, 2, none⟩ = some (.int .i64 ex2)) ∧
        BothP w form1 neg1 xs1 exp1 form2 neg2 xs2 exp2 (.returned (.tuple #[.agg #[.bool s1, .slice B1 l1 d1, .int .i64 ex1], .agg #[.bool s2, .slice B2 l2 d2, .int .i64 ex2], .bool (ok1 && ok2)])) W' := by
    intro W' k4 k5 hf
    have hw4 : w.heap.size ≤ g4 := by have := HH.out.2.2.2.2.1; omega
    have hw5 : w.heap.size ≤ g5 := by have := HH.out.2.2.2.2.2; omega
    have hT4 : ∀ (B : Option Addr) (l d : Nat) (xs : List Nat), OwnI W4 w.heap.size (.slice B l d) xs → OwnI W' w.heap.size (.slice B l d) xs := fun B l d xs h => h.fr hf (fun b hb hk => by
      rcases hk with rfl | rfl
      · exact (h.ne_blk hx4 (by decide)) _ hb rfl
      · exact (h.ne_blk hx5 (by decide)) _ hb rfl)
    refine ⟨k4.val3, k5.val3, s1, B1, l1, d1, ex1, s2, B2, l2, d2, ex2, ok1, ok2, rfl, ?_, fun h => ?_, fun h => ?_⟩
    · exact (Fr.step (Fr.of_below (below_next HH.out.1 hb04) (fun k => w.heap.size ≤ k)) hf (fun i hi hk => by rcases hk with rfl | rfl <;> assumption)).below (Nat.le_refl _) (fun _ h => h)
    · have hv := ((((H2.out.2.2.2.1 h).below Hb12.out).below hb24)).lower HH.out.1.size
      exact ⟨hv.sgn, hv.exq, hv.frm, hv.can, hv.len, hv.lo, hv.hi, hT4 _ _ _ _ hv.own⟩
    · have hv := ((hok2 h).below hb34).lower hbW2.size
      exact ⟨hv.sgn, hv.exq, hv.frm, hv.can, hv.len, hv.lo, hv.hi, hT4 _ _ _ _ hv.own⟩
  have Fin := hide fin
  have HB := hide (And.intro hx4 hx5)
  clear fin hb3 hok2 hb34 hb24 hb04 hx7 hx9 hx4 hx5 hbW2 hsz2 h7l h4l h5l Con2 HH H2
  go_wp2_with fail
  rw [← hW4, ← hg9]
  clear hW4 hg9
  have q1 : Blk (((W4.setCell ⟨g4, 0, none⟩ (.bool s1)).setCell ⟨g4, 1, none⟩ (.slice B1 l1 d1)).setCell ⟨g4, 2, none⟩ (.int .i64 ex1)) g4 29 #[.bool s1, .slice B1 l1 d1, .int .i64 ex1] := ((HB.out.1.set 0 (.bool s1)).set 1 (.slice B1 l1 d1)).set 2 (.int .i64 ex1)
  have q2 := ((q1.far (p := ⟨g5, 0, none⟩) hn45 (.bool s2)).far (p := ⟨g5, 1, none⟩) hn45 (.slice B2 l2 d2)).far (p := ⟨g5, 2, none⟩) hn45 (.int .i64 ex2)
  have r1 := ((HB.out.2.far (p := ⟨g4, 0, none⟩) hn45.symm (.bool s1)).far (p := ⟨g4, 1, none⟩) hn45.symm (.slice B1 l1 d1)).far (p := ⟨g4, 2, none⟩) hn45.symm (.int .i64 ex1)
  obtain ⟨W5, hW5⟩ : ∃ W5, W5 = (((W4.setCell ⟨g4, 0, none⟩ (.bool s1)).setCell ⟨g4, 1, none⟩ (.slice B1 l1 d1)).setCell ⟨g4, 2, none⟩ (.int .i64 ex1)) := ⟨_, rfl⟩
  have hF5 : Fr W4 W5 (fun k => k = g4 ∨ k = g5) := by
    rw [hW5]
    exact (((Fr.refl W4 (fun k => k = g4 ∨ k = g5)).setCell (p := ⟨g4, 0, none⟩) (fun _ => .inl rfl) (.bool s1)).setCell (p := ⟨g4, 1, none⟩) (fun _ => .inl rfl) (.slice B1 l1 d1)).setCell (p := ⟨g4, 2, none⟩) (fun _ => .inl rfl) (.int .i64 ex1)
  rw [← hW5] at q2 r1
  have r2 : Blk (((W5.setCell ⟨g5, 0, none⟩ (.bool s2)).setCell ⟨g5, 1, none⟩ (.slice B2 l2 d2)).setCell ⟨g5, 2, none⟩ (.int .i64 ex2)) g5 29 #[.bool s2, .slice B2 l2 d2, .int .i64 ex2] := ((r1.set 0 (.bool s2)).set 1 (.slice B2 l2 d2)).set 2 (.int .i64 ex2)
  have hfr := ((hF5.setCell (p := ⟨g5, 0, none⟩) (fun _ => .inr rfl) (.bool s2)).setCell (p := ⟨g5, 1, none⟩) (fun _ => .inr rfl) (.slice B2 l2 d2)).setCell (p := ⟨g5, 2, none⟩) (fun _ => .inr rfl) (.int .i64 ex2)
  have hfd := hfr.drew
  have hF := Fin.out _ q2.drew r2.drew hfd
  rw [hW5] at hF
  have HF := hide hF
  clear q1 q2 r1 r2 hfr hfd hF hF5 hW5 Fin HB
  cases ok1
  all_goals go_region
  all_goals go_wp2
  all_goals obtain ⟨⟨e0, e1, e2⟩, ⟨e3, e4, e5⟩, hP⟩ := HF.out
  · exact bodyPost_ret (both_result g4 g5 false _ rfl rfl rfl _ (.bool s1) (.slice B1 l1 d1) (.int .i64 ex1) (.bool s2) (.slice B2 l2 d2) (.int .i64 ex2) e0 e1 e2 e3 e4 e5) rfl hP
  · exact bodyPost_ret (both_result g4 g5 ok2 _ rfl rfl rfl _ (.bool s1) (.slice B1 l1 d1) (.int .i64 ex1) (.bool s2) (.slice B2 l2 d2) (.int .i64 ex2) e0 e1 e2 e3 e4 e5) rfl hP
end Go.Proofs.YtfkcobdkgjhfaaaGreatDoor

/- Plain: the exponents of two decimals, the words of what is widened. -/
set_option linter.unusedVariables false
set_option linter.unusedSimpArgs false
namespace Go.Proofs.YtfkcobdkgjhfaaaGreatDoor
open Go.RowKit

theorem split_exp (ea eb : Int) (h1 : -100 ≤ ea) (h2 : ea ≤ 100) (h3 : -100 ≤ eb) (h4 : eb ≤ 100) : ∃ (m : Int) (sa sb : Nat), ea = m + sa ∧ eb = m + sb ∧ (sa = 0 ∨ sb = 0) ∧ sa ≤ 200 ∧ sb ≤ 200 ∧ -100 ≤ m ∧ m ≤ 100 := by
  rcases Int.le_total ea eb with h | h
  · exact ⟨ea, 0, (eb - ea).toNat, by omega, by omega, .inl rfl, by omega, by omega, by omega, by omega⟩
  · exact ⟨eb, (ea - eb).toNat, 0, by omega, by omega, .inr rfl, by omega, by omega, by omega, by omega⟩

theorem wide_len {a s : Nat} (ha : (digs 18446744073709551616 a).length ≤ 3) (hs : s ≤ 200) : (digs 18446744073709551616 (a * 10 ^ s)).length ≤ 16 ∧ (digs 65536 (10 ^ s)).length ≤ 64 ∧ (digs 65536 a).length ≤ 12 := by
  have h1 : a < 18446744073709551616 ^ 3 := lt_of_digs_length (by omega) ha
  have h2 : 10 ^ s < 18446744073709551616 ^ 13 := pow10_lt (n := 200) hs (by decide)
  refine ⟨digs_length_le (by omega) ?_, digs_length_le (by omega) (pow10_lt (n := 200) hs (by decide)), digs_length_le (by omega) (Nat.lt_of_lt_of_le h1 (by decide))⟩
  exact Nat.lt_of_lt_of_eq (Nat.mul_lt_mul'' h1 h2) (by rw [← Nat.pow_add])
end Go.Proofs.YtfkcobdkgjhfaaaGreatDoor

/- What the laid package variables give the walks: the thresholds' cells. -/
set_option linter.unusedVariables false
set_option linter.unusedSimpArgs false
namespace Go.Proofs.YtfkcobdkgjhfaaaGreatDoor
open Go Go.RowKit

theorem laid_int {w : World} {v : Int} {n : String} {g : Nat} (hg : Tryz.prog.globalNamed n = some g) (ht : (Tryz.prog.globals[g]?).map (·.type) = some 3) :
    ∀ {l : List (String × DataW Unit)} {ps : List MemPlace}, DataW.LaidVars Tryz.prog w l ps → (n, DataW.lit (.int .i64 v)) ∈ l → w.cell? ⟨g, 0, none⟩ = some (.int .i64 v)
  | [], _, _, hm => by cases hm
  | (m, d) :: l, ps, h, hm => by
    obtain ⟨g0, t0, cs0, f0, p0, q0, hg0, ht0, hv0, hd0, hr, -⟩ := h
    rcases List.mem_cons.1 hm with e | hm
    · injection e with e1 e2
      subst e1 e2
      obtain rfl := Option.some.inj (hg.symm.trans hg0)
      obtain rfl := Option.some.inj (ht.symm.trans ht0)
      obtain ⟨k, e1, e2, -⟩ := DataW.trod_int Tryz.underlying3 hd0
      have hk : k = v := by simpa using (congrArg Prod.fst e2).symm
      subst hk
      have := World.var?_cell hg hv0 0
      rw [this, Array.getElem?_toList.symm, e1]
      rfl
    · exact laid_int hg ht hr hm

theorem vars_of {w : World} {l : List (String × DataW Unit)} (h : laidMetH Tryz.prog l w) (hp : (l.filter fun x => x.2.handleName?.isSome) = [])
    (m0 : ("loop.example/pub-g03241/pub/bigall.basicSqrThreshold", DataW.lit (.int .i64 12)) ∈ l) (m1 : ("loop.example/pub-g03241/pub/bigall.karatsubaSqrThreshold", DataW.lit (.int .i64 80)) ∈ l) (m2 : ("loop.example/pub-g03241/pub/bigall.karatsubaThreshold", DataW.lit (.int .i64 40)) ∈ l) : Vars w w.heap.size := by
  unfold laidMetH at h
  rw [hp] at h
  obtain ⟨ps, hl, -⟩ := h
  have c0 := laid_int (g := 1) (by kernel_rfl) (by kernel_rfl) hl m0
  have c1 := laid_int (g := 2) (by kernel_rfl) (by kernel_rfl) hl m1
  have c2 := laid_int (g := 3) (by kernel_rfl) (by kernel_rfl) hl m2
  exact ⟨c0, c1, c2, World.block_lt_of_cell? _ _ c0, World.block_lt_of_cell? _ _ c1, World.block_lt_of_cell? _ _ c2⟩
end Go.Proofs.YtfkcobdkgjhfaaaGreatDoor

/- What the laid package variables give the walks: the thresholds' cells and leafSize's. -/
set_option linter.unusedVariables false
set_option linter.unusedSimpArgs false
namespace Go.Proofs.YtfkcobdkgjhfaaaGreatDoor
open Go Go.RowKit

theorem varsL_of {w : World} {l : List (String × DataW Unit)} (h : laidMetH Tryz.prog l w) (hp : (l.filter fun x => x.2.handleName?.isSome) = [])
    (m0 : ("loop.example/pub-g03241/pub/bigall.basicSqrThreshold", DataW.lit (.int .i64 12)) ∈ l) (m1 : ("loop.example/pub-g03241/pub/bigall.karatsubaSqrThreshold", DataW.lit (.int .i64 80)) ∈ l) (m2 : ("loop.example/pub-g03241/pub/bigall.karatsubaThreshold", DataW.lit (.int .i64 40)) ∈ l) (m3 : ("loop.example/pub-g03241/pub/bigall.leafSize", DataW.lit (.int .i64 8)) ∈ l) : VarsL w w.heap.size := by
  have hv := vars_of h hp m0 m1 m2
  unfold laidMetH at h
  rw [hp] at h
  obtain ⟨ps, hl, -⟩ := h
  have c := laid_int (g := 6) (by kernel_rfl) (by kernel_rfl) hl m3
  exact ⟨hv, c, World.block_lt_of_cell? _ _ c⟩
end Go.Proofs.YtfkcobdkgjhfaaaGreatDoor

/- What the laid package variables give the walks that divide by several words. -/
set_option linter.unusedVariables false
set_option linter.unusedSimpArgs false
namespace Go.Proofs.YtfkcobdkgjhfaaaGreatDoor
open Go Go.RowKit

theorem varsD_of {w : World} {l : List (String × DataW Unit)} (h : laidMetH Tryz.prog l w) (hp : (l.filter fun x => x.2.handleName?.isSome) = [])
    (m0 : ("loop.example/pub-g03241/pub/bigall.basicSqrThreshold", DataW.lit (.int .i64 12)) ∈ l) (m1 : ("loop.example/pub-g03241/pub/bigall.karatsubaSqrThreshold", DataW.lit (.int .i64 80)) ∈ l) (m2 : ("loop.example/pub-g03241/pub/bigall.karatsubaThreshold", DataW.lit (.int .i64 40)) ∈ l) (m3 : ("loop.example/pub-g03241/pub/bigall.leafSize", DataW.lit (.int .i64 8)) ∈ l) (m4 : ("loop.example/pub-g03241/pub/bigall.divRecursiveThreshold", DataW.lit (.int .i64 40)) ∈ l) : VarsD w w.heap.size := by
  have hv := varsL_of h hp m0 m1 m2 m3
  unfold laidMetH at h
  rw [hp] at h
  obtain ⟨ps, hl, -⟩ := h
  have c := laid_int (g := 0) (by kernel_rfl) (by kernel_rfl) hl m4
  exact ⟨hv, c, World.block_lt_of_cell? _ _ c⟩
end Go.Proofs.YtfkcobdkgjhfaaaGreatDoor
