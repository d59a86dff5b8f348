/- Parts of the proofs: Held, Sign, Sign2, DecNd. -/
import Derived.Deep.RegionWith
import Derived.BigRegion
import Derived.Deep.RegionHeld3
import Derived.Test.YtfkcobdkgjhfaaaGreatDoorG9
import Derived.Test.YtfkcobdkgjhfaaaGreatDoorG20
import Derived.Test.YtfkcobdkgjhfaaaGreatDoorG27
import Derived.Test.YtfkcobdkgjhfaaaGreatDoorG29
/- What a law holds while it calls: its decimal's box, its value's box, and what their slices lead to. -/
set_option linter.unusedVariables false
set_option linter.unusedSimpArgs false
namespace Go.Proofs.YtfkcobdkgjhfaaaGreatDoor
open Go.RowKit

structure HeldV (w : World) (gx gv : Nat) (neg : Bool) (A : Option Addr) (c : Nat) (xs : List Nat) (exp : Int) (vneg : Bool) (B : Option Addr) (cB : Nat) (ys : List Nat) (W : World) : Prop where
  bel : Below w.heap.size w W
  box : Blk W gx 24 #[.int .i64 0, .bool neg, .slice A xs.length c, .int .i64 exp]
  val : Blk W gv 29 #[.bool vneg, .slice B ys.length cB, .int .i64 exp]
  rx : RdG .u64 W (.slice A xs.length c) xs
  rv : RdG .i64 W (.slice B ys.length cB) ys

section
variable {w : World} {gx gv : Nat} {neg : Bool} {A : Option Addr} {c : Nat} {xs : List Nat} {exp : Int} {vneg : Bool} {B : Option Addr} {cB : Nat} {ys : List Nat} {W W' : World}
theorem HeldV.below (h : HeldV w gx gv neg A c xs exp vneg B cB ys W) (hb : Below W.heap.size W W') : HeldV w gx gv neg A c xs exp vneg B cB ys W' :=
  ⟨below_next h.bel hb, h.box.below hb, h.val.below hb, h.rx.below hb, h.rv.below hb⟩
theorem HeldV.next (h : HeldV w gx gv neg A c xs exp vneg B cB ys W) (h1 : W'.os = W.os) (h2 : W'.tape = W.tape) (h3 : W'.output = W.output) (h4 : W.heap.size ≤ W'.heap.size) (h5 : ∀ k, k < W.heap.size → W'.heap[k]? = W.heap[k]?) : HeldV w gx gv neg A c xs exp vneg B cB ys W' :=
  h.below ⟨h1, h2, h3, h4, h5⟩
theorem HeldV.cells (h : HeldV w gx gv neg A c xs exp vneg B cB ys W) :
    (W.cell? ⟨gx, 0, none⟩ = some (.int .i64 0) ∧ W.cell? ⟨gx, 1, none⟩ = some (.bool neg) ∧ W.cell? ⟨gx, 2, none⟩ = some (.slice A xs.length c) ∧ W.cell? ⟨gx, 3, none⟩ = some (.int .i64 exp)) ∧
    (W.cell? ⟨gv, 0, none⟩ = some (.bool vneg) ∧ W.cell? ⟨gv, 1, none⟩ = some (.slice B ys.length cB) ∧ W.cell? ⟨gv, 2, none⟩ = some (.int .i64 exp)) := ⟨h.box.dec4, h.val.val3⟩
end
end Go.Proofs.YtfkcobdkgjhfaaaGreatDoor

/- Walks: the Sign functions of Decimal and of the reference; IsZero. -/
set_option linter.unusedVariables false
set_option linter.unusedSimpArgs false
namespace Go.Proofs.YtfkcobdkgjhfaaaGreatDoor
open Go.RowKit

theorem dsign_any (g : Nat) (neg : Bool) (exp : Int) (A : Option Addr) (n c : Nat) (w : World) (h : Blk w g 71 (decC 0 neg exp false (.slice A n c) false)) :
    Calls Tryz.prog 61 #[.pointer (some ⟨g, 0, none⟩)] w fun e w' => e = .returned (.int .i64 (sgnI neg n)) ∧ w = w' := by
  have Con := hide (bsign_any g 3 false A n c w (h.cell 3) (h.cell 4) (h.cell 5))
  have c0 : w.cell? ⟨g, 0, none⟩ = some (.int .i8 0) := h.cell 0
  have c1 : w.cell? ⟨g, 1, none⟩ = some (.bool neg) := h.cell 1
  have hq := sgnI_beq false n
  clear h
  by_cases hn : n = 0
  · subst hn
    have fin := hide (sgnI_zero neg)
    go_enter Tryz.func61, Tryz.ntmps61
    go_wp2_with fail
    refine (Con.out).mono ?_
    rintro e w1 ⟨rfl, rfl⟩
    go_wp2
    go_ret
    exact ⟨by rw [fin.out]; rfl, rfl⟩
  · have hb : (sgnI false n == 0) = false := by rw [hq]; simp [hn]
    have fin : sgnI neg n = if neg then -1 else 1 := by simp [sgnI, hn]
    have Fin := hide fin
    clear hn hq fin
    go_enter Tryz.func61, Tryz.ntmps61
    go_wp2_with fail
    refine (Con.out).mono ?_
    rintro e w1 ⟨rfl, rfl⟩
    cases neg
    · go_wp2
      go_ret
      exact ⟨by rw [Fin.out]; rfl, rfl⟩
    · go_wp2
      go_ret
      exact ⟨by rw [Fin.out]; rfl, rfl⟩

theorem dzero_any (g : Nat) (neg : Bool) (exp : Int) (A : Option Addr) (n c : Nat) (w : World) (h : Blk w g 71 (decC 0 neg exp false (.slice A n c) false)) :
    Calls Tryz.prog 79 #[.pointer (some ⟨g, 0, none⟩)] w fun e w' => e = .returned (.bool (decide (n = 0))) ∧ w = w' := by
  have Con := hide (dsign_any g neg exp A n c w h)
  have hq := hide (sgnI_beq neg n)
  clear h
  go_enter Tryz.func79, Tryz.ntmps79
  go_wp2_with fail
  refine (Con.out).mono ?_
  rintro e w1 ⟨rfl, rfl⟩
  go_wp2
  go_ret
  exact ⟨by rw [← hq.out]; rfl, rfl⟩

theorem ssign_any (neg : Bool) (A : Option Addr) (n c : Nat) (exp : Int) (w : World) :
    Calls Tryz.prog 14 #[.agg #[.bool neg, .slice A n c, .int .i64 exp]] w fun e w' => e = .returned (.int .i64 (sgnI neg n)) ∧ Below w.heap.size w w' := by
  have hb0 := hide (below_al (Below.refl w.heap.size w) (.cells #[.bool neg, .slice A n c, .int .i64 exp] 29))
  by_cases hn : n = 0
  · subst hn
    have fin := sgnI_zero neg
    go_enter Tryz.func14, Tryz.ntmps14
    go_wp2
    go_ret
    exact ⟨by rw [fin]; rfl, hb0.out⟩
  · have hb : ((n : Int) == 0) = false := beq_eq_false_iff_ne.2 (by omega)
    cases neg
    · have fin := hide (sgnI_pos hn)
      clear hn
      go_enter Tryz.func14, Tryz.ntmps14
      go_wp2
      go_ret
      exact ⟨by rw [fin.out]; rfl, hb0.out⟩
    · have fin := hide (sgnI_neg hn)
      clear hn
      go_enter Tryz.func14, Tryz.ntmps14
      go_wp2
      go_ret
      exact ⟨by rw [fin.out]; rfl, hb0.out⟩
end Go.Proofs.YtfkcobdkgjhfaaaGreatDoor

/- Walks: made of the thin package for decimals that are not finite; Sign and IsZero of the thin package. -/
set_option linter.unusedVariables false
set_option linter.unusedSimpArgs false
namespace Go.Proofs.YtfkcobdkgjhfaaaGreatDoor
open Go.RowKit

/-- Of other forms: 1, 2, 3. -/
theorem made_other (form : Int) (neg : Bool) (v : Value) (exp : Int) (w : World) (hf : form = 1 ∨ form = 2 ∨ form = 3) :
    Calls Tryz.prog 28 #[.agg #[.int .i64 form, .bool neg, v, .int .i64 exp]] w fun e w' => ∃ g, e = .returned (.pointer (some ⟨g, 0, none⟩)) ∧ w.heap.size ≤ g ∧ Blk w' g 71 (decC form neg 0 false (.slice none 0 0) false) ∧ Below w.heap.size w w' := by
  have fin : ∀ W : World, W = ((w.alloc (.cells #[.int .i64 form, .bool neg, v, .int .i64 exp] 24)).alloc (.cells (decC form neg 0 false (.slice none 0 0) false) 71)) →
      (w.heap.size ≤ w.heap.size + 1 ∧ Blk W (w.heap.size + 1) 71 (decC form neg 0 false (.slice none 0 0) false) ∧ Below w.heap.size w W) := by
    rintro W rfl
    refine ⟨by omega, ?_, below_al (below_al (Below.refl _ _) _) _⟩
    have := Blk.new (w.alloc (.cells #[.int .i64 form, .bool neg, v, .int .i64 exp] 24)) 71 (decC form neg 0 false (.slice none 0 0) false)
    simpa using this
  have Fin := hide fin
  clear fin
  rcases hf with rfl | rfl | rfl
  all_goals go_enter Tryz.func28, Tryz.ntmps28
  all_goals go_wp2
  all_goals go_ret
  all_goals exact ⟨w.heap.size + 1, rfl, Fin.out _ rfl⟩

theorem dsign_other (g : Nat) (form : Int) (neg : Bool) (w : World) (hf : form ≠ 0) (h : Blk w g 71 (decC form neg 0 false (.slice none 0 0) false)) :
    Calls Tryz.prog 61 #[.pointer (some ⟨g, 0, none⟩)] w fun e w' => e = .returned (.int .i64 (if neg then -1 else 1)) ∧ w = w' := by
  have c0 : w.cell? ⟨g, 0, none⟩ = some (.int .i8 form) := h.cell 0
  have c1 : w.cell? ⟨g, 1, none⟩ = some (.bool neg) := h.cell 1
  have hb : (form == 0) = false := beq_eq_false_iff_ne.2 hf
  clear h hf
  cases neg
  all_goals go_enter Tryz.func61, Tryz.ntmps61
  all_goals go_wp2
  all_goals go_ret
  all_goals exact ⟨rfl, rfl⟩

theorem dzero_other (g : Nat) (form : Int) (neg : Bool) (w : World) (hf : form ≠ 0) (h : Blk w g 71 (decC form neg 0 false (.slice none 0 0) false)) :
    Calls Tryz.prog 79 #[.pointer (some ⟨g, 0, none⟩)] w fun e w' => e = .returned (.bool false) ∧ w = w' := by
  have Con := hide (dsign_other g form neg w hf h)
  clear h hf
  cases neg
  all_goals go_enter Tryz.func79, Tryz.ntmps79
  all_goals go_wp2_with fail
  all_goals refine (Con.out).mono ?_
  all_goals rintro e w1 ⟨rfl, rfl⟩
  all_goals go_wp2
  all_goals go_ret
  all_goals exact ⟨rfl, rfl⟩

end Go.Proofs.YtfkcobdkgjhfaaaGreatDoor

/- Walks: Decimal.NumDigits, the thin package's Digits. -/
set_option linter.unusedVariables false
set_option linter.unusedSimpArgs false
namespace Go.Proofs.YtfkcobdkgjhfaaaGreatDoor
open Go.RowKit

theorem BigAt.dec {w : World} {g : Nat} {form : Int} {neg : Bool} {exp : Int} {A : Option Addr} {c v : Nat} (hB : Blk w g 71 (decC form neg exp false (.slice A (digs 18446744073709551616 v).length c) false)) (hr : RdW w (.slice A (digs 18446744073709551616 v).length c) (digs 18446744073709551616 v)) :
    BigAt w g 3 71 (decC form neg exp false (.slice A (digs 18446744073709551616 v).length c) false) A c v := ⟨hB, rfl, rfl, rfl, hr⟩

theorem dnumD_any (g : Nat) (t : TypeId) (cs : Array Value) (A : Option Addr) (c v : Nat) (w : World) (hx : BigAt w g 3 t cs A c v) (hbh : blen v ≤ 1280) (hv : VarsL w w.heap.size) :
    Calls Tryz.prog 52 #[.pointer (some ⟨g, 0, none⟩)] w (FigP w v) := by
  have Con := hide (numD_any g 3 t cs A c v w hx hbh hv)
  clear hx hbh hv
  go_enter Tryz.func52, Tryz.ntmps52
  go_wp2_with fail
  refine (Con.out).mono ?_
  rintro e w1 ⟨rfl, hb⟩
  have HF : Hid (FigP w v (.returned (.int .i64 (figs v : Int))) w1) := ⟨rfl, hb⟩
  clear hb Con
  generalize figs v = q at *
  go_wp2
  go_ret
  exact HF.out
end Go.Proofs.YtfkcobdkgjhfaaaGreatDoor
