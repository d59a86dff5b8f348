/- Walks: made of the thin package for decimals that are not finite; Sign and IsZero of the thin package. -/
import Derived.Test.YtmomgnogncpglaaSign
set_option linter.unusedVariables false
set_option linter.unusedSimpArgs false
namespace Go.Proofs.Ytmomgnogncpglaa
open Go.RowKit

/-- Of other forms: 1, 2, 3. -/
theorem made_other (form : Int) (neg : Bool) (v : Value) (exp : Int) (w : World) (hf : form = 1 ∨ form = 2 ∨ form = 3) :
    Calls Try.prog 23 #[.agg #[.int .i64 form, .bool neg, v, .int .i64 exp]] w fun e w' => ∃ g, e = .returned (.pointer (some ⟨g, 0, none⟩)) ∧ w.heap.size ≤ g ∧ Blk w' g 60 (decC form neg 0 false (.slice none 0 0) false) ∧ Below w.heap.size w w' := by
  have fin : ∀ W : World, W = ((w.alloc (.cells #[.int .i64 form, .bool neg, v, .int .i64 exp] 24)).alloc (.cells (decC form neg 0 false (.slice none 0 0) false) 60)) →
      (w.heap.size ≤ w.heap.size + 1 ∧ Blk W (w.heap.size + 1) 60 (decC form neg 0 false (.slice none 0 0) false) ∧ Below w.heap.size w W) := by
    rintro W rfl
    refine ⟨by omega, ?_, below_al (below_al (Below.refl _ _) _) _⟩
    have := Blk.new (w.alloc (.cells #[.int .i64 form, .bool neg, v, .int .i64 exp] 24)) 60 (decC form neg 0 false (.slice none 0 0) false)
    simpa using this
  have Fin := hide fin
  clear fin
  rcases hf with rfl | rfl | rfl
  all_goals go_enter Try.func23, Try.ntmps23
  all_goals go_wp2
  all_goals go_ret
  all_goals exact ⟨w.heap.size + 1, rfl, Fin.out _ rfl⟩

theorem dsign_other (g : Nat) (form : Int) (neg : Bool) (w : World) (hf : form ≠ 0) (h : Blk w g 60 (decC form neg 0 false (.slice none 0 0) false)) :
    Calls Try.prog 25 #[.pointer (some ⟨g, 0, none⟩)] w fun e w' => e = .returned (.int .i64 (if neg then -1 else 1)) ∧ w = w' := by
  have c0 : w.cell? ⟨g, 0, none⟩ = some (.int .i8 form) := h.cell 0
  have c1 : w.cell? ⟨g, 1, none⟩ = some (.bool neg) := h.cell 1
  have hb : (form == 0) = false := beq_eq_false_iff_ne.2 hf
  clear h hf
  cases neg
  all_goals go_enter Try.func25, Try.ntmps25
  all_goals go_wp2
  all_goals go_ret
  all_goals exact ⟨rfl, rfl⟩

theorem dzero_other (g : Nat) (form : Int) (neg : Bool) (w : World) (hf : form ≠ 0) (h : Blk w g 60 (decC form neg 0 false (.slice none 0 0) false)) :
    Calls Try.prog 26 #[.pointer (some ⟨g, 0, none⟩)] w fun e w' => e = .returned (.bool false) ∧ w = w' := by
  have Con := hide (dsign_other g form neg w hf h)
  clear h hf
  cases neg
  all_goals go_enter Try.func26, Try.ntmps26
  all_goals go_wp2_with fail
  all_goals refine (Con.out).mono ?_
  all_goals rintro e w1 ⟨rfl, rfl⟩
  all_goals go_wp2
  all_goals go_ret
  all_goals exact ⟨rfl, rfl⟩

def IntRet (w : World) (n : Int) (e : Ending) (w' : World) : Prop := e = .returned (.int .i64 n) ∧ Below w.heap.size w w'

theorem sign_fin (neg : Bool) (A : Option Addr) (c : Nat) (xs : List Nat) (exp : Int) (w : World) (hv : RdW w (.slice A xs.length c) xs) (hn : xs.length ≤ 1048576) (he0 : -2147483648 ≤ exp) (he1 : exp ≤ 2147483647) (hcan : trimz xs = xs) :
    Calls Try.prog 12 #[.agg #[.int .i64 0, .bool neg, .slice A xs.length c, .int .i64 exp]] w (IntRet w (sgnI neg xs.length)) := by
  have con := made_fin 0 neg (.slice A xs.length c) xs exp (w.alloc (.cells #[.int .i64 0, .bool neg, .slice A xs.length c, .int .i64 exp] 24)) (hv.fr ((Fr.refl w (fun _ => False)).alloc _) (fun _ _ h => h)) hn (by decide) (by decide) (by decide) he0 he1
  rw [hcan] at con
  have Con := hide con
  have HB := hide (below_al (Below.refl w.heap.size w) (.cells #[.int .i64 0, .bool neg, .slice A xs.length c, .int .i64 exp] 24))
  clear con hv hcan
  go_enter Try.func12, Try.ntmps12
  go_wp2_with fail
  generalize w.alloc (.cells #[.int .i64 0, .bool neg, .slice A xs.length c, .int .i64 exp] 24) = W at Con HB ⊢
  refine (Con.out).mono ?_
  rintro e w1 ⟨g, A1, c1, rfl, hg, hown, hB, hbel⟩
  have H1 := hide (And.intro hB (below_next HB.out hbel))
  clear hg hown hB hbel Con
  go_wp2_with fail
  refine (dsign_any g neg exp A1 xs.length c1 w1 H1.out.1).mono ?_
  rintro e w2 ⟨rfl, rfl⟩
  go_wp2
  go_ret
  exact ⟨rfl, H1.out.2⟩

theorem zero_fin (neg : Bool) (A : Option Addr) (c : Nat) (xs : List Nat) (exp : Int) (w : World) (hv : RdW w (.slice A xs.length c) xs) (hn : xs.length ≤ 1048576) (he0 : -2147483648 ≤ exp) (he1 : exp ≤ 2147483647) (hcan : trimz xs = xs) :
    Calls Try.prog 13 #[.agg #[.int .i64 0, .bool neg, .slice A xs.length c, .int .i64 exp]] w (BoolP w (decide (xs.length = 0))) := by
  have con := made_fin 0 neg (.slice A xs.length c) xs exp (w.alloc (.cells #[.int .i64 0, .bool neg, .slice A xs.length c, .int .i64 exp] 24)) (hv.fr ((Fr.refl w (fun _ => False)).alloc _) (fun _ _ h => h)) hn (by decide) (by decide) (by decide) he0 he1
  rw [hcan] at con
  have Con := hide con
  have HB := hide (below_al (Below.refl w.heap.size w) (.cells #[.int .i64 0, .bool neg, .slice A xs.length c, .int .i64 exp] 24))
  clear con hv hcan
  obtain ⟨b, hb⟩ : ∃ b, b = decide (xs.length = 0) := ⟨_, rfl⟩
  rw [← hb]
  have Hb := hide hb
  clear hb
  go_enter Try.func13, Try.ntmps13
  go_wp2_with fail
  generalize w.alloc (.cells #[.int .i64 0, .bool neg, .slice A xs.length c, .int .i64 exp] 24) = W at Con HB ⊢
  refine (Con.out).mono ?_
  rintro e w1 ⟨g, A1, c1, rfl, hg, hown, hB, hbel⟩
  have H1 := hide (And.intro hB (below_next HB.out hbel))
  clear hg hown hB hbel Con
  go_wp2_with fail
  refine (dzero_any g neg exp A1 xs.length c1 w1 H1.out.1).mono ?_
  rintro e w2 ⟨rfl, rfl⟩
  rw [← Hb.out]
  go_wp2
  go_ret
  exact ⟨rfl, H1.out.2⟩

theorem sign_other (form : Int) (neg : Bool) (v : Value) (exp : Int) (w : World) (hf : form = 1 ∨ form = 2 ∨ form = 3) :
    Calls Try.prog 12 #[.agg #[.int .i64 form, .bool neg, v, .int .i64 exp]] w (IntRet w (if neg then -1 else 1)) := by
  have Con := hide (made_other form neg v exp (w.alloc (.cells #[.int .i64 form, .bool neg, v, .int .i64 exp] 24)) hf)
  have HB := hide (below_al (Below.refl w.heap.size w) (.cells #[.int .i64 form, .bool neg, v, .int .i64 exp] 24))
  have hf0 : form ≠ 0 := by omega
  have HF := hide hf0
  clear hf0 hf
  cases neg
  all_goals go_enter Try.func12, Try.ntmps12
  all_goals go_wp2_with fail
  all_goals refine (Con.out).mono ?_
  all_goals rintro e w1 ⟨g, rfl, hg, hB, hbel⟩
  all_goals have H1 := hide (And.intro hB (below_next HB.out hbel))
  all_goals clear hg hB hbel Con
  all_goals go_wp2_with fail
  all_goals refine (dsign_other g form _ w1 HF.out H1.out.1).mono ?_
  all_goals rintro e w2 ⟨rfl, rfl⟩
  all_goals go_wp2
  all_goals go_ret
  all_goals exact ⟨rfl, H1.out.2⟩

theorem zero_other (form : Int) (neg : Bool) (v : Value) (exp : Int) (w : World) (hf : form = 1 ∨ form = 2 ∨ form = 3) :
    Calls Try.prog 13 #[.agg #[.int .i64 form, .bool neg, v, .int .i64 exp]] w (BoolP w false) := by
  have Con := hide (made_other form neg v exp (w.alloc (.cells #[.int .i64 form, .bool neg, v, .int .i64 exp] 24)) hf)
  have HB := hide (below_al (Below.refl w.heap.size w) (.cells #[.int .i64 form, .bool neg, v, .int .i64 exp] 24))
  have hf0 : form ≠ 0 := by omega
  have HF := hide hf0
  clear hf0 hf
  go_enter Try.func13, Try.ntmps13
  go_wp2_with fail
  refine (Con.out).mono ?_
  rintro e w1 ⟨g, rfl, hg, hB, hbel⟩
  have H1 := hide (And.intro hB (below_next HB.out hbel))
  clear hg hB hbel Con
  go_wp2_with fail
  refine (dzero_other g form _ w1 HF.out H1.out.1).mono ?_
  rintro e w2 ⟨rfl, rfl⟩
  go_wp2
  go_ret
  exact ⟨rfl, H1.out.2⟩
end Go.Proofs.Ytmomgnogncpglaa
