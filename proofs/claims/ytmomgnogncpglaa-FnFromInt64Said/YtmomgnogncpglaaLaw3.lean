/- Walks: Same of the thin package, and the law FnSame. -/
import Derived.Test.YtmomgnogncpglaaLaw2
set_option linter.unusedVariables false
set_option linter.unusedSimpArgs false
namespace Go.Proofs.Ytmomgnogncpglaa
open Go.RowKit

abbrev decA (form : Int) (neg : Bool) (v : Value) (exp : Int) : Array Value := #[.int .i64 form, .bool neg, v, .int .i64 exp]

theorem same_result (n : Nat) (tmps : Array Value) (h : tmps.getD 2 undef = .pointer (some ⟨n, 0, none⟩)) (W : World) (a b c d : Value) (c0 : W.cell? ⟨n, 0, none⟩ = some a) (c1 : W.cell? ⟨n, 1, none⟩ = some b) (c2 : W.cell? ⟨n, 2, none⟩ = some c) (c3 : W.cell? ⟨n, 3, none⟩ = some d) :
    (results Try.f10 tmps).run Try.prog W = .ok (.agg #[a, b, c, d]) W := by
  have h2 : tmps[2]?.getD undef = .pointer (some ⟨n, 0, none⟩) := by simpa using h
  simp [results, Try.results10, go_sem, h2, c0, c1, c2, c3]

/-- The store of a Dec into a result's variable, and all that is left behind it. -/
theorem store_dec {w w1 : World} {g : Nat} {neg : Bool} {exp : Int} {A : Option Addr} {c : Nat} {xs : List Nat} (hg : w.heap.size ≤ g) (hb : Blk w1 g 24 (decA 0 false (.slice none 0 0) 0)) (hbel : Below w.heap.size w w1) (base : Nat) (hbase : w.heap.size ≤ base) (hown : OwnU w1 base (.slice A xs.length c) xs) :
    Blk ((((w1.setCell ⟨g, 0, none⟩ (.int .i64 0)).setCell ⟨g, 1, none⟩ (.bool neg)).setCell ⟨g, 2, none⟩ (.slice A xs.length c)).setCell ⟨g, 3, none⟩ (.int .i64 exp)) g 24 (decA 0 neg (.slice A xs.length c) exp) ∧
    ToldFin w neg exp xs (.returned (.agg #[.int .i64 0, .bool neg, .slice A xs.length c, .int .i64 exp])) ((((w1.setCell ⟨g, 0, none⟩ (.int .i64 0)).setCell ⟨g, 1, none⟩ (.bool neg)).setCell ⟨g, 2, none⟩ (.slice A xs.length c)).setCell ⟨g, 3, none⟩ (.int .i64 exp)) := by
  have hn := hown.ne_blk hb (by decide)
  have fr := ((((Fr.refl w1 (fun k => k = g)).setCell (p := ⟨g, 0, none⟩) (fun _ => rfl) (.int .i64 0)).setCell (p := ⟨g, 1, none⟩) (fun _ => rfl) (.bool neg)).setCell (p := ⟨g, 2, none⟩) (fun _ => rfl) (.slice A xs.length c)).setCell (p := ⟨g, 3, none⟩) (fun _ => rfl) (.int .i64 exp)
  refine ⟨(((hb.set 0 _).set 1 _).set 2 _).set 3 _, A, c, rfl, (hown.fr fr hn).lower hbase, ?_⟩
  exact (Fr.step (S := fun k => w.heap.size ≤ k) (Fr.of_below hbel _) fr (fun i _ h => by omega)).below (Nat.le_refl _) (fun k h => h)

set_option maxHeartbeats 1000000 in
theorem same_fin (neg : Bool) (A : Option Addr) (c : Nat) (xs : List Nat) (exp : Int) (w : World) (hv : RdW w (.slice A xs.length c) xs) (hn : xs.length ≤ 1048576) (he0 : -2147483648 ≤ exp) (he1 : exp ≤ 2147483647) (hcan : trimz xs = xs) :
    Calls Try.prog 10 #[.agg #[.int .i64 0, .bool neg, .slice A xs.length c, .int .i64 exp]] w (ToldFin w neg exp xs) := by
  have HV := hide (And.intro hv hcan)
  clear hv hcan
  go_enter Try.func10, Try.ntmps10
  go_wp2_with fail
  have hs : ((w.alloc (.cells #[.int .i64 0, .bool neg, .slice A xs.length c, .int .i64 exp] 24)).alloc (.cells #[.int .i64 0, .bool false, .slice none 0 0, .int .i64 0] 24)).heap.size = w.heap.size + 2 := by simp
  have hf : Fr w ((w.alloc (.cells #[.int .i64 0, .bool neg, .slice A xs.length c, .int .i64 exp] 24)).alloc (.cells #[.int .i64 0, .bool false, .slice none 0 0, .int .i64 0] 24)) (fun _ => False) := ((Fr.refl w _).alloc _).alloc _
  have hbv : Blk ((w.alloc (.cells #[.int .i64 0, .bool neg, .slice A xs.length c, .int .i64 exp] 24)).alloc (.cells #[.int .i64 0, .bool false, .slice none 0 0, .int .i64 0] 24)) (w.heap.size + 1) 24 #[.int .i64 0, .bool false, .slice none 0 0, .int .i64 0] := by
    have := Blk.new (w.alloc (.cells #[.int .i64 0, .bool neg, .slice A xs.length c, .int .i64 exp] 24)) 24 #[.int .i64 0, .bool false, .slice none 0 0, .int .i64 0]
    simpa using this
  generalize ((w.alloc (.cells #[.int .i64 0, .bool neg, .slice A xs.length c, .int .i64 exp] 24)).alloc (.cells #[.int .i64 0, .bool false, .slice none 0 0, .int .i64 0] 24)) = W at hs hf hbv ⊢
  refine (made_fin 0 neg (.slice A xs.length c) xs exp W (HV.out.1.fr hf (fun _ _ h => h)) hn (by decide) (by decide) (by decide) he0 he1).mono ?_
  rintro e w1 ⟨g, A1, c1, rfl, hg, hown, hB, hbel⟩
  rw [HV.out.2] at hown hB
  have HH := hide (And.intro hs (And.intro hf (And.intro hbv (And.intro hg (And.intro hown (And.intro hB hbel))))))
  clear hs hf hbv hg hown hB hbel
  go_wp2_with fail
  refine (told_fin g neg exp false false (.slice A1 xs.length c1) xs w1 HH.out.2.2.2.2.2.1 HH.out.2.2.2.2.1.rd hn he0 he1).mono ?_
  rintro e w2 ⟨A2, c2, rfl, hown2, hbel2⟩
  have hb2 : Below w.heap.size w w2 := (Fr.step (Fr.step HH.out.2.1 (Fr.of_below HH.out.2.2.2.2.2.2 (fun _ => False)) (fun _ _ h => h)) (Fr.of_below hbel2 (fun _ => False)) (fun _ _ h => h)).below (Nat.le_refl _) (fun _ h => h.elim)
  have hbv2 : Blk w2 (w.heap.size + 1) 24 #[.int .i64 0, .bool false, .slice none 0 0, .int .i64 0] := (HH.out.2.2.1.below HH.out.2.2.2.2.2.2).below hbel2
  obtain ⟨hBB, hT⟩ := store_dec (neg := neg) (exp := exp) (by omega) hbv2 hb2 w1.heap.size (by have := HH.out.2.2.2.2.2.2.size; have := HH.out.1; omega) hown2
  have y0 : w2.cell? ⟨w.heap.size + 1, 0, none⟩ = some (.int .i64 0) := hbv2.cell 0
  have y1 : w2.cell? ⟨w.heap.size + 1, 1, none⟩ = some (.bool false) := hbv2.cell 1
  have y2 : w2.cell? ⟨w.heap.size + 1, 2, none⟩ = some (.slice none 0 0) := hbv2.cell 2
  have y3 : w2.cell? ⟨w.heap.size + 1, 3, none⟩ = some (.int .i64 0) := hbv2.cell 3
  have z0 := hbv2.frozen 0
  have z1 := hbv2.frozen 1
  have z2 := hbv2.frozen 2
  have z3 := hbv2.frozen 3
  have HT := hide (And.intro hBB hT)
  clear hBB hT hown2 hbel2 hb2 hbv2 HH
  go_wp2
  exact bodyPost_ret (same_result (w.heap.size + 1) _ rfl _ (.int .i64 0) (.bool neg) (.slice A2 xs.length c2) (.int .i64 exp) (HT.out.1.cell 0) (HT.out.1.cell 1) (HT.out.1.cell 2) (HT.out.1.cell 3)) rfl HT.out.2
end Go.Proofs.Ytmomgnogncpglaa
