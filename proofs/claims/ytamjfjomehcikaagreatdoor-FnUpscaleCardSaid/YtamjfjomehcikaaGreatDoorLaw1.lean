/- Walks: zzFits1, finite of the laws. -/
import Derived.Test.YtamjfjomehcikaaGreatDoorSpec7
set_option linter.unusedVariables false
set_option linter.unusedSimpArgs false
namespace Go.Proofs.YtamjfjomehcikaaGreatDoor
open Go.RowKit

theorem fits_yes (form : Int) (neg : Bool) (A : Option Addr) (n c : Nat) (exp : Int) (w : World) (hn : n ≤ 2147483647) :
    Calls Tryz.prog 10 #[.agg #[.int .i64 form, .bool neg, .slice A n c, .int .i64 exp]] w (BoolP w true) := by
  have fin : BoolP w true (.returned (.bool true)) (w.alloc (.cells #[.int .i64 form, .bool neg, .slice A n c, .int .i64 exp] 31)) := ⟨rfl, below_al (Below.refl _ _) _⟩
  have Fin := hide fin
  clear fin
  go_enter Tryz.func10, Tryz.ntmps10
  go_wp2
  go_ret
  exact Fin.out
theorem fits_no (form : Int) (neg : Bool) (A : Option Addr) (n c : Nat) (exp : Int) (w : World) (hn : 2147483647 < n) :
    Calls Tryz.prog 10 #[.agg #[.int .i64 form, .bool neg, .slice A n c, .int .i64 exp]] w (BoolP w false) := by
  have fin : BoolP w false (.returned (.bool false)) (w.alloc (.cells #[.int .i64 form, .bool neg, .slice A n c, .int .i64 exp] 31)) := ⟨rfl, below_al (Below.refl _ _) _⟩
  have Fin := hide fin
  clear fin
  go_enter Tryz.func10, Tryz.ntmps10
  go_wp2
  go_ret
  exact Fin.out

/-- 'finite' says no. -/
def OutP (w : World) (e : Ending) (w' : World) : Prop := e = .returned (.tuple #[.agg #[.bool false, .slice none 0 0, .int .i64 0], .bool false]) ∧ Below w.heap.size w w'

theorem finite_result (n : Nat) (ok : Bool) (tmps : Array Value) (h : tmps.getD 2 undef = .pointer (some ⟨n, 0, none⟩)) (h3 : tmps.getD 3 undef = .bool ok) (W : World) (a b c : Value) (c0 : W.cell? ⟨n, 0, none⟩ = some a) (c1 : W.cell? ⟨n, 1, none⟩ = some b) (c2 : W.cell? ⟨n, 2, none⟩ = some c) :
    (results Tryz.f17 tmps).run Tryz.prog W = .ok (.tuple #[.agg #[a, b, c], .bool ok]) W := by
  have h2 : tmps[2]?.getD undef = .pointer (some ⟨n, 0, none⟩) := by simpa using h
  have h4 : tmps[3]?.getD undef = .bool ok := by simpa using h3
  simp [results, Tryz.results17, go_sem, h2, h4, c0, c1, c2]

theorem finite_out1 (form : Int) (neg : Bool) (A : Option Addr) (n c : Nat) (exp : Int) (w : World) (hn : 3 < n) :
    Calls Tryz.prog 17 #[.agg #[.int .i64 form, .bool neg, .slice A n c, .int .i64 exp]] w (OutP w) := by
  have fin : ∀ W : World, Below w.heap.size w W → OutP w (.returned (.tuple #[.agg #[.bool false, .slice none 0 0, .int .i64 0], .bool false])) W := fun W h => ⟨rfl, h⟩
  have Fin := hide fin
  clear fin
  go_enter Tryz.func17, Tryz.ntmps17
  go_wp2
  refine bodyPost_ret (finite_result (w.heap.size + 1) false _ rfl rfl _ (.bool false) (.slice none 0 0) (.int .i64 0) (by go_simp) (by go_simp) (by go_simp)) rfl (Fin.out _ (below_al (below_al (Below.refl _ _) _) _))
theorem finite_out2 (form : Int) (neg : Bool) (A : Option Addr) (n c : Nat) (exp : Int) (w : World) (hn : n ≤ 3) (he : exp < -100) :
    Calls Tryz.prog 17 #[.agg #[.int .i64 form, .bool neg, .slice A n c, .int .i64 exp]] w (OutP w) := by
  have fin : ∀ W : World, Below w.heap.size w W → OutP w (.returned (.tuple #[.agg #[.bool false, .slice none 0 0, .int .i64 0], .bool false])) W := fun W h => ⟨rfl, h⟩
  have Fin := hide fin
  clear fin
  go_enter Tryz.func17, Tryz.ntmps17
  go_wp2
  refine bodyPost_ret (finite_result (w.heap.size + 1) false _ rfl rfl _ (.bool false) (.slice none 0 0) (.int .i64 0) (by go_simp) (by go_simp) (by go_simp)) rfl (Fin.out _ (below_al (below_al (Below.refl _ _) _) _))
theorem finite_out3 (form : Int) (neg : Bool) (A : Option Addr) (n c : Nat) (exp : Int) (w : World) (hn : n ≤ 3) (he : ¬ exp < -100) (he2 : 100 < exp) :
    Calls Tryz.prog 17 #[.agg #[.int .i64 form, .bool neg, .slice A n c, .int .i64 exp]] w (OutP w) := by
  have fin : ∀ W : World, Below w.heap.size w W → OutP w (.returned (.tuple #[.agg #[.bool false, .slice none 0 0, .int .i64 0], .bool false])) W := fun W h => ⟨rfl, h⟩
  have Fin := hide fin
  clear fin
  go_enter Tryz.func17, Tryz.ntmps17
  go_wp2
  refine bodyPost_ret (finite_result (w.heap.size + 1) false _ rfl rfl _ (.bool false) (.slice none 0 0) (.int .i64 0) (by go_simp) (by go_simp) (by go_simp)) rfl (Fin.out _ (below_al (below_al (Below.refl _ _) _) _))

set_option maxHeartbeats 1000000 in
theorem finite_in (form : Int) (neg : Bool) (A : Option Addr) (c : Nat) (xs : List Nat) (exp : Int) (w : World) (hv : RdG .u64 w (.slice A xs.length c) xs) (hn : xs.length ≤ 3) (he : ¬ exp < -100) (he2 : ¬ 100 < exp) (hd : Dig 18446744073709551616 xs) :
    Calls Tryz.prog 17 #[.agg #[.int .i64 form, .bool neg, .slice A xs.length c, .int .i64 exp]] w (ValP w neg (numW xs) exp (okB form xs)) := by
  have HV := hide hv
  have HD := hide hd
  clear hv hd
  go_enter Tryz.func17, Tryz.ntmps17
  go_wp2_with fail
  have hs : ((w.alloc (.cells #[.int .i64 form, .bool neg, .slice A xs.length c, .int .i64 exp] 31)).alloc (.cells #[.bool false, .slice none 0 0, .int .i64 0] 34)).heap.size = w.heap.size + 2 := by simp
  have hf : Fr w ((w.alloc (.cells #[.int .i64 form, .bool neg, .slice A xs.length c, .int .i64 exp] 31)).alloc (.cells #[.bool false, .slice none 0 0, .int .i64 0] 34)) (fun _ => False) := ((Fr.refl w _).alloc _).alloc _
  have hbv : Blk ((w.alloc (.cells #[.int .i64 form, .bool neg, .slice A xs.length c, .int .i64 exp] 31)).alloc (.cells #[.bool false, .slice none 0 0, .int .i64 0] 34)) (w.heap.size + 1) 34 #[.bool false, .slice none 0 0, .int .i64 0] := by
    have := Blk.new (w.alloc (.cells #[.int .i64 form, .bool neg, .slice A xs.length c, .int .i64 exp] 31)) 34 #[.bool false, .slice none 0 0, .int .i64 0]
    simpa using this
  generalize ((w.alloc (.cells #[.int .i64 form, .bool neg, .slice A xs.length c, .int .i64 exp] 31)).alloc (.cells #[.bool false, .slice none 0 0, .int .i64 0] 34)) = W at hs hf hbv ⊢
  refine (ofDec_any form neg (.slice A xs.length c) xs exp W (HV.out.fr hf (fun _ _ h => h)) (by omega) HD.out).mono ?_
  rintro e w1 ⟨B1, c1, rfl, hown, hbel⟩
  have hv1 := hbv.below hbel
  have hne := hown.ne_blk hv1 (by decide)
  have y0 : w1.cell? ⟨w.heap.size + 1, 0, none⟩ = some (.bool false) := hv1.cell 0
  have y1 : w1.cell? ⟨w.heap.size + 1, 1, none⟩ = some (.slice none 0 0) := hv1.cell 1
  have y2 : w1.cell? ⟨w.heap.size + 1, 2, none⟩ = some (.int .i64 0) := hv1.cell 2
  have z0 : w1.frozen? ⟨w.heap.size + 1, 0, none⟩ = false := hv1.frozen 0
  have z1 : w1.frozen? ⟨w.heap.size + 1, 1, none⟩ = false := hv1.frozen 1
  have z2 : w1.frozen? ⟨w.heap.size + 1, 2, none⟩ = false := hv1.frozen 2
  have fr := (((Fr.refl w1 (fun k => k = w.heap.size + 1)).setCell (p := ⟨w.heap.size + 1, 0, none⟩) (fun _ => rfl) (.bool neg)).setCell (p := ⟨w.heap.size + 1, 1, none⟩) (fun _ => rfl) (.slice B1 (digs 65536 (numW xs)).length c1)).setCell (p := ⟨w.heap.size + 1, 2, none⟩) (fun _ => rfl) (.int .i64 exp)
  have hB := ((hv1.set 0 (.bool neg)).set 1 (.slice B1 (digs 65536 (numW xs)).length c1)).set 2 (.int .i64 exp)
  have fin : ValP w neg (numW xs) exp (okB form xs) (.returned (.tuple #[.agg #[.bool neg, .slice B1 (digs 65536 (numW xs)).length c1, .int .i64 exp], .bool (okB form xs)])) (((w1.setCell ⟨w.heap.size + 1, 0, none⟩ (.bool neg)).setCell ⟨w.heap.size + 1, 1, none⟩ (.slice B1 (digs 65536 (numW xs)).length c1)).setCell ⟨w.heap.size + 1, 2, none⟩ (.int .i64 exp)) := by
    refine ⟨B1, c1, rfl, (hown.fr fr hne).lower (by omega), ?_⟩
    have f1 : Fr w w1 (fun k => w.heap.size ≤ k) := Fr.step (hf.mono (fun _ _ h => h.elim)) (Fr.of_below hbel (fun _ => False)) (fun _ _ h => h.elim)
    exact (Fr.step f1 fr (fun i _ h => by omega)).below (Nat.le_refl _) (fun k h => h)
  have HH := hide (And.intro hB fin)
  clear hs hf hbv hown hbel hv1 hne fr hB fin
  go_wp2
  exact bodyPost_ret (finite_result (w.heap.size + 1) _ _ rfl rfl _ (.bool neg) (.slice B1 (digs 65536 (numW xs)).length c1) (.int .i64 exp) (HH.out.1.cell 0) (HH.out.1.cell 1) (HH.out.1.cell 2)) rfl HH.out.2
end Go.Proofs.YtamjfjomehcikaaGreatDoor
