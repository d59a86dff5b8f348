/- Parts of the proofs: Spec7, Law1, FinOut, Cnd1. -/
import Derived.Deep.RegionHeld3
import Derived.Test.YtfkcobdkgjhfaaaGreatDoorG7
import Derived.Test.YtfkcobdkgjhfaaaGreatDoorG24
/- Walks: spec's OfDec; zzFits1, finite of the laws. -/
set_option linter.unusedVariables false
set_option linter.unusedSimpArgs false
namespace Go.Proofs.YtfkcobdkgjhfaaaGreatDoor
open Go.RowKit

/-- Are words those of a number? -/
def okB (form : Int) (xs : List Nat) : Bool := (form == 0) && eqB xs (digs 18446744073709551616 (numW xs))

/-- A Value and a bool. -/
def ValP (w : World) (neg : Bool) (n : Nat) (exp : Int) (ok : Bool) (e : Ending) (w' : World) : Prop :=
  ∃ A c, e = .returned (.tuple #[.agg #[.bool neg, .slice A (digs 65536 n).length c, .int .i64 exp], .bool ok]) ∧ OwnI w' w.heap.size (.slice A (digs 65536 n).length c) (digs 65536 n) ∧ Below w.heap.size w w'

theorem ofDec_result (n : Nat) (ok : Bool) (tmps : Array Value) (h : tmps.getD 2 undef = .pointer (some ⟨n, 0, none⟩)) (h3 : tmps.getD 3 undef = .bool ok) (W : World) (a b c : Value) (c0 : W.cell? ⟨n, 0, none⟩ = some a) (c1 : W.cell? ⟨n, 1, none⟩ = some b) (c2 : W.cell? ⟨n, 2, none⟩ = some c) :
    (results Tryz.f11 tmps).run Tryz.prog W = .ok (.tuple #[.agg #[a, b, c], .bool ok]) W := by
  have h2 : tmps[2]?.getD undef = .pointer (some ⟨n, 0, none⟩) := by simpa using h
  have h4 : tmps[3]?.getD undef = .bool ok := by simpa using h3
  simp [results, Tryz.results11, go_sem, h2, h4, c0, c1, c2]

theorem digs_len_words {xs : List Nat} (hd : Dig 18446744073709551616 xs) : (digs 65536 (numW xs)).length ≤ 4 * xs.length := by
  unfold numW
  rw [← trimz_quads xs hd]
  have := trimz_length_le (quads xs)
  rw [quads_length] at this
  exact this

set_option maxHeartbeats 2000000 in
theorem ofDec_any (form : Int) (neg : Bool) (v : Value) (xs : List Nat) (exp : Int) (w : World) (hv : RdG .u64 w v xs) (hn : xs.length ≤ 1048576) (hd : Dig 18446744073709551616 xs) :
    Calls Tryz.prog 11 #[.agg #[.int .i64 form, .bool neg, v, .int .i64 exp]] w (ValP w neg (numW xs) exp (okB form xs)) := by
  obtain ⟨A, c, rfl, hxc, hcm⟩ := hv.slice
  have HV := hide hv
  have HD := hide hd
  clear hv hd
  go_enter Tryz.func11, Tryz.ntmps11
  go_wp2_with fail
  have hs : ((w.alloc (.cells #[.int .i64 form, .bool neg, .slice A xs.length c, .int .i64 exp] 24)).alloc (.cells #[.bool false, .slice none 0 0, .int .i64 0] 29)).heap.size = w.heap.size + 2 := by simp
  have hf : Fr w ((w.alloc (.cells #[.int .i64 form, .bool neg, .slice A xs.length c, .int .i64 exp] 24)).alloc (.cells #[.bool false, .slice none 0 0, .int .i64 0] 29)) (fun _ => False) := ((Fr.refl w _).alloc _).alloc _
  have hbx : Blk ((w.alloc (.cells #[.int .i64 form, .bool neg, .slice A xs.length c, .int .i64 exp] 24)).alloc (.cells #[.bool false, .slice none 0 0, .int .i64 0] 29)) w.heap.size 24 #[.int .i64 form, .bool neg, .slice A xs.length c, .int .i64 exp] := (Blk.new w _ _).alloc _
  have hbv : Blk ((w.alloc (.cells #[.int .i64 form, .bool neg, .slice A xs.length c, .int .i64 exp] 24)).alloc (.cells #[.bool false, .slice none 0 0, .int .i64 0] 29)) (w.heap.size + 1) 29 #[.bool false, .slice none 0 0, .int .i64 0] := by
    have := Blk.new (w.alloc (.cells #[.int .i64 form, .bool neg, .slice A xs.length c, .int .i64 exp] 24)) 29 #[.bool false, .slice none 0 0, .int .i64 0]
    simpa using this
  generalize ((w.alloc (.cells #[.int .i64 form, .bool neg, .slice A xs.length c, .int .i64 exp] 24)).alloc (.cells #[.bool false, .slice none 0 0, .int .i64 0] 29)) = W at hs hf hbx hbv ⊢
  have hvW := HV.out.fr hf (fun _ _ h => h)
  refine (of_any (.slice A xs.length c) xs W hvW hn HD.out).mono ?_
  rintro e w1 ⟨B1, c1, rfl, hown, hbel⟩
  have hln := digs_len_words HD.out
  have hx1 := hbx.below hbel
  have hv1 := hbv.below hbel
  have hvw1 := hvW.below hbel
  have hsz : w.heap.size + 2 ≤ w1.heap.size := by have := hbel.size; omega
  have hfr : Fr w w1 (fun _ => False) := Fr.step hf (Fr.of_below hbel (fun _ => False)) (fun _ _ h => h)
  have hown1 : OwnI w1 w.heap.size (.slice B1 (digs 65536 (numW xs)).length c1) (digs 65536 (numW xs)) := hown.lower (by omega)
  have HH := hide (And.intro hown1 (And.intro hx1 (And.intro hv1 (And.intro hvw1 (And.intro hfr hln)))))
  clear hs hf hbx hbv hvW hown hbel hln hx1 hv1 hvw1 hfr hown1 HV
  have fin : ∀ (ok : Bool) (w2 : World), Below w1.heap.size w1 w2 → ok = okB form xs →
      ∃ hB : Blk (((w2.setCell ⟨w.heap.size + 1, 0, none⟩ (.bool neg)).setCell ⟨w.heap.size + 1, 1, none⟩ (.slice B1 (digs 65536 (numW xs)).length c1)).setCell ⟨w.heap.size + 1, 2, none⟩ (.int .i64 exp)) (w.heap.size + 1) 29 #[.bool neg, .slice B1 (digs 65536 (numW xs)).length c1, .int .i64 exp],
      ValP w neg (numW xs) exp (okB form xs) (.returned (.tuple #[.agg #[.bool neg, .slice B1 (digs 65536 (numW xs)).length c1, .int .i64 exp], .bool ok])) (((w2.setCell ⟨w.heap.size + 1, 0, none⟩ (.bool neg)).setCell ⟨w.heap.size + 1, 1, none⟩ (.slice B1 (digs 65536 (numW xs)).length c1)).setCell ⟨w.heap.size + 1, 2, none⟩ (.int .i64 exp)) := by
    intro ok w2 hb hok
    obtain ⟨hown1, hx1, hv1, hvw1, hfr, hln⟩ := HH.out
    have hv2 := hv1.below hb
    have hne := (hown1.below hb).ne_blk hv2 (by decide)
    have fr := (((Fr.refl w2 (fun k => k = w.heap.size + 1)).setCell (p := ⟨w.heap.size + 1, 0, none⟩) (fun _ => rfl) (.bool neg)).setCell (p := ⟨w.heap.size + 1, 1, none⟩) (fun _ => rfl) (.slice B1 (digs 65536 (numW xs)).length c1)).setCell (p := ⟨w.heap.size + 1, 2, none⟩) (fun _ => rfl) (.int .i64 exp)
    refine ⟨((hv2.set 0 _).set 1 _).set 2 _, B1, c1, by rw [hok], (hown1.below hb).fr fr hne, ?_⟩
    have f1 : Fr w w2 (fun k => w.heap.size ≤ k) := Fr.step (hfr.mono (fun _ _ h => h.elim)) (Fr.of_below hb (fun _ => False)) (fun _ _ h => h.elim)
    exact (Fr.step f1 fr (fun i _ h => by omega)).below (Nat.le_refl _) (fun k h => h)
  have Fin := hide fin
  clear fin
  have x0 : w1.cell? ⟨w.heap.size, 0, none⟩ = some (.int .i64 form) := HH.out.2.1.cell 0
  have x1 : w1.cell? ⟨w.heap.size, 1, none⟩ = some (.bool neg) := HH.out.2.1.cell 1
  have x2 : w1.cell? ⟨w.heap.size, 2, none⟩ = some (.slice A xs.length c) := HH.out.2.1.cell 2
  have x3 : w1.cell? ⟨w.heap.size, 3, none⟩ = some (.int .i64 exp) := HH.out.2.1.cell 3
  have y0 : w1.cell? ⟨w.heap.size + 1, 0, none⟩ = some (.bool false) := HH.out.2.2.1.cell 0
  have y1 : w1.cell? ⟨w.heap.size + 1, 1, none⟩ = some (.slice none 0 0) := HH.out.2.2.1.cell 1
  have y2 : w1.cell? ⟨w.heap.size + 1, 2, none⟩ = some (.int .i64 0) := HH.out.2.2.1.cell 2
  have z0 : w1.frozen? ⟨w.heap.size + 1, 0, none⟩ = false := HH.out.2.2.1.frozen 0
  have z1 : w1.frozen? ⟨w.heap.size + 1, 1, none⟩ = false := HH.out.2.2.1.frozen 1
  have z2 : w1.frozen? ⟨w.heap.size + 1, 2, none⟩ = false := HH.out.2.2.1.frozen 2
  by_cases hform : form = 0
  · subst hform
    have hpk := pk_digs (numW xs)
    have con := fun W (h : Below w1.heap.size w1 W) => hasWords_any A B1 c c1 xs (digs 65536 (numW xs)) W (HH.out.2.2.2.1.below h) (HH.out.1.below h).rd hn (by have := HH.out.2.2.2.2.2; omega) (dig_digs (by omega) _)
    rw [hpk] at con
    have Con := hide con
    clear con hpk
    go_wp2_with fail
    go_region_held3 (fun W => W.cell? ⟨w.heap.size, 0, none⟩ = some (.int .i64 0) ∧ W.cell? ⟨w.heap.size, 1, none⟩ = some (.bool neg) ∧ W.cell? ⟨w.heap.size, 2, none⟩ = some (.slice A xs.length c) ∧ W.cell? ⟨w.heap.size, 3, none⟩ = some (.int .i64 exp)) (first | exact ⟨x0, x1, x2, x3⟩ | exact ⟨u0, u1, u2, u3⟩ | (refine ⟨?_, ?_, ?_, ?_⟩ <;> (go_simp; done)) | go_keep)
      (first | (go_at_call 32; refine (Con.out _ ?_).mono ?_; exact (Below.refl _ _).drew; rintro e w2 ⟨rfl, hb⟩; have hb2 : Below w1.heap.size w1 w2 := (Below.refl w1.heap.size w1).drew.trans hb; have u0 := (HH.out.2.1.below hb2).cell 0; have u1 := (HH.out.2.1.below hb2).cell 1; have u2 := (HH.out.2.1.below hb2).cell 2; have u3 := (HH.out.2.1.below hb2).cell 3; have t0 := (HH.out.2.2.1.below hb2).cell 0; have t1 := (HH.out.2.2.1.below hb2).cell 1; have t2 := (HH.out.2.2.1.below hb2).cell 2; have s0 := (HH.out.2.2.1.below hb2).frozen 0; have s1 := (HH.out.2.2.1.below hb2).frozen 1; have s2 := (HH.out.2.2.1.below hb2).frozen 2))
    go_wp2
    have hok : eqB xs (digs 18446744073709551616 (numW xs)) = okB 0 xs := by simp [okB]
    obtain ⟨hB, hP⟩ := Fin.out _ w2 hb2 hok
    exact bodyPost_ret (ofDec_result (w.heap.size + 1) _ _ rfl rfl _ (.bool neg) (.slice B1 (digs 65536 (numW xs)).length c1) (.int .i64 exp) (hB.cell 0) (hB.cell 1) (hB.cell 2)) rfl hP
  · have b0 : (form == 0) = false := beq_eq_false_iff_ne.2 hform
    go_wp2_with fail
    go_region
    all_goals go_wp2
    all_goals have hok : false = okB form xs := by simp [okB, hform]
    all_goals obtain ⟨hB, hP⟩ := Fin.out _ w1.drew (Below.refl _ _).drew hok
    all_goals exact bodyPost_ret (ofDec_result (w.heap.size + 1) _ _ rfl rfl _ (.bool neg) (.slice B1 (digs 65536 (numW xs)).length c1) (.int .i64 exp) (hB.cell 0) (hB.cell 1) (hB.cell 2)) rfl hP
end Go.Proofs.YtfkcobdkgjhfaaaGreatDoor

/- Walks: zzFits1, finite of the laws. -/
set_option linter.unusedVariables false
set_option linter.unusedSimpArgs false
namespace Go.Proofs.YtfkcobdkgjhfaaaGreatDoor
open Go.RowKit

theorem fits_yes (form : Int) (neg : Bool) (A : Option Addr) (n c : Nat) (exp : Int) (w : World) (hn : n ≤ 2147483647) :
    Calls Tryz.prog 8 #[.agg #[.int .i64 form, .bool neg, .slice A n c, .int .i64 exp]] w (BoolP w true) := by
  have fin : BoolP w true (.returned (.bool true)) (w.alloc (.cells #[.int .i64 form, .bool neg, .slice A n c, .int .i64 exp] 24)) := ⟨rfl, below_al (Below.refl _ _) _⟩
  have Fin := hide fin
  clear fin
  go_enter Tryz.func8, Tryz.ntmps8
  go_wp2
  go_ret
  exact Fin.out
theorem fits_no (form : Int) (neg : Bool) (A : Option Addr) (n c : Nat) (exp : Int) (w : World) (hn : 2147483647 < n) :
    Calls Tryz.prog 8 #[.agg #[.int .i64 form, .bool neg, .slice A n c, .int .i64 exp]] w (BoolP w false) := by
  have fin : BoolP w false (.returned (.bool false)) (w.alloc (.cells #[.int .i64 form, .bool neg, .slice A n c, .int .i64 exp] 24)) := ⟨rfl, below_al (Below.refl _ _) _⟩
  have Fin := hide fin
  clear fin
  go_enter Tryz.func8, Tryz.ntmps8
  go_wp2
  go_ret
  exact Fin.out

/-- 'finite' says no. -/
def OutP (w : World) (e : Ending) (w' : World) : Prop := e = .returned (.tuple #[.agg #[.bool false, .slice none 0 0, .int .i64 0], .bool false]) ∧ Below w.heap.size w w'

theorem finite_result (n : Nat) (ok : Bool) (tmps : Array Value) (h : tmps.getD 2 undef = .pointer (some ⟨n, 0, none⟩)) (h3 : tmps.getD 3 undef = .bool ok) (W : World) (a b c : Value) (c0 : W.cell? ⟨n, 0, none⟩ = some a) (c1 : W.cell? ⟨n, 1, none⟩ = some b) (c2 : W.cell? ⟨n, 2, none⟩ = some c) :
    (results Tryz.f9 tmps).run Tryz.prog W = .ok (.tuple #[.agg #[a, b, c], .bool ok]) W := by
  have h2 : tmps[2]?.getD undef = .pointer (some ⟨n, 0, none⟩) := by simpa using h
  have h4 : tmps[3]?.getD undef = .bool ok := by simpa using h3
  simp [results, Tryz.results9, go_sem, h2, h4, c0, c1, c2]

theorem finite_out1 (form : Int) (neg : Bool) (A : Option Addr) (n c : Nat) (exp : Int) (w : World) (hn : 3 < n) :
    Calls Tryz.prog 9 #[.agg #[.int .i64 form, .bool neg, .slice A n c, .int .i64 exp]] w (OutP w) := by
  have fin : ∀ W : World, Below w.heap.size w W → OutP w (.returned (.tuple #[.agg #[.bool false, .slice none 0 0, .int .i64 0], .bool false])) W := fun W h => ⟨rfl, h⟩
  have Fin := hide fin
  clear fin
  go_enter Tryz.func9, Tryz.ntmps9
  go_wp2
  refine bodyPost_ret (finite_result (w.heap.size + 1) false _ rfl rfl _ (.bool false) (.slice none 0 0) (.int .i64 0) (by go_simp) (by go_simp) (by go_simp)) rfl (Fin.out _ (below_al (below_al (Below.refl _ _) _) _))
theorem finite_out2 (form : Int) (neg : Bool) (A : Option Addr) (n c : Nat) (exp : Int) (w : World) (hn : n ≤ 3) (he : exp < -100) :
    Calls Tryz.prog 9 #[.agg #[.int .i64 form, .bool neg, .slice A n c, .int .i64 exp]] w (OutP w) := by
  have fin : ∀ W : World, Below w.heap.size w W → OutP w (.returned (.tuple #[.agg #[.bool false, .slice none 0 0, .int .i64 0], .bool false])) W := fun W h => ⟨rfl, h⟩
  have Fin := hide fin
  clear fin
  go_enter Tryz.func9, Tryz.ntmps9
  go_wp2
  refine bodyPost_ret (finite_result (w.heap.size + 1) false _ rfl rfl _ (.bool false) (.slice none 0 0) (.int .i64 0) (by go_simp) (by go_simp) (by go_simp)) rfl (Fin.out _ (below_al (below_al (Below.refl _ _) _) _))
theorem finite_out3 (form : Int) (neg : Bool) (A : Option Addr) (n c : Nat) (exp : Int) (w : World) (hn : n ≤ 3) (he : ¬ exp < -100) (he2 : 100 < exp) :
    Calls Tryz.prog 9 #[.agg #[.int .i64 form, .bool neg, .slice A n c, .int .i64 exp]] w (OutP w) := by
  have fin : ∀ W : World, Below w.heap.size w W → OutP w (.returned (.tuple #[.agg #[.bool false, .slice none 0 0, .int .i64 0], .bool false])) W := fun W h => ⟨rfl, h⟩
  have Fin := hide fin
  clear fin
  go_enter Tryz.func9, Tryz.ntmps9
  go_wp2
  refine bodyPost_ret (finite_result (w.heap.size + 1) false _ rfl rfl _ (.bool false) (.slice none 0 0) (.int .i64 0) (by go_simp) (by go_simp) (by go_simp)) rfl (Fin.out _ (below_al (below_al (Below.refl _ _) _) _))

set_option maxHeartbeats 1000000 in
theorem finite_in (form : Int) (neg : Bool) (A : Option Addr) (c : Nat) (xs : List Nat) (exp : Int) (w : World) (hv : RdG .u64 w (.slice A xs.length c) xs) (hn : xs.length ≤ 3) (he : ¬ exp < -100) (he2 : ¬ 100 < exp) (hd : Dig 18446744073709551616 xs) :
    Calls Tryz.prog 9 #[.agg #[.int .i64 form, .bool neg, .slice A xs.length c, .int .i64 exp]] w (ValP w neg (numW xs) exp (okB form xs)) := by
  have HV := hide hv
  have HD := hide hd
  clear hv hd
  go_enter Tryz.func9, Tryz.ntmps9
  go_wp2_with fail
  have hs : ((w.alloc (.cells #[.int .i64 form, .bool neg, .slice A xs.length c, .int .i64 exp] 24)).alloc (.cells #[.bool false, .slice none 0 0, .int .i64 0] 29)).heap.size = w.heap.size + 2 := by simp
  have hf : Fr w ((w.alloc (.cells #[.int .i64 form, .bool neg, .slice A xs.length c, .int .i64 exp] 24)).alloc (.cells #[.bool false, .slice none 0 0, .int .i64 0] 29)) (fun _ => False) := ((Fr.refl w _).alloc _).alloc _
  have hbv : Blk ((w.alloc (.cells #[.int .i64 form, .bool neg, .slice A xs.length c, .int .i64 exp] 24)).alloc (.cells #[.bool false, .slice none 0 0, .int .i64 0] 29)) (w.heap.size + 1) 29 #[.bool false, .slice none 0 0, .int .i64 0] := by
    have := Blk.new (w.alloc (.cells #[.int .i64 form, .bool neg, .slice A xs.length c, .int .i64 exp] 24)) 29 #[.bool false, .slice none 0 0, .int .i64 0]
    simpa using this
  generalize ((w.alloc (.cells #[.int .i64 form, .bool neg, .slice A xs.length c, .int .i64 exp] 24)).alloc (.cells #[.bool false, .slice none 0 0, .int .i64 0] 29)) = W at hs hf hbv ⊢
  refine (ofDec_any form neg (.slice A xs.length c) xs exp W (HV.out.fr hf (fun _ _ h => h)) (by omega) HD.out).mono ?_
  rintro e w1 ⟨B1, c1, rfl, hown, hbel⟩
  have hv1 := hbv.below hbel
  have hne := hown.ne_blk hv1 (by decide)
  have y0 : w1.cell? ⟨w.heap.size + 1, 0, none⟩ = some (.bool false) := hv1.cell 0
  have y1 : w1.cell? ⟨w.heap.size + 1, 1, none⟩ = some (.slice none 0 0) := hv1.cell 1
  have y2 : w1.cell? ⟨w.heap.size + 1, 2, none⟩ = some (.int .i64 0) := hv1.cell 2
  have z0 : w1.frozen? ⟨w.heap.size + 1, 0, none⟩ = false := hv1.frozen 0
  have z1 : w1.frozen? ⟨w.heap.size + 1, 1, none⟩ = false := hv1.frozen 1
  have z2 : w1.frozen? ⟨w.heap.size + 1, 2, none⟩ = false := hv1.frozen 2
  have fr := (((Fr.refl w1 (fun k => k = w.heap.size + 1)).setCell (p := ⟨w.heap.size + 1, 0, none⟩) (fun _ => rfl) (.bool neg)).setCell (p := ⟨w.heap.size + 1, 1, none⟩) (fun _ => rfl) (.slice B1 (digs 65536 (numW xs)).length c1)).setCell (p := ⟨w.heap.size + 1, 2, none⟩) (fun _ => rfl) (.int .i64 exp)
  have hB := ((hv1.set 0 (.bool neg)).set 1 (.slice B1 (digs 65536 (numW xs)).length c1)).set 2 (.int .i64 exp)
  have fin : ValP w neg (numW xs) exp (okB form xs) (.returned (.tuple #[.agg #[.bool neg, .slice B1 (digs 65536 (numW xs)).length c1, .int .i64 exp], .bool (okB form xs)])) (((w1.setCell ⟨w.heap.size + 1, 0, none⟩ (.bool neg)).setCell ⟨w.heap.size + 1, 1, none⟩ (.slice B1 (digs 65536 (numW xs)).length c1)).setCell ⟨w.heap.size + 1, 2, none⟩ (.int .i64 exp)) := by
    refine ⟨B1, c1, rfl, (hown.fr fr hne).lower (by omega), ?_⟩
    have f1 : Fr w w1 (fun k => w.heap.size ≤ k) := Fr.step (hf.mono (fun _ _ h => h.elim)) (Fr.of_below hbel (fun _ => False)) (fun _ _ h => h.elim)
    exact (Fr.step f1 fr (fun i _ h => by omega)).below (Nat.le_refl _) (fun k h => h)
  have HH := hide (And.intro hB fin)
  clear hs hf hbv hown hbel hv1 hne fr hB fin
  go_wp2
  exact bodyPost_ret (finite_result (w.heap.size + 1) _ _ rfl rfl _ (.bool neg) (.slice B1 (digs 65536 (numW xs)).length c1) (.int .i64 exp) (HH.out.1.cell 0) (HH.out.1.cell 1) (HH.out.1.cell 2)) rfl HH.out.2
end Go.Proofs.YtfkcobdkgjhfaaaGreatDoor

/- Walks: the laws' finite says no; small words on boxes. -/
set_option linter.unusedVariables false
set_option linter.unusedSimpArgs false
namespace Go.Proofs.YtfkcobdkgjhfaaaGreatDoor
open Go.RowKit

/-- 'finite' says no, in whichever way. -/
theorem finite_out (form : Int) (neg : Bool) (A : Option Addr) (n c : Nat) (exp : Int) (w : World) (h : ¬ (n ≤ 3 ∧ ¬ exp < -100 ∧ ¬ 100 < exp)) :
    Calls Tryz.prog 9 #[.agg #[.int .i64 form, .bool neg, .slice A n c, .int .i64 exp]] w (OutP w) := by
  by_cases h1 : 3 < n
  · exact finite_out1 form neg A n c exp w h1
  by_cases h2 : exp < -100
  · exact finite_out2 form neg A n c exp w (by omega) h2
  · exact finite_out3 form neg A n c exp w (by omega) h2 (by omega)

theorem okB_split {form : Int} {xs : List Nat} (h : okB form xs = true) : form = 0 ∧ xs = digs 18446744073709551616 (numW xs) := by
  simp [okB, eqB] at h; exact h

theorem Blk.dec4 {w : World} {g : Nat} {t : TypeId} {a b c d : Value} (h : Blk w g t #[a, b, c, d]) : w.cell? ⟨g, 0, none⟩ = some a ∧ w.cell? ⟨g, 1, none⟩ = some b ∧ w.cell? ⟨g, 2, none⟩ = some c ∧ w.cell? ⟨g, 3, none⟩ = some d :=
  ⟨h.cell 0, h.cell 1, h.cell 2, h.cell 3⟩
theorem Blk.val3 {w : World} {g : Nat} {t : TypeId} {a b c : Value} (h : Blk w g t #[a, b, c]) : w.cell? ⟨g, 0, none⟩ = some a ∧ w.cell? ⟨g, 1, none⟩ = some b ∧ w.cell? ⟨g, 2, none⟩ = some c :=
  ⟨h.cell 0, h.cell 1, h.cell 2⟩

end Go.Proofs.YtfkcobdkgjhfaaaGreatDoor

/- Walks: the thin package's rounder and conditions; Context.shouldSetAsNaN of two finite ones. -/
set_option linter.unusedVariables false
set_option linter.unusedSimpArgs false
namespace Go.Proofs.YtfkcobdkgjhfaaaGreatDoor
open Go.RowKit

theorem below_dr {w w1 : World} (h : Below w.heap.size w w1) : Below w.heap.size w w1.drew := ⟨h.os, h.tape, h.output, h.size, h.block⟩

theorem rounder_some (k : Nat) (hk : k < 8) (w : World) : Calls Tryz.prog 69 #[.int .i64 (k : Int)] w fun e w' => (∃ s : ByteArray, e = .returned (.string s)) ∧ w = w' := by
  have h : k = 0 ∨ k = 1 ∨ k = 2 ∨ k = 3 ∨ k = 4 ∨ k = 5 ∨ k = 6 ∨ k = 7 := by omega
  clear hk
  rcases h with rfl | rfl | rfl | rfl | rfl | rfl | rfl | rfl
  all_goals go_enter Tryz.func69, Tryz.ntmps69
  all_goals go_wp2
  all_goals go_ret
  all_goals exact ⟨⟨_, rfl⟩, rfl⟩

theorem cond_idx0 (W : World) : (Instr.index 133 (.agg #[.int .u32 4, .int .u32 8, .int .u32 16, .int .u32 32, .int .u32 64, .int .u32 128, .int .u32 256, .int .u32 512, .int .u32 1024, .int .u32 2048, .int .u32 1, .int .u32 2]) (.int .i64 0)).run Tryz.prog W = .ok (.int .u32 4) W := by kernel_rfl
theorem cond_idx1 (W : World) : (Instr.index 133 (.agg #[.int .u32 4, .int .u32 8, .int .u32 16, .int .u32 32, .int .u32 64, .int .u32 128, .int .u32 256, .int .u32 512, .int .u32 1024, .int .u32 2048, .int .u32 1, .int .u32 2]) (.int .i64 1)).run Tryz.prog W = .ok (.int .u32 8) W := by kernel_rfl
theorem cond_idx2 (W : World) : (Instr.index 133 (.agg #[.int .u32 4, .int .u32 8, .int .u32 16, .int .u32 32, .int .u32 64, .int .u32 128, .int .u32 256, .int .u32 512, .int .u32 1024, .int .u32 2048, .int .u32 1, .int .u32 2]) (.int .i64 2)).run Tryz.prog W = .ok (.int .u32 16) W := by kernel_rfl
theorem cond_idx3 (W : World) : (Instr.index 133 (.agg #[.int .u32 4, .int .u32 8, .int .u32 16, .int .u32 32, .int .u32 64, .int .u32 128, .int .u32 256, .int .u32 512, .int .u32 1024, .int .u32 2048, .int .u32 1, .int .u32 2]) (.int .i64 3)).run Tryz.prog W = .ok (.int .u32 32) W := by kernel_rfl
theorem cond_idx4 (W : World) : (Instr.index 133 (.agg #[.int .u32 4, .int .u32 8, .int .u32 16, .int .u32 32, .int .u32 64, .int .u32 128, .int .u32 256, .int .u32 512, .int .u32 1024, .int .u32 2048, .int .u32 1, .int .u32 2]) (.int .i64 4)).run Tryz.prog W = .ok (.int .u32 64) W := by kernel_rfl
theorem cond_idx5 (W : World) : (Instr.index 133 (.agg #[.int .u32 4, .int .u32 8, .int .u32 16, .int .u32 32, .int .u32 64, .int .u32 128, .int .u32 256, .int .u32 512, .int .u32 1024, .int .u32 2048, .int .u32 1, .int .u32 2]) (.int .i64 5)).run Tryz.prog W = .ok (.int .u32 128) W := by kernel_rfl
theorem cond_idx6 (W : World) : (Instr.index 133 (.agg #[.int .u32 4, .int .u32 8, .int .u32 16, .int .u32 32, .int .u32 64, .int .u32 128, .int .u32 256, .int .u32 512, .int .u32 1024, .int .u32 2048, .int .u32 1, .int .u32 2]) (.int .i64 6)).run Tryz.prog W = .ok (.int .u32 256) W := by kernel_rfl
theorem cond_idx7 (W : World) : (Instr.index 133 (.agg #[.int .u32 4, .int .u32 8, .int .u32 16, .int .u32 32, .int .u32 64, .int .u32 128, .int .u32 256, .int .u32 512, .int .u32 1024, .int .u32 2048, .int .u32 1, .int .u32 2]) (.int .i64 7)).run Tryz.prog W = .ok (.int .u32 512) W := by kernel_rfl
theorem cond_idx8 (W : World) : (Instr.index 133 (.agg #[.int .u32 4, .int .u32 8, .int .u32 16, .int .u32 32, .int .u32 64, .int .u32 128, .int .u32 256, .int .u32 512, .int .u32 1024, .int .u32 2048, .int .u32 1, .int .u32 2]) (.int .i64 8)).run Tryz.prog W = .ok (.int .u32 1024) W := by kernel_rfl
theorem cond_idx9 (W : World) : (Instr.index 133 (.agg #[.int .u32 4, .int .u32 8, .int .u32 16, .int .u32 32, .int .u32 64, .int .u32 128, .int .u32 256, .int .u32 512, .int .u32 1024, .int .u32 2048, .int .u32 1, .int .u32 2]) (.int .i64 9)).run Tryz.prog W = .ok (.int .u32 2048) W := by kernel_rfl
theorem cond_idx10 (W : World) : (Instr.index 133 (.agg #[.int .u32 4, .int .u32 8, .int .u32 16, .int .u32 32, .int .u32 64, .int .u32 128, .int .u32 256, .int .u32 512, .int .u32 1024, .int .u32 2048, .int .u32 1, .int .u32 2]) (.int .i64 10)).run Tryz.prog W = .ok (.int .u32 1) W := by kernel_rfl
theorem cond_idx11 (W : World) : (Instr.index 133 (.agg #[.int .u32 4, .int .u32 8, .int .u32 16, .int .u32 32, .int .u32 64, .int .u32 128, .int .u32 256, .int .u32 512, .int .u32 1024, .int .u32 2048, .int .u32 1, .int .u32 2]) (.int .i64 11)).run Tryz.prog W = .ok (.int .u32 2) W := by kernel_rfl
theorem cond_idx (i : Nat) (hi : i < 12) : ∃ c : Int, (∀ W : World, (Instr.index 133 (.agg #[.int .u32 4, .int .u32 8, .int .u32 16, .int .u32 32, .int .u32 64, .int .u32 128, .int .u32 256, .int .u32 512, .int .u32 1024, .int .u32 2048, .int .u32 1, .int .u32 2]) (.int .i64 (i : Int))).run Tryz.prog W = .ok (.int .u32 c) W) ∧ bits .and .u32 0 c = 0 := by
  have h : i = 0 ∨ i = 1 ∨ i = 2 ∨ i = 3 ∨ i = 4 ∨ i = 5 ∨ i = 6 ∨ i = 7 ∨ i = 8 ∨ i = 9 ∨ i = 10 ∨ i = 11 := by omega
  rcases h with rfl | rfl | rfl | rfl | rfl | rfl | rfl | rfl | rfl | rfl | rfl | rfl
  · exact ⟨_, cond_idx0, rfl⟩
  · exact ⟨_, cond_idx1, rfl⟩
  · exact ⟨_, cond_idx2, rfl⟩
  · exact ⟨_, cond_idx3, rfl⟩
  · exact ⟨_, cond_idx4, rfl⟩
  · exact ⟨_, cond_idx5, rfl⟩
  · exact ⟨_, cond_idx6, rfl⟩
  · exact ⟨_, cond_idx7, rfl⟩
  · exact ⟨_, cond_idx8, rfl⟩
  · exact ⟨_, cond_idx9, rfl⟩
  · exact ⟨_, cond_idx10, rfl⟩
  · exact ⟨_, cond_idx11, rfl⟩

/-- No condition. -/
theorem conditions_none (w : World) : Calls Tryz.prog 42 #[.int .u32 0] w fun e w' => e = .returned (.int .i64 0) ∧ w = w' := by
  go_enter Tryz.func42, Tryz.ntmps42
  go_wp2_with fail
  go_loopw [3, 7] (fun vo vi wr => ∃ i : Nat, i ≤ 12 ∧ vi = .int .i64 (i : Int) ∧ vo = .int .i64 0 ∧ wr = w) (fun _ vi _ => match vi with | .int _ i => 12 - i.toNat | _ => 0)
  case atStart => exact ⟨0, by omega, rfl, rfl, rfl⟩
  case round =>
    obtain ⟨i, hi, rfl, rfl, rfl⟩ := hrel
    by_cases h : i = 12
    · subst h
      go_wp2
      go_ret
      exact ⟨rfl, rfl⟩
    · obtain ⟨c, hc, hand⟩ := cond_idx i (by omega)
      have hlt : (i : Int) < 12 := by omega
      have hw : IntKind.i64.wrap ((i : Int) + 1) = ((i + 1 : Nat) : Int) := by simp [IntKind.wrap, IntKind.signed, IntKind.bits]; omega
      go_wp2
      go_roundw
      case rel => exact ⟨i + 1, by omega, rfl, rfl, trivial⟩
      case measure => show 12 - ((i : Int) + 1).toNat < 12 - (i : Int).toNat; omega

theorem wide_result (n : Nat) (tmps : Array Value) (h : tmps.getD 4 undef = .pointer (some ⟨n, 0, none⟩)) (W : World) (a b c d : Value) (c0 : W.cell? ⟨n, 0, none⟩ = some a) (c1 : W.cell? ⟨n, 1, none⟩ = some b) (c2 : W.cell? ⟨n, 2, none⟩ = some c) (c3 : W.cell? ⟨n, 3, none⟩ = some d) :
    (results Tryz.f21 tmps).run Tryz.prog W = .ok (.agg #[a, b, c, d]) W := by
  have h2 : tmps[4]?.getD undef = .pointer (some ⟨n, 0, none⟩) := by simpa using h
  simp [results, Tryz.results21, go_sem, h2, c0, c1, c2, c3]

theorem should_fin (pc : Option Addr) (ga gb : Nat) (w : World) (a0 : w.cell? ⟨ga, 0, none⟩ = some (.int .i8 0)) (b0 : w.cell? ⟨gb, 0, none⟩ = some (.int .i8 0)) : Calls Tryz.prog 105 #[.pointer pc, .pointer (some ⟨ga, 0, none⟩), .pointer (some ⟨gb, 0, none⟩)] w fun e w' => e = .returned (.bool false) ∧ w = w' := by
  go_enter Tryz.func105, Tryz.ntmps105
  go_wp2
  go_ret
  exact ⟨rfl, rfl⟩
end Go.Proofs.YtfkcobdkgjhfaaaGreatDoor
