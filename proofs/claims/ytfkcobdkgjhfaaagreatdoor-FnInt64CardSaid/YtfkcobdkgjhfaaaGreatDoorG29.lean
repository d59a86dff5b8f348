/- Parts of the proofs: Spec7, Law1, Dec2, Law2, Law3, FinOut, FnSame. -/
import Derived.Deep.RegionHeld3
import Derived.Test.YtfkcobdkgjhfaaaGreatDoorG9
import Derived.Test.YtfkcobdkgjhfaaaGreatDoorG26
/- Walks: spec's OfDec; zzFits1, finite of the laws. -/
set_option linter.unusedVariables false
set_option linter.unusedSimpArgs false
namespace Go.Proofs.YtfkcobdkgjhfaaaGreatDoor
open Go.RowKit

/-- Are words those of a number? -/
def okB (form : Int) (xs : List Nat) : Bool := (form == 0) && eqB xs (digs 18446744073709551616 (numW xs))

/-- A Value and a bool. -/
def ValP (w : World) (neg : Bool) (n : Nat) (exp : Int) (ok : Bool) (e : Ending) (w' : World) : Prop :=
  ∃ A c, e = .returned (.tuple #[.agg #[.bool neg, .slice A (digs 65536 n).length c, .int .i64 exp], .bool ok]) ∧ OwnI w' w.heap.size (.slice A (digs 65536 n).length c) (digs 65536 n) ∧ Below w.heap.size w w'

theorem ofDec_result (n : Nat) (ok : Bool) (tmps : Array Value) (h : tmps.getD 2 undef = .pointer (some ⟨n, 0, none⟩)) (h3 : tmps.getD 3 undef = .bool ok) (W : World) (a b c : Value) (c0 : W.cell? ⟨n, 0, none⟩ = some a) (c1 : W.cell? ⟨n, 1, none⟩ = some b) (c2 : W.cell? ⟨n, 2, none⟩ = some c) :
    (results Tryz.f11 tmps).run Tryz.prog W = .ok (.tuple #[.agg #[a, b, c], .bool ok]) W := by
  have h2 : tmps[2]?.getD undef = .pointer (some ⟨n, 0, none⟩) := by simpa using h
  have h4 : tmps[3]?.getD undef = .bool ok := by simpa using h3
  simp [results, Tryz.results11, go_sem, h2, h4, c0, c1, c2]

theorem digs_len_words {xs : List Nat} (hd : Dig 18446744073709551616 xs) : (digs 65536 (numW xs)).length ≤ 4 * xs.length := by
  unfold numW
  rw [← trimz_quads xs hd]
  have := trimz_length_le (quads xs)
  rw [quads_length] at this
  exact this

set_option maxHeartbeats 2000000 in
theorem ofDec_any (form : Int) (neg : Bool) (v : Value) (xs : List Nat) (exp : Int) (w : World) (hv : RdG .u64 w v xs) (hn : xs.length ≤ 1048576) (hd : Dig 18446744073709551616 xs) :
    Calls Tryz.prog 11 #[.agg #[.int .i64 form, .bool neg, v, .int .i64 exp]] w (ValP w neg (numW xs) exp (okB form xs)) := by
  obtain ⟨A, c, rfl, hxc, hcm⟩ := hv.slice
  have HV := hide hv
  have HD := hide hd
  clear hv hd
  go_enter Tryz.func11, Tryz.ntmps11
  go_wp2_with fail
  have hs : ((w.alloc (.cells #[.int .i64 form, .bool neg, .slice A xs.length c, .int .i64 exp] 24)).alloc (.cells #[.bool false, .slice none 0 0, .int .i64 0] 29)).heap.size = w.heap.size + 2 := by simp
  have hf : Fr w ((w.alloc (.cells #[.int .i64 form, .bool neg, .slice A xs.length c, .int .i64 exp] 24)).alloc (.cells #[.bool false, .slice none 0 0, .int .i64 0] 29)) (fun _ => False) := ((Fr.refl w _).alloc _).alloc _
  have hbx : Blk ((w.alloc (.cells #[.int .i64 form, .bool neg, .slice A xs.length c, .int .i64 exp] 24)).alloc (.cells #[.bool false, .slice none 0 0, .int .i64 0] 29)) w.heap.size 24 #[.int .i64 form, .bool neg, .slice A xs.length c, .int .i64 exp] := (Blk.new w _ _).alloc _
  have hbv : Blk ((w.alloc (.cells #[.int .i64 form, .bool neg, .slice A xs.length c, .int .i64 exp] 24)).alloc (.cells #[.bool false, .slice none 0 0, .int .i64 0] 29)) (w.heap.size + 1) 29 #[.bool false, .slice none 0 0, .int .i64 0] := by
    have := Blk.new (w.alloc (.cells #[.int .i64 form, .bool neg, .slice A xs.length c, .int .i64 exp] 24)) 29 #[.bool false, .slice none 0 0, .int .i64 0]
    simpa using this
  generalize ((w.alloc (.cells #[.int .i64 form, .bool neg, .slice A xs.length c, .int .i64 exp] 24)).alloc (.cells #[.bool false, .slice none 0 0, .int .i64 0] 29)) = W at hs hf hbx hbv ⊢
  have hvW := HV.out.fr hf (fun _ _ h => h)
  refine (of_any (.slice A xs.length c) xs W hvW hn HD.out).mono ?_
  rintro e w1 ⟨B1, c1, rfl, hown, hbel⟩
  have hln := digs_len_words HD.out
  have hx1 := hbx.below hbel
  have hv1 := hbv.below hbel
  have hvw1 := hvW.below hbel
  have hsz : w.heap.size + 2 ≤ w1.heap.size := by have := hbel.size; omega
  have hfr : Fr w w1 (fun _ => False) := Fr.step hf (Fr.of_below hbel (fun _ => False)) (fun _ _ h => h)
  have hown1 : OwnI w1 w.heap.size (.slice B1 (digs 65536 (numW xs)).length c1) (digs 65536 (numW xs)) := hown.lower (by omega)
  have HH := hide (And.intro hown1 (And.intro hx1 (And.intro hv1 (And.intro hvw1 (And.intro hfr hln)))))
  clear hs hf hbx hbv hvW hown hbel hln hx1 hv1 hvw1 hfr hown1 HV
  have fin : ∀ (ok : Bool) (w2 : World), Below w1.heap.size w1 w2 → ok = okB form xs →
      ∃ hB : Blk (((w2.setCell ⟨w.heap.size + 1, 0, none⟩ (.bool neg)).setCell ⟨w.heap.size + 1, 1, none⟩ (.slice B1 (digs 65536 (numW xs)).length c1)).setCell ⟨w.heap.size + 1, 2, none⟩ (.int .i64 exp)) (w.heap.size + 1) 29 #[.bool neg, .slice B1 (digs 65536 (numW xs)).length c1, .int .i64 exp],
      ValP w neg (numW xs) exp (okB form xs) (.returned (.tuple #[.agg #[.bool neg, .slice B1 (digs 65536 (numW xs)).length c1, .int .i64 exp], .bool ok])) (((w2.setCell ⟨w.heap.size + 1, 0, none⟩ (.bool neg)).setCell ⟨w.heap.size + 1, 1, none⟩ (.slice B1 (digs 65536 (numW xs)).length c1)).setCell ⟨w.heap.size + 1, 2, none⟩ (.int .i64 exp)) := by
    intro ok w2 hb hok
    obtain ⟨hown1, hx1, hv1, hvw1, hfr, hln⟩ := HH.out
    have hv2 := hv1.below hb
    have hne := (hown1.below hb).ne_blk hv2 (by decide)
    have fr := (((Fr.refl w2 (fun k => k = w.heap.size + 1)).setCell (p := ⟨w.heap.size + 1, 0, none⟩) (fun _ => rfl) (.bool neg)).setCell (p := ⟨w.heap.size + 1, 1, none⟩) (fun _ => rfl) (.slice B1 (digs 65536 (numW xs)).length c1)).setCell (p := ⟨w.heap.size + 1, 2, none⟩) (fun _ => rfl) (.int .i64 exp)
    refine ⟨((hv2.set 0 _).set 1 _).set 2 _, B1, c1, by rw [hok], (hown1.below hb).fr fr hne, ?_⟩
    have f1 : Fr w w2 (fun k => w.heap.size ≤ k) := Fr.step (hfr.mono (fun _ _ h => h.elim)) (Fr.of_below hb (fun _ => False)) (fun _ _ h => h.elim)
    exact (Fr.step f1 fr (fun i _ h => by omega)).below (Nat.le_refl _) (fun k h => h)
  have Fin := hide fin
  clear fin
  have x0 : w1.cell? ⟨w.heap.size, 0, none⟩ = some (.int .i64 form) := HH.out.2.1.cell 0
  have x1 : w1.cell? ⟨w.heap.size, 1, none⟩ = some (.bool neg) := HH.out.2.1.cell 1
  have x2 : w1.cell? ⟨w.heap.size, 2, none⟩ = some (.slice A xs.length c) := HH.out.2.1.cell 2
  have x3 : w1.cell? ⟨w.heap.size, 3, none⟩ = some (.int .i64 exp) := HH.out.2.1.cell 3
  have y0 : w1.cell? ⟨w.heap.size + 1, 0, none⟩ = some (.bool false) := HH.out.2.2.1.cell 0
  have y1 : w1.cell? ⟨w.heap.size + 1, 1, none⟩ = some (.slice none 0 0) := HH.out.2.2.1.cell 1
  have y2 : w1.cell? ⟨w.heap.size + 1, 2, none⟩ = some (.int .i64 0) := HH.out.2.2.1.cell 2
  have z0 : w1.frozen? ⟨w.heap.size + 1, 0, none⟩ = false := HH.out.2.2.1.frozen 0
  have z1 : w1.frozen? ⟨w.heap.size + 1, 1, none⟩ = false := HH.out.2.2.1.frozen 1
  have z2 : w1.frozen? ⟨w.heap.size + 1, 2, none⟩ = false := HH.out.2.2.1.frozen 2
  by_cases hform : form = 0
  · subst hform
    have hpk := pk_digs (numW xs)
    have con := fun W (h : Below w1.heap.size w1 W) => hasWords_any A B1 c c1 xs (digs 65536 (numW xs)) W (HH.out.2.2.2.1.below h) (HH.out.1.below h).rd hn (by have := HH.out.2.2.2.2.2; omega) (dig_digs (by omega) _)
    rw [hpk] at con
    have Con := hide con
    clear con hpk
    go_wp2_with fail
    go_region_held3 (fun W => W.cell? ⟨w.heap.size, 0, none⟩ = some (.int .i64 0) ∧ W.cell? ⟨w.heap.size, 1, none⟩ = some (.bool neg) ∧ W.cell? ⟨w.heap.size, 2, none⟩ = some (.slice A xs.length c) ∧ W.cell? ⟨w.heap.size, 3, none⟩ = some (.int .i64 exp)) (first | exact ⟨x0, x1, x2, x3⟩ | exact ⟨u0, u1, u2, u3⟩ | (refine ⟨?_, ?_, ?_, ?_⟩ <;> (go_simp; done)) | go_keep)
      (first | (go_at_call 32; refine (Con.out _ ?_).mono ?_; exact (Below.refl _ _).drew; rintro e w2 ⟨rfl, hb⟩; have hb2 : Below w1.heap.size w1 w2 := (Below.refl w1.heap.size w1).drew.trans hb; have u0 := (HH.out.2.1.below hb2).cell 0; have u1 := (HH.out.2.1.below hb2).cell 1; have u2 := (HH.out.2.1.below hb2).cell 2; have u3 := (HH.out.2.1.below hb2).cell 3; have t0 := (HH.out.2.2.1.below hb2).cell 0; have t1 := (HH.out.2.2.1.below hb2).cell 1; have t2 := (HH.out.2.2.1.below hb2).cell 2; have s0 := (HH.out.2.2.1.below hb2).frozen 0; have s1 := (HH.out.2.2.1.below hb2).frozen 1; have s2 := (HH.out.2.2.1.below hb2).frozen 2))
    go_wp2
    have hok : eqB xs (digs 18446744073709551616 (numW xs)) = okB 0 xs := by simp [okB]
    obtain ⟨hB, hP⟩ := Fin.out _ w2 hb2 hok
    exact bodyPost_ret (ofDec_result (w.heap.size + 1) _ _ rfl rfl _ (.bool neg) (.slice B1 (digs 65536 (numW xs)).length c1) (.int .i64 exp) (hB.cell 0) (hB.cell 1) (hB.cell 2)) rfl hP
  · have b0 : (form == 0) = false := beq_eq_false_iff_ne.2 hform
    go_wp2_with fail
    go_region
    all_goals go_wp2
    all_goals have hok : false = okB form xs := by simp [okB, hform]
    all_goals obtain ⟨hB, hP⟩ := Fin.out _ w1.drew (Below.refl _ _).drew hok
    all_goals exact bodyPost_ret (ofDec_result (w.heap.size + 1) _ _ rfl rfl _ (.bool neg) (.slice B1 (digs 65536 (numW xs)).length c1) (.int .i64 exp) (hB.cell 0) (hB.cell 1) (hB.cell 2)) rfl hP
end Go.Proofs.YtfkcobdkgjhfaaaGreatDoor

/- Walks: zzFits1, finite of the laws. -/
set_option linter.unusedVariables false
set_option linter.unusedSimpArgs false
namespace Go.Proofs.YtfkcobdkgjhfaaaGreatDoor
open Go.RowKit

theorem fits_yes (form : Int) (neg : Bool) (A : Option Addr) (n c : Nat) (exp : Int) (w : World) (hn : n ≤ 2147483647) :
    Calls Tryz.prog 8 #[.agg #[.int .i64 form, .bool neg, .slice A n c, .int .i64 exp]] w (BoolP w true) := by
  have fin : BoolP w true (.returned (.bool true)) (w.alloc (.cells #[.int .i64 form, .bool neg, .slice A n c, .int .i64 exp] 24)) := ⟨rfl, below_al (Below.refl _ _) _⟩
  have Fin := hide fin
  clear fin
  go_enter Tryz.func8, Tryz.ntmps8
  go_wp2
  go_ret
  exact Fin.out
theorem fits_no (form : Int) (neg : Bool) (A : Option Addr) (n c : Nat) (exp : Int) (w : World) (hn : 2147483647 < n) :
    Calls Tryz.prog 8 #[.agg #[.int .i64 form, .bool neg, .slice A n c, .int .i64 exp]] w (BoolP w false) := by
  have fin : BoolP w false (.returned (.bool false)) (w.alloc (.cells #[.int .i64 form, .bool neg, .slice A n c, .int .i64 exp] 24)) := ⟨rfl, below_al (Below.refl _ _) _⟩
  have Fin := hide fin
  clear fin
  go_enter Tryz.func8, Tryz.ntmps8
  go_wp2
  go_ret
  exact Fin.out

/-- 'finite' says no. -/
def OutP (w : World) (e : Ending) (w' : World) : Prop := e = .returned (.tuple #[.agg #[.bool false, .slice none 0 0, .int .i64 0], .bool false]) ∧ Below w.heap.size w w'

theorem finite_result (n : Nat) (ok : Bool) (tmps : Array Value) (h : tmps.getD 2 undef = .pointer (some ⟨n, 0, none⟩)) (h3 : tmps.getD 3 undef = .bool ok) (W : World) (a b c : Value) (c0 : W.cell? ⟨n, 0, none⟩ = some a) (c1 : W.cell? ⟨n, 1, none⟩ = some b) (c2 : W.cell? ⟨n, 2, none⟩ = some c) :
    (results Tryz.f9 tmps).run Tryz.prog W = .ok (.tuple #[.agg #[a, b, c], .bool ok]) W := by
  have h2 : tmps[2]?.getD undef = .pointer (some ⟨n, 0, none⟩) := by simpa using h
  have h4 : tmps[3]?.getD undef = .bool ok := by simpa using h3
  simp [results, Tryz.results9, go_sem, h2, h4, c0, c1, c2]

theorem finite_out1 (form : Int) (neg : Bool) (A : Option Addr) (n c : Nat) (exp : Int) (w : World) (hn : 3 < n) :
    Calls Tryz.prog 9 #[.agg #[.int .i64 form, .bool neg, .slice A n c, .int .i64 exp]] w (OutP w) := by
  have fin : ∀ W : World, Below w.heap.size w W → OutP w (.returned (.tuple #[.agg #[.bool false, .slice none 0 0, .int .i64 0], .bool false])) W := fun W h => ⟨rfl, h⟩
  have Fin := hide fin
  clear fin
  go_enter Tryz.func9, Tryz.ntmps9
  go_wp2
  refine bodyPost_ret (finite_result (w.heap.size + 1) false _ rfl rfl _ (.bool false) (.slice none 0 0) (.int .i64 0) (by go_simp) (by go_simp) (by go_simp)) rfl (Fin.out _ (below_al (below_al (Below.refl _ _) _) _))
theorem finite_out2 (form : Int) (neg : Bool) (A : Option Addr) (n c : Nat) (exp : Int) (w : World) (hn : n ≤ 3) (he : exp < -100) :
    Calls Tryz.prog 9 #[.agg #[.int .i64 form, .bool neg, .slice A n c, .int .i64 exp]] w (OutP w) := by
  have fin : ∀ W : World, Below w.heap.size w W → OutP w (.returned (.tuple #[.agg #[.bool false, .slice none 0 0, .int .i64 0], .bool false])) W := fun W h => ⟨rfl, h⟩
  have Fin := hide fin
  clear fin
  go_enter Tryz.func9, Tryz.ntmps9
  go_wp2
  refine bodyPost_ret (finite_result (w.heap.size + 1) false _ rfl rfl _ (.bool false) (.slice none 0 0) (.int .i64 0) (by go_simp) (by go_simp) (by go_simp)) rfl (Fin.out _ (below_al (below_al (Below.refl _ _) _) _))
theorem finite_out3 (form : Int) (neg : Bool) (A : Option Addr) (n c : Nat) (exp : Int) (w : World) (hn : n ≤ 3) (he : ¬ exp < -100) (he2 : 100 < exp) :
    Calls Tryz.prog 9 #[.agg #[.int .i64 form, .bool neg, .slice A n c, .int .i64 exp]] w (OutP w) := by
  have fin : ∀ W : World, Below w.heap.size w W → OutP w (.returned (.tuple #[.agg #[.bool false, .slice none 0 0, .int .i64 0], .bool false])) W := fun W h => ⟨rfl, h⟩
  have Fin := hide fin
  clear fin
  go_enter Tryz.func9, Tryz.ntmps9
  go_wp2
  refine bodyPost_ret (finite_result (w.heap.size + 1) false _ rfl rfl _ (.bool false) (.slice none 0 0) (.int .i64 0) (by go_simp) (by go_simp) (by go_simp)) rfl (Fin.out _ (below_al (below_al (Below.refl _ _) _) _))

set_option maxHeartbeats 1000000 in
theorem finite_in (form : Int) (neg : Bool) (A : Option Addr) (c : Nat) (xs : List Nat) (exp : Int) (w : World) (hv : RdG .u64 w (.slice A xs.length c) xs) (hn : xs.length ≤ 3) (he : ¬ exp < -100) (he2 : ¬ 100 < exp) (hd : Dig 18446744073709551616 xs) :
    Calls Tryz.prog 9 #[.agg #[.int .i64 form, .bool neg, .slice A xs.length c, .int .i64 exp]] w (ValP w neg (numW xs) exp (okB form xs)) := by
  have HV := hide hv
  have HD := hide hd
  clear hv hd
  go_enter Tryz.func9, Tryz.ntmps9
  go_wp2_with fail
  have hs : ((w.alloc (.cells #[.int .i64 form, .bool neg, .slice A xs.length c, .int .i64 exp] 24)).alloc (.cells #[.bool false, .slice none 0 0, .int .i64 0] 29)).heap.size = w.heap.size + 2 := by simp
  have hf : Fr w ((w.alloc (.cells #[.int .i64 form, .bool neg, .slice A xs.length c, .int .i64 exp] 24)).alloc (.cells #[.bool false, .slice none 0 0, .int .i64 0] 29)) (fun _ => False) := ((Fr.refl w _).alloc _).alloc _
  have hbv : Blk ((w.alloc (.cells #[.int .i64 form, .bool neg, .slice A xs.length c, .int .i64 exp] 24)).alloc (.cells #[.bool false, .slice none 0 0, .int .i64 0] 29)) (w.heap.size + 1) 29 #[.bool false, .slice none 0 0, .int .i64 0] := by
    have := Blk.new (w.alloc (.cells #[.int .i64 form, .bool neg, .slice A xs.length c, .int .i64 exp] 24)) 29 #[.bool false, .slice none 0 0, .int .i64 0]
    simpa using this
  generalize ((w.alloc (.cells #[.int .i64 form, .bool neg, .slice A xs.length c, .int .i64 exp] 24)).alloc (.cells #[.bool false, .slice none 0 0, .int .i64 0] 29)) = W at hs hf hbv ⊢
  refine (ofDec_any form neg (.slice A xs.length c) xs exp W (HV.out.fr hf (fun _ _ h => h)) (by omega) HD.out).mono ?_
  rintro e w1 ⟨B1, c1, rfl, hown, hbel⟩
  have hv1 := hbv.below hbel
  have hne := hown.ne_blk hv1 (by decide)
  have y0 : w1.cell? ⟨w.heap.size + 1, 0, none⟩ = some (.bool false) := hv1.cell 0
  have y1 : w1.cell? ⟨w.heap.size + 1, 1, none⟩ = some (.slice none 0 0) := hv1.cell 1
  have y2 : w1.cell? ⟨w.heap.size + 1, 2, none⟩ = some (.int .i64 0) := hv1.cell 2
  have z0 : w1.frozen? ⟨w.heap.size + 1, 0, none⟩ = false := hv1.frozen 0
  have z1 : w1.frozen? ⟨w.heap.size + 1, 1, none⟩ = false := hv1.frozen 1
  have z2 : w1.frozen? ⟨w.heap.size + 1, 2, none⟩ = false := hv1.frozen 2
  have fr := (((Fr.refl w1 (fun k => k = w.heap.size + 1)).setCell (p := ⟨w.heap.size + 1, 0, none⟩) (fun _ => rfl) (.bool neg)).setCell (p := ⟨w.heap.size + 1, 1, none⟩) (fun _ => rfl) (.slice B1 (digs 65536 (numW xs)).length c1)).setCell (p := ⟨w.heap.size + 1, 2, none⟩) (fun _ => rfl) (.int .i64 exp)
  have hB := ((hv1.set 0 (.bool neg)).set 1 (.slice B1 (digs 65536 (numW xs)).length c1)).set 2 (.int .i64 exp)
  have fin : ValP w neg (numW xs) exp (okB form xs) (.returned (.tuple #[.agg #[.bool neg, .slice B1 (digs 65536 (numW xs)).length c1, .int .i64 exp], .bool (okB form xs)])) (((w1.setCell ⟨w.heap.size + 1, 0, none⟩ (.bool neg)).setCell ⟨w.heap.size + 1, 1, none⟩ (.slice B1 (digs 65536 (numW xs)).length c1)).setCell ⟨w.heap.size + 1, 2, none⟩ (.int .i64 exp)) := by
    refine ⟨B1, c1, rfl, (hown.fr fr hne).lower (by omega), ?_⟩
    have f1 : Fr w w1 (fun k => w.heap.size ≤ k) := Fr.step (hf.mono (fun _ _ h => h.elim)) (Fr.of_below hbel (fun _ => False)) (fun _ _ h => h.elim)
    exact (Fr.step f1 fr (fun i _ h => by omega)).below (Nat.le_refl _) (fun k h => h)
  have HH := hide (And.intro hB fin)
  clear hs hf hbv hown hbel hv1 hne fr hB fin
  go_wp2
  exact bodyPost_ret (finite_result (w.heap.size + 1) _ _ rfl rfl _ (.bool neg) (.slice B1 (digs 65536 (numW xs)).length c1) (.int .i64 exp) (HH.out.1.cell 0) (HH.out.1.cell 1) (HH.out.1.cell 2)) rfl HH.out.2
end Go.Proofs.YtfkcobdkgjhfaaaGreatDoor

/- Walks: told of the thin package, of finite decimals; made and told of the others. -/
set_option linter.unusedVariables false
set_option linter.unusedSimpArgs false
namespace Go.Proofs.YtfkcobdkgjhfaaaGreatDoor
open Go.RowKit

/-- What 'told' answers of a finite decimal. -/
def ToldFin (w : World) (neg : Bool) (exp : Int) (xs : List Nat) (e : Ending) (w' : World) : Prop :=
  ∃ A c, e = .returned (.agg #[.int .i64 0, .bool neg, .slice A xs.length c, .int .i64 exp]) ∧ OwnU w' w.heap.size (.slice A xs.length c) xs ∧ Below w.heap.size w w'

theorem OwnU.fr {w w' : World} {base : Nat} {v : Value} {xs : List Nat} {S : Nat → Prop} (h : OwnU w base v xs) (hf : Fr w w' S) (hs : ∀ k, v.ownBlock = some k → ¬ S k) : OwnU w' base v xs := by
  obtain ⟨h1, h2⟩ := h
  refine ⟨h1, ?_⟩
  rcases h2 with h2 | ⟨g, cap, cur, rfl, hg, hh, r⟩
  · exact .inl h2
  · exact .inr ⟨g, cap, cur, rfl, hg, Blk.fr (t := 46) hh hf (hs g rfl), r⟩
theorem OwnU.ne_blk {w : World} {base g : Nat} {xs : List Nat} {t : TypeId} {cs : Array Value} {v : Value} (h : OwnU w base v xs) (hb : Blk w g t cs) (ht : t ≠ 46) : ∀ k, v.ownBlock = some k → k ≠ g := by
  intro k hk
  rcases h.form with ⟨rfl, _⟩ | ⟨g', cap, cur, rfl, _, hh, _⟩
  · cases hk
  · obtain rfl : g' = k := by simpa [Value.ownBlock] using hk
    exact hh.type_ne hb (Ne.symm ht)
theorem OwnU.lower {w : World} {base base' : Nat} {v : Value} {xs : List Nat} (h : OwnU w base v xs) (hb : base' ≤ base) : OwnU w base' v xs := by
  obtain ⟨h1, h2⟩ := h
  refine ⟨h1, ?_⟩
  rcases h2 with h2 | ⟨g, cap, cur, rfl, hg, r⟩
  · exact .inl h2
  · exact .inr ⟨g, cap, cur, rfl, Nat.le_trans hb hg, r⟩

theorem told_result (n : Nat) (tmps : Array Value) (h : tmps.getD 2 undef = .pointer (some ⟨n, 0, none⟩)) (W : World) (a b c d : Value) (c0 : W.cell? ⟨n, 0, none⟩ = some a) (c1 : W.cell? ⟨n, 1, none⟩ = some b) (c2 : W.cell? ⟨n, 2, none⟩ = some c) (c3 : W.cell? ⟨n, 3, none⟩ = some d) :
    (results Tryz.f30 tmps).run Tryz.prog W = .ok (.agg #[a, b, c, d]) W := by
  have h2 : tmps[2]?.getD undef = .pointer (some ⟨n, 0, none⟩) := by simpa using h
  simp [results, Tryz.results30, go_sem, h2, c0, c1, c2, c3]

set_option maxHeartbeats 1000000 in
theorem told_fin (g : Nat) (neg : Bool) (exp : Int) (vneg minus : Bool) (v : Value) (xs : List Nat) (w : World) (hd : Blk w g 71 (decC 0 neg exp vneg v minus)) (hv : RdW w v xs) (hn : xs.length ≤ 1048576) (he0 : -2147483648 ≤ exp) (he1 : exp ≤ 2147483647) :
    Calls Tryz.prog 30 #[.pointer (some ⟨g, 0, none⟩)] w (ToldFin w neg exp xs) := by
  have c0 : w.cell? ⟨g, 0, none⟩ = some (.int .i8 0) := hd.cell 0
  have c1 : w.cell? ⟨g, 1, none⟩ = some (.bool neg) := hd.cell 1
  have hg : g < w.heap.size := hd.lt
  have HD := hide (And.intro hd hv)
  clear hd hv
  go_enter Tryz.func30, Tryz.ntmps30
  go_wp2_with fail
  have hs : ((w.alloc (.cells #[.int .i64 0, .bool false, .slice none 0 0, .int .i64 0] 24)).alloc (.cells #[.int .i64 0, .bool neg, .slice none 0 0, .int .i64 0] 24)).heap.size = w.heap.size + 2 := by simp
  have hf : Fr w ((w.alloc (.cells #[.int .i64 0, .bool false, .slice none 0 0, .int .i64 0] 24)).alloc (.cells #[.int .i64 0, .bool neg, .slice none 0 0, .int .i64 0] 24)) (fun _ => False) := ((Fr.refl w _).alloc _).alloc _
  have hb0 : Blk ((w.alloc (.cells #[.int .i64 0, .bool false, .slice none 0 0, .int .i64 0] 24)).alloc (.cells #[.int .i64 0, .bool neg, .slice none 0 0, .int .i64 0] 24)) w.heap.size 24 #[.int .i64 0, .bool false, .slice none 0 0, .int .i64 0] := (Blk.new w _ _).alloc _
  have hb1 : Blk ((w.alloc (.cells #[.int .i64 0, .bool false, .slice none 0 0, .int .i64 0] 24)).alloc (.cells #[.int .i64 0, .bool neg, .slice none 0 0, .int .i64 0] 24)) (w.heap.size + 1) 24 #[.int .i64 0, .bool neg, .slice none 0 0, .int .i64 0] := by
    have := Blk.new (w.alloc (.cells #[.int .i64 0, .bool false, .slice none 0 0, .int .i64 0] 24)) 24 #[.int .i64 0, .bool neg, .slice none 0 0, .int .i64 0]
    simpa using this
  generalize ((w.alloc (.cells #[.int .i64 0, .bool false, .slice none 0 0, .int .i64 0] 24)).alloc (.cells #[.int .i64 0, .bool neg, .slice none 0 0, .int .i64 0] 24)) = W at hs hf hb0 hb1 ⊢
  have hdW := HD.out.1.fr hf (fun h => h)
  have hvW := HD.out.2.fr hf (fun _ _ h => h)
  have cx : W.cell? ⟨g, 2, none⟩ = some (.int .i32 exp) := hdW.cell 2
  have con : ∀ W1 : World, W1.heap = W.heap → W1.os = W.os → W1.tape = W.tape → W1.output = W.output → Calls Tryz.prog 56 #[.pointer (some ⟨g, 3, none⟩)] W1 (fun e w1 => ∃ A c, e = .returned (.slice A xs.length c) ∧ Hid (OwnU w1 W.heap.size (.slice A xs.length c) xs ∧ Blk w1 w.heap.size 24 #[.int .i64 0, .bool false, .slice none 0 0, .int .i64 0] ∧ Blk w1 (w.heap.size + 1) 24 #[.int .i64 0, .bool neg, .slice none 0 0, .int .i64 0] ∧ Fr w w1 (fun _ => False)) ∧
      w1.cell? ⟨g, 2, none⟩ = some (.int .i32 exp) ∧ (w1.cell? ⟨w.heap.size + 1, 0, none⟩ = some (.int .i64 0) ∧ w1.cell? ⟨w.heap.size + 1, 1, none⟩ = some (.bool neg) ∧ w1.cell? ⟨w.heap.size + 1, 2, none⟩ = some (.slice none 0 0) ∧ w1.cell? ⟨w.heap.size + 1, 3, none⟩ = some (.int .i64 0)) ∧ (w1.frozen? ⟨w.heap.size + 1, 2, none⟩ = false ∧ w1.frozen? ⟨w.heap.size + 1, 3, none⟩ = false) ∧
      (w1.cell? ⟨w.heap.size, 0, none⟩ = some (.int .i64 0) ∧ w1.cell? ⟨w.heap.size, 1, none⟩ = some (.bool false) ∧ w1.cell? ⟨w.heap.size, 2, none⟩ = some (.slice none 0 0) ∧ w1.cell? ⟨w.heap.size, 3, none⟩ = some (.int .i64 0)) ∧ w1.frozen? ⟨w.heap.size, 0, none⟩ = false ∧ w1.frozen? ⟨w.heap.size, 1, none⟩ = false ∧ w1.frozen? ⟨w.heap.size, 2, none⟩ = false ∧ w1.frozen? ⟨w.heap.size, 3, none⟩ = false) := by
    intro W1 q1 q2 q3 q4
    have fr : Fr W W1 (fun _ => False) := ⟨q2, q3, q4, by rw [q1]; exact Nat.le_refl _, fun _ _ _ => by rw [q1]⟩
    refine (words_any g 3 71 (decC 0 neg exp vneg v minus) vneg v xs W1 (hdW.fr fr (fun h => h)) rfl rfl (hvW.fr fr (fun _ _ h => h)) (by decide) hn).mono ?_
    rintro e w1 ⟨A, c, rfl, hown, hbel⟩
    have fr1 : Fr W w1 (fun _ => False) := Fr.step fr (Fr.of_below hbel (fun _ => False)) (fun _ _ h => h)
    have hb1' := hb1.fr fr1 (fun h => h)
    have hb0' := hb0.fr fr1 (fun h => h)
    refine ⟨A, c, rfl, ⟨by rw [q1] at hown; exact hown, hb0.fr fr1 (fun h => h), hb1', Fr.step hf fr1 (fun _ _ h => h)⟩, (hdW.fr fr1 (fun h => h)).cell 2, ⟨hb1'.cell 0, hb1'.cell 1, hb1'.cell 2, hb1'.cell 3⟩, ⟨hb1'.frozen 2, hb1'.frozen 3⟩, ⟨hb0'.cell 0, hb0'.cell 1, hb0'.cell 2, hb0'.cell 3⟩, hb0'.frozen 0, hb0'.frozen 1, hb0'.frozen 2, hb0'.frozen 3⟩
  have Con := hide con
  have HS := hide hs
  clear con hf hb0 hb1 hdW hvW HD hs
  go_region_with (go_at_call 56; go_loud (refine (Con.out _ ?_ ?_ ?_ ?_).mono ?_; rfl; rfl; rfl; rfl; rintro e w1 ⟨A, c, rfl, HX, k1, ⟨k2, k3, k4, k5⟩, ⟨k6, k7⟩, ⟨l0, l1, l2, l3⟩, m0, m1, m2, m3⟩))
  all_goals go_wp2
  all_goals
    have hB := ((((((HX.out.2.1).far (p := ⟨w.heap.size + 1, 2, none⟩) (by simp) (.slice A xs.length c)).far (p := ⟨w.heap.size + 1, 3, none⟩) (by simp) (.int .i64 exp)).set 0 (.int .i64 0)).set 1 (.bool neg)).set 2 (.slice A xs.length c)).set 3 (.int .i64 exp)
    have hn0 := HX.out.1.ne_blk HX.out.2.1 (by decide)
    have hn1 := HX.out.1.ne_blk HX.out.2.2.1 (by decide)
    have fr := ((((((Fr.refl w1 (fun k => k = w.heap.size ∨ k = w.heap.size + 1)).setCell (p := ⟨w.heap.size + 1, 2, none⟩) (fun _ => .inr rfl) (.slice A xs.length c)).setCell (p := ⟨w.heap.size + 1, 3, none⟩) (fun _ => .inr rfl) (.int .i64 exp)).setCell (p := ⟨w.heap.size, 0, none⟩) (fun _ => .inl rfl) (.int .i64 0)).setCell (p := ⟨w.heap.size, 1, none⟩) (fun _ => .inl rfl) (.bool neg)).setCell (p := ⟨w.heap.size, 2, none⟩) (fun _ => .inl rfl) (.slice A xs.length c)).setCell (p := ⟨w.heap.size, 3, none⟩) (fun _ => .inl rfl) (.int .i64 exp)
    refine bodyPost_ret (told_result w.heap.size _ rfl _ (.int .i64 0) (.bool neg) (.slice A xs.length c) (.int .i64 exp) (hB.cell 0) (hB.cell 1) (hB.cell 2) (hB.cell 3)) rfl ?_
    refine ⟨A, c, rfl, (HX.out.1.fr fr (fun k hk h => by rcases h with h | h; exact hn0 k hk h; exact hn1 k hk h)).lower (by rw [HS.out]; omega), ?_⟩
    exact (Fr.step (S := fun k => w.heap.size ≤ k) (HX.out.2.2.2.mono (fun _ _ h => h.elim)) fr (fun i _ h => by omega)).below (Nat.le_refl _) (fun k h => h)
end Go.Proofs.YtfkcobdkgjhfaaaGreatDoor

/- Walks: IsDec of the reference, where it answers yes; Same of the thin package. -/
set_option linter.unusedVariables false
set_option linter.unusedSimpArgs false
namespace Go.Proofs.YtfkcobdkgjhfaaaGreatDoor
open Go.RowKit

theorem okB_digs (m : Nat) : okB 0 (digs 18446744073709551616 m) = true := by
  have : numW (digs 18446744073709551616 m) = m := dval_digs (by omega) m
  simp [okB, this, eqB_self]

set_option maxHeartbeats 2000000 in
theorem isDec_yes (neg neg2 : Bool) (A B : Option Addr) (c c2 m : Nat) (exp : Int) (w : World) (hx : RdG .u64 w (.slice A (digs 18446744073709551616 m).length c) (digs 18446744073709551616 m)) (hv : RdG .i64 w (.slice B (digs 65536 m).length c2) (digs 65536 m))
    (hn : (digs 18446744073709551616 m).length ≤ 1048576) (hneg : neg = neg2 ∨ m = 0) :
    Calls Tryz.prog 19 #[.agg #[.int .i64 0, .bool neg, .slice A (digs 18446744073709551616 m).length c, .int .i64 exp], .agg #[.bool neg2, .slice B (digs 65536 m).length c2, .int .i64 exp]] w (BoolP w true) := by
  have hnm : numW (digs 18446744073709551616 m) = m := dval_digs (by omega) m
  have hok := okB_digs m
  have hdg := dig_digs (b := 18446744073709551616) (by omega) m
  have hz : m = 0 → (digs 65536 m).length = 0 := by rintro rfl; rw [digs_zero]; rfl
  have hcl : (digs 65536 m).length ≤ 1099511627776 := by
    have := digs_len_words hdg
    rw [hnm] at this; omega
  have hci : cmpI m m = 0 := cmpI_eq rfl
  have HC := hide (And.intro hcl hci)
  clear hcl hci
  have con := fun W (h : Fr w W (fun _ => False)) => ofDec_any 0 neg (.slice A (digs 18446744073709551616 m).length c) (digs 18446744073709551616 m) exp W (hx.fr h (fun _ _ h => h)) hn hdg
  rw [hnm, hok] at con
  have Con := hide con
  have HV := hide hv
  have HZ := hide hz
  generalize digs 18446744073709551616 m = xs at *
  clear con hv hx hz hok hdg hnm
  go_enter Tryz.func19, Tryz.ntmps19
  go_wp2_with fail
  have hs : ((w.alloc (.cells #[.int .i64 0, .bool neg, .slice A xs.length c, .int .i64 exp] 24)).alloc (.cells #[.bool neg2, .slice B (digs 65536 m).length c2, .int .i64 exp] 29)).heap.size = w.heap.size + 2 := by simp
  have hf : Fr w ((w.alloc (.cells #[.int .i64 0, .bool neg, .slice A xs.length c, .int .i64 exp] 24)).alloc (.cells #[.bool neg2, .slice B (digs 65536 m).length c2, .int .i64 exp] 29)) (fun _ => False) := ((Fr.refl w _).alloc _).alloc _
  have hbv : Blk ((w.alloc (.cells #[.int .i64 0, .bool neg, .slice A xs.length c, .int .i64 exp] 24)).alloc (.cells #[.bool neg2, .slice B (digs 65536 m).length c2, .int .i64 exp] 29)) (w.heap.size + 1) 29 #[.bool neg2, .slice B (digs 65536 m).length c2, .int .i64 exp] := by
    have := Blk.new (w.alloc (.cells #[.int .i64 0, .bool neg, .slice A xs.length c, .int .i64 exp] 24)) 29 #[.bool neg2, .slice B (digs 65536 m).length c2, .int .i64 exp]
    simpa using this
  generalize ((w.alloc (.cells #[.int .i64 0, .bool neg, .slice A xs.length c, .int .i64 exp] 24)).alloc (.cells #[.bool neg2, .slice B (digs 65536 m).length c2, .int .i64 exp] 29)) = W at hs hf hbv ⊢
  refine (Con.out W hf).mono ?_
  rintro e w1 ⟨B1, c1, rfl, hown, hbel⟩
  have hf2 : Fr w (w1.alloc (.cells #[.bool neg, .slice B1 (digs 65536 m).length c1, .int .i64 exp] 29)) (fun _ => False) := Fr.alloc (Fr.step hf (Fr.of_below hbel (fun _ => False)) (fun _ _ h => h)) _
  have hb2 : Blk (w1.alloc (.cells #[.bool neg, .slice B1 (digs 65536 m).length c1, .int .i64 exp] 29)) (w.heap.size + 1) 29 #[.bool neg2, .slice B (digs 65536 m).length c2, .int .i64 exp] := (hbv.below hbel).alloc _
  have hb3 : Blk (w1.alloc (.cells #[.bool neg, .slice B1 (digs 65536 m).length c1, .int .i64 exp] 29)) w1.heap.size 29 #[.bool neg, .slice B1 (digs 65536 m).length c1, .int .i64 exp] := Blk.new _ _ _
  have hown2 := hown.fr (Fr.alloc (Fr.refl w1 (fun _ => False)) (.cells #[.bool neg, .slice B1 (digs 65536 m).length c1, .int .i64 exp] 29)) (fun _ _ h => h)
  have hsz : w.heap.size + 2 ≤ w1.heap.size := by have := hbel.size; omega
  have x0 : (w1.alloc (.cells #[.bool neg, .slice B1 (digs 65536 m).length c1, .int .i64 exp] 29)).cell? ⟨w.heap.size + 1, 0, none⟩ = some (.bool neg2) := hb2.cell 0
  have x1 : (w1.alloc (.cells #[.bool neg, .slice B1 (digs 65536 m).length c1, .int .i64 exp] 29)).cell? ⟨w.heap.size + 1, 1, none⟩ = some (.slice B (digs 65536 m).length c2) := hb2.cell 1
  have x2 : (w1.alloc (.cells #[.bool neg, .slice B1 (digs 65536 m).length c1, .int .i64 exp] 29)).cell? ⟨w.heap.size + 1, 2, none⟩ = some (.int .i64 exp) := hb2.cell 2
  have HH := hide (And.intro hf2 (And.intro hb2 (And.intro hb3 hown2)))
  clear hs hf hbv hown hbel hf2 hb2 hb3 hown2 Con
  go_wp2_with fail
  refine (cmp_any B1 B c1 c2 m m _ ?_ ?_ HC.out.1 HC.out.1).mono ?_
  · exact HH.out.2.2.2.rd
  · exact HV.out.fr HH.out.1 (fun _ _ h => h)
  rintro e w2 ⟨rfl, hb⟩
  rw [HC.out.2]
  have y0 : w2.cell? ⟨w.heap.size + 1, 0, none⟩ = some (.bool neg2) := (HH.out.2.1.below hb).cell 0
  have y1 : w2.cell? ⟨w.heap.size + 1, 1, none⟩ = some (.slice B (digs 65536 m).length c2) := (HH.out.2.1.below hb).cell 1
  have y2 : w2.cell? ⟨w.heap.size + 1, 2, none⟩ = some (.int .i64 exp) := (HH.out.2.1.below hb).cell 2
  have u0 : w2.cell? ⟨w1.heap.size, 0, none⟩ = some (.bool neg) := (HH.out.2.2.1.below hb).cell 0
  have u2 : w2.cell? ⟨w1.heap.size, 2, none⟩ = some (.int .i64 exp) := (HH.out.2.2.1.below hb).cell 2
  have fin : BoolP w true (.returned (.bool true)) w2 := ⟨rfl, (Fr.step HH.out.1 (Fr.of_below hb (fun _ => False)) (fun _ _ h => h)).below (Nat.le_refl _) (fun _ h => h.elim)⟩
  have Fin := hide fin
  clear fin hb HH x0 x1 x2 HV
  rcases hneg with rfl | h0
  · have e0 : (neg == neg) = true := by simp
    cases neg
    all_goals go_wp2
    all_goals go_ret
    all_goals exact Fin.out
  · have hl0 := HZ.out h0
    rw [hl0] at y1
    cases neg <;> cases neg2
    all_goals go_wp2
    all_goals go_ret
    all_goals exact Fin.out
end Go.Proofs.YtfkcobdkgjhfaaaGreatDoor

/- Walks: Same of the thin package, and the law FnSame. -/
set_option linter.unusedVariables false
set_option linter.unusedSimpArgs false
namespace Go.Proofs.YtfkcobdkgjhfaaaGreatDoor
open Go.RowKit

abbrev decA (form : Int) (neg : Bool) (v : Value) (exp : Int) : Array Value := #[.int .i64 form, .bool neg, v, .int .i64 exp]

/-- The store of a Dec into a result's variable, and all that is left behind it. -/
theorem store_dec {w w1 : World} {g : Nat} {neg : Bool} {exp : Int} {A : Option Addr} {c : Nat} {xs : List Nat} (hg : w.heap.size ≤ g) (hb : Blk w1 g 24 (decA 0 false (.slice none 0 0) 0)) (hbel : Below w.heap.size w w1) (base : Nat) (hbase : w.heap.size ≤ base) (hown : OwnU w1 base (.slice A xs.length c) xs) :
    Blk ((((w1.setCell ⟨g, 0, none⟩ (.int .i64 0)).setCell ⟨g, 1, none⟩ (.bool neg)).setCell ⟨g, 2, none⟩ (.slice A xs.length c)).setCell ⟨g, 3, none⟩ (.int .i64 exp)) g 24 (decA 0 neg (.slice A xs.length c) exp) ∧
    ToldFin w neg exp xs (.returned (.agg #[.int .i64 0, .bool neg, .slice A xs.length c, .int .i64 exp])) ((((w1.setCell ⟨g, 0, none⟩ (.int .i64 0)).setCell ⟨g, 1, none⟩ (.bool neg)).setCell ⟨g, 2, none⟩ (.slice A xs.length c)).setCell ⟨g, 3, none⟩ (.int .i64 exp)) := by
  have hn := hown.ne_blk hb (by decide)
  have fr := ((((Fr.refl w1 (fun k => k = g)).setCell (p := ⟨g, 0, none⟩) (fun _ => rfl) (.int .i64 0)).setCell (p := ⟨g, 1, none⟩) (fun _ => rfl) (.bool neg)).setCell (p := ⟨g, 2, none⟩) (fun _ => rfl) (.slice A xs.length c)).setCell (p := ⟨g, 3, none⟩) (fun _ => rfl) (.int .i64 exp)
  refine ⟨(((hb.set 0 _).set 1 _).set 2 _).set 3 _, A, c, rfl, (hown.fr fr hn).lower hbase, ?_⟩
  exact (Fr.step (S := fun k => w.heap.size ≤ k) (Fr.of_below hbel _) fr (fun i _ h => by omega)).below (Nat.le_refl _) (fun k h => h)

end Go.Proofs.YtfkcobdkgjhfaaaGreatDoor

/- Walks: the laws' finite says no; small words on boxes. -/
set_option linter.unusedVariables false
set_option linter.unusedSimpArgs false
namespace Go.Proofs.YtfkcobdkgjhfaaaGreatDoor
open Go.RowKit

/-- 'finite' says no, in whichever way. -/
theorem finite_out (form : Int) (neg : Bool) (A : Option Addr) (n c : Nat) (exp : Int) (w : World) (h : ¬ (n ≤ 3 ∧ ¬ exp < -100 ∧ ¬ 100 < exp)) :
    Calls Tryz.prog 9 #[.agg #[.int .i64 form, .bool neg, .slice A n c, .int .i64 exp]] w (OutP w) := by
  by_cases h1 : 3 < n
  · exact finite_out1 form neg A n c exp w h1
  by_cases h2 : exp < -100
  · exact finite_out2 form neg A n c exp w (by omega) h2
  · exact finite_out3 form neg A n c exp w (by omega) h2 (by omega)

theorem okB_split {form : Int} {xs : List Nat} (h : okB form xs = true) : form = 0 ∧ xs = digs 18446744073709551616 (numW xs) := by
  simp [okB, eqB] at h; exact h

theorem Blk.dec4 {w : World} {g : Nat} {t : TypeId} {a b c d : Value} (h : Blk w g t #[a, b, c, d]) : w.cell? ⟨g, 0, none⟩ = some a ∧ w.cell? ⟨g, 1, none⟩ = some b ∧ w.cell? ⟨g, 2, none⟩ = some c ∧ w.cell? ⟨g, 3, none⟩ = some d :=
  ⟨h.cell 0, h.cell 1, h.cell 2, h.cell 3⟩
theorem Blk.val3 {w : World} {g : Nat} {t : TypeId} {a b c : Value} (h : Blk w g t #[a, b, c]) : w.cell? ⟨g, 0, none⟩ = some a ∧ w.cell? ⟨g, 1, none⟩ = some b ∧ w.cell? ⟨g, 2, none⟩ = some c :=
  ⟨h.cell 0, h.cell 1, h.cell 2⟩

end Go.Proofs.YtfkcobdkgjhfaaaGreatDoor

/- The law FnSame: its walk. -/
set_option linter.unusedVariables false
set_option linter.unusedSimpArgs false
namespace Go.Proofs.YtfkcobdkgjhfaaaGreatDoor
open Go.RowKit

theorem trimz_digs (m : Nat) : trimz (digs 18446744073709551616 m) = digs 18446744073709551616 m := trimz_of_canon (canon_digs (by omega) m)

end Go.Proofs.YtfkcobdkgjhfaaaGreatDoor
