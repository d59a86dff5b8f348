/- Walks: spec's OfDec; zzFits1, finite of the laws. -/
import Derived.Test.YtamjfjomehcikaaGreatDoorSpec6
import Derived.Deep.RegionHeld3
set_option linter.unusedVariables false
set_option linter.unusedSimpArgs false
namespace Go.Proofs.YtamjfjomehcikaaGreatDoor
open Go.RowKit

/-- Are words those of a number? -/
def okB (form : Int) (xs : List Nat) : Bool := (form == 0) && eqB xs (digs 18446744073709551616 (numW xs))

/-- A Value and a bool. -/
def ValP (w : World) (neg : Bool) (n : Nat) (exp : Int) (ok : Bool) (e : Ending) (w' : World) : Prop :=
  ∃ A c, e = .returned (.tuple #[.agg #[.bool neg, .slice A (digs 65536 n).length c, .int .i64 exp], .bool ok]) ∧ OwnI w' w.heap.size (.slice A (digs 65536 n).length c) (digs 65536 n) ∧ Below w.heap.size w w'

theorem ofDec_result (n : Nat) (ok : Bool) (tmps : Array Value) (h : tmps.getD 2 undef = .pointer (some ⟨n, 0, none⟩)) (h3 : tmps.getD 3 undef = .bool ok) (W : World) (a b c : Value) (c0 : W.cell? ⟨n, 0, none⟩ = some a) (c1 : W.cell? ⟨n, 1, none⟩ = some b) (c2 : W.cell? ⟨n, 2, none⟩ = some c) :
    (results Tryz.f30 tmps).run Tryz.prog W = .ok (.tuple #[.agg #[a, b, c], .bool ok]) W := by
  have h2 : tmps[2]?.getD undef = .pointer (some ⟨n, 0, none⟩) := by simpa using h
  have h4 : tmps[3]?.getD undef = .bool ok := by simpa using h3
  simp [results, Tryz.results30, go_sem, h2, h4, c0, c1, c2]

theorem digs_len_words {xs : List Nat} (hd : Dig 18446744073709551616 xs) : (digs 65536 (numW xs)).length ≤ 4 * xs.length := by
  unfold numW
  rw [← trimz_quads xs hd]
  have := trimz_length_le (quads xs)
  rw [quads_length] at this
  exact this

set_option maxHeartbeats 2000000 in
theorem ofDec_any (form : Int) (neg : Bool) (v : Value) (xs : List Nat) (exp : Int) (w : World) (hv : RdG .u64 w v xs) (hn : xs.length ≤ 1048576) (hd : Dig 18446744073709551616 xs) :
    Calls Tryz.prog 30 #[.agg #[.int .i64 form, .bool neg, v, .int .i64 exp]] w (ValP w neg (numW xs) exp (okB form xs)) := by
  obtain ⟨A, c, rfl, hxc, hcm⟩ := hv.slice
  have HV := hide hv
  have HD := hide hd
  clear hv hd
  go_enter Tryz.func30, Tryz.ntmps30
  go_wp2_with fail
  have hs : ((w.alloc (.cells #[.int .i64 form, .bool neg, .slice A xs.length c, .int .i64 exp] 31)).alloc (.cells #[.bool false, .slice none 0 0, .int .i64 0] 34)).heap.size = w.heap.size + 2 := by simp
  have hf : Fr w ((w.alloc (.cells #[.int .i64 form, .bool neg, .slice A xs.length c, .int .i64 exp] 31)).alloc (.cells #[.bool false, .slice none 0 0, .int .i64 0] 34)) (fun _ => False) := ((Fr.refl w _).alloc _).alloc _
  have hbx : Blk ((w.alloc (.cells #[.int .i64 form, .bool neg, .slice A xs.length c, .int .i64 exp] 31)).alloc (.cells #[.bool false, .slice none 0 0, .int .i64 0] 34)) w.heap.size 31 #[.int .i64 form, .bool neg, .slice A xs.length c, .int .i64 exp] := (Blk.new w _ _).alloc _
  have hbv : Blk ((w.alloc (.cells #[.int .i64 form, .bool neg, .slice A xs.length c, .int .i64 exp] 31)).alloc (.cells #[.bool false, .slice none 0 0, .int .i64 0] 34)) (w.heap.size + 1) 34 #[.bool false, .slice none 0 0, .int .i64 0] := by
    have := Blk.new (w.alloc (.cells #[.int .i64 form, .bool neg, .slice A xs.length c, .int .i64 exp] 31)) 34 #[.bool false, .slice none 0 0, .int .i64 0]
    simpa using this
  generalize ((w.alloc (.cells #[.int .i64 form, .bool neg, .slice A xs.length c, .int .i64 exp] 31)).alloc (.cells #[.bool false, .slice none 0 0, .int .i64 0] 34)) = W at hs hf hbx hbv ⊢
  have hvW := HV.out.fr hf (fun _ _ h => h)
  refine (of_any (.slice A xs.length c) xs W hvW hn HD.out).mono ?_
  rintro e w1 ⟨B1, c1, rfl, hown, hbel⟩
  have hln := digs_len_words HD.out
  have hx1 := hbx.below hbel
  have hv1 := hbv.below hbel
  have hvw1 := hvW.below hbel
  have hsz : w.heap.size + 2 ≤ w1.heap.size := by have := hbel.size; omega
  have hfr : Fr w w1 (fun _ => False) := Fr.step hf (Fr.of_below hbel (fun _ => False)) (fun _ _ h => h)
  have hown1 : OwnI w1 w.heap.size (.slice B1 (digs 65536 (numW xs)).length c1) (digs 65536 (numW xs)) := hown.lower (by omega)
  have HH := hide (And.intro hown1 (And.intro hx1 (And.intro hv1 (And.intro hvw1 (And.intro hfr hln)))))
  clear hs hf hbx hbv hvW hown hbel hln hx1 hv1 hvw1 hfr hown1 HV
  have fin : ∀ (ok : Bool) (w2 : World), Below w1.heap.size w1 w2 → ok = okB form xs →
      ∃ hB : Blk (((w2.setCell ⟨w.heap.size + 1, 0, none⟩ (.bool neg)).setCell ⟨w.heap.size + 1, 1, none⟩ (.slice B1 (digs 65536 (numW xs)).length c1)).setCell ⟨w.heap.size + 1, 2, none⟩ (.int .i64 exp)) (w.heap.size + 1) 34 #[.bool neg, .slice B1 (digs 65536 (numW xs)).length c1, .int .i64 exp],
      ValP w neg (numW xs) exp (okB form xs) (.returned (.tuple #[.agg #[.bool neg, .slice B1 (digs 65536 (numW xs)).length c1, .int .i64 exp], .bool ok])) (((w2.setCell ⟨w.heap.size + 1, 0, none⟩ (.bool neg)).setCell ⟨w.heap.size + 1, 1, none⟩ (.slice B1 (digs 65536 (numW xs)).length c1)).setCell ⟨w.heap.size + 1, 2, none⟩ (.int .i64 exp)) := by
    intro ok w2 hb hok
    obtain ⟨hown1, hx1, hv1, hvw1, hfr, hln⟩ := HH.out
    have hv2 := hv1.below hb
    have hne := (hown1.below hb).ne_blk hv2 (by decide)
    have fr := (((Fr.refl w2 (fun k => k = w.heap.size + 1)).setCell (p := ⟨w.heap.size + 1, 0, none⟩) (fun _ => rfl) (.bool neg)).setCell (p := ⟨w.heap.size + 1, 1, none⟩) (fun _ => rfl) (.slice B1 (digs 65536 (numW xs)).length c1)).setCell (p := ⟨w.heap.size + 1, 2, none⟩) (fun _ => rfl) (.int .i64 exp)
    refine ⟨((hv2.set 0 _).set 1 _).set 2 _, B1, c1, by rw [hok], (hown1.below hb).fr fr hne, ?_⟩
    have f1 : Fr w w2 (fun k => w.heap.size ≤ k) := Fr.step (hfr.mono (fun _ _ h => h.elim)) (Fr.of_below hb (fun _ => False)) (fun _ _ h => h.elim)
    exact (Fr.step f1 fr (fun i _ h => by omega)).below (Nat.le_refl _) (fun k h => h)
  have Fin := hide fin
  clear fin
  have x0 : w1.cell? ⟨w.heap.size, 0, none⟩ = some (.int .i64 form) := HH.out.2.1.cell 0
  have x1 : w1.cell? ⟨w.heap.size, 1, none⟩ = some (.bool neg) := HH.out.2.1.cell 1
  have x2 : w1.cell? ⟨w.heap.size, 2, none⟩ = some (.slice A xs.length c) := HH.out.2.1.cell 2
  have x3 : w1.cell? ⟨w.heap.size, 3, none⟩ = some (.int .i64 exp) := HH.out.2.1.cell 3
  have y0 : w1.cell? ⟨w.heap.size + 1, 0, none⟩ = some (.bool false) := HH.out.2.2.1.cell 0
  have y1 : w1.cell? ⟨w.heap.size + 1, 1, none⟩ = some (.slice none 0 0) := HH.out.2.2.1.cell 1
  have y2 : w1.cell? ⟨w.heap.size + 1, 2, none⟩ = some (.int .i64 0) := HH.out.2.2.1.cell 2
  have z0 : w1.frozen? ⟨w.heap.size + 1, 0, none⟩ = false := HH.out.2.2.1.frozen 0
  have z1 : w1.frozen? ⟨w.heap.size + 1, 1, none⟩ = false := HH.out.2.2.1.frozen 1
  have z2 : w1.frozen? ⟨w.heap.size + 1, 2, none⟩ = false := HH.out.2.2.1.frozen 2
  by_cases hform : form = 0
  · subst hform
    have hpk := pk_digs (numW xs)
    have con := fun W (h : Below w1.heap.size w1 W) => hasWords_any A B1 c c1 xs (digs 65536 (numW xs)) W (HH.out.2.2.2.1.below h) (HH.out.1.below h).rd hn (by have := HH.out.2.2.2.2.2; omega) (dig_digs (by omega) _)
    rw [hpk] at con
    have Con := hide con
    clear con hpk
    go_wp2_with fail
    go_region_held3 (fun W => W.cell? ⟨w.heap.size, 0, none⟩ = some (.int .i64 0) ∧ W.cell? ⟨w.heap.size, 1, none⟩ = some (.bool neg) ∧ W.cell? ⟨w.heap.size, 2, none⟩ = some (.slice A xs.length c) ∧ W.cell? ⟨w.heap.size, 3, none⟩ = some (.int .i64 exp)) (first | exact ⟨x0, x1, x2, x3⟩ | exact ⟨u0, u1, u2, u3⟩ | (refine ⟨?_, ?_, ?_, ?_⟩ <;> (go_simp; done)) | go_keep)
      (first | (go_at_call 7; refine (Con.out _ ?_).mono ?_; exact (Below.refl _ _).drew; rintro e w2 ⟨rfl, hb⟩; have hb2 : Below w1.heap.size w1 w2 := (Below.refl w1.heap.size w1).drew.trans hb; have u0 := (HH.out.2.1.below hb2).cell 0; have u1 := (HH.out.2.1.below hb2).cell 1; have u2 := (HH.out.2.1.below hb2).cell 2; have u3 := (HH.out.2.1.below hb2).cell 3; have t0 := (HH.out.2.2.1.below hb2).cell 0; have t1 := (HH.out.2.2.1.below hb2).cell 1; have t2 := (HH.out.2.2.1.below hb2).cell 2; have s0 := (HH.out.2.2.1.below hb2).frozen 0; have s1 := (HH.out.2.2.1.below hb2).frozen 1; have s2 := (HH.out.2.2.1.below hb2).frozen 2))
    go_wp2
    have hok : eqB xs (digs 18446744073709551616 (numW xs)) = okB 0 xs := by simp [okB]
    obtain ⟨hB, hP⟩ := Fin.out _ w2 hb2 hok
    exact bodyPost_ret (ofDec_result (w.heap.size + 1) _ _ rfl rfl _ (.bool neg) (.slice B1 (digs 65536 (numW xs)).length c1) (.int .i64 exp) (hB.cell 0) (hB.cell 1) (hB.cell 2)) rfl hP
  · have b0 : (form == 0) = false := beq_eq_false_iff_ne.2 hform
    go_wp2_with fail
    go_region
    all_goals go_wp2
    all_goals have hok : false = okB form xs := by simp [okB, hform]
    all_goals obtain ⟨hB, hP⟩ := Fin.out _ w1.drew (Below.refl _ _).drew hok
    all_goals exact bodyPost_ret (ofDec_result (w.heap.size + 1) _ _ rfl rfl _ (.bool neg) (.slice B1 (digs 65536 (numW xs)).length c1) (.int .i64 exp) (hB.cell 0) (hB.cell 1) (hB.cell 2)) rfl hP
end Go.Proofs.YtamjfjomehcikaaGreatDoor
