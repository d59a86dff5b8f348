/- Walks: IsDec of the reference, where it answers yes; Same of the thin package. -/
import Derived.Test.YtmomgnogncpglaaLaw1
import Derived.Test.YtmomgnogncpglaaDec2
set_option linter.unusedVariables false
set_option linter.unusedSimpArgs false
namespace Go.Proofs.Ytmomgnogncpglaa
open Go.RowKit

theorem okB_digs (m : Nat) : okB 0 (digs 18446744073709551616 m) = true := by
  have : numW (digs 18446744073709551616 m) = m := dval_digs (by omega) m
  simp [okB, this, eqB_self]

set_option maxHeartbeats 2000000 in
theorem isDec_yes (neg neg2 : Bool) (A B : Option Addr) (c c2 m : Nat) (exp : Int) (w : World) (hx : RdG .u64 w (.slice A (digs 18446744073709551616 m).length c) (digs 18446744073709551616 m)) (hv : RdG .i64 w (.slice B (digs 65536 m).length c2) (digs 65536 m))
    (hn : (digs 18446744073709551616 m).length ≤ 1048576) (hneg : neg = neg2 ∨ m = 0) :
    Calls Try.prog 11 #[.agg #[.int .i64 0, .bool neg, .slice A (digs 18446744073709551616 m).length c, .int .i64 exp], .agg #[.bool neg2, .slice B (digs 65536 m).length c2, .int .i64 exp]] w (BoolP w true) := by
  have hnm : numW (digs 18446744073709551616 m) = m := dval_digs (by omega) m
  have hok := okB_digs m
  have hdg := dig_digs (b := 18446744073709551616) (by omega) m
  have hz : m = 0 → (digs 65536 m).length = 0 := by rintro rfl; rw [digs_zero]; rfl
  have hcl : (digs 65536 m).length ≤ 1099511627776 := by
    have := digs_len_words hdg
    rw [hnm] at this; omega
  have hci : cmpI m m = 0 := cmpI_eq rfl
  have HC := hide (And.intro hcl hci)
  clear hcl hci
  have con := fun W (h : Fr w W (fun _ => False)) => ofDec_any 0 neg (.slice A (digs 18446744073709551616 m).length c) (digs 18446744073709551616 m) exp W (hx.fr h (fun _ _ h => h)) hn hdg
  rw [hnm, hok] at con
  have Con := hide con
  have HV := hide hv
  have HZ := hide hz
  generalize digs 18446744073709551616 m = xs at *
  clear con hv hx hz hok hdg hnm
  go_enter Try.func11, Try.ntmps11
  go_wp2_with fail
  have hs : ((w.alloc (.cells #[.int .i64 0, .bool neg, .slice A xs.length c, .int .i64 exp] 24)).alloc (.cells #[.bool neg2, .slice B (digs 65536 m).length c2, .int .i64 exp] 29)).heap.size = w.heap.size + 2 := by simp
  have hf : Fr w ((w.alloc (.cells #[.int .i64 0, .bool neg, .slice A xs.length c, .int .i64 exp] 24)).alloc (.cells #[.bool neg2, .slice B (digs 65536 m).length c2, .int .i64 exp] 29)) (fun _ => False) := ((Fr.refl w _).alloc _).alloc _
  have hbv : Blk ((w.alloc (.cells #[.int .i64 0, .bool neg, .slice A xs.length c, .int .i64 exp] 24)).alloc (.cells #[.bool neg2, .slice B (digs 65536 m).length c2, .int .i64 exp] 29)) (w.heap.size + 1) 29 #[.bool neg2, .slice B (digs 65536 m).length c2, .int .i64 exp] := by
    have := Blk.new (w.alloc (.cells #[.int .i64 0, .bool neg, .slice A xs.length c, .int .i64 exp] 24)) 29 #[.bool neg2, .slice B (digs 65536 m).length c2, .int .i64 exp]
    simpa using this
  generalize ((w.alloc (.cells #[.int .i64 0, .bool neg, .slice A xs.length c, .int .i64 exp] 24)).alloc (.cells #[.bool neg2, .slice B (digs 65536 m).length c2, .int .i64 exp] 29)) = W at hs hf hbv ⊢
  refine (Con.out W hf).mono ?_
  rintro e w1 ⟨B1, c1, rfl, hown, hbel⟩
  have hf2 : Fr w (w1.alloc (.cells #[.bool neg, .slice B1 (digs 65536 m).length c1, .int .i64 exp] 29)) (fun _ => False) := Fr.alloc (Fr.step hf (Fr.of_below hbel (fun _ => False)) (fun _ _ h => h)) _
  have hb2 : Blk (w1.alloc (.cells #[.bool neg, .slice B1 (digs 65536 m).length c1, .int .i64 exp] 29)) (w.heap.size + 1) 29 #[.bool neg2, .slice B (digs 65536 m).length c2, .int .i64 exp] := (hbv.below hbel).alloc _
  have hb3 : Blk (w1.alloc (.cells #[.bool neg, .slice B1 (digs 65536 m).length c1, .int .i64 exp] 29)) w1.heap.size 29 #[.bool neg, .slice B1 (digs 65536 m).length c1, .int .i64 exp] := Blk.new _ _ _
  have hown2 := hown.fr (Fr.alloc (Fr.refl w1 (fun _ => False)) (.cells #[.bool neg, .slice B1 (digs 65536 m).length c1, .int .i64 exp] 29)) (fun _ _ h => h)
  have hsz : w.heap.size + 2 ≤ w1.heap.size := by have := hbel.size; omega
  have x0 : (w1.alloc (.cells #[.bool neg, .slice B1 (digs 65536 m).length c1, .int .i64 exp] 29)).cell? ⟨w.heap.size + 1, 0, none⟩ = some (.bool neg2) := hb2.cell 0
  have x1 : (w1.alloc (.cells #[.bool neg, .slice B1 (digs 65536 m).length c1, .int .i64 exp] 29)).cell? ⟨w.heap.size + 1, 1, none⟩ = some (.slice B (digs 65536 m).length c2) := hb2.cell 1
  have x2 : (w1.alloc (.cells #[.bool neg, .slice B1 (digs 65536 m).length c1, .int .i64 exp] 29)).cell? ⟨w.heap.size + 1, 2, none⟩ = some (.int .i64 exp) := hb2.cell 2
  have HH := hide (And.intro hf2 (And.intro hb2 (And.intro hb3 hown2)))
  clear hs hf hbv hown hbel hf2 hb2 hb3 hown2 Con
  go_wp2_with fail
  refine (cmp_any B1 B c1 c2 m m _ ?_ ?_ HC.out.1 HC.out.1).mono ?_
  · exact HH.out.2.2.2.rd
  · exact HV.out.fr HH.out.1 (fun _ _ h => h)
  rintro e w2 ⟨rfl, hb⟩
  rw [HC.out.2]
  have y0 : w2.cell? ⟨w.heap.size + 1, 0, none⟩ = some (.bool neg2) := (HH.out.2.1.below hb).cell 0
  have y1 : w2.cell? ⟨w.heap.size + 1, 1, none⟩ = some (.slice B (digs 65536 m).length c2) := (HH.out.2.1.below hb).cell 1
  have y2 : w2.cell? ⟨w.heap.size + 1, 2, none⟩ = some (.int .i64 exp) := (HH.out.2.1.below hb).cell 2
  have u0 : w2.cell? ⟨w1.heap.size, 0, none⟩ = some (.bool neg) := (HH.out.2.2.1.below hb).cell 0
  have u2 : w2.cell? ⟨w1.heap.size, 2, none⟩ = some (.int .i64 exp) := (HH.out.2.2.1.below hb).cell 2
  have fin : BoolP w true (.returned (.bool true)) w2 := ⟨rfl, (Fr.step HH.out.1 (Fr.of_below hb (fun _ => False)) (fun _ _ h => h)).below (Nat.le_refl _) (fun _ h => h.elim)⟩
  have Fin := hide fin
  clear fin hb HH x0 x1 x2 HV
  rcases hneg with rfl | h0
  · have e0 : (neg == neg) = true := by simp
    cases neg
    all_goals go_wp2
    all_goals go_ret
    all_goals exact Fin.out
  · have hl0 := HZ.out h0
    rw [hl0] at y1
    cases neg <;> cases neg2
    all_goals go_wp2
    all_goals go_ret
    all_goals exact Fin.out
end Go.Proofs.Ytmomgnogncpglaa
