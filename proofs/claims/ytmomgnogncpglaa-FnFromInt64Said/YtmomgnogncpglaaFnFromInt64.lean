/- The law FnFromInt64: its walk. -/
import Derived.Test.YtmomgnogncpglaaFrom64
set_option linter.unusedVariables false
set_option linter.unusedSimpArgs false
namespace Go.Proofs.Ytmomgnogncpglaa
open Go.RowKit

structure Held64 (w : World) (gv gw : Nat) (s : Bool) (B : Option Addr) (cB m : Nat) (k : Int) (W : World) : Prop where
  bel : Below w.heap.size w W
  bv : Blk W gv 29 #[.bool s, .slice B (digs 65536 m).length cB, .int .i64 0]
  bw : Blk W gw 29 #[.bool s, .slice B (digs 65536 m).length cB, .int .i64 k]
  rv : RdG .i64 W (.slice B (digs 65536 m).length cB) (digs 65536 m)

section
variable {w : World} {gv gw : Nat} {s : Bool} {B : Option Addr} {cB m : Nat} {k : Int} {W W' : World}
theorem Held64.next (h : Held64 w gv gw s B cB m k W) (h1 : W'.os = W.os) (h2 : W'.tape = W.tape) (h3 : W'.output = W.output) (h4 : W.heap.size ≤ W'.heap.size) (h5 : ∀ k, k < W.heap.size → W'.heap[k]? = W.heap[k]?) : Held64 w gv gw s B cB m k W' :=
  have hb : Below W.heap.size W W' := ⟨h1, h2, h3, h4, h5⟩
  ⟨below_next h.bel hb, h.bv.below hb, h.bw.below hb, h.rv.below hb⟩
theorem Held64.cells (h : Held64 w gv gw s B cB m k W) :
    (W.cell? ⟨gv, 0, none⟩ = some (.bool s) ∧ W.cell? ⟨gv, 1, none⟩ = some (.slice B (digs 65536 m).length cB) ∧ W.cell? ⟨gv, 2, none⟩ = some (.int .i64 0)) ∧
    (W.cell? ⟨gw, 0, none⟩ = some (.bool s) ∧ W.cell? ⟨gw, 1, none⟩ = some (.slice B (digs 65536 m).length cB) ∧ W.cell? ⟨gw, 2, none⟩ = some (.int .i64 k)) := ⟨h.bv.val3, h.bw.val3⟩
end

set_option maxHeartbeats 2000000 in
theorem fnFromInt64_walk (n e : Int) (w : World) (hwn : (Lit.int .i64 n).wf = true) (hwe : (Lit.int .i16 e).wf = true) :
    Calls Try.prog 5 #[.int .i64 n, .int .i16 e] w (BoolP w true) := by
  have hn : -9223372036854775808 ≤ n ∧ n < 9223372036854775808 := by have := bounds_i64 hwn; omega
  obtain ⟨k, hk, hk0, hk1⟩ : ∃ k : Int, e.tmod 10001 = k ∧ -10000 ≤ k ∧ k ≤ 10000 := by
    rcases Int.le_total 0 e with h | h
    · have := Int.tmod_eq_emod_of_nonneg (b := 10001) h
      exact ⟨_, rfl, by omega, by omega⟩
    · have h1 := Int.tmod_eq_emod_of_nonneg (a := -e) (b := 10001) (by omega)
      rw [Int.neg_tmod] at h1
      exact ⟨_, rfl, by omega, by omega⟩
  obtain ⟨he0, he1⟩ := bounds_i16 hwe
  clear hwn hwe
  have hl := digs_word_len (x := n.natAbs) (by omega)
  have hP : ∀ W : World, Below w.heap.size w W → BoolP w true (.returned (.bool true)) W := fun W h => ⟨rfl, h⟩
  have Fin := hide hP
  have Con := hide (of64_any n w hn.1 hn.2)
  have HN := hide hn
  obtain ⟨s, hs⟩ : ∃ s, s = decide (n < 0) := ⟨_, rfl⟩
  unfold Val64 at Con
  rw [← hs] at Con
  have Hs := hide hs
  clear hP hn hs
  go_enter Try.func5, Try.ntmps5
  go_wp2_with fail
  refine (Con.out).mono ?_
  rintro e1 w1 ⟨B, cB, rfl, hown, hbel⟩
  have hS : Held64 w w1.heap.size (w1.heap.size + 1) s B cB n.natAbs k ((w1.alloc (.cells #[.bool s, .slice B (digs 65536 n.natAbs).length cB, .int .i64 0] 29)).alloc (.cells #[.bool s, .slice B (digs 65536 n.natAbs).length cB, .int .i64 k] 29)) := by
    refine ⟨below_al (below_al hbel _) _, (Blk.new _ _ _).alloc _, ?_, RdG.below (k := .i64) hown.rd (below_al (below_al (Below.refl _ _) _) _)⟩
    have := Blk.new (w1.alloc (.cells #[.bool s, .slice B (digs 65536 n.natAbs).length cB, .int .i64 0] 29)) 29 #[.bool s, .slice B (digs 65536 n.natAbs).length cB, .int .i64 k]
    simpa using this
  have HS := hide hS
  clear hS hown hbel Con
  go_wp2_with fail
  generalize (w1.alloc (.cells #[.bool s, .slice B (digs 65536 n.natAbs).length cB, .int .i64 0] 29)).alloc (.cells #[.bool s, .slice B (digs 65536 n.natAbs).length cB, .int .i64 k] 29) = W3 at HS ⊢
  go_region_held3 (fun W => (W.cell? ⟨w1.heap.size, 0, none⟩ = some (.bool s) ∧ W.cell? ⟨w1.heap.size, 1, none⟩ = some (.slice B (digs 65536 n.natAbs).length cB) ∧ W.cell? ⟨w1.heap.size, 2, none⟩ = some (.int .i64 0)) ∧ (W.cell? ⟨w1.heap.size + 1, 0, none⟩ = some (.bool s) ∧ W.cell? ⟨w1.heap.size + 1, 1, none⟩ = some (.slice B (digs 65536 n.natAbs).length cB) ∧ W.cell? ⟨w1.heap.size + 1, 2, none⟩ = some (.int .i64 k))) (first | exact HS.out.cells | go_keep)
    (first
      | (go_at_call 16; go_loud (refine (fromInt64_any n _ HN.out.1 HN.out.2).mono ?_; rintro e4 w4 ⟨D, cD, rfl, hown4, hb4⟩; rw [← Hs.out]; have HS := hide (HS.out.next hb4.os hb4.tape hb4.output hb4.size hb4.block); have HO := hide (RdG.of_w hown4.rd); clear hb4 hown4))
      | (go_at_call 17; go_loud (refine (fromFinite_any n k _ (by omega) (by omega) HN.out.1 HN.out.2).mono ?_; rintro e4 w4 ⟨D, cD, rfl, hown4, hb4⟩; rw [← Hs.out]; have HS := hide (HS.out.next hb4.os hb4.tape hb4.output hb4.size hb4.block); have HO := hide (RdG.of_w hown4.rd); clear hb4 hown4))
      | (go_at_call 11; go_loud (refine (isDec_yes s s D B cD cB n.natAbs _ _ ?_ ?_ (by omega) (.inl rfl)).mono ?_; exact HO.out; exact HS.out.rv; rintro e5 w5 ⟨rfl, hb5⟩; have HS := hide (HS.out.next hb5.os hb5.tape hb5.output hb5.size hb5.block); clear hb5 HO)))
  all_goals go_wp2
  all_goals go_ret
  all_goals exact Fin.out _ HS.out.bel
end Go.Proofs.Ytmomgnogncpglaa
