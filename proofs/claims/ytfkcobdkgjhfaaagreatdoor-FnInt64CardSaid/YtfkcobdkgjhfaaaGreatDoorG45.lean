/- Parts of the proofs: From64. -/
import Derived.Test.YtfkcobdkgjhfaaaGreatDoorG10
import Derived.Test.YtfkcobdkgjhfaaaGreatDoorG29
import Derived.Test.YtfkcobdkgjhfaaaGreatDoorG30
/- Walks: FromInt64, FromFinite of the thin package; Of64 of the reference. -/
set_option linter.unusedVariables false
set_option linter.unusedSimpArgs false
namespace Go.Proofs.YtfkcobdkgjhfaaaGreatDoor
open Go.RowKit

theorem digs_word_len {x : Nat} (h : x < 18446744073709551616) : (digs 18446744073709551616 x).length ≤ 1 := digs_length_le (by omega) (by simpa using h)



theorem of64_result (n : Nat) (tmps : Array Value) (h : tmps.getD 2 undef = .pointer (some ⟨n, 0, none⟩)) (W : World) (a b c : Value) (c0 : W.cell? ⟨n, 0, none⟩ = some a) (c1 : W.cell? ⟨n, 1, none⟩ = some b) (c2 : W.cell? ⟨n, 2, none⟩ = some c) :
    (results Tryz.f16 tmps).run Tryz.prog W = .ok (.agg #[a, b, c]) W := by
  have h2 : tmps[2]?.getD undef = .pointer (some ⟨n, 0, none⟩) := by simpa using h
  simp [results, Tryz.results16, go_sem, h2, c0, c1, c2]

/-- A whole number of the reference. -/
def Val64 (w : World) (x : Int) (e : Ending) (w' : World) : Prop :=
  ∃ A c, e = .returned (.agg #[.bool (decide (x < 0)), .slice A (digs 65536 x.natAbs).length c, .int .i64 0]) ∧ OwnI w' w.heap.size (.slice A (digs 65536 x.natAbs).length c) (digs 65536 x.natAbs) ∧ Below w.heap.size w w'

set_option maxHeartbeats 1000000 in
theorem of64_any (x : Int) (w : World) (hx0 : -9223372036854775808 ≤ x) (hx1 : x < 9223372036854775808) : Calls Tryz.prog 16 #[.int .i64 x] w (Val64 w x) := by
  have hnum : numW [x.natAbs] = x.natAbs := by simp [numW, dval]
  have hlt : x.natAbs < 18446744073709551616 := by omega
  have con : ∀ s : Int, s = (x.natAbs : Int) → Calls Tryz.prog 31 #[.slice (some ⟨w.heap.size + 1, 0, none⟩) 1 1] ((w.alloc (.cells #[.bool false, .slice none 0 0, .int .i64 0] 29)).alloc (.cells #[.int .u64 s] 46))
      (fun e w1 => ∃ A c, e = .returned (.slice A (digs 65536 x.natAbs).length c) ∧ w1.cell? ⟨w.heap.size, 0, none⟩ = some (.bool false) ∧ w1.cell? ⟨w.heap.size, 1, none⟩ = some (.slice none 0 0) ∧ w1.cell? ⟨w.heap.size, 2, none⟩ = some (.int .i64 0) ∧
        w1.frozen? ⟨w.heap.size, 0, none⟩ = false ∧ w1.frozen? ⟨w.heap.size, 1, none⟩ = false ∧ w1.frozen? ⟨w.heap.size, 2, none⟩ = false ∧
        Hid (Val64 w x (.returned (.agg #[.bool (decide (x < 0)), .slice A (digs 65536 x.natAbs).length c, .int .i64 0])) (((w1.setCell ⟨w.heap.size, 0, none⟩ (.bool (decide (x < 0)))).setCell ⟨w.heap.size, 1, none⟩ (.slice A (digs 65536 x.natAbs).length c)).setCell ⟨w.heap.size, 2, none⟩ (.int .i64 0)) ∧
          Blk (((w1.setCell ⟨w.heap.size, 0, none⟩ (.bool (decide (x < 0)))).setCell ⟨w.heap.size, 1, none⟩ (.slice A (digs 65536 x.natAbs).length c)).setCell ⟨w.heap.size, 2, none⟩ (.int .i64 0)) w.heap.size 29 #[.bool (decide (x < 0)), .slice A (digs 65536 x.natAbs).length c, .int .i64 0])) := by
    rintro s rfl
    obtain ⟨W, hW⟩ : ∃ W, W = ((w.alloc (.cells #[.bool false, .slice none 0 0, .int .i64 0] 29)).alloc (.cells #[.int .u64 (x.natAbs : Int)] 46)) := ⟨_, rfl⟩
    rw [← hW]
    have hs : W.heap.size = w.heap.size + 2 := by rw [hW]; simp
    have hf : Fr w W (fun _ => False) := by rw [hW]; exact ((Fr.refl w _).alloc _).alloc _
    have hbv : Blk W w.heap.size 29 #[.bool false, .slice none 0 0, .int .i64 0] := by rw [hW]; exact (Blk.new w _ _).alloc _
    have hbu : Blk W (w.heap.size + 1) 46 #[.int .u64 (x.natAbs : Int)] := by
      have := Blk.new (w.alloc (.cells #[.bool false, .slice none 0 0, .int .i64 0] 29)) 46 #[.int .u64 (x.natAbs : Int)]
      rw [hW]; simpa using this
    have hrd : RdG .u64 W (.slice (some ⟨w.heap.size + 1, 0, none⟩) 1 1) [x.natAbs] := .inr ⟨_, 0, 1, rfl, by simp, by simp [maxLen], fun i hi => by
      obtain rfl : i = 0 := by simpa using hi
      exact hbu.cell 0⟩
    refine (of_any _ [x.natAbs] W hrd (by simp) (fun d hd => by rw [List.mem_singleton.1 hd]; exact hlt)).mono ?_
    rw [hnum]
    rintro e w1 ⟨A, c, rfl, hown, hbel⟩
    have hB := hbv.below hbel
    have hfr : Fr w w1 (fun k => w.heap.size ≤ k) := Fr.step (hf.mono (fun _ _ h => h.elim)) (Fr.of_below hbel (fun _ => False)) (fun _ _ h => h.elim)
    refine ⟨A, c, rfl, hB.cell 0, hB.cell 1, hB.cell 2, hB.frozen 0, hB.frozen 1, hB.frozen 2, ⟨A, c, rfl, ?_, ?_⟩, ((hB.set 0 _).set 1 _).set 2 _⟩
    · have fr := (((Fr.refl w1 (fun k => k = w.heap.size)).setCell (p := ⟨w.heap.size, 0, none⟩) (fun _ => rfl) (.bool (decide (x < 0)))).setCell (p := ⟨w.heap.size, 1, none⟩) (fun _ => rfl) (.slice A (digs 65536 x.natAbs).length c)).setCell (p := ⟨w.heap.size, 2, none⟩) (fun _ => rfl) (.int .i64 0)
      exact (hown.lower (by omega)).fr fr (hown.ne_blk hB (by decide))
    · exact (((hfr.setCell (p := ⟨w.heap.size, 0, none⟩) (fun h => by simp at h) _).setCell (p := ⟨w.heap.size, 1, none⟩) (fun h => by simp at h) _).setCell (p := ⟨w.heap.size, 2, none⟩) (fun h => by simp at h) _).below (Nat.le_refl _) (fun _ h => h)
  by_cases hneg : x < 0
  · have Con := hide (con (IntKind.u64.wrap (-IntKind.u64.wrap x)) (by simp [IntKind.wrap, IntKind.signed, IntKind.bits]; omega))
    rw [decide_eq_true hneg] at Con
    clear con
    go_enter Tryz.func16, Tryz.ntmps16
    go_wp2_with fail
    refine (Con.out).mono ?_
    rintro e w1 ⟨A, c, rfl, k0, k1, k2, l0, l1, l2, HB⟩
    go_wp2
    exact bodyPost_ret (of64_result w.heap.size _ rfl _ (.bool true) (.slice A (digs 65536 x.natAbs).length c) (.int .i64 0) (HB.out.2.cell 0) (HB.out.2.cell 1) (HB.out.2.cell 2)) rfl HB.out.1
  · have Con := hide (con x (by omega))
    rw [decide_eq_false hneg] at Con
    clear con
    go_enter Tryz.func16, Tryz.ntmps16
    go_wp2_with fail
    refine (Con.out).mono ?_
    rintro e w1 ⟨A, c, rfl, k0, k1, k2, l0, l1, l2, HB⟩
    go_wp2
    exact bodyPost_ret (of64_result w.heap.size _ rfl _ (.bool false) (.slice A (digs 65536 x.natAbs).length c) (.int .i64 0) (HB.out.2.cell 0) (HB.out.2.cell 1) (HB.out.2.cell 2)) rfl HB.out.1
end Go.Proofs.YtfkcobdkgjhfaaaGreatDoor
