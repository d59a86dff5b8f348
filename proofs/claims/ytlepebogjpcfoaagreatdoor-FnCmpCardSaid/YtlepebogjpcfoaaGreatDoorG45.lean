/- Parts of the proofs: From64. -/
import Derived.Test.YtlepebogjpcfoaaGreatDoorG10
import Derived.Test.YtlepebogjpcfoaaGreatDoorG29
import Derived.Test.YtlepebogjpcfoaaGreatDoorG30
/- Walks: FromInt64, FromFinite of the thin package; Of64 of the reference. -/
set_option linter.unusedVariables false
set_option linter.unusedSimpArgs false
namespace Go.Proofs.YtlepebogjpcfoaaGreatDoor
open Go.RowKit

theorem digs_word_len {x : Nat} (h : x < 18446744073709551616) : (digs 18446744073709551616 x).length ≤ 1 := digs_length_le (by omega) (by simpa using h)

theorem fromInt64_result (n : Nat) (tmps : Array Value) (h : tmps.getD 2 undef = .pointer (some ⟨n, 0, none⟩)) (W : World) (a b c d : Value) (c0 : W.cell? ⟨n, 0, none⟩ = some a) (c1 : W.cell? ⟨n, 1, none⟩ = some b) (c2 : W.cell? ⟨n, 2, none⟩ = some c) (c3 : W.cell? ⟨n, 3, none⟩ = some d) :
    (results Tryz.f26 tmps).run Tryz.prog W = .ok (.agg #[a, b, c, d]) W := by
  have h2 : tmps[2]?.getD undef = .pointer (some ⟨n, 0, none⟩) := by simpa using h
  simp [results, Tryz.results26, go_sem, h2, c0, c1, c2, c3]

set_option maxHeartbeats 1000000 in
theorem fromInt64_any (x : Int) (w : World) (hx0 : -9223372036854775808 ≤ x) (hx1 : x < 9223372036854775808) :
    Calls Tryz.prog 26 #[.int .i64 x] w (ToldFin w (decide (x < 0)) 0 (digs 18446744073709551616 x.natAbs)) := by
  obtain ⟨W, hW⟩ : ∃ W, W = ((w.alloc (.cells #[.int .i64 0, .bool false, .slice none 0 0, .int .i64 0] 24)).alloc (.cells (decC 0 false 0 false (.slice none 0 0) false) 86)) := ⟨_, rfl⟩
  have hs : W.heap.size = w.heap.size + 2 := by rw [hW]; simp
  have hf : Fr w W (fun _ => False) := by rw [hW]; exact ((Fr.refl w _).alloc _).alloc _
  have hbv : Blk W w.heap.size 24 #[.int .i64 0, .bool false, .slice none 0 0, .int .i64 0] := by rw [hW]; exact (Blk.new w _ _).alloc _
  have hbz : Blk W (w.heap.size + 1) 86 (decC 0 false 0 false (.slice none 0 0) false) := by
    have := Blk.new (w.alloc (.cells #[.int .i64 0, .bool false, .slice none 0 0, .int .i64 0] 24)) 86 (decC 0 false 0 false (.slice none 0 0) false)
    rw [hW]; simpa using this
  have HH := hide (And.intro hs (And.intro hf (And.intro hbv hbz)))
  have hl := digs_word_len (x := x.natAbs) (by omega)
  unfold decC at hW
  have HW := hide hW
  clear hs hf hbv hbz hW
  go_enter Tryz.func26, Tryz.ntmps26
  go_wp2_with fail
  rw [← HW.out]
  refine (setInt64_any w.heap.size (w.heap.size + 1) 0 false 0 false (.slice none 0 0) false 0 x W HH.out.2.2.2 (Own.nil _ _).room (by have := HH.out.1; omega) hx0 hx1).mono ?_
  rintro e w2 ⟨rfl, A2, c2, hown2, hrb2, hB2, hF2⟩
  have H2 := hide (And.intro hown2 (And.intro hB2 hF2))
  clear hown2 hrb2 hB2 hF2 HW
  go_wp2_with fail
  refine (told_fin (w.heap.size + 1) (decide (x < 0)) 0 false false (.slice A2 (digs 18446744073709551616 x.natAbs).length c2) (digs 18446744073709551616 x.natAbs) w2 H2.out.2.1 H2.out.1.rd (by omega) (by omega) (by omega)).mono ?_
  rintro e w3 ⟨A3, c3, rfl, hown3, hbel3⟩
  have hS : ∀ k, (k = w.heap.size + 1 ∨ (Value.slice none 0 0).ownBlock = some k) → w.heap.size ≤ k := by rintro k (h | h); omega; cases h
  have hb3 : Below w.heap.size w w3 := (Fr.step (S := fun k => w.heap.size ≤ k) (Fr.step (S := fun k => w.heap.size ≤ k) (HH.out.2.1.mono (fun _ _ h => h.elim)) H2.out.2.2 (fun k _ h => hS k h)) (Fr.of_below hbel3 (fun _ => False)) (fun _ _ h => h.elim)).below (Nat.le_refl _) (fun _ h => h)
  have hbv3 : Blk w3 w.heap.size 24 #[.int .i64 0, .bool false, .slice none 0 0, .int .i64 0] := (HH.out.2.2.1.fr H2.out.2.2 (fun h => by rcases h with h | h; omega; cases h)).below hbel3
  obtain ⟨hBB, hT⟩ := store_dec (neg := decide (x < 0)) (exp := 0) (Nat.le_refl _) hbv3 hb3 w2.heap.size (by have := HH.out.1; have := H2.out.2.2.size; omega) hown3
  have y0 : w3.cell? ⟨w.heap.size, 0, none⟩ = some (.int .i64 0) := hbv3.cell 0
  have y1 : w3.cell? ⟨w.heap.size, 1, none⟩ = some (.bool false) := hbv3.cell 1
  have y2 : w3.cell? ⟨w.heap.size, 2, none⟩ = some (.slice none 0 0) := hbv3.cell 2
  have y3 : w3.cell? ⟨w.heap.size, 3, none⟩ = some (.int .i64 0) := hbv3.cell 3
  have z0 := hbv3.frozen 0
  have z1 := hbv3.frozen 1
  have z2 := hbv3.frozen 2
  have z3 := hbv3.frozen 3
  have HT := hide (And.intro hBB hT)
  clear hBB hT hown3 hbel3 hb3 hbv3 HH H2 hS hl
  go_wp2
  exact bodyPost_ret (fromInt64_result w.heap.size _ rfl _ (.int .i64 0) (.bool (decide (x < 0))) (.slice A3 (digs 18446744073709551616 x.natAbs).length c3) (.int .i64 0) (HT.out.1.cell 0) (HT.out.1.cell 1) (HT.out.1.cell 2) (HT.out.1.cell 3)) rfl HT.out.2


theorem of64_result (n : Nat) (tmps : Array Value) (h : tmps.getD 2 undef = .pointer (some ⟨n, 0, none⟩)) (W : World) (a b c : Value) (c0 : W.cell? ⟨n, 0, none⟩ = some a) (c1 : W.cell? ⟨n, 1, none⟩ = some b) (c2 : W.cell? ⟨n, 2, none⟩ = some c) :
    (results Tryz.f30 tmps).run Tryz.prog W = .ok (.agg #[a, b, c]) W := by
  have h2 : tmps[2]?.getD undef = .pointer (some ⟨n, 0, none⟩) := by simpa using h
  simp [results, Tryz.results30, go_sem, h2, c0, c1, c2]

/-- A whole number of the reference. -/
def Val64 (w : World) (x : Int) (e : Ending) (w' : World) : Prop :=
  ∃ A c, e = .returned (.agg #[.bool (decide (x < 0)), .slice A (digs 65536 x.natAbs).length c, .int .i64 0]) ∧ OwnI w' w.heap.size (.slice A (digs 65536 x.natAbs).length c) (digs 65536 x.natAbs) ∧ Below w.heap.size w w'

set_option maxHeartbeats 1000000 in
theorem of64_any (x : Int) (w : World) (hx0 : -9223372036854775808 ≤ x) (hx1 : x < 9223372036854775808) : Calls Tryz.prog 30 #[.int .i64 x] w (Val64 w x) := by
  have hnum : numW [x.natAbs] = x.natAbs := by simp [numW, dval]
  have hlt : x.natAbs < 18446744073709551616 := by omega
  have con : ∀ s : Int, s = (x.natAbs : Int) → Calls Tryz.prog 51 #[.slice (some ⟨w.heap.size + 1, 0, none⟩) 1 1] ((w.alloc (.cells #[.bool false, .slice none 0 0, .int .i64 0] 29)).alloc (.cells #[.int .u64 s] 57))
      (fun e w1 => ∃ A c, e = .returned (.slice A (digs 65536 x.natAbs).length c) ∧ w1.cell? ⟨w.heap.size, 0, none⟩ = some (.bool false) ∧ w1.cell? ⟨w.heap.size, 1, none⟩ = some (.slice none 0 0) ∧ w1.cell? ⟨w.heap.size, 2, none⟩ = some (.int .i64 0) ∧
        w1.frozen? ⟨w.heap.size, 0, none⟩ = false ∧ w1.frozen? ⟨w.heap.size, 1, none⟩ = false ∧ w1.frozen? ⟨w.heap.size, 2, none⟩ = false ∧
        Hid (Val64 w x (.returned (.agg #[.bool (decide (x < 0)), .slice A (digs 65536 x.natAbs).length c, .int .i64 0])) (((w1.setCell ⟨w.heap.size, 0, none⟩ (.bool (decide (x < 0)))).setCell ⟨w.heap.size, 1, none⟩ (.slice A (digs 65536 x.natAbs).length c)).setCell ⟨w.heap.size, 2, none⟩ (.int .i64 0)) ∧
          Blk (((w1.setCell ⟨w.heap.size, 0, none⟩ (.bool (decide (x < 0)))).setCell ⟨w.heap.size, 1, none⟩ (.slice A (digs 65536 x.natAbs).length c)).setCell ⟨w.heap.size, 2, none⟩ (.int .i64 0)) w.heap.size 29 #[.bool (decide (x < 0)), .slice A (digs 65536 x.natAbs).length c, .int .i64 0])) := by
    rintro s rfl
    obtain ⟨W, hW⟩ : ∃ W, W = ((w.alloc (.cells #[.bool false, .slice none 0 0, .int .i64 0] 29)).alloc (.cells #[.int .u64 (x.natAbs : Int)] 57)) := ⟨_, rfl⟩
    rw [← hW]
    have hs : W.heap.size = w.heap.size + 2 := by rw [hW]; simp
    have hf : Fr w W (fun _ => False) := by rw [hW]; exact ((Fr.refl w _).alloc _).alloc _
    have hbv : Blk W w.heap.size 29 #[.bool false, .slice none 0 0, .int .i64 0] := by rw [hW]; exact (Blk.new w _ _).alloc _
    have hbu : Blk W (w.heap.size + 1) 57 #[.int .u64 (x.natAbs : Int)] := by
      have := Blk.new (w.alloc (.cells #[.bool false, .slice none 0 0, .int .i64 0] 29)) 57 #[.int .u64 (x.natAbs : Int)]
      rw [hW]; simpa using this
    have hrd : RdG .u64 W (.slice (some ⟨w.heap.size + 1, 0, none⟩) 1 1) [x.natAbs] := .inr ⟨_, 0, 1, rfl, by simp, by simp [maxLen], fun i hi => by
      obtain rfl : i = 0 := by simpa using hi
      exact hbu.cell 0⟩
    refine (of_any _ [x.natAbs] W hrd (by simp) (fun d hd => by rw [List.mem_singleton.1 hd]; exact hlt)).mono ?_
    rw [hnum]
    rintro e w1 ⟨A, c, rfl, hown, hbel⟩
    have hB := hbv.below hbel
    have hfr : Fr w w1 (fun k => w.heap.size ≤ k) := Fr.step (hf.mono (fun _ _ h => h.elim)) (Fr.of_below hbel (fun _ => False)) (fun _ _ h => h.elim)
    refine ⟨A, c, rfl, hB.cell 0, hB.cell 1, hB.cell 2, hB.frozen 0, hB.frozen 1, hB.frozen 2, ⟨A, c, rfl, ?_, ?_⟩, ((hB.set 0 _).set 1 _).set 2 _⟩
    · have fr := (((Fr.refl w1 (fun k => k = w.heap.size)).setCell (p := ⟨w.heap.size, 0, none⟩) (fun _ => rfl) (.bool (decide (x < 0)))).setCell (p := ⟨w.heap.size, 1, none⟩) (fun _ => rfl) (.slice A (digs 65536 x.natAbs).length c)).setCell (p := ⟨w.heap.size, 2, none⟩) (fun _ => rfl) (.int .i64 0)
      exact (hown.lower (by omega)).fr fr (hown.ne_blk hB (by decide))
    · exact (((hfr.setCell (p := ⟨w.heap.size, 0, none⟩) (fun h => by simp at h) _).setCell (p := ⟨w.heap.size, 1, none⟩) (fun h => by simp at h) _).setCell (p := ⟨w.heap.size, 2, none⟩) (fun h => by simp at h) _).below (Nat.le_refl _) (fun _ h => h)
  by_cases hneg : x < 0
  · have Con := hide (con (IntKind.u64.wrap (-IntKind.u64.wrap x)) (by simp [IntKind.wrap, IntKind.signed, IntKind.bits]; omega))
    rw [decide_eq_true hneg] at Con
    clear con
    go_enter Tryz.func30, Tryz.ntmps30
    go_wp2_with fail
    refine (Con.out).mono ?_
    rintro e w1 ⟨A, c, rfl, k0, k1, k2, l0, l1, l2, HB⟩
    go_wp2
    exact bodyPost_ret (of64_result w.heap.size _ rfl _ (.bool true) (.slice A (digs 65536 x.natAbs).length c) (.int .i64 0) (HB.out.2.cell 0) (HB.out.2.cell 1) (HB.out.2.cell 2)) rfl HB.out.1
  · have Con := hide (con x (by omega))
    rw [decide_eq_false hneg] at Con
    clear con
    go_enter Tryz.func30, Tryz.ntmps30
    go_wp2_with fail
    refine (Con.out).mono ?_
    rintro e w1 ⟨A, c, rfl, k0, k1, k2, l0, l1, l2, HB⟩
    go_wp2
    exact bodyPost_ret (of64_result w.heap.size _ rfl _ (.bool false) (.slice A (digs 65536 x.natAbs).length c) (.int .i64 0) (HB.out.2.cell 0) (HB.out.2.cell 1) (HB.out.2.cell 2)) rfl HB.out.1
end Go.Proofs.YtlepebogjpcfoaaGreatDoor
