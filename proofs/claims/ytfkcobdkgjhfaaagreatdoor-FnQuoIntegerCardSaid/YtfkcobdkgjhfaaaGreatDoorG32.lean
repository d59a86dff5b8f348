/- Parts of the proofs: Lsh2, IntW, Lsh3. -/
import Derived.Test.YtfkcobdkgjhfaaaGreatDoorG16
import Derived.Test.YtfkcobdkgjhfaaaGreatDoorG25
import Derived.Test.YtfkcobdkgjhfaaaGreatDoorG29
/- Walks: 1 shifted to the left in its own place: nat.lsh, Int.Lsh, BigInt.Lsh. -/
set_option linter.unusedVariables false
set_option linter.unusedSimpArgs false
namespace Go.Proofs.YtfkcobdkgjhfaaaGreatDoor
open Go.RowKit

theorem lsh_end {base g gz n cap s : Nat} {w W : World} {xs : List Nat} {S : List Value} (c : Nat) (hg : base ≤ g) (hB : Blk W g 145 (wv xs ++ S).toArray) (hn : n = xs.length) (hc : xs.length + S.length = cap) (hm : cap ≤ maxLen) (hd : Dig 18446744073709551616 xs) (hv : dval 18446744073709551616 xs = 2 ^ s)
    (hor : g = gz ∨ w.heap.size ≤ g) (hf : Fr w W (fun k => k = gz)) :
    Calls Tryz.prog 117 #[.slice (some ⟨g, 0, none⟩) n cap] W fun e w' => e = .returned (.slice (some ⟨g, 0, none⟩) (digs 18446744073709551616 (2 ^ s)).length cap) ∧ Hid (SetP w base (.slice (some ⟨gz, 0, none⟩) 1 c) (digs 18446744073709551616 (2 ^ s)) e w') ∧ W = w' := by
  subst hn
  have hown := Own.mk3 (w := W) hg hB hc hm
  have con := norm_at g 0 cap xs W hown.words (by omega) hm
  have ht : trimz xs = digs 18446744073709551616 (2 ^ s) := by rw [← hv, digs_dval_trim (by omega) hd]
  have ho := own_trim hown
  rw [ht] at con ho
  refine con.mono ?_
  rintro e w' ⟨rfl, rfl⟩
  refine ⟨rfl, ⟨_, cap, rfl, ho, ?_, hf.mono (fun k _ h => by subst h; rfl)⟩, rfl⟩
  rcases hor with rfl | h
  · exact .inl rfl
  · exact .inr ⟨g, rfl, h⟩

theorem one_sh {s : Nat} (h1 : 1 ≤ s) (h : s ≤ 63) : 1 / 2 ^ (64 - s) = 0 ∧ 1 * 2 ^ s % 18446744073709551616 = 2 ^ s ∧ 2 ^ s < 18446744073709551616 := by
  have h3 : 2 ^ s ≤ 2 ^ 63 := Nat.pow_le_pow_right (by omega) h
  have h2 : 2 ^ s < 18446744073709551616 := by omega
  refine ⟨Nat.div_eq_of_lt (Nat.one_lt_two_pow (by omega)), ?_, h2⟩
  rw [Nat.one_mul, Nat.mod_eq_of_lt h2]

set_option maxHeartbeats 1000000 in
set_option maxRecDepth 20000 in
theorem nlsh_low (base g c s : Nat) (w : World) (hx : Own w base (.slice (some ⟨g, 0, none⟩) 1 c) [1]) (hb : base ≤ w.heap.size) (hs1 : 1 ≤ s) (hs : s ≤ 63) :
    Calls Tryz.prog 186 #[.slice (some ⟨g, 0, none⟩) 1 c, .slice (some ⟨g, 0, none⟩) 1 c, .int .u64 (s : Int)] w (SetP w base (.slice (some ⟨g, 0, none⟩) 1 c) (digs 18446744073709551616 (2 ^ s))) := by
  have hs0 : ((s : Int) == 0) = false := beq_eq_false_iff_ne.2 (by omega)
  have hq : (s : Int) / 64 = 0 := by omega
  have hr : (s : Int) % 64 = (s : Int) := by omega
  have hcell : w.cell? ⟨g, 0, none⟩ = some (.int .u64 1) := by have := hx.words 0 (by simp); simpa using this
  have hgl : g < w.heap.size := (hx.lt (k := g) rfl).2
  obtain ⟨-, hc1, -⟩ := own_caps hx
  have Con := hide (make_any base (.slice (some ⟨g, 0, none⟩) 1 c) 1 2 w hx.room hb (by omega) (by omega))
  clear hx
  go_enter Tryz.func186, Tryz.ntmps186
  go_wp2_with fail
  refine (Con.out).mono ?_
  rintro e w1 ⟨r, rfl, hroom, hrb, hbel⟩
  obtain ⟨g', cap, us, rfl, hg', hgl', hB, hul, hc2, hm⟩ := hroom.rows (by decide)
  obtain ⟨a, us, rfl⟩ : ∃ a us', us = a :: us' := by cases us with
    | nil => simp at hul; simp at hc2; omega
    | cons a r => exact ⟨a, r, rfl⟩
  obtain ⟨b, S, rfl⟩ : ∃ a us', us = a :: us' := by cases us with
    | nil => simp at hul; simp at hc2; omega
    | cons a r => exact ⟨a, r, rfl⟩
  have hx1 : w1.cell? ⟨g, 0, none⟩ = some (.int .u64 ((1 : Nat) : Int)) := (hbel.cell (p := ⟨g, 0, none⟩) hgl).trans hcell
  obtain ⟨p1, p2, p3⟩ := Blk.part (P := []) (S := b :: S) (by simpa using hB) (i := 0) rfl
  have hor : g' = g ∨ w.heap.size ≤ g' := by
    rcases hrb with h | h
    · exact .inl (by simpa [Value.ownBlock] using h)
    · exact .inr (by simp [Value.ownBlock] at h; omega)
  have hf1 : Fr w w1 (fun k => k = g) := Fr.of_below hbel _
  have c2 : (2 : Int) ≤ (cap : Int) := by simp at hc2; omega
  have c2n : 2 ≤ cap := by simpa using hc2
  have Con2 := hide (lsh_one g' 0 cap g 0 c s 1 a w1 p1 p2 hx1 hs1 hs (by omega) hc1)
  have HB := hide (And.intro hf1 (And.intro hor (And.intro hg' (And.intro hul (And.intro p3 hm)))))
  clear hroom hrb hbel hB hf1 hor hg' hul p1 p2 p3 hm Con hcell hgl hgl' hx1
  go_wp2_with fail
  refine (Con2.out).mono ?_
  rintro e w2 ⟨rfl, hw2⟩
  obtain ⟨o1, o2, o3⟩ := one_sh hs1 hs
  rw [o1]
  rw [o2] at hw2
  have hB2 := HB.out.2.2.2.2.1 (.int .u64 ((2 ^ s : Nat) : Int))
  rw [← hw2] at hB2
  obtain ⟨p1, p2, p3⟩ := Blk.part (P := [.int .u64 ((2 ^ s : Nat) : Int)]) (S := S) hB2 (i := 1) rfl
  have hf2 : Fr w w2 (fun k => k = g) := by
    rw [hw2]
    exact HB.out.1.setCell (p := ⟨g', 0, none⟩) (fun h => by rcases HB.out.2.1 with h2 | h2; exact h2; simp at h; omega) _
  have hB3 := p3 (.int .u64 0)
  have hf3 : Fr w (w2.setCell ⟨g', 1, none⟩ (.int .u64 0)) (fun k => k = g) := hf2.setCell (p := ⟨g', 1, none⟩) (fun h => by rcases HB.out.2.1 with h2 | h2; exact h2; simp at h; omega) _
  obtain ⟨w3, hw3⟩ : ∃ w3, w3 = w2.setCell ⟨g', 1, none⟩ (.int .u64 0) := ⟨_, rfl⟩
  rw [← hw3] at hB3 hf3
  have con3 := lsh_end (base := base) (gz := g) (n := 2) (cap := cap) (s := s) (xs := [2 ^ s, 0]) (S := S) c HB.out.2.2.1 (by simpa [wv] using hB3) rfl (by have := HB.out.2.2.2.1; simp at this; simp; omega) HB.out.2.2.2.2.2 (by intro d hd; simp at hd; rcases hd with rfl | rfl; exact o3; omega) (by simp [dval]) HB.out.2.1 hf3
  have hclr := run_clear_none w3 (some ⟨g', 0, none⟩) cap
  have Con3 := hide con3
  have HW3 := hide hw3
  rw [hw3] at hclr
  clear hw2 hB2 hB3 hf2 hf3 con3 o1 o2 o3 Con2 HB p3 hw3
  go_wp2_with fail
  rw [← HW3.out]
  refine (Con3.out).mono ?_
  rintro e w4 ⟨rfl, hF, rfl⟩
  clear Con3 HW3
  generalize (digs 18446744073709551616 (2 ^ s)).length = q at *
  go_wp2
  go_ret
  exact hF.out

set_option maxHeartbeats 1000000 in
set_option maxRecDepth 20000 in
theorem nlsh_hi (base g c s u : Nat) (w : World) (hx : Own w base (.slice (some ⟨g, 0, none⟩) 1 c) [1]) (hb : base ≤ w.heap.size) (hsu : s = 64 + u) (hs1 : 1 ≤ u) (hs : u ≤ 63) :
    Calls Tryz.prog 186 #[.slice (some ⟨g, 0, none⟩) 1 c, .slice (some ⟨g, 0, none⟩) 1 c, .int .u64 (s : Int)] w (SetP w base (.slice (some ⟨g, 0, none⟩) 1 c) (digs 18446744073709551616 (2 ^ s))) := by
  have hs0 : ((s : Int) == 0) = false := beq_eq_false_iff_ne.2 (by omega)
  have hu0 : ((u : Int) == 0) = false := beq_eq_false_iff_ne.2 (by omega)
  have hq : (s : Int) / 64 = 1 := by omega
  have hr : (s : Int) % 64 = (u : Int) := by omega
  have hs127 : (s : Int) ≤ 127 := by omega
  have hcell : w.cell? ⟨g, 0, none⟩ = some (.int .u64 1) := by have := hx.words 0 (by simp); simpa using this
  have hgl : g < w.heap.size := (hx.lt (k := g) rfl).2
  obtain ⟨-, hc1, -⟩ := own_caps hx
  have Con := hide (make_any base (.slice (some ⟨g, 0, none⟩) 1 c) 1 3 w hx.room hb (by omega) (by omega))
  have HSU := hide hsu
  clear hx hsu
  go_enter Tryz.func186, Tryz.ntmps186
  go_wp2_with fail
  refine (Con.out).mono ?_
  rintro e w1 ⟨r, rfl, hroom, hrb, hbel⟩
  obtain ⟨g', cap, us, rfl, hg', hgl', hB, hul, hc2, hm⟩ := hroom.rows (by decide)
  obtain ⟨a, us, rfl⟩ : ∃ a us', us = a :: us' := by cases us with
    | nil => simp at hul; simp at hc2; omega
    | cons a r => exact ⟨a, r, rfl⟩
  obtain ⟨b, us, rfl⟩ : ∃ a us', us = a :: us' := by cases us with
    | nil => simp at hul; simp at hc2; omega
    | cons a r => exact ⟨a, r, rfl⟩
  obtain ⟨d, S, rfl⟩ : ∃ a us', us = a :: us' := by cases us with
    | nil => simp at hul; simp at hc2; omega
    | cons a r => exact ⟨a, r, rfl⟩
  have hx1 : w1.cell? ⟨g, 0, none⟩ = some (.int .u64 ((1 : Nat) : Int)) := (hbel.cell (p := ⟨g, 0, none⟩) hgl).trans hcell
  obtain ⟨p1, p2, p3⟩ := Blk.part (P := [a]) (S := d :: S) (by simpa using hB) (i := 1) rfl
  have hor : g' = g ∨ w.heap.size ≤ g' := by
    rcases hrb with h | h
    · exact .inl (by simpa [Value.ownBlock] using h)
    · exact .inr (by simp [Value.ownBlock] at h; omega)
  have hf1 : Fr w w1 (fun k => k = g) := Fr.of_below hbel _
  have c2 : (3 : Int) ≤ (cap : Int) := by simp at hc2; omega
  have c2n : 3 ≤ cap := by simpa using hc2
  have hsl : ∀ W, (Instr.slice 65 (.slice (some ⟨g', 0, none⟩) 3 cap) (some (.int .i64 1)) (some (.int .i64 2)) none).run Tryz.prog W = .ok (.slice (some ⟨g', 1, none⟩) 1 (cap - 1)) W := fun W => sl_mid g' 1 1 cap 3 _ W rfl (by omega) (by omega)
  have Con2 := hide (lsh_one g' 1 (cap - 1) g 0 c u 1 b w1 p1 p2 hx1 hs1 hs (by omega) hc1)
  have HB := hide (And.intro hf1 (And.intro hor (And.intro hg' (And.intro hul (And.intro p3 hm)))))
  clear hroom hrb hbel hB hf1 hor hg' hul p1 p2 p3 hm Con hcell hgl hgl' hx1
  go_wp2_with fail
  refine (Con2.out).mono ?_
  rintro e w2 ⟨rfl, hw2⟩
  obtain ⟨o1, o2, o3⟩ := one_sh hs1 hs
  rw [o1]
  rw [o2] at hw2
  have hB2 := HB.out.2.2.2.2.1 (.int .u64 ((2 ^ u : Nat) : Int))
  rw [← hw2] at hB2
  obtain ⟨p1, p2, p3⟩ := Blk.part (P := [a, .int .u64 ((2 ^ u : Nat) : Int)]) (S := S) hB2 (i := 2) rfl
  have hin : ∀ k, k < w.heap.size → k = g' → k = g := fun k h e => by rcases HB.out.2.1 with h2 | h2; rw [e]; exact h2; omega
  have hf2 : Fr w w2 (fun k => k = g) := by
    rw [hw2]
    exact HB.out.1.setCell (p := ⟨g', 1, none⟩) (fun h => hin _ h rfl) _
  have hB3 := p3 (.int .u64 0)
  have hf3 : Fr w (w2.setCell ⟨g', 2, none⟩ (.int .u64 0)) (fun k => k = g) := hf2.setCell (p := ⟨g', 2, none⟩) (fun h => hin _ h rfl) _
  obtain ⟨w3, hw3⟩ : ∃ w3, w3 = w2.setCell ⟨g', 2, none⟩ (.int .u64 0) := ⟨_, rfl⟩
  rw [← hw3] at hB3 hf3
  obtain ⟨q1, q2, q3⟩ := Blk.part (P := []) (a := a) (S := .int .u64 ((2 ^ u : Nat) : Int) :: .int .u64 0 :: S) (by simpa using hB3) (i := 0) rfl
  have hB4 := q3 (.int .u64 0)
  have hf4 : Fr w (w3.setCell ⟨g', 0, none⟩ (.int .u64 0)) (fun k => k = g) := hf3.setCell (p := ⟨g', 0, none⟩) (fun h => hin _ h rfl) _
  obtain ⟨w4, hw4⟩ : ∃ w4, w4 = w3.setCell ⟨g', 0, none⟩ (.int .u64 0) := ⟨_, rfl⟩
  have hclr : ∀ ty, (Builtin.clear_ #[65] ty #[.slice (some ⟨g', 0, none⟩) 1 cap]).run Tryz.prog w3 = .ok (.tuple #[]) w4 := by
    intro ty
    rw [hw4]
    have k1 : ∀ j, j < 1 → (w3.cell? ⟨g', 0 + j, none⟩).isSome = true := fun j hj => by
      obtain rfl : j = 0 := by omega
      rw [q1]; rfl
    have k2 : ∀ j, j < 1 → w3.frozen? ⟨g', 0 + j, none⟩ = false := fun j hj => by
      obtain rfl : j = 0 := by omega
      exact q2
    exact Lib.run_clear_slice w3 65 145 ty (.int .u64 0) Tryz.underlying65 (fun W => by kernel_rfl) rfl rfl g' 0 1 cap (by omega) k1 k2
  rw [← hw4] at hB4 hf4
  have con3 := lsh_end (base := base) (gz := g) (n := 3) (cap := cap) (s := s) (xs := [0, 2 ^ u, 0]) (S := S) c HB.out.2.2.1 (by simpa [wv] using hB4) rfl (by have := HB.out.2.2.2.1; simp at this; simp; omega) HB.out.2.2.2.2.2 (by intro d hd; simp at hd; rcases hd with rfl | rfl | rfl; omega; exact o3; omega) (by rw [HSU.out, Nat.pow_add]; simp [dval]) HB.out.2.1 hf4
  have Con3 := hide con3
  have HW3 := hide hw3
  rw [hw3] at hclr
  clear hw2 hB2 hB3 hB4 hf2 hf3 hf4 con3 o1 o2 o3 Con2 HB p3 q1 q2 q3 hw3 hw4 hin HSU
  go_wp2_with fail
  refine (Con3.out).mono ?_
  rintro e w5 ⟨rfl, hF, rfl⟩
  clear Con3 HW3 hclr hsl
  generalize (digs 18446744073709551616 (2 ^ s)).length = q at *
  go_wp2
  go_ret
  exact hF.out

set_option maxHeartbeats 1000000 in
set_option maxRecDepth 20000 in
theorem nlsh_mid (base g c : Nat) (w : World) (hx : Own w base (.slice (some ⟨g, 0, none⟩) 1 c) [1]) (hb : base ≤ w.heap.size) :
    Calls Tryz.prog 186 #[.slice (some ⟨g, 0, none⟩) 1 c, .slice (some ⟨g, 0, none⟩) 1 c, .int .u64 64] w (SetP w base (.slice (some ⟨g, 0, none⟩) 1 c) (digs 18446744073709551616 (2 ^ 64))) := by
  obtain ⟨D, hD⟩ : ∃ D, D = digs 18446744073709551616 (2 ^ 64) := ⟨_, rfl⟩
  rw [← hD]
  have HD := hide hD
  clear hD
  have hcell : w.cell? ⟨g, 0, none⟩ = some (.int .u64 1) := by have := hx.words 0 (by simp); simpa using this
  have hgl : g < w.heap.size := (hx.lt (k := g) rfl).2
  obtain ⟨-, hc1, -⟩ := own_caps hx
  have Con := hide (make_any base (.slice (some ⟨g, 0, none⟩) 1 c) 1 3 w hx.room hb (by omega) (by omega))
  clear hx
  go_enter Tryz.func186, Tryz.ntmps186
  go_wp2_with fail
  refine (Con.out).mono ?_
  rintro e w1 ⟨r, rfl, hroom, hrb, hbel⟩
  obtain ⟨g', cap, us, rfl, hg', hgl', hB, hul, hc2, hm⟩ := hroom.rows (by decide)
  obtain ⟨a, us, rfl⟩ : ∃ a us', us = a :: us' := by cases us with
    | nil => simp at hul; simp at hc2; omega
    | cons a r => exact ⟨a, r, rfl⟩
  obtain ⟨b, us, rfl⟩ : ∃ a us', us = a :: us' := by cases us with
    | nil => simp at hul; simp at hc2; omega
    | cons a r => exact ⟨a, r, rfl⟩
  obtain ⟨d, S, rfl⟩ : ∃ a us', us = a :: us' := by cases us with
    | nil => simp at hul; simp at hc2; omega
    | cons a r => exact ⟨a, r, rfl⟩
  have hx1 : w1.cell? ⟨g, 0, none⟩ = some (.int .u64 1) := (hbel.cell (p := ⟨g, 0, none⟩) hgl).trans hcell
  have hor : g' = g ∨ w.heap.size ≤ g' := by
    rcases hrb with h | h
    · exact .inl (by simpa [Value.ownBlock] using h)
    · exact .inr (by simp [Value.ownBlock] at h; omega)
  have hf1 : Fr w w1 (fun k => k = g) := Fr.of_below hbel _
  have c2 : (3 : Int) ≤ (cap : Int) := by simp at hc2; omega
  have c2n : 3 ≤ cap := by simpa using hc2
  have hsl : ∀ W, (Instr.slice 65 (.slice (some ⟨g', 0, none⟩) 3 cap) (some (.int .i64 1)) (some (.int .i64 2)) none).run Tryz.prog W = .ok (.slice (some ⟨g', 1, none⟩) 1 (cap - 1)) W := fun W => sl_mid g' 1 1 cap 3 _ W rfl (by omega) (by omega)
  have hin : ∀ k, k < w.heap.size → k = g' → k = g := fun k h e => by rcases hor with h2 | h2; rw [e]; exact h2; omega
  have hB2 : Blk (w1.setRow g' (a :: .int .u64 1 :: d :: S).toArray) g' 145 (a :: .int .u64 1 :: d :: S).toArray := hB.setRow _
  have hf2 : Fr w (w1.setRow g' (a :: .int .u64 1 :: d :: S).toArray) (fun k => k = g) := hf1.setRow (fun h => hin _ h rfl) _
  obtain ⟨p1, p2, p3⟩ := Blk.part (P := [a, .int .u64 1]) (S := S) hB2 (i := 2) rfl
  have hB3 := p3 (.int .u64 0)
  have hf3 := hf2.setCell (p := ⟨g', 2, none⟩) (fun h => hin _ h rfl) (.int .u64 0)
  obtain ⟨w3, hw3⟩ : ∃ w3, w3 = (w1.setRow g' (a :: .int .u64 1 :: d :: S).toArray).setCell ⟨g', 2, none⟩ (.int .u64 0) := ⟨_, rfl⟩
  rw [← hw3] at hB3 hf3
  obtain ⟨q1, q2, q3⟩ := Blk.part (P := []) (a := a) (S := .int .u64 1 :: .int .u64 0 :: S) (by simpa using hB3) (i := 0) rfl
  have hB4 := q3 (.int .u64 0)
  have hf4 := hf3.setCell (p := ⟨g', 0, none⟩) (fun h => hin _ h rfl) (.int .u64 0)
  obtain ⟨w4, hw4⟩ : ∃ w4, w4 = w3.setCell ⟨g', 0, none⟩ (.int .u64 0) := ⟨_, rfl⟩
  have hclr : ∀ ty, (Builtin.clear_ #[65] ty #[.slice (some ⟨g', 0, none⟩) 1 cap]).run Tryz.prog w3 = .ok (.tuple #[]) w4 := by
    intro ty
    rw [hw4]
    have k1 : ∀ j, j < 1 → (w3.cell? ⟨g', 0 + j, none⟩).isSome = true := fun j hj => by
      obtain rfl : j = 0 := by omega
      rw [q1]; rfl
    have k2 : ∀ j, j < 1 → w3.frozen? ⟨g', 0 + j, none⟩ = false := fun j hj => by
      obtain rfl : j = 0 := by omega
      exact q2
    exact Lib.run_clear_slice w3 65 145 ty (.int .u64 0) Tryz.underlying65 (fun W => by kernel_rfl) rfl rfl g' 0 1 cap (by omega) k1 k2
  rw [← hw4] at hB4 hf4
  have con3 := lsh_end (base := base) (gz := g) (n := 3) (cap := cap) (s := 64) (xs := [0, 1, 0]) (S := S) c hg' (by simpa [wv] using hB4) rfl (by simp at hul; simp; omega) hm (by intro d hd; simp at hd; omega) (by simp [dval]) hor hf4
  have hclr2 := hclr
  rw [hw3] at hclr2
  rw [← HD.out] at con3
  have Con3 := hide con3
  have HX := hide hx1
  have HB := hide hB
  clear hroom hrb hbel hB hf1 hor hg' hul hm Con hcell hgl hgl' hx1 hin hB2 hf2 p3 hB3 hf3 hw3 q1 q2 q3 hB4 hf4 hw4 hclr con3 HD
  go_wp2_with (refine wpList_copy_own rfl (.tmp 46) (.tmp 47) 65 65 rfl 145 Tryz.underlying65 sizeWord g' 1 _ _ ⟨g, 0, none⟩ _ _ rfl rfl (a :: b :: d :: S).toArray _ HB.out [.int .u64 1] ?_ ?_ ?_ ?_ ?_; rfl; (intro j v hv; cases j with | zero => (simp at hv; subst hv; exact HX.out) | succ j => simp at hv); simp; simp [Value.oneCell'])
  refine (Con3.out).mono ?_
  rintro e w5 ⟨rfl, hF, rfl⟩
  clear Con3 hclr2 hsl HX HB
  generalize D.length = q at *
  go_wp2
  go_ret
  exact hF.out

theorem nlsh_zero (base g c : Nat) (w : World) (hx : Own w base (.slice (some ⟨g, 0, none⟩) 1 c) [1]) :
    Calls Tryz.prog 186 #[.slice (some ⟨g, 0, none⟩) 1 c, .slice (some ⟨g, 0, none⟩) 1 c, .int .u64 0] w (SetP w base (.slice (some ⟨g, 0, none⟩) 1 c) (digs 18446744073709551616 (2 ^ 0))) := by
  obtain ⟨-, hc1, hc2⟩ := own_caps hx
  have Con := hide (same_self g 0 1 c w (by decide) hc1 (by decide))
  have HF : Hid (SetP w base (.slice (some ⟨g, 0, none⟩) 1 c) (digs 18446744073709551616 (2 ^ 0)) (.returned (.slice (some ⟨g, 0, none⟩) 1 c)) w.drew) := by
    rw [Nat.pow_zero, digs_word (by omega) (by omega)]
    exact ⟨_, c, rfl, hx.fr ((Fr.refl w (fun _ => False)).drew) (fun _ _ h => h), .inl rfl, (Fr.refl w _).drew⟩
  clear hx hc2
  obtain ⟨D, hD⟩ : ∃ D, D = digs 18446744073709551616 (2 ^ 0) := ⟨_, rfl⟩
  rw [← hD] at HF ⊢
  clear hD
  go_enter Tryz.func186, Tryz.ntmps186
  go_wp2_with fail
  refine (Con.out).mono ?_
  rintro e w1 ⟨rfl, hw1⟩
  rw [← hw1] at HF
  clear hw1 Con
  go_wp2
  go_ret
  exact HF.out

theorem nlsh_any (base g c s : Nat) (w : World) (hx : Own w base (.slice (some ⟨g, 0, none⟩) 1 c) [1]) (hb : base ≤ w.heap.size) (hs : s ≤ 127) :
    Calls Tryz.prog 186 #[.slice (some ⟨g, 0, none⟩) 1 c, .slice (some ⟨g, 0, none⟩) 1 c, .int .u64 (s : Int)] w (SetP w base (.slice (some ⟨g, 0, none⟩) 1 c) (digs 18446744073709551616 (2 ^ s))) := by
  by_cases h0 : s = 0
  · subst h0; exact nlsh_zero base g c w hx
  by_cases h1 : s ≤ 63
  · exact nlsh_low base g c s w hx hb (by omega) h1
  by_cases h2 : s = 64
  · subst h2; exact nlsh_mid base g c w hx hb
  · exact nlsh_hi base g c s (s - 64) w hx hb (by omega) (by omega) (by omega)
end Go.Proofs.YtfkcobdkgjhfaaaGreatDoor

/- Small laws for the writing of an Int: its row first, then its sign. -/
set_option linter.unusedVariables false
set_option linter.unusedSimpArgs false
namespace Go.Proofs.YtfkcobdkgjhfaaaGreatDoor
open Go.RowKit

/-- What can be read while an Int is written. -/
theorem int_key {w w1 : World} {g o : Nat} {t : TypeId} {cs : Array Value} {nz : Bool} {vz : Value} (hz : Blk w g t cs) (hz0 : cs[o]? = some (.bool nz)) (hz1 : cs[o + 1]? = some vz) (hzne : ∀ k, vz.ownBlock = some k → k ≠ g) (v : Value) (hf : Fr w w1 (fun k => vz.ownBlock = some k)) :
    w1.cell? ⟨g, o + 1, none⟩ = some vz ∧ w1.frozen? ⟨g, o + 1, none⟩ = false ∧ (w1.setCell ⟨g, o + 1, none⟩ v).cell? ⟨g, o + 1, none⟩ = some v ∧ (w1.setCell ⟨g, o + 1, none⟩ v).cell? ⟨g, o, none⟩ = some (.bool nz) ∧ (w1.setCell ⟨g, o + 1, none⟩ v).frozen? ⟨g, o, none⟩ = false := by
  have b1 : Blk w1 g t cs := hz.fr hf (fun h => hzne g h rfl)
  refine ⟨(b1.cell _).trans hz1, b1.frozen _, ?_, ?_, ?_⟩
  · have hlt : o + 1 < cs.size := (Array.getElem?_eq_some_iff.1 hz1).1
    rw [(b1.set _ _).cell]; simp [hlt]
  · rw [World.cell?_setCell_other _ _ _ _ (by intro e; injection e with e1 e2; omega)]
    exact (b1.cell _).trans hz0
  · rw [World.frozen?_setCell]; exact b1.frozen _

/-- What is left when it is written; the world between may have drawn. -/
theorem int_fin {w w1 w2 : World} {base g o : Nat} {t : TypeId} {cs : Array Value} {vz : Value} {xs : List Nat} (hz : Blk w g t cs) (ht : t ≠ 145) (hzne : ∀ k, vz.ownBlock = some k → k ≠ g) (v : Value) (n : Bool) (hw2 : w2 = w1.setCell ⟨g, o + 1, none⟩ v ∨ w2 = (w1.setCell ⟨g, o + 1, none⟩ v).drew) (hr : Own w1 base v xs) (hrb : v.ownBlock = vz.ownBlock ∨ ∃ k, v.ownBlock = some k ∧ w.heap.size ≤ k) (hf : Fr w w1 (fun k => vz.ownBlock = some k)) :
    IntP w base g o t cs vz n xs (.returned (.pointer (some ⟨g, o, none⟩))) (w2.setCell ⟨g, o, none⟩ (.bool n)) := by
  have b1 : Blk w1 g t cs := hz.fr hf (fun h => hzne g h rfl)
  have hg : ∀ k, v.ownBlock = some k → k ≠ g := hr.room.ne_blk b1 ht
  have hF2 : Fr w1 w2 (fun k => k = g) := by
    rcases hw2 with rfl | rfl
    · exact Fr.setCell (Fr.refl w1 (fun k => k = g)) (p := ⟨g, o + 1, none⟩) (fun _ => rfl) v
    · exact (Fr.setCell (Fr.refl w1 (fun k => k = g)) (p := ⟨g, o + 1, none⟩) (fun _ => rfl) v).drew
  have hB2 : Blk w2 g t (cs.setIfInBounds (o + 1) v) := by
    rcases hw2 with rfl | rfl
    · exact b1.set _ _
    · exact b1.set _ _
  refine ⟨rfl, v, ?_, hrb, hB2.set _ _, ?_⟩
  · exact (hr.fr hF2 hg).fr (Fr.setCell (Fr.refl _ (fun k => k = g)) (p := ⟨g, o, none⟩) (fun _ => rfl) _) hg
  · exact (Fr.step (hf.mono (fun k _ h => .inr h)) hF2 (fun i _ h => .inl h)).setCell (p := ⟨g, o, none⟩) (fun _ => .inl rfl) _

/-- From an Int to the BigInt round it, whose mark has been struck. -/
theorem big_fin {w W : World} {base g o : Nat} {t : TypeId} {cs : Array Value} {vz : Value} {n mi : Bool} {xs : List Nat} (hW : W = w.setCell ⟨g, o + 2, none⟩ (.bool mi) ∨ W = (w.setCell ⟨g, o + 2, none⟩ (.bool mi)).drew) {e : Ending} {w' : World} (h : IntP W base g o t (cs.setIfInBounds (o + 2) (.bool mi)) vz n xs e w') : BigP w base g o t cs vz n mi xs e w' := by
  obtain ⟨he, v, hr, hrb, hB, hF⟩ := h
  obtain ⟨A, c, rfl⟩ := hr.room.slice
  have hf0 : Fr w W (fun k => k = g) := by
    rcases hW with rfl | rfl
    · exact (Fr.refl w (fun k => k = g)).setCell (p := ⟨g, o + 2, none⟩) (fun _ => rfl) _
    · exact ((Fr.refl w (fun k => k = g)).setCell (p := ⟨g, o + 2, none⟩) (fun _ => rfl) _).drew
  have hs : W.heap.size = w.heap.size := by rcases hW with rfl | rfl <;> simp
  exact ⟨he, A, c, hr, by rw [hs] at hrb; exact hrb, hB, Fr.step (hf0.mono (fun k _ h => .inl h)) hF (fun i _ h => h)⟩
end Go.Proofs.YtfkcobdkgjhfaaaGreatDoor

/- Walks: Int.Lsh, BigInt.Lsh of 1 in its own place. -/
set_option linter.unusedVariables false
set_option linter.unusedSimpArgs false
namespace Go.Proofs.YtfkcobdkgjhfaaaGreatDoor
open Go.RowKit

set_option maxHeartbeats 1000000 in
theorem iLsh_any (base g o gx c s : Nat) (t : TypeId) (cs : Array Value) (w : World) (hz : Blk w g t cs) (hz0 : cs[o]? = some (.bool false)) (hz1 : cs[o + 1]? = some (.slice (some ⟨gx, 0, none⟩) 1 c)) (hr : Own w base (.slice (some ⟨gx, 0, none⟩) 1 c) [1]) (ht : t ≠ 145) (hb : base ≤ w.heap.size) (hs : s ≤ 127) :
    Calls Tryz.prog 162 #[.pointer (some ⟨g, o, none⟩), .pointer (some ⟨g, o, none⟩), .int .u64 (s : Int)] w (IntP w base g o t cs (.slice (some ⟨gx, 0, none⟩) 1 c) false (digs 18446744073709551616 (2 ^ s))) := by
  have c1 : w.cell? ⟨g, o + 1, none⟩ = some (.slice (some ⟨gx, 0, none⟩) 1 c) := (hz.cell _).trans hz1
  have hzne : ∀ k, (Value.slice (some ⟨gx, 0, none⟩) 1 c).ownBlock = some k → k ≠ g := hr.room.ne_blk hz ht
  have Con := hide (nlsh_any base gx c s w.drew hr hb hs)
  have Key := hide (fun v w1 hf => int_key (w1 := w1) hz hz0 hz1 hzne v hf)
  have Fin := hide (fun v w1 w2 h1 h2 h3 h4 => int_fin (base := base) (w1 := w1) (w2 := w2) (o := o) (xs := digs 18446744073709551616 (2 ^ s)) hz ht hzne v false h1 h2 h3 h4)
  clear hz hz0 hz1 hr hzne
  generalize digs 18446744073709551616 (2 ^ s) = D at *
  go_enter Tryz.func162, Tryz.ntmps162
  go_wp2_with fail
  go_region_with (go_at_call 186; go_loud (refine (Con.out).mono ?_; rintro e w1 ⟨R, cr, rfl, hr, hrb, hf⟩; obtain ⟨k1, k2, k3, k4, k5⟩ := Key.out (.slice R D.length cr) w1 ⟨hf.os, hf.tape, hf.output, hf.size, hf.block⟩; have HF := hide (fun w2 h => Fin.out (.slice R D.length cr) w1 w2 h hr hrb ⟨hf.os, hf.tape, hf.output, hf.size, hf.block⟩); clear hr hrb hf))
  all_goals clear Con Key Fin c1
  all_goals generalize D.length = q at k1 k2 k3 k4 k5 HF ⊢
  all_goals go_wp2
  all_goals go_ret
  all_goals exact HF.out _ (.inl rfl)
set_option maxHeartbeats 1000000 in
theorem bLsh_any (base g gx c s : Nat) (w : World) (hz : Blk w g 69 #[.bool false, .slice (some ⟨gx, 0, none⟩) 1 c, .bool false]) (hr : Own w base (.slice (some ⟨gx, 0, none⟩) 1 c) [1]) (hb : base ≤ w.heap.size) (hs : s ≤ 127) :
    Calls Tryz.prog 137 #[.pointer (some ⟨g, 0, none⟩), .pointer (some ⟨g, 0, none⟩), .int .u64 (s : Int)] w (BigP w base g 0 69 #[.bool false, .slice (some ⟨gx, 0, none⟩) 1 c, .bool false] (.slice (some ⟨gx, 0, none⟩) 1 c) false false (digs 18446744073709551616 (2 ^ s))) := by
  have c1 : w.cell? ⟨g, 2, none⟩ = some (.bool false) := hz.cell 2
  have f1 : w.frozen? ⟨g, 2, none⟩ = false := hz.frozen _
  have hf0 : Fr w (w.setCell ⟨g, 2, none⟩ (.bool false)).drew (fun k => k = g) := ((Fr.refl w (fun k => k = g)).setCell (p := ⟨g, 2, none⟩) (fun _ => rfl) _).drew
  have con := iLsh_any base g 0 gx c s 69 #[.bool false, .slice (some ⟨gx, 0, none⟩) 1 c, .bool false] (w.setCell ⟨g, 2, none⟩ (.bool false)).drew (hz.set 2 (.bool false)) rfl rfl (hr.fr hf0 (hr.room.ne_blk hz (by decide))) (by decide) (by simpa using hb) hs
  have fin := fun e w' h => big_fin (mi := false) (W := (w.setCell ⟨g, 2, none⟩ (.bool false)).drew) (w := w) (base := base) (g := g) (o := 0) (t := 69) (cs := #[.bool false, .slice (some ⟨gx, 0, none⟩) 1 c, .bool false]) (vz := .slice (some ⟨gx, 0, none⟩) 1 c) (n := false) (xs := digs 18446744073709551616 (2 ^ s)) (.inr rfl) (e := e) (w' := w') h
  have Con := hide con
  have Fin := hide fin
  clear hz con fin hf0 hr
  generalize digs 18446744073709551616 (2 ^ s) = D at *
  go_enter Tryz.func137, Tryz.ntmps137
  go_wp2_with fail
  go_region_with (go_at_call 162; go_loud (refine (Con.out).mono ?_; rintro e w1 HI; have HI2 := hide HI; obtain ⟨rfl, _⟩ := HI))
  all_goals go_wp2
  all_goals go_ret
  all_goals exact Fin.out _ _ HI2.out
end Go.Proofs.YtfkcobdkgjhfaaaGreatDoor
