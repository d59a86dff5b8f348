/- Parts of the proof of 'laws.FnNumDigits': Mul1, Own2, Lsh2. -/
import Derived.Test.YtlaepcfooopbmaaGreatDoorFnNumDigitsJ1
import Derived.Test.YtlaepcfooopbmaaGreatDoorFnNumDigitsJ2
import Derived.Test.YtlaepcfooopbmaaGreatDoorFnNumDigitsJ3
import Derived.Test.YtlaepcfooopbmaaGreatDoorFnNumDigitsJ4
import Derived.Test.YtlaepcfooopbmaaGreatDoorFnNumDigitsJ5
import Derived.Test.YtlaepcfooopbmaaGreatDoorFnNumDigitsJ6
/- Walks: nat.mulAddWW. -/
set_option linter.unusedVariables false
set_option linter.unusedSimpArgs false
namespace Go.Proofs.YtlaepcfooopbmaaGreatDoor
open Go.RowKit

/-- Two rows lie in different blocks. -/
def Apart (z x : Value) : Prop := ∀ k, z.ownBlock = some k → x.ownBlock ≠ some k

/-- What is left by a call that lays a row, split at a place. -/
theorem Blk.split {w : World} {g n : Nat} {t : TypeId} {cur : Array Value} (h : Blk w g t cur) : Blk w g t (([] : List Value) ++ cur.toList.take n ++ cur.toList.drop n).toArray := by
  simpa using h

theorem Own.mk3 {w : World} {base g cap : Nat} {xs : List Nat} {S : List Value} (hg : base ≤ g) (hb : Blk w g 84 (wv xs ++ S).toArray) (hc : xs.length + S.length = cap) (hm : cap ≤ maxLen) : Own w base (.slice (some ⟨g, 0, none⟩) xs.length cap) xs :=
  Own.mk hg hb (by omega) hm (by simp [wv_length]; omega) (by
    have : (wv xs).length = xs.length := wv_length xs
    rw [← this]; simp)

theorem amul_row {d a : Nat} {xs : List Nat} (hd : d < 18446744073709551616) (ha : a < 18446744073709551616) (hx : Dig 18446744073709551616 xs) :
    trimz ((amul 18446744073709551616 d (List.replicate xs.length 0) xs a).1 ++ [(amul 18446744073709551616 d (List.replicate xs.length 0) xs a).2]) = digs 18446744073709551616 (dval 18446744073709551616 xs * d + a) ∧
      (amul 18446744073709551616 d (List.replicate xs.length 0) xs a).1.length = xs.length := by
  have hl : (List.replicate xs.length 0).length = xs.length := List.length_replicate
  have hal := amul_length 18446744073709551616 d (zs := List.replicate xs.length 0) (xs := xs) a hl
  have hv := amul_val 18446744073709551616 d (zs := List.replicate xs.length 0) (xs := xs) a hl
  have hc := amul_carry hd (zs := List.replicate xs.length 0) (xs := xs) a (fun e he => by rw [List.eq_of_mem_replicate he]; omega) hx ha
  have hg := amul_dig (b := 18446744073709551616) (d := d) (by omega) (zs := List.replicate xs.length 0) (xs := xs) a
  refine ⟨?_, hal⟩
  rw [← digs_dval_trim (b := 18446744073709551616) (by omega) (fun e he => ?_), dval_append, hal]
  · rw [dval_replicate_zero, Nat.zero_add] at hv
    rw [← hv]
    simp [dval]
  · rcases List.mem_append.1 he with he | he
    · exact hg e he
    · rw [List.mem_singleton.1 he]; exact hc

set_option maxHeartbeats 1000000 in
set_option maxRecDepth 20000 in
theorem maWW_any (base bx n y r : Nat) (z : Value) (m : Nat) (A : Option Addr) (c : Nat) (xs : List Nat) (w : World) (hz : Room w base z m) (hb : base ≤ w.heap.size) (hx : Own w bx (.slice A n c) xs) (hn : n = xs.length) (hn1 : 1 ≤ n) (hnb : n ≤ 1048576)
    (hal : Apart z (.slice A n c) ∨ z = .slice A m c) (hy1 : 1 ≤ y) (hy : y < 18446744073709551616) (hr : r < 18446744073709551616) (hd : Dig 18446744073709551616 xs) :
    Calls Tryz.prog 122 #[z, .slice A n c, .int .u64 (y : Int), .int .u64 (r : Int)] w (SetP w base z (digs 18446744073709551616 (dval 18446744073709551616 xs * y + r))) := by
  have y0 : ((y : Int) == 0) = false := beq_eq_false_iff_ne.2 (by omega)
  have n0 : ((n : Int) == 0) = false := beq_eq_false_iff_ne.2 (by omega)
  have Con := hide (make_any base z m (n + 1) w hz hb (by omega) (by omega))
  have HX := hide (And.intro hx (And.intro hal (And.intro hd hn)))
  clear hx hal hd hz hn
  go_enter Tryz.func122, Tryz.ntmps122
  go_wp2_with fail
  refine (Con.out).mono ?_
  rintro e w1 ⟨r0, rfl, hr0, hrb, hbel⟩
  rw [show ((n : Int) + 1).toNat = n + 1 by omega] at hr0
  rcases hr0.form with ⟨_, h1⟩ | ⟨g, cap, cur, rfl, hg, hh, ha, hcap, hs⟩
  · omega
  have ha1 : n + 1 ≤ cap := by omega
  have hx1 : RdW w1 (.slice A n c) xs := RdG.below (k := .u64) HX.out.1.rd hbel
  have hxl : ∀ k, (Value.slice A n c).ownBlock = some k → k < w.heap.size := fun k hk => (HX.out.1.lt hk).2
  have hgx : (RdW w1 (.slice A n c) xs ∧ ∀ k, (Value.slice A n c).ownBlock = some k → k ≠ g) ∨ (A = some ⟨g, 0, none⟩ ∧ cur.toList.take n = wv xs) := by
    rcases hrb with h | h
    · rcases HX.out.2.1 with h2 | rfl
      · exact .inl ⟨hx1, fun k hk e => h2 k (h.symm.trans (by rw [← e]; rfl)) hk⟩
      · rcases HX.out.1.form with ⟨_, h3⟩ | ⟨gx, cx, cu, h3, _, h4, _, _, _, h5⟩
        · have := HX.out.2.2.2; rw [h3] at this; simp at this; omega
        · injection h3 with h3 h6 h7
          subst h3
          have e : g = gx := by simpa [Value.ownBlock] using h
          subst e
          have h8 := h4.below hbel
          unfold Blk at h8 hh
          rw [hh] at h8
          injection h8 with h8
          injection h8 with h8
          subst h8
          exact .inr ⟨rfl, by rw [h6]; exact h5⟩
    · have e : g = w.heap.size := by simpa [Value.ownBlock] using h
      exact .inl ⟨hx1, fun k hk e2 => by have := hxl k hk; omega⟩
  have con2 := mav_any g 0 n cap r y [] (cur.toList.drop n) (cur.toList.take n) A c xs w1 hh.split rfl (by rw [List.length_take, Array.length_toList, HX.out.2.2.2.symm]; omega) HX.out.2.2.2 (by omega) (by omega) hgx hr hy HX.out.2.2.1
  have hrow := amul_row (a := r) hy hr HX.out.2.2.1
  rw [← HX.out.2.2.2] at hrow
  obtain ⟨s0, S', hS⟩ : ∃ s0 S', cur.toList.drop n = s0 :: S' := by
    cases hS : cur.toList.drop n with
    | nil => have := congrArg List.length hS; simp at this; omega
    | cons a b => exact ⟨a, b, rfl⟩
  have hcl : (cur.toList.take n).length = n := by simp; omega
  have hSl : n + 1 + S'.length = cap := by have := congrArg List.length hS; simp at this; omega
  have Con2 := hide con2
  have HR := hide (And.intro hrow (And.intro hS (And.intro hrb (And.intro hbel (And.intro hg (And.intro hcap hSl))))))
  clear con2 hrow hS hrb hbel hg hcap hx1 hxl hgx hr0 hh hs hcl hSl Con
  go_wp2_with fail
  refine (Con2.out).mono ?_
  rintro e w2 ⟨q, rfl, hq, hb2, hf2⟩
  rw [HR.out.2.1] at hb2
  have hb3 : Blk w2 g 84 (wv (amul 18446744073709551616 y (List.replicate n 0) xs r).1 ++ s0 :: S').toArray := by simpa using hb2
  obtain ⟨p1, p2, p3⟩ := hb3.part (i := n) (by rw [wv_length, HR.out.1.2])
  have hown : Own (w2.setCell ⟨g, n, none⟩ (.int .u64 (q : Int))) base (.slice (some ⟨g, 0, none⟩) (n + 1) cap) ((amul 18446744073709551616 y (List.replicate n 0) xs r).1 ++ [q]) := by
    have hb4 : Blk (w2.setCell ⟨g, n, none⟩ (.int .u64 (q : Int))) g 84 (wv ((amul 18446744073709551616 y (List.replicate n 0) xs r).1 ++ [q]) ++ S').toArray := by
      have := p3 (.int .u64 (q : Int))
      rw [wv_append]
      simpa [wv] using this
    have := Own.mk3 HR.out.2.2.2.2.1 hb4 (cap := cap) (by rw [List.length_append, HR.out.1.2]; have := HR.out.2.2.2.2.2.2; simp; omega) HR.out.2.2.2.2.2.1
    rwa [List.length_append, HR.out.1.2] at this
  have htr : trimz ((amul 18446744073709551616 y (List.replicate n 0) xs r).1 ++ [q]) = digs 18446744073709551616 (dval 18446744073709551616 xs * y + r) := by rw [hq.out]; exact HR.out.1.1
  have con3 := norm_own base _ _ _ hown
  rw [htr] at con3
  have hF : Fr w (w2.setCell ⟨g, n, none⟩ (.int .u64 (q : Int))) (fun k => z.ownBlock = some k) := by
    have hst : g < w.heap.size → z.ownBlock = some g := fun hlt => by
      rcases HR.out.2.2.1 with h | h
      · exact h.symm
      · have e : g = w.heap.size := by simpa [Value.ownBlock] using h
        omega
    exact (Fr.step (Fr.of_below HR.out.2.2.2.1 _) hf2 (fun i hi (e : i = g) => by subst e; exact hst hi)).setCell (p := ⟨g, n, none⟩) (fun hlt => hst hlt) _
  have Con3 := hide con3
  have HF := hide hF
  have Hb := hide HR.out.2.2.1
  have pf : ∃ u, w2.cell? ⟨g, n, none⟩ = some u := ⟨_, p1⟩
  obtain ⟨u, pu⟩ := pf
  clear con3 hF hown hb2 hb3 hf2 p1 p3 htr hq HR Con2 HX
  go_wp2_with fail
  refine (Con3.out).mono ?_
  rintro e w3 ⟨A3, c3, rfl, hown3, hblk3, rfl⟩
  have Fin : Hid (SetP w base z (digs 18446744073709551616 (dval 18446744073709551616 xs * y + r)) (.returned (.slice A3 (digs 18446744073709551616 (dval 18446744073709551616 xs * y + r)).length c3)) (w2.setCell ⟨g, n, none⟩ (.int .u64 (q : Int)))) := by
    refine ⟨A3, c3, rfl, hown3, ?_, HF.out⟩
    rw [hblk3]
    exact Hb.out.imp id (fun h => ⟨_, h, Nat.le_refl _⟩)
  clear hown3 hblk3 HF Hb Con3
  generalize (digs 18446744073709551616 (dval 18446744073709551616 xs * y + r)).length = l at Fin ⊢
  go_wp2
  go_ret
  exact Fin.out
end Go.Proofs.YtlaepcfooopbmaaGreatDoor

/- Small words on rows of the call's own. -/
set_option linter.unusedVariables false
set_option linter.unusedSimpArgs false
namespace Go.Proofs.YtlaepcfooopbmaaGreatDoor
open Go.RowKit

theorem run_clear_none (w : World) (A : Option Addr) (c : Nat) (ty : TypeId) : (Builtin.clear_ #[73] ty #[.slice A 0 c]).run Tryz.prog w = .ok (.tuple #[]) w := by
  cases A <;> simp [Builtin.clear_, run_underlying Tryz.underlying73]

theorem own_trim {w : World} {base g n cap : Nat} {xs : List Nat} (h : Own w base (.slice (some ⟨g, 0, none⟩) n cap) xs) : Own w base (.slice (some ⟨g, 0, none⟩) (trimz xs).length cap) (trimz xs) := by
  rcases h.form with ⟨h1, _⟩ | ⟨g', cap', cur, he, hg, hh, a, b, c, d⟩
  · injection h1 with h1; cases h1
  · injection he with e1 e2 e3
    injection e1 with e1
    injection e1 with e1
    subst e1 e3
    have hl := trimz_length_le xs
    refine Own.mk hg hh (by omega) b c ?_
    have e1 : cur.toList.take (trimz xs).length = (cur.toList.take xs.length).take (trimz xs).length := by rw [List.take_take]; congr 1; omega
    rw [e1, d]
    have e2 : (wv xs).take (trimz xs).length = wv (xs.take (trimz xs).length) := by simp [wv]
    rw [e2, take_trimz]
theorem own_caps {w : World} {base g n cap : Nat} {xs : List Nat} (h : Own w base (.slice (some ⟨g, 0, none⟩) n cap) xs) : n = xs.length ∧ n ≤ cap ∧ cap ≤ maxLen := by
  rcases h.form with ⟨h1, _⟩ | ⟨g', cap', cur, he, hg, hh, a, b, c, d⟩
  · injection h1 with h1; cases h1
  · injection he with e1 e2 e3
    subst e3
    exact ⟨e2, by omega, b⟩

/-- A room of m words and more, word by word: what lies there. -/
theorem Room.rows {w : World} {base m : Nat} {v : Value} (h : Room w base v m) (hm : 0 < m) : ∃ (g cap : Nat) (us : List Value), v = .slice (some ⟨g, 0, none⟩) m cap ∧ base ≤ g ∧ g < w.heap.size ∧ Blk w g 84 us.toArray ∧ us.length = cap ∧ m ≤ cap ∧ cap ≤ maxLen := by
  rcases h.form with ⟨_, h1⟩ | ⟨g, cap, cur, rfl, hg, hh, ha, hcap, hs⟩
  · omega
  · exact ⟨g, cap, cur.toList, rfl, hg, hh.lt, by simpa using hh, by simpa using hs, ha, hcap⟩

/-- A row shifted: as many noughts below, then its digits. -/
theorem dval_zeros (b t : Nat) (xs : List Nat) : dval b (List.replicate t 0 ++ xs) = b ^ t * dval b xs := by
  rw [dval_append, dval_replicate_zero, List.length_replicate, Nat.zero_add]
end Go.Proofs.YtlaepcfooopbmaaGreatDoor

/- Walks: 1 shifted to the left in its own place: nat.lsh, Int.Lsh, BigInt.Lsh. -/
set_option linter.unusedVariables false
set_option linter.unusedSimpArgs false
namespace Go.Proofs.YtlaepcfooopbmaaGreatDoor
open Go.RowKit

theorem lsh_end {base g gz n cap s : Nat} {w W : World} {xs : List Nat} {S : List Value} (c : Nat) (hg : base ≤ g) (hB : Blk W g 84 (wv xs ++ S).toArray) (hn : n = xs.length) (hc : xs.length + S.length = cap) (hm : cap ≤ maxLen) (hd : Dig 18446744073709551616 xs) (hv : dval 18446744073709551616 xs = 2 ^ s)
    (hor : g = gz ∨ w.heap.size ≤ g) (hf : Fr w W (fun k => k = gz)) :
    Calls Tryz.prog 72 #[.slice (some ⟨g, 0, none⟩) n cap] W fun e w' => e = .returned (.slice (some ⟨g, 0, none⟩) (digs 18446744073709551616 (2 ^ s)).length cap) ∧ Hid (SetP w base (.slice (some ⟨gz, 0, none⟩) 1 c) (digs 18446744073709551616 (2 ^ s)) e w') ∧ W = w' := by
  subst hn
  have hown := Own.mk3 (w := W) hg hB hc hm
  have con := norm_at g 0 cap xs W hown.words (by omega) hm
  have ht : trimz xs = digs 18446744073709551616 (2 ^ s) := by rw [← hv, digs_dval_trim (by omega) hd]
  have ho := own_trim hown
  rw [ht] at con ho
  refine con.mono ?_
  rintro e w' ⟨rfl, rfl⟩
  refine ⟨rfl, ⟨_, cap, rfl, ho, ?_, hf.mono (fun k _ h => by subst h; rfl)⟩, rfl⟩
  rcases hor with rfl | h
  · exact .inl rfl
  · exact .inr ⟨g, rfl, h⟩

theorem one_sh {s : Nat} (h1 : 1 ≤ s) (h : s ≤ 63) : 1 / 2 ^ (64 - s) = 0 ∧ 1 * 2 ^ s % 18446744073709551616 = 2 ^ s ∧ 2 ^ s < 18446744073709551616 := by
  have h3 : 2 ^ s ≤ 2 ^ 63 := Nat.pow_le_pow_right (by omega) h
  have h2 : 2 ^ s < 18446744073709551616 := by omega
  refine ⟨Nat.div_eq_of_lt (Nat.one_lt_two_pow (by omega)), ?_, h2⟩
  rw [Nat.one_mul, Nat.mod_eq_of_lt h2]

set_option maxHeartbeats 1000000 in
set_option maxRecDepth 20000 in
theorem nlsh_low (base g c s : Nat) (w : World) (hx : Own w base (.slice (some ⟨g, 0, none⟩) 1 c) [1]) (hb : base ≤ w.heap.size) (hs1 : 1 ≤ s) (hs : s ≤ 63) :
    Calls Tryz.prog 93 #[.slice (some ⟨g, 0, none⟩) 1 c, .slice (some ⟨g, 0, none⟩) 1 c, .int .u64 (s : Int)] w (SetP w base (.slice (some ⟨g, 0, none⟩) 1 c) (digs 18446744073709551616 (2 ^ s))) := by
  have hs0 : ((s : Int) == 0) = false := beq_eq_false_iff_ne.2 (by omega)
  have hq : (s : Int) / 64 = 0 := by omega
  have hr : (s : Int) % 64 = (s : Int) := by omega
  have hcell : w.cell? ⟨g, 0, none⟩ = some (.int .u64 1) := by have := hx.words 0 (by simp); simpa using this
  have hgl : g < w.heap.size := (hx.lt (k := g) rfl).2
  obtain ⟨-, hc1, -⟩ := own_caps hx
  have Con := hide (make_any base (.slice (some ⟨g, 0, none⟩) 1 c) 1 2 w hx.room hb (by omega) (by omega))
  clear hx
  go_enter Tryz.func93, Tryz.ntmps93
  go_wp2_with fail
  refine (Con.out).mono ?_
  rintro e w1 ⟨r, rfl, hroom, hrb, hbel⟩
  obtain ⟨g', cap, us, rfl, hg', hgl', hB, hul, hc2, hm⟩ := hroom.rows (by decide)
  obtain ⟨a, us, rfl⟩ : ∃ a us', us = a :: us' := by cases us with
    | nil => simp at hul; simp at hc2; omega
    | cons a r => exact ⟨a, r, rfl⟩
  obtain ⟨b, S, rfl⟩ : ∃ a us', us = a :: us' := by cases us with
    | nil => simp at hul; simp at hc2; omega
    | cons a r => exact ⟨a, r, rfl⟩
  have hx1 : w1.cell? ⟨g, 0, none⟩ = some (.int .u64 ((1 : Nat) : Int)) := (hbel.cell (p := ⟨g, 0, none⟩) hgl).trans hcell
  obtain ⟨p1, p2, p3⟩ := Blk.part (P := []) (S := b :: S) (by simpa using hB) (i := 0) rfl
  have hor : g' = g ∨ w.heap.size ≤ g' := by
    rcases hrb with h | h
    · exact .inl (by simpa [Value.ownBlock] using h)
    · exact .inr (by simp [Value.ownBlock] at h; omega)
  have hf1 : Fr w w1 (fun k => k = g) := Fr.of_below hbel _
  have c2 : (2 : Int) ≤ (cap : Int) := by simp at hc2; omega
  have c2n : 2 ≤ cap := by simpa using hc2
  have Con2 := hide (lsh_one g' 0 cap g 0 c s 1 a w1 p1 p2 hx1 hs1 hs (by omega) hc1)
  have HB := hide (And.intro hf1 (And.intro hor (And.intro hg' (And.intro hul (And.intro p3 hm)))))
  clear hroom hrb hbel hB hf1 hor hg' hul p1 p2 p3 hm Con hcell hgl hgl' hx1
  go_wp2_with fail
  refine (Con2.out).mono ?_
  rintro e w2 ⟨rfl, hw2⟩
  obtain ⟨o1, o2, o3⟩ := one_sh hs1 hs
  rw [o1]
  rw [o2] at hw2
  have hB2 := HB.out.2.2.2.2.1 (.int .u64 ((2 ^ s : Nat) : Int))
  rw [← hw2] at hB2
  obtain ⟨p1, p2, p3⟩ := Blk.part (P := [.int .u64 ((2 ^ s : Nat) : Int)]) (S := S) hB2 (i := 1) rfl
  have hf2 : Fr w w2 (fun k => k = g) := by
    rw [hw2]
    exact HB.out.1.setCell (p := ⟨g', 0, none⟩) (fun h => by rcases HB.out.2.1 with h2 | h2; exact h2; simp at h; omega) _
  have hB3 := p3 (.int .u64 0)
  have hf3 : Fr w (w2.setCell ⟨g', 1, none⟩ (.int .u64 0)) (fun k => k = g) := hf2.setCell (p := ⟨g', 1, none⟩) (fun h => by rcases HB.out.2.1 with h2 | h2; exact h2; simp at h; omega) _
  obtain ⟨w3, hw3⟩ : ∃ w3, w3 = w2.setCell ⟨g', 1, none⟩ (.int .u64 0) := ⟨_, rfl⟩
  rw [← hw3] at hB3 hf3
  have con3 := lsh_end (base := base) (gz := g) (n := 2) (cap := cap) (s := s) (xs := [2 ^ s, 0]) (S := S) c HB.out.2.2.1 (by simpa [wv] using hB3) rfl (by have := HB.out.2.2.2.1; simp at this; simp; omega) HB.out.2.2.2.2.2 (by intro d hd; simp at hd; rcases hd with rfl | rfl; exact o3; omega) (by simp [dval]) HB.out.2.1 hf3
  have hclr := run_clear_none w3 (some ⟨g', 0, none⟩) cap
  have Con3 := hide con3
  have HW3 := hide hw3
  rw [hw3] at hclr
  clear hw2 hB2 hB3 hf2 hf3 con3 o1 o2 o3 Con2 HB p3 hw3
  go_wp2_with fail
  rw [← HW3.out]
  refine (Con3.out).mono ?_
  rintro e w4 ⟨rfl, hF, rfl⟩
  clear Con3 HW3
  generalize (digs 18446744073709551616 (2 ^ s)).length = q at *
  go_wp2
  go_ret
  exact hF.out

set_option maxHeartbeats 1000000 in
set_option maxRecDepth 20000 in
theorem nlsh_hi (base g c s u : Nat) (w : World) (hx : Own w base (.slice (some ⟨g, 0, none⟩) 1 c) [1]) (hb : base ≤ w.heap.size) (hsu : s = 64 + u) (hs1 : 1 ≤ u) (hs : u ≤ 63) :
    Calls Tryz.prog 93 #[.slice (some ⟨g, 0, none⟩) 1 c, .slice (some ⟨g, 0, none⟩) 1 c, .int .u64 (s : Int)] w (SetP w base (.slice (some ⟨g, 0, none⟩) 1 c) (digs 18446744073709551616 (2 ^ s))) := by
  have hs0 : ((s : Int) == 0) = false := beq_eq_false_iff_ne.2 (by omega)
  have hu0 : ((u : Int) == 0) = false := beq_eq_false_iff_ne.2 (by omega)
  have hq : (s : Int) / 64 = 1 := by omega
  have hr : (s : Int) % 64 = (u : Int) := by omega
  have hs127 : (s : Int) ≤ 127 := by omega
  have hcell : w.cell? ⟨g, 0, none⟩ = some (.int .u64 1) := by have := hx.words 0 (by simp); simpa using this
  have hgl : g < w.heap.size := (hx.lt (k := g) rfl).2
  obtain ⟨-, hc1, -⟩ := own_caps hx
  have Con := hide (make_any base (.slice (some ⟨g, 0, none⟩) 1 c) 1 3 w hx.room hb (by omega) (by omega))
  have HSU := hide hsu
  clear hx hsu
  go_enter Tryz.func93, Tryz.ntmps93
  go_wp2_with fail
  refine (Con.out).mono ?_
  rintro e w1 ⟨r, rfl, hroom, hrb, hbel⟩
  obtain ⟨g', cap, us, rfl, hg', hgl', hB, hul, hc2, hm⟩ := hroom.rows (by decide)
  obtain ⟨a, us, rfl⟩ : ∃ a us', us = a :: us' := by cases us with
    | nil => simp at hul; simp at hc2; omega
    | cons a r => exact ⟨a, r, rfl⟩
  obtain ⟨b, us, rfl⟩ : ∃ a us', us = a :: us' := by cases us with
    | nil => simp at hul; simp at hc2; omega
    | cons a r => exact ⟨a, r, rfl⟩
  obtain ⟨d, S, rfl⟩ : ∃ a us', us = a :: us' := by cases us with
    | nil => simp at hul; simp at hc2; omega
    | cons a r => exact ⟨a, r, rfl⟩
  have hx1 : w1.cell? ⟨g, 0, none⟩ = some (.int .u64 ((1 : Nat) : Int)) := (hbel.cell (p := ⟨g, 0, none⟩) hgl).trans hcell
  obtain ⟨p1, p2, p3⟩ := Blk.part (P := [a]) (S := d :: S) (by simpa using hB) (i := 1) rfl
  have hor : g' = g ∨ w.heap.size ≤ g' := by
    rcases hrb with h | h
    · exact .inl (by simpa [Value.ownBlock] using h)
    · exact .inr (by simp [Value.ownBlock] at h; omega)
  have hf1 : Fr w w1 (fun k => k = g) := Fr.of_below hbel _
  have c2 : (3 : Int) ≤ (cap : Int) := by simp at hc2; omega
  have c2n : 3 ≤ cap := by simpa using hc2
  have hsl : ∀ W, (Instr.slice 73 (.slice (some ⟨g', 0, none⟩) 3 cap) (some (.int .i64 1)) (some (.int .i64 2)) none).run Tryz.prog W = .ok (.slice (some ⟨g', 1, none⟩) 1 (cap - 1)) W := fun W => sl_mid g' 1 1 cap 3 _ W rfl (by omega) (by omega)
  have Con2 := hide (lsh_one g' 1 (cap - 1) g 0 c u 1 b w1 p1 p2 hx1 hs1 hs (by omega) hc1)
  have HB := hide (And.intro hf1 (And.intro hor (And.intro hg' (And.intro hul (And.intro p3 hm)))))
  clear hroom hrb hbel hB hf1 hor hg' hul p1 p2 p3 hm Con hcell hgl hgl' hx1
  go_wp2_with fail
  refine (Con2.out).mono ?_
  rintro e w2 ⟨rfl, hw2⟩
  obtain ⟨o1, o2, o3⟩ := one_sh hs1 hs
  rw [o1]
  rw [o2] at hw2
  have hB2 := HB.out.2.2.2.2.1 (.int .u64 ((2 ^ u : Nat) : Int))
  rw [← hw2] at hB2
  obtain ⟨p1, p2, p3⟩ := Blk.part (P := [a, .int .u64 ((2 ^ u : Nat) : Int)]) (S := S) hB2 (i := 2) rfl
  have hin : ∀ k, k < w.heap.size → k = g' → k = g := fun k h e => by rcases HB.out.2.1 with h2 | h2; rw [e]; exact h2; omega
  have hf2 : Fr w w2 (fun k => k = g) := by
    rw [hw2]
    exact HB.out.1.setCell (p := ⟨g', 1, none⟩) (fun h => hin _ h rfl) _
  have hB3 := p3 (.int .u64 0)
  have hf3 : Fr w (w2.setCell ⟨g', 2, none⟩ (.int .u64 0)) (fun k => k = g) := hf2.setCell (p := ⟨g', 2, none⟩) (fun h => hin _ h rfl) _
  obtain ⟨w3, hw3⟩ : ∃ w3, w3 = w2.setCell ⟨g', 2, none⟩ (.int .u64 0) := ⟨_, rfl⟩
  rw [← hw3] at hB3 hf3
  obtain ⟨q1, q2, q3⟩ := Blk.part (P := []) (a := a) (S := .int .u64 ((2 ^ u : Nat) : Int) :: .int .u64 0 :: S) (by simpa using hB3) (i := 0) rfl
  have hB4 := q3 (.int .u64 0)
  have hf4 : Fr w (w3.setCell ⟨g', 0, none⟩ (.int .u64 0)) (fun k => k = g) := hf3.setCell (p := ⟨g', 0, none⟩) (fun h => hin _ h rfl) _
  obtain ⟨w4, hw4⟩ : ∃ w4, w4 = w3.setCell ⟨g', 0, none⟩ (.int .u64 0) := ⟨_, rfl⟩
  have hclr : ∀ ty, (Builtin.clear_ #[73] ty #[.slice (some ⟨g', 0, none⟩) 1 cap]).run Tryz.prog w3 = .ok (.tuple #[]) w4 := by
    intro ty
    rw [hw4]
    have k1 : ∀ j, j < 1 → (w3.cell? ⟨g', 0 + j, none⟩).isSome = true := fun j hj => by
      obtain rfl : j = 0 := by omega
      rw [q1]; rfl
    have k2 : ∀ j, j < 1 → w3.frozen? ⟨g', 0 + j, none⟩ = false := fun j hj => by
      obtain rfl : j = 0 := by omega
      exact q2
    exact Lib.run_clear_slice w3 73 84 ty (.int .u64 0) Tryz.underlying73 (fun W => by kernel_rfl) rfl rfl g' 0 1 cap (by omega) k1 k2
  rw [← hw4] at hB4 hf4
  have con3 := lsh_end (base := base) (gz := g) (n := 3) (cap := cap) (s := s) (xs := [0, 2 ^ u, 0]) (S := S) c HB.out.2.2.1 (by simpa [wv] using hB4) rfl (by have := HB.out.2.2.2.1; simp at this; simp; omega) HB.out.2.2.2.2.2 (by intro d hd; simp at hd; rcases hd with rfl | rfl | rfl; omega; exact o3; omega) (by rw [HSU.out, Nat.pow_add]; simp [dval]) HB.out.2.1 hf4
  have Con3 := hide con3
  have HW3 := hide hw3
  rw [hw3] at hclr
  clear hw2 hB2 hB3 hB4 hf2 hf3 hf4 con3 o1 o2 o3 Con2 HB p3 q1 q2 q3 hw3 hw4 hin HSU
  go_wp2_with fail
  refine (Con3.out).mono ?_
  rintro e w5 ⟨rfl, hF, rfl⟩
  clear Con3 HW3 hclr hsl
  generalize (digs 18446744073709551616 (2 ^ s)).length = q at *
  go_wp2
  go_ret
  exact hF.out

set_option maxHeartbeats 1000000 in
set_option maxRecDepth 20000 in
theorem nlsh_mid (base g c : Nat) (w : World) (hx : Own w base (.slice (some ⟨g, 0, none⟩) 1 c) [1]) (hb : base ≤ w.heap.size) :
    Calls Tryz.prog 93 #[.slice (some ⟨g, 0, none⟩) 1 c, .slice (some ⟨g, 0, none⟩) 1 c, .int .u64 64] w (SetP w base (.slice (some ⟨g, 0, none⟩) 1 c) (digs 18446744073709551616 (2 ^ 64))) := by
  obtain ⟨D, hD⟩ : ∃ D, D = digs 18446744073709551616 (2 ^ 64) := ⟨_, rfl⟩
  rw [← hD]
  have HD := hide hD
  clear hD
  have hcell : w.cell? ⟨g, 0, none⟩ = some (.int .u64 1) := by have := hx.words 0 (by simp); simpa using this
  have hgl : g < w.heap.size := (hx.lt (k := g) rfl).2
  obtain ⟨-, hc1, -⟩ := own_caps hx
  have Con := hide (make_any base (.slice (some ⟨g, 0, none⟩) 1 c) 1 3 w hx.room hb (by omega) (by omega))
  clear hx
  go_enter Tryz.func93, Tryz.ntmps93
  go_wp2_with fail
  refine (Con.out).mono ?_
  rintro e w1 ⟨r, rfl, hroom, hrb, hbel⟩
  obtain ⟨g', cap, us, rfl, hg', hgl', hB, hul, hc2, hm⟩ := hroom.rows (by decide)
  obtain ⟨a, us, rfl⟩ : ∃ a us', us = a :: us' := by cases us with
    | nil => simp at hul; simp at hc2; omega
    | cons a r => exact ⟨a, r, rfl⟩
  obtain ⟨b, us, rfl⟩ : ∃ a us', us = a :: us' := by cases us with
    | nil => simp at hul; simp at hc2; omega
    | cons a r => exact ⟨a, r, rfl⟩
  obtain ⟨d, S, rfl⟩ : ∃ a us', us = a :: us' := by cases us with
    | nil => simp at hul; simp at hc2; omega
    | cons a r => exact ⟨a, r, rfl⟩
  have hx1 : w1.cell? ⟨g, 0, none⟩ = some (.int .u64 1) := (hbel.cell (p := ⟨g, 0, none⟩) hgl).trans hcell
  have hor : g' = g ∨ w.heap.size ≤ g' := by
    rcases hrb with h | h
    · exact .inl (by simpa [Value.ownBlock] using h)
    · exact .inr (by simp [Value.ownBlock] at h; omega)
  have hf1 : Fr w w1 (fun k => k = g) := Fr.of_below hbel _
  have c2 : (3 : Int) ≤ (cap : Int) := by simp at hc2; omega
  have c2n : 3 ≤ cap := by simpa using hc2
  have hsl : ∀ W, (Instr.slice 73 (.slice (some ⟨g', 0, none⟩) 3 cap) (some (.int .i64 1)) (some (.int .i64 2)) none).run Tryz.prog W = .ok (.slice (some ⟨g', 1, none⟩) 1 (cap - 1)) W := fun W => sl_mid g' 1 1 cap 3 _ W rfl (by omega) (by omega)
  have hin : ∀ k, k < w.heap.size → k = g' → k = g := fun k h e => by rcases hor with h2 | h2; rw [e]; exact h2; omega
  have hB2 : Blk (w1.setRow g' (a :: .int .u64 1 :: d :: S).toArray) g' 84 (a :: .int .u64 1 :: d :: S).toArray := hB.setRow _
  have hf2 : Fr w (w1.setRow g' (a :: .int .u64 1 :: d :: S).toArray) (fun k => k = g) := hf1.setRow (fun h => hin _ h rfl) _
  obtain ⟨p1, p2, p3⟩ := Blk.part (P := [a, .int .u64 1]) (S := S) hB2 (i := 2) rfl
  have hB3 := p3 (.int .u64 0)
  have hf3 := hf2.setCell (p := ⟨g', 2, none⟩) (fun h => hin _ h rfl) (.int .u64 0)
  obtain ⟨w3, hw3⟩ : ∃ w3, w3 = (w1.setRow g' (a :: .int .u64 1 :: d :: S).toArray).setCell ⟨g', 2, none⟩ (.int .u64 0) := ⟨_, rfl⟩
  rw [← hw3] at hB3 hf3
  obtain ⟨q1, q2, q3⟩ := Blk.part (P := []) (a := a) (S := .int .u64 1 :: .int .u64 0 :: S) (by simpa using hB3) (i := 0) rfl
  have hB4 := q3 (.int .u64 0)
  have hf4 := hf3.setCell (p := ⟨g', 0, none⟩) (fun h => hin _ h rfl) (.int .u64 0)
  obtain ⟨w4, hw4⟩ : ∃ w4, w4 = w3.setCell ⟨g', 0, none⟩ (.int .u64 0) := ⟨_, rfl⟩
  have hclr : ∀ ty, (Builtin.clear_ #[73] ty #[.slice (some ⟨g', 0, none⟩) 1 cap]).run Tryz.prog w3 = .ok (.tuple #[]) w4 := by
    intro ty
    rw [hw4]
    have k1 : ∀ j, j < 1 → (w3.cell? ⟨g', 0 + j, none⟩).isSome = true := fun j hj => by
      obtain rfl : j = 0 := by omega
      rw [q1]; rfl
    have k2 : ∀ j, j < 1 → w3.frozen? ⟨g', 0 + j, none⟩ = false := fun j hj => by
      obtain rfl : j = 0 := by omega
      exact q2
    exact Lib.run_clear_slice w3 73 84 ty (.int .u64 0) Tryz.underlying73 (fun W => by kernel_rfl) rfl rfl g' 0 1 cap (by omega) k1 k2
  rw [← hw4] at hB4 hf4
  have con3 := lsh_end (base := base) (gz := g) (n := 3) (cap := cap) (s := 64) (xs := [0, 1, 0]) (S := S) c hg' (by simpa [wv] using hB4) rfl (by simp at hul; simp; omega) hm (by intro d hd; simp at hd; omega) (by simp [dval]) hor hf4
  have hclr2 := hclr
  rw [hw3] at hclr2
  rw [← HD.out] at con3
  have Con3 := hide con3
  have HX := hide hx1
  have HB := hide hB
  clear hroom hrb hbel hB hf1 hor hg' hul hm Con hcell hgl hgl' hx1 hin hB2 hf2 p3 hB3 hf3 hw3 q1 q2 q3 hB4 hf4 hw4 hclr con3 HD
  go_wp2_with (refine wpList_copy_own rfl (.tmp 46) (.tmp 47) 73 73 rfl 84 Tryz.underlying73 sizeWord g' 1 _ _ ⟨g, 0, none⟩ _ _ rfl rfl (a :: b :: d :: S).toArray _ HB.out [.int .u64 1] ?_ ?_ ?_ ?_ ?_; rfl; (intro j v hv; cases j with | zero => (simp at hv; subst hv; exact HX.out) | succ j => simp at hv); simp; simp [Value.oneCell'])
  refine (Con3.out).mono ?_
  rintro e w5 ⟨rfl, hF, rfl⟩
  clear Con3 hclr2 hsl HX HB
  generalize D.length = q at *
  go_wp2
  go_ret
  exact hF.out

theorem nlsh_zero (base g c : Nat) (w : World) (hx : Own w base (.slice (some ⟨g, 0, none⟩) 1 c) [1]) :
    Calls Tryz.prog 93 #[.slice (some ⟨g, 0, none⟩) 1 c, .slice (some ⟨g, 0, none⟩) 1 c, .int .u64 0] w (SetP w base (.slice (some ⟨g, 0, none⟩) 1 c) (digs 18446744073709551616 (2 ^ 0))) := by
  obtain ⟨-, hc1, hc2⟩ := own_caps hx
  have Con := hide (same_self g 0 1 c w (by decide) hc1 (by decide))
  have HF : Hid (SetP w base (.slice (some ⟨g, 0, none⟩) 1 c) (digs 18446744073709551616 (2 ^ 0)) (.returned (.slice (some ⟨g, 0, none⟩) 1 c)) w.drew) := by
    rw [Nat.pow_zero, digs_word (by omega) (by omega)]
    exact ⟨_, c, rfl, hx.fr ((Fr.refl w (fun _ => False)).drew) (fun _ _ h => h), .inl rfl, (Fr.refl w _).drew⟩
  clear hx hc2
  obtain ⟨D, hD⟩ : ∃ D, D = digs 18446744073709551616 (2 ^ 0) := ⟨_, rfl⟩
  rw [← hD] at HF ⊢
  clear hD
  go_enter Tryz.func93, Tryz.ntmps93
  go_wp2_with fail
  refine (Con.out).mono ?_
  rintro e w1 ⟨rfl, hw1⟩
  rw [← hw1] at HF
  clear hw1 Con
  go_wp2
  go_ret
  exact HF.out

theorem nlsh_any (base g c s : Nat) (w : World) (hx : Own w base (.slice (some ⟨g, 0, none⟩) 1 c) [1]) (hb : base ≤ w.heap.size) (hs : s ≤ 127) :
    Calls Tryz.prog 93 #[.slice (some ⟨g, 0, none⟩) 1 c, .slice (some ⟨g, 0, none⟩) 1 c, .int .u64 (s : Int)] w (SetP w base (.slice (some ⟨g, 0, none⟩) 1 c) (digs 18446744073709551616 (2 ^ s))) := by
  by_cases h0 : s = 0
  · subst h0; exact nlsh_zero base g c w hx
  by_cases h1 : s ≤ 63
  · exact nlsh_low base g c s w hx hb (by omega) h1
  by_cases h2 : s = 64
  · subst h2; exact nlsh_mid base g c w hx hb
  · exact nlsh_hi base g c s (s - 64) w hx hb (by omega) (by omega) (by omega)
end Go.Proofs.YtlaepcfooopbmaaGreatDoor
