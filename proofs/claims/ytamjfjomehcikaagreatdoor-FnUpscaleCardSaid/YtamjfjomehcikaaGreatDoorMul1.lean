/- Walks: nat.mulAddWW. -/
import Derived.Test.YtamjfjomehcikaaGreatDoorMulB
import Derived.Test.YtamjfjomehcikaaGreatDoorAlias
import Derived.Test.YtamjfjomehcikaaGreatDoorSet64
set_option linter.unusedVariables false
set_option linter.unusedSimpArgs false
namespace Go.Proofs.YtamjfjomehcikaaGreatDoor
open Go.RowKit

/-- Two rows lie in different blocks. -/
def Apart (z x : Value) : Prop := ∀ k, z.ownBlock = some k → x.ownBlock ≠ some k

/-- What is left by a call that lays a row, split at a place. -/
theorem Blk.split {w : World} {g n : Nat} {t : TypeId} {cur : Array Value} (h : Blk w g t cur) : Blk w g t (([] : List Value) ++ cur.toList.take n ++ cur.toList.drop n).toArray := by
  simpa using h

theorem Own.mk3 {w : World} {base g cap : Nat} {xs : List Nat} {S : List Value} (hg : base ≤ g) (hb : Blk w g 70 (wv xs ++ S).toArray) (hc : xs.length + S.length = cap) (hm : cap ≤ maxLen) : Own w base (.slice (some ⟨g, 0, none⟩) xs.length cap) xs :=
  Own.mk hg hb (by omega) hm (by simp [wv_length]; omega) (by
    have : (wv xs).length = xs.length := wv_length xs
    rw [← this]; simp)

theorem amul_row {d a : Nat} {xs : List Nat} (hd : d < 18446744073709551616) (ha : a < 18446744073709551616) (hx : Dig 18446744073709551616 xs) :
    trimz ((amul 18446744073709551616 d (List.replicate xs.length 0) xs a).1 ++ [(amul 18446744073709551616 d (List.replicate xs.length 0) xs a).2]) = digs 18446744073709551616 (dval 18446744073709551616 xs * d + a) ∧
      (amul 18446744073709551616 d (List.replicate xs.length 0) xs a).1.length = xs.length := by
  have hl : (List.replicate xs.length 0).length = xs.length := List.length_replicate
  have hal := amul_length 18446744073709551616 d (zs := List.replicate xs.length 0) (xs := xs) a hl
  have hv := amul_val 18446744073709551616 d (zs := List.replicate xs.length 0) (xs := xs) a hl
  have hc := amul_carry hd (zs := List.replicate xs.length 0) (xs := xs) a (fun e he => by rw [List.eq_of_mem_replicate he]; omega) hx ha
  have hg := amul_dig (b := 18446744073709551616) (d := d) (by omega) (zs := List.replicate xs.length 0) (xs := xs) a
  refine ⟨?_, hal⟩
  rw [← digs_dval_trim (b := 18446744073709551616) (by omega) (fun e he => ?_), dval_append, hal]
  · rw [dval_replicate_zero, Nat.zero_add] at hv
    rw [← hv]
    simp [dval]
  · rcases List.mem_append.1 he with he | he
    · exact hg e he
    · rw [List.mem_singleton.1 he]; exact hc

set_option maxHeartbeats 1000000 in
set_option maxRecDepth 20000 in
theorem maWW_any (base bx n y r : Nat) (z : Value) (m : Nat) (A : Option Addr) (c : Nat) (xs : List Nat) (w : World) (hz : Room w base z m) (hb : base ≤ w.heap.size) (hx : Own w bx (.slice A n c) xs) (hn : n = xs.length) (hn1 : 1 ≤ n) (hnb : n ≤ 1048576)
    (hal : Apart z (.slice A n c) ∨ z = .slice A m c) (hy1 : 1 ≤ y) (hy : y < 18446744073709551616) (hr : r < 18446744073709551616) (hd : Dig 18446744073709551616 xs) :
    Calls Tryz.prog 95 #[z, .slice A n c, .int .u64 (y : Int), .int .u64 (r : Int)] w (SetP w base z (digs 18446744073709551616 (dval 18446744073709551616 xs * y + r))) := by
  have y0 : ((y : Int) == 0) = false := beq_eq_false_iff_ne.2 (by omega)
  have n0 : ((n : Int) == 0) = false := beq_eq_false_iff_ne.2 (by omega)
  have Con := hide (make_any base z m (n + 1) w hz hb (by omega) (by omega))
  have HX := hide (And.intro hx (And.intro hal (And.intro hd hn)))
  clear hx hal hd hz hn
  go_enter Tryz.func95, Tryz.ntmps95
  go_wp2_with fail
  refine (Con.out).mono ?_
  rintro e w1 ⟨r0, rfl, hr0, hrb, hbel⟩
  rw [show ((n : Int) + 1).toNat = n + 1 by omega] at hr0
  rcases hr0.form with ⟨_, h1⟩ | ⟨g, cap, cur, rfl, hg, hh, ha, hcap, hs⟩
  · omega
  have ha1 : n + 1 ≤ cap := by omega
  have hx1 : RdW w1 (.slice A n c) xs := RdG.below (k := .u64) HX.out.1.rd hbel
  have hxl : ∀ k, (Value.slice A n c).ownBlock = some k → k < w.heap.size := fun k hk => (HX.out.1.lt hk).2
  have hgx : (RdW w1 (.slice A n c) xs ∧ ∀ k, (Value.slice A n c).ownBlock = some k → k ≠ g) ∨ (A = some ⟨g, 0, none⟩ ∧ cur.toList.take n = wv xs) := by
    rcases hrb with h | h
    · rcases HX.out.2.1 with h2 | rfl
      · exact .inl ⟨hx1, fun k hk e => h2 k (h.symm.trans (by rw [← e]; rfl)) hk⟩
      · rcases HX.out.1.form with ⟨_, h3⟩ | ⟨gx, cx, cu, h3, _, h4, _, _, _, h5⟩
        · have := HX.out.2.2.2; rw [h3] at this; simp at this; omega
        · injection h3 with h3 h6 h7
          subst h3
          have e : g = gx := by simpa [Value.ownBlock] using h
          subst e
          have h8 := h4.below hbel
          unfold Blk at h8 hh
          rw [hh] at h8
          injection h8 with h8
          injection h8 with h8
          subst h8
          exact .inr ⟨rfl, by rw [h6]; exact h5⟩
    · have e : g = w.heap.size := by simpa [Value.ownBlock] using h
      exact .inl ⟨hx1, fun k hk e2 => by have := hxl k hk; omega⟩
  have con2 := mav_any g 0 n cap r y [] (cur.toList.drop n) (cur.toList.take n) A c xs w1 hh.split rfl (by rw [List.length_take, Array.length_toList, HX.out.2.2.2.symm]; omega) HX.out.2.2.2 (by omega) (by omega) hgx hr hy HX.out.2.2.1
  have hrow := amul_row (a := r) hy hr HX.out.2.2.1
  rw [← HX.out.2.2.2] at hrow
  obtain ⟨s0, S', hS⟩ : ∃ s0 S', cur.toList.drop n = s0 :: S' := by
    cases hS : cur.toList.drop n with
    | nil => have := congrArg List.length hS; simp at this; omega
    | cons a b => exact ⟨a, b, rfl⟩
  have hcl : (cur.toList.take n).length = n := by simp; omega
  have hSl : n + 1 + S'.length = cap := by have := congrArg List.length hS; simp at this; omega
  have Con2 := hide con2
  have HR := hide (And.intro hrow (And.intro hS (And.intro hrb (And.intro hbel (And.intro hg (And.intro hcap hSl))))))
  clear con2 hrow hS hrb hbel hg hcap hx1 hxl hgx hr0 hh hs hcl hSl Con
  go_wp2_with fail
  refine (Con2.out).mono ?_
  rintro e w2 ⟨q, rfl, hq, hb2, hf2⟩
  rw [HR.out.2.1] at hb2
  have hb3 : Blk w2 g 70 (wv (amul 18446744073709551616 y (List.replicate n 0) xs r).1 ++ s0 :: S').toArray := by simpa using hb2
  obtain ⟨p1, p2, p3⟩ := hb3.part (i := n) (by rw [wv_length, HR.out.1.2])
  have hown : Own (w2.setCell ⟨g, n, none⟩ (.int .u64 (q : Int))) base (.slice (some ⟨g, 0, none⟩) (n + 1) cap) ((amul 18446744073709551616 y (List.replicate n 0) xs r).1 ++ [q]) := by
    have hb4 : Blk (w2.setCell ⟨g, n, none⟩ (.int .u64 (q : Int))) g 70 (wv ((amul 18446744073709551616 y (List.replicate n 0) xs r).1 ++ [q]) ++ S').toArray := by
      have := p3 (.int .u64 (q : Int))
      rw [wv_append]
      simpa [wv] using this
    have := Own.mk3 HR.out.2.2.2.2.1 hb4 (cap := cap) (by rw [List.length_append, HR.out.1.2]; have := HR.out.2.2.2.2.2.2; simp; omega) HR.out.2.2.2.2.2.1
    rwa [List.length_append, HR.out.1.2] at this
  have htr : trimz ((amul 18446744073709551616 y (List.replicate n 0) xs r).1 ++ [q]) = digs 18446744073709551616 (dval 18446744073709551616 xs * y + r) := by rw [hq.out]; exact HR.out.1.1
  have con3 := norm_own base _ _ _ hown
  rw [htr] at con3
  have hF : Fr w (w2.setCell ⟨g, n, none⟩ (.int .u64 (q : Int))) (fun k => z.ownBlock = some k) := by
    have hst : g < w.heap.size → z.ownBlock = some g := fun hlt => by
      rcases HR.out.2.2.1 with h | h
      · exact h.symm
      · have e : g = w.heap.size := by simpa [Value.ownBlock] using h
        omega
    exact (Fr.step (Fr.of_below HR.out.2.2.2.1 _) hf2 (fun i hi (e : i = g) => by subst e; exact hst hi)).setCell (p := ⟨g, n, none⟩) (fun hlt => hst hlt) _
  have Con3 := hide con3
  have HF := hide hF
  have Hb := hide HR.out.2.2.1
  have pf : ∃ u, w2.cell? ⟨g, n, none⟩ = some u := ⟨_, p1⟩
  obtain ⟨u, pu⟩ := pf
  clear con3 hF hown hb2 hb3 hf2 p1 p3 htr hq HR Con2 HX
  go_wp2_with fail
  refine (Con3.out).mono ?_
  rintro e w3 ⟨A3, c3, rfl, hown3, hblk3, rfl⟩
  have Fin : Hid (SetP w base z (digs 18446744073709551616 (dval 18446744073709551616 xs * y + r)) (.returned (.slice A3 (digs 18446744073709551616 (dval 18446744073709551616 xs * y + r)).length c3)) (w2.setCell ⟨g, n, none⟩ (.int .u64 (q : Int)))) := by
    refine ⟨A3, c3, rfl, hown3, ?_, HF.out⟩
    rw [hblk3]
    exact Hb.out.imp id (fun h => ⟨_, h, Nat.le_refl _⟩)
  clear hown3 hblk3 HF Hb Con3
  generalize (digs 18446744073709551616 (dval 18446744073709551616 xs * y + r)).length = l at Fin ⊢
  go_wp2
  go_ret
  exact Fin.out
end Go.Proofs.YtamjfjomehcikaaGreatDoor
