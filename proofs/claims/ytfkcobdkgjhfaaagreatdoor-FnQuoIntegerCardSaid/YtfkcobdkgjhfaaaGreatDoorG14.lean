/- Parts of the proofs: Mul3, Mul4, ExpMath. -/
import Derived.Test.YtfkcobdkgjhfaaaGreatDoorG9
import Derived.Test.YtfkcobdkgjhfaaaGreatDoorG13
/- Walks: nat.mul at few words. (Printed by gen-mul3.py.) -/
set_option linter.unusedVariables false
set_option linter.unusedSimpArgs false
namespace Go.Proofs.YtfkcobdkgjhfaaaGreatDoor
open Go.RowKit

theorem eql_Word_same (w : World) (a : Addr) : (binOp .eql 230 (.pointer (some a)) (.pointer (some a))).run Tryz.prog w = .ok (.bool true) w := by
  obtain ⟨j, hj, hs⟩ := Option.map_eq_some_iff.1 sizeWord
  have h : ∀ d : Nat, (Op.equalIn (d + 1) 230 (.pointer (some a)) (.pointer (some a))).run Tryz.prog w = .ok true w := fun d => by
    simp [Op.equalIn, run_underlying Tryz.underlying230, sizeOf, typeInfo, hj, run_sameAddr_same]
  simp only [binOp]
  simp [Op.equal, Op.maxDepth, h 9999]

set_option maxHeartbeats 500000 in
theorem alias_same (g n c : Nat) (w : World) (h1 : 0 < c) (hm : c ≤ maxLen) :
    Calls Tryz.prog 172 #[.slice (some ⟨g, 0, none⟩) n c, .slice (some ⟨g, 0, none⟩) n c] w fun e w' => e = .returned (.bool true) ∧ ∃ k, w' = w.drewN k := by
  unfold maxLen at hm
  have hcmp : ∀ (i k : Nat), (binOp .eql 230 (.pointer (some ⟨g, i, none⟩)) (.pointer (some ⟨g, i, none⟩))).run Tryz.prog (w.drewN k) = .ok (.bool true) (w.drewN k) := fun i k => eql_Word_same (w.drewN k) ⟨g, i, none⟩
  have z1 : wrap64 ((c : Int) - 1) = ((c - 1 : Nat) : Int) := by unfold wrap64; omega
  have z2 : c - 1 < c := by omega
  go_enter Tryz.func172, Tryz.ntmps172
  go_wp2_with fail
  go_quiet (fail)
  go_wp2
  go_ret
  exact ⟨rfl, _, rfl⟩

theorem alias_self (b n c : Nat) (A : Option Addr) (xs : List Nat) (w : World) (hx : Own w b (.slice A n c) xs) (hn : n = xs.length) (hn1 : 1 ≤ n) :
    Calls Tryz.prog 172 #[.slice A n c, .slice A n c] w fun e w' => e = .returned (.bool true) ∧ ∃ k, w' = w.drewN k := by
  rcases hx.form with ⟨_, h⟩ | ⟨g, cap, cur, h1, _, _, h2, h3, _⟩
  · subst h; simp at hn; omega
  · injection h1 with h1 h4 h5
    subst h1; subst h5
    exact alias_same g n c w (by omega) h3

set_option maxHeartbeats 1000000 in
set_option maxRecDepth 20000 in
theorem mul_far (base bx by_ n l : Nat) (z stk : Value) (m : Nat) (A B : Option Addr) (c d : Nat) (xs ys : List Nat) (w : World) (hz : Room w base z m) (hb : base ≤ w.heap.size) (hx : Own w bx (.slice A n c) xs) (hy : Own w by_ (.slice B l d) ys) (hn : n = xs.length) (hl : l = ys.length) (hl2 : 2 ≤ l) (hln : l ≤ n) (hl39 : l ≤ 39) (hnb : n ≤ 1048576) (hax : Apart z (.slice A n c)) (hay : Apart z (.slice B l d)) (hdx : Dig 18446744073709551616 xs) (hdy : Dig 18446744073709551616 ys) (hv : Vars w base) :
    Calls Tryz.prog 177 #[z, stk, .slice A n c, .slice B l d] w (SetP w base z (digs 18446744073709551616 (dval 18446744073709551616 xs * dval 18446744073709551616 ys))) := by
  have n0 : ((n : Int) == 0) = false := beq_eq_false_iff_ne.2 (by omega)
  have l0 : ((l : Int) == 0) = false := beq_eq_false_iff_ne.2 (by omega)
  have l1 : ((l : Int) == 1) = false := beq_eq_false_iff_ne.2 (by omega)
  have Con := hide (fun W (h : Below w.heap.size w W) => alias_rows base bx m n z (.slice A n c) W (hz.fr (Fr.of_below h (fun _ => False)) (fun _ _ h => h)) (hx.below h).room_n hax)
  have Cony := hide (fun W (h : Below w.heap.size w W) => alias_rows base by_ m l z (.slice B l d) W (hz.fr (Fr.of_below h (fun _ => False)) (fun _ _ h => h)) (hy.below h).room_n hay)
  have HA := hide (And.intro hax hay)
  have HX := hide (And.intro hz (And.intro hx (And.intro hy (And.intro hdx (And.intro hdy (And.intro hv (And.intro hn hl)))))))
  clear hz hx hy hdx hdy hv hn hl hax hay
  go_enter_defers Tryz.func177, Tryz.ntmps177
  go_wp2_with fail
  refine (Con.out _ (Below.refl _ _)).mono ?_
  rintro e w9 ⟨rfl, j, hw9⟩
  have HB9 : Hid (Below w.heap.size w w9) := by rw [hw9]; exact below_drewN w j
  clear hw9 Con
  go_wp2_with fail
  refine (Cony.out _ HB9.out).mono ?_
  rintro e w0 ⟨rfl, j2, hw0⟩
  have HB0 : Hid (Below w.heap.size w w0) := below_next HB9.out (by rw [hw0]; exact below_drewN w9 j2)
  clear hw0 Cony HB9
  have Con2 := hide (make_any base z m ((n : Int) + (l : Int)) w0 (HX.out.1.fr (Fr.of_below HB0.out (fun _ => False)) (fun _ _ h => h)) (by have := HB0.out.size; omega) (by omega) (by omega))
  go_wp2_with fail
  refine (Con2.out).mono ?_
  rintro e w1 ⟨r0, rfl, hr0, hrb, hbel⟩
  rw [show ((n : Int) + (l : Int)).toNat = n + l by omega] at hr0
  rcases hr0.form with ⟨_, h1⟩ | ⟨g, cap, cur, rfl, hg, hh, ha, hcap, hs⟩
  · omega
  have hx1 : Own w1 bx (.slice A n c) xs := (HX.out.2.1.below HB0.out).below hbel
  have hy1 : Own w1 by_ (.slice B l d) ys := (HX.out.2.2.1.below HB0.out).below hbel
  have hrb2 : (Value.slice (some ⟨g, 0, none⟩) (n + l) cap).ownBlock = z.ownBlock ∧ Apart z (.slice A n c) ∧ Apart z (.slice B l d) ∨ g = w0.heap.size := by
    rcases hrb with h | h
    · exact .inl ⟨h, HA.out.1, HA.out.2⟩
    · exact .inr (by simpa [Value.ownBlock] using h)
  have hxg : ∀ k, (Value.slice A n c).ownBlock = some k → k ≠ g := by
    rintro k hk rfl
    rcases hrb2 with ⟨h, h2, _⟩ | e
    · exact h2 k (h.symm.trans rfl) hk
    · have := (HX.out.2.1.lt hk).2
      have := HB0.out.size
      omega
  have hyg : ∀ k, (Value.slice B l d).ownBlock = some k → k ≠ g := by
    rintro k hk rfl
    rcases hrb2 with ⟨h, _, h2⟩ | e
    · exact h2 k (h.symm.trans rfl) hk
    · have := (HX.out.2.2.1.lt hk).2
      have := HB0.out.size
      omega
  obtain ⟨_, _, v2, _⟩ := (HX.out.2.2.2.2.2.1.below HB0.out).below hbel
  have Con3 := hide (bm_any base g (n + l) n l cap c d A B cur xs ys w1 hg hh hs hcap (by omega) rfl ha HX.out.2.2.2.2.2.2.1 HX.out.2.2.2.2.2.2.2 (by omega) (by omega) hx1.rd hxg hy1.rd hyg HX.out.2.2.2.1 HX.out.2.2.2.2.1)
  have HB := hide (And.intro (below_next HB0.out hbel) (show (Value.slice (some ⟨g, 0, none⟩) (n + l) cap).ownBlock = z.ownBlock ∨ ∃ k, (Value.slice (some ⟨g, 0, none⟩) (n + l) cap).ownBlock = some k ∧ w.heap.size ≤ k from hrb2.imp (fun h => h.1) (fun e => ⟨g, rfl, by rw [e]; exact HB0.out.size⟩)))
  clear hr0 hrb hrb2 hbel hh hs hg hcap hx1 hy1 hxg hyg ha Con2 HX HB0
  go_wp2_with fail
  refine (Con3.out).mono ?_
  rintro e w2 ⟨rfl, R, hown, htr, hfr⟩
  have con4 := norm_own base _ _ _ hown
  rw [htr] at con4
  have Con4 := hide con4
  have HF := hide (Fr.step (Fr.of_below HB.out.1 (fun k => z.ownBlock = some k)) hfr (fun i hi (e : i = g) => by
    subst e
    rcases HB.out.2 with h | ⟨k, h, h2⟩
    · exact h.symm
    · have e : i = k := by simpa [Value.ownBlock] using h
      omega))
  clear con4 hown htr hfr Con3
  go_wp2_with fail
  refine (Con4.out).mono ?_
  rintro e w3 ⟨A3, c3, rfl, hown3, hblk3, rfl⟩
  have Fin : Hid (SetP w base z (digs 18446744073709551616 (dval 18446744073709551616 xs * dval 18446744073709551616 ys)) (.returned (.slice A3 (digs 18446744073709551616 (dval 18446744073709551616 xs * dval 18446744073709551616 ys)).length c3)) w2) := by
    refine ⟨A3, c3, rfl, hown3, ?_, HF.out⟩
    rw [hblk3]; exact HB.out.2
  clear hown3 hblk3 HF HB Con4
  generalize (digs 18446744073709551616 (dval 18446744073709551616 xs * dval 18446744073709551616 ys)).length = q at Fin ⊢
  go_wp2
  refine ⟨_, results_tmp (t := 8) rfl _ _ _, ?_⟩
  exact Fin.out

set_option maxHeartbeats 1000000 in
set_option maxRecDepth 20000 in
theorem mul_nearx (base bx by_ n l : Nat) (z stk : Value) (m : Nat) (A B : Option Addr) (c d : Nat) (xs ys : List Nat) (w : World) (hz : Room w base z m) (hb : base ≤ w.heap.size) (hx : Own w bx (.slice A n c) xs) (hy : Own w by_ (.slice B l d) ys) (hn : n = xs.length) (hl : l = ys.length) (hl2 : 2 ≤ l) (hln : l ≤ n) (hl39 : l ≤ 39) (hnb : n ≤ 1048576) (hax : z = .slice A n c) (hdx : Dig 18446744073709551616 xs) (hdy : Dig 18446744073709551616 ys) (hv : Vars w base) :
    Calls Tryz.prog 177 #[z, stk, .slice A n c, .slice B l d] w (SetP w base z (digs 18446744073709551616 (dval 18446744073709551616 xs * dval 18446744073709551616 ys))) := by
  have n0 : ((n : Int) == 0) = false := beq_eq_false_iff_ne.2 (by omega)
  have l0 : ((l : Int) == 0) = false := beq_eq_false_iff_ne.2 (by omega)
  have l1 : ((l : Int) == 1) = false := beq_eq_false_iff_ne.2 (by omega)
  have Con := hide (alias_self bx n c A xs w hx hn (by omega))
  have HX := hide (And.intro hz (And.intro hx (And.intro hy (And.intro hdx (And.intro hdy (And.intro hv (And.intro hn hl)))))))
  clear hz hx hy hdx hdy hv hn hl
  subst hax
  go_enter_defers Tryz.func177, Tryz.ntmps177
  go_wp2_with fail
  refine (Con.out).mono ?_
  rintro e w0 ⟨rfl, j, hw0⟩
  have HB0 : Hid (Below w.heap.size w w0) := by rw [hw0]; exact below_drewN w j
  clear hw0 Con
  have Con2 := hide (make_any base (.slice none 0 0) 0 ((n : Int) + (l : Int)) w0 ((Own.nil _ _).room) (by have := HB0.out.size; omega) (by omega) (by omega))
  go_wp2_with fail
  refine (Con2.out).mono ?_
  rintro e w1 ⟨r0, rfl, hr0, hrb, hbel⟩
  rw [show ((n : Int) + (l : Int)).toNat = n + l by omega] at hr0
  rcases hr0.form with ⟨_, h1⟩ | ⟨g, cap, cur, rfl, hg, hh, ha, hcap, hs⟩
  · omega
  have hx1 : Own w1 bx (.slice A n c) xs := (HX.out.2.1.below HB0.out).below hbel
  have hy1 : Own w1 by_ (.slice B l d) ys := (HX.out.2.2.1.below HB0.out).below hbel
  have hrb2 : (Value.slice (some ⟨g, 0, none⟩) (n + l) cap).ownBlock = (Value.slice A n c).ownBlock ∧ Apart (Value.slice A n c) (.slice A n c) ∧ Apart (Value.slice A n c) (.slice B l d) ∨ g = w0.heap.size := by
    rcases hrb with h | h
    · cases h
    · exact .inr (by simpa [Value.ownBlock] using h)
  have hxg : ∀ k, (Value.slice A n c).ownBlock = some k → k ≠ g := by
    rintro k hk rfl
    rcases hrb2 with ⟨h, h2, _⟩ | e
    · exact h2 k (h.symm.trans rfl) hk
    · have := (HX.out.2.1.lt hk).2
      have := HB0.out.size
      omega
  have hyg : ∀ k, (Value.slice B l d).ownBlock = some k → k ≠ g := by
    rintro k hk rfl
    rcases hrb2 with ⟨h, _, h2⟩ | e
    · exact h2 k (h.symm.trans rfl) hk
    · have := (HX.out.2.2.1.lt hk).2
      have := HB0.out.size
      omega
  obtain ⟨_, _, v2, _⟩ := (HX.out.2.2.2.2.2.1.below HB0.out).below hbel
  have Con3 := hide (bm_any base g (n + l) n l cap c d A B cur xs ys w1 hg hh hs hcap (by omega) rfl ha HX.out.2.2.2.2.2.2.1 HX.out.2.2.2.2.2.2.2 (by omega) (by omega) hx1.rd hxg hy1.rd hyg HX.out.2.2.2.1 HX.out.2.2.2.2.1)
  have HB := hide (And.intro (below_next HB0.out hbel) (show (Value.slice (some ⟨g, 0, none⟩) (n + l) cap).ownBlock = (Value.slice A n c).ownBlock ∨ ∃ k, (Value.slice (some ⟨g, 0, none⟩) (n + l) cap).ownBlock = some k ∧ w.heap.size ≤ k from hrb2.imp (fun h => h.1) (fun e => ⟨g, rfl, by rw [e]; exact HB0.out.size⟩)))
  clear hr0 hrb hrb2 hbel hh hs hg hcap hx1 hy1 hxg hyg ha Con2 HX HB0
  go_wp2_with fail
  refine (Con3.out).mono ?_
  rintro e w2 ⟨rfl, R, hown, htr, hfr⟩
  have con4 := norm_own base _ _ _ hown
  rw [htr] at con4
  have Con4 := hide con4
  have HF := hide (Fr.step (Fr.of_below HB.out.1 (fun k => (Value.slice A n c).ownBlock = some k)) hfr (fun i hi (e : i = g) => by
    subst e
    rcases HB.out.2 with h | ⟨k, h, h2⟩
    · exact h.symm
    · have e : i = k := by simpa [Value.ownBlock] using h
      omega))
  clear con4 hown htr hfr Con3
  go_wp2_with fail
  refine (Con4.out).mono ?_
  rintro e w3 ⟨A3, c3, rfl, hown3, hblk3, rfl⟩
  have Fin : Hid (SetP w base (.slice A n c) (digs 18446744073709551616 (dval 18446744073709551616 xs * dval 18446744073709551616 ys)) (.returned (.slice A3 (digs 18446744073709551616 (dval 18446744073709551616 xs * dval 18446744073709551616 ys)).length c3)) w2) := by
    refine ⟨A3, c3, rfl, hown3, ?_, HF.out⟩
    rw [hblk3]; exact HB.out.2
  clear hown3 hblk3 HF HB Con4
  generalize (digs 18446744073709551616 (dval 18446744073709551616 xs * dval 18446744073709551616 ys)).length = q at Fin ⊢
  go_wp2
  refine ⟨_, results_tmp (t := 8) rfl _ _ _, ?_⟩
  exact Fin.out

set_option maxHeartbeats 1000000 in
set_option maxRecDepth 20000 in
theorem mul_neary (base bx by_ n l : Nat) (z stk : Value) (m : Nat) (A B : Option Addr) (c d : Nat) (xs ys : List Nat) (w : World) (hz : Room w base z m) (hb : base ≤ w.heap.size) (hx : Own w bx (.slice A n c) xs) (hy : Own w by_ (.slice B l d) ys) (hn : n = xs.length) (hl : l = ys.length) (hl2 : 2 ≤ l) (hln : l ≤ n) (hl39 : l ≤ 39) (hnb : n ≤ 1048576) (hax : Apart z (.slice A n c)) (hay : z = .slice B l d) (hdx : Dig 18446744073709551616 xs) (hdy : Dig 18446744073709551616 ys) (hv : Vars w base) :
    Calls Tryz.prog 177 #[z, stk, .slice A n c, .slice B l d] w (SetP w base z (digs 18446744073709551616 (dval 18446744073709551616 xs * dval 18446744073709551616 ys))) := by
  have n0 : ((n : Int) == 0) = false := beq_eq_false_iff_ne.2 (by omega)
  have l0 : ((l : Int) == 0) = false := beq_eq_false_iff_ne.2 (by omega)
  have l1 : ((l : Int) == 1) = false := beq_eq_false_iff_ne.2 (by omega)
  have Con := hide (alias_rows base bx m n z (.slice A n c) w hz hx.room_n hax)
  have Cony := hide (fun W (h : Below w.heap.size w W) => alias_self by_ l d B ys W (hy.below h) hl (by omega))
  have HX := hide (And.intro hz (And.intro hx (And.intro hy (And.intro hdx (And.intro hdy (And.intro hv (And.intro hn hl)))))))
  clear hz hx hy hdx hdy hv hn hl hax
  subst hay
  go_enter_defers Tryz.func177, Tryz.ntmps177
  go_wp2_with fail
  refine (Con.out).mono ?_
  rintro e w9 ⟨rfl, j, hw9⟩
  have HB9 : Hid (Below w.heap.size w w9) := by rw [hw9]; exact below_drewN w j
  clear hw9 Con
  go_wp2_with fail
  refine (Cony.out _ HB9.out).mono ?_
  rintro e w0 ⟨rfl, j2, hw0⟩
  have HB0 : Hid (Below w.heap.size w w0) := below_next HB9.out (by rw [hw0]; exact below_drewN w9 j2)
  clear hw0 Cony HB9
  have Con2 := hide (make_any base (.slice none 0 0) 0 ((n : Int) + (l : Int)) w0 ((Own.nil _ _).room) (by have := HB0.out.size; omega) (by omega) (by omega))
  go_wp2_with fail
  refine (Con2.out).mono ?_
  rintro e w1 ⟨r0, rfl, hr0, hrb, hbel⟩
  rw [show ((n : Int) + (l : Int)).toNat = n + l by omega] at hr0
  rcases hr0.form with ⟨_, h1⟩ | ⟨g, cap, cur, rfl, hg, hh, ha, hcap, hs⟩
  · omega
  have hx1 : Own w1 bx (.slice A n c) xs := (HX.out.2.1.below HB0.out).below hbel
  have hy1 : Own w1 by_ (.slice B l d) ys := (HX.out.2.2.1.below HB0.out).below hbel
  have hrb2 : (Value.slice (some ⟨g, 0, none⟩) (n + l) cap).ownBlock = (Value.slice B l d).ownBlock ∧ Apart (Value.slice B l d) (.slice A n c) ∧ Apart (Value.slice B l d) (.slice B l d) ∨ g = w0.heap.size := by
    rcases hrb with h | h
    · cases h
    · exact .inr (by simpa [Value.ownBlock] using h)
  have hxg : ∀ k, (Value.slice A n c).ownBlock = some k → k ≠ g := by
    rintro k hk rfl
    rcases hrb2 with ⟨h, h2, _⟩ | e
    · exact h2 k (h.symm.trans rfl) hk
    · have := (HX.out.2.1.lt hk).2
      have := HB0.out.size
      omega
  have hyg : ∀ k, (Value.slice B l d).ownBlock = some k → k ≠ g := by
    rintro k hk rfl
    rcases hrb2 with ⟨h, _, h2⟩ | e
    · exact h2 k (h.symm.trans rfl) hk
    · have := (HX.out.2.2.1.lt hk).2
      have := HB0.out.size
      omega
  obtain ⟨_, _, v2, _⟩ := (HX.out.2.2.2.2.2.1.below HB0.out).below hbel
  have Con3 := hide (bm_any base g (n + l) n l cap c d A B cur xs ys w1 hg hh hs hcap (by omega) rfl ha HX.out.2.2.2.2.2.2.1 HX.out.2.2.2.2.2.2.2 (by omega) (by omega) hx1.rd hxg hy1.rd hyg HX.out.2.2.2.1 HX.out.2.2.2.2.1)
  have HB := hide (And.intro (below_next HB0.out hbel) (show (Value.slice (some ⟨g, 0, none⟩) (n + l) cap).ownBlock = (Value.slice B l d).ownBlock ∨ ∃ k, (Value.slice (some ⟨g, 0, none⟩) (n + l) cap).ownBlock = some k ∧ w.heap.size ≤ k from hrb2.imp (fun h => h.1) (fun e => ⟨g, rfl, by rw [e]; exact HB0.out.size⟩)))
  clear hr0 hrb hrb2 hbel hh hs hg hcap hx1 hy1 hxg hyg ha Con2 HX HB0
  go_wp2_with fail
  refine (Con3.out).mono ?_
  rintro e w2 ⟨rfl, R, hown, htr, hfr⟩
  have con4 := norm_own base _ _ _ hown
  rw [htr] at con4
  have Con4 := hide con4
  have HF := hide (Fr.step (Fr.of_below HB.out.1 (fun k => (Value.slice B l d).ownBlock = some k)) hfr (fun i hi (e : i = g) => by
    subst e
    rcases HB.out.2 with h | ⟨k, h, h2⟩
    · exact h.symm
    · have e : i = k := by simpa [Value.ownBlock] using h
      omega))
  clear con4 hown htr hfr Con3
  go_wp2_with fail
  refine (Con4.out).mono ?_
  rintro e w3 ⟨A3, c3, rfl, hown3, hblk3, rfl⟩
  have Fin : Hid (SetP w base (.slice B l d) (digs 18446744073709551616 (dval 18446744073709551616 xs * dval 18446744073709551616 ys)) (.returned (.slice A3 (digs 18446744073709551616 (dval 18446744073709551616 xs * dval 18446744073709551616 ys)).length c3)) w2) := by
    refine ⟨A3, c3, rfl, hown3, ?_, HF.out⟩
    rw [hblk3]; exact HB.out.2
  clear hown3 hblk3 HF HB Con4
  generalize (digs 18446744073709551616 (dval 18446744073709551616 xs * dval 18446744073709551616 ys)).length = q at Fin ⊢
  go_wp2
  refine ⟨_, results_tmp (t := 8) rfl _ _ _, ?_⟩
  exact Fin.out
end Go.Proofs.YtfkcobdkgjhfaaaGreatDoor

/- Walks: nat.mul at few words, whatever the words; z may be one of the factors. -/
set_option linter.unusedVariables false
set_option linter.unusedSimpArgs false
namespace Go.Proofs.YtfkcobdkgjhfaaaGreatDoor
open Go.RowKit

theorem Apart.symm {z x : Value} (h : Apart z x) : Apart x z := fun k hk e => h k e hk

set_option maxHeartbeats 1000000 in
set_option maxRecDepth 20000 in
theorem mul_zero (base n : Nat) (z stk : Value) (m : Nat) (A B : Option Addr) (c d : Nat) (v : Nat) (w : World) (hz : Room w base z m) (hv : v = 0) :
    Calls Tryz.prog 177 #[z, stk, .slice A n c, .slice B 0 d] w (SetP w base z (digs 18446744073709551616 v)) := by
  obtain ⟨Az, cap, rfl⟩ := hz.slice
  have HH : Hid (SetP w base (.slice Az m cap) (digs 18446744073709551616 v) (.returned (.slice Az 0 cap)) w) := by
    rw [hv, digs_zero]
    exact ⟨Az, cap, rfl, (room_cut hz (Nat.zero_le _)).empty, .inl (by cases Az <;> rfl), Fr.refl _ _⟩
  clear hz hv
  by_cases n0 : ((n : Int) == 0) = true
  · go_enter_defers Tryz.func177, Tryz.ntmps177
    go_wp2
    refine ⟨_, results_tmp (t := 8) rfl _ _ _, ?_⟩
    exact HH.out
  · have n1 : ((n : Int) == 0) = false := by simpa using n0
    clear n0
    go_enter_defers Tryz.func177, Tryz.ntmps177
    go_wp2
    refine ⟨_, results_tmp (t := 8) rfl _ _ _, ?_⟩
    exact HH.out

set_option maxHeartbeats 1000000 in
set_option maxRecDepth 20000 in
theorem mul_one (base bx n y : Nat) (z stk : Value) (m : Nat) (A B : Option Addr) (c d : Nat) (xs : List Nat) (w : World) (hz : Room w base z m) (hb : base ≤ w.heap.size) (hx : Own w bx (.slice A n c) xs) (hy : RdW w (.slice B 1 d) [y]) (hn : n = xs.length) (hn1 : 1 ≤ n) (hnb : n ≤ 1048576)
    (hal : Apart z (.slice A n c) ∨ z = .slice A n c) (hy1 : 1 ≤ y) (hyl : y < 18446744073709551616) (hd : Dig 18446744073709551616 xs) :
    Calls Tryz.prog 177 #[z, stk, .slice A n c, .slice B 1 d] w (SetP w base z (digs 18446744073709551616 (dval 18446744073709551616 xs * y))) := by
  obtain ⟨gy, o, rfl, _, hcell⟩ := RdG.at_ (k := .u64) (xs := [y]) hy 0 (by simp)
  have y0 : w.cell? ⟨gy, o, none⟩ = some (.int .u64 (y : Int)) := by simpa using hcell
  have n0 : ((n : Int) == 0) = false := beq_eq_false_iff_ne.2 (by omega)
  have hal2 : Apart z (.slice A n c) ∨ z = .slice A m c := by
    rcases hal with h | h
    · exact .inl h
    · subst h
      obtain ⟨B, q, e⟩ := hz.slice
      injection e with _ e
      subst e
      exact .inr rfl
  have con : Calls Tryz.prog 210 #[z, .slice A n c, .int .u64 (y : Int), .int .u64 0] w (SetP w base z (digs 18446744073709551616 (dval 18446744073709551616 xs * y + 0))) :=
    maWW_any base bx n y 0 z m A c xs w hz hb hx hn hn1 hnb hal2 hy1 hyl (by omega) hd
  rw [Nat.add_zero] at con
  have Con := hide con
  clear con hcell hy hx hz hal hal2 hn hd
  go_enter_defers Tryz.func177, Tryz.ntmps177
  go_wp2_with fail
  refine (Con.out).mono ?_
  rintro e w1 ⟨R, cr, rfl, h⟩
  have Fin : Hid (SetP w base z (digs 18446744073709551616 (dval 18446744073709551616 xs * y)) (.returned (.slice R (digs 18446744073709551616 (dval 18446744073709551616 xs * y)).length cr)) w1) := ⟨R, cr, rfl, h⟩
  clear h Con
  generalize (digs 18446744073709551616 (dval 18446744073709551616 xs * y)).length = q at Fin ⊢
  go_wp2
  refine ⟨_, results_tmp (t := 8) rfl _ _ _, ?_⟩
  exact Fin.out

/-- The first factor is not the shorter one. -/
theorem mul_ge (base bx by_ n l : Nat) (z stk : Value) (m : Nat) (A B : Option Addr) (c d : Nat) (xs ys : List Nat) (w : World) (hz : Room w base z m) (hb : base ≤ w.heap.size) (hx : Own w bx (.slice A n c) xs) (hy : Own w by_ (.slice B l d) ys) (hn : n = xs.length) (hl : l = ys.length)
    (hln : l ≤ n) (hnb : n ≤ 39) (hax : Apart z (.slice A n c) ∨ z = .slice A n c) (hay : Apart z (.slice B l d) ∨ z = .slice B l d) (hdx : Dig 18446744073709551616 xs) (hdy : Dig 18446744073709551616 ys) (hcy : Canon ys) (hv : Vars w base) :
    Calls Tryz.prog 177 #[z, stk, .slice A n c, .slice B l d] w (SetP w base z (digs 18446744073709551616 (dval 18446744073709551616 xs * dval 18446744073709551616 ys))) := by
  by_cases l0 : l = 0
  · subst l0
    obtain rfl := List.eq_nil_of_length_eq_zero hl.symm
    exact mul_zero base n z stk m A B c d _ w hz (by simp [dval])
  · by_cases l1 : l = 1
    · subst l1
      obtain ⟨y, rfl⟩ := List.length_eq_one_iff.1 hl.symm
      have e : dval 18446744073709551616 [y] = y := by simp [dval]
      have hy1 : 1 ≤ y := by
        have := dval_pos (b := 18446744073709551616) (by omega) hcy (by simp)
        omega
      rw [e]
      exact mul_one base bx n y z stk m A B c d xs w hz hb hx hy.rd hn (by omega) (by omega) hax hy1 (hdy y (by simp)) hdx
    · rcases hax with hax | hax
      · rcases hay with hay | hay
        · exact mul_far base bx by_ n l z stk m A B c d xs ys w hz hb hx hy hn hl (by omega) hln (by omega) (by omega) hax hay hdx hdy hv
        · exact mul_neary base bx by_ n l z stk m A B c d xs ys w hz hb hx hy hn hl (by omega) hln (by omega) (by omega) hax hay hdx hdy hv
      · exact mul_nearx base bx by_ n l z stk m A B c d xs ys w hz hb hx hy hn hl (by omega) hln (by omega) (by omega) hax hdx hdy hv

set_option maxHeartbeats 1000000 in
set_option maxRecDepth 20000 in
theorem mul_any2 (base bx by_ n l : Nat) (z stk : Value) (m : Nat) (A B : Option Addr) (c d : Nat) (xs ys : List Nat) (w : World) (hz : Room w base z m) (hb : base ≤ w.heap.size) (hx : Own w bx (.slice A n c) xs) (hy : Own w by_ (.slice B l d) ys) (hn : n = xs.length) (hl : l = ys.length)
    (hnb : n ≤ 39) (hlb : l ≤ 39) (hax : Apart z (.slice A n c) ∨ z = .slice A n c) (hay : Apart z (.slice B l d) ∨ z = .slice B l d) (hdx : Dig 18446744073709551616 xs) (hdy : Dig 18446744073709551616 ys) (hcx : Canon xs) (hcy : Canon ys) (hv : Vars w base) :
    Calls Tryz.prog 177 #[z, stk, .slice A n c, .slice B l d] w (SetP w base z (digs 18446744073709551616 (dval 18446744073709551616 xs * dval 18446744073709551616 ys))) := by
  by_cases hln : l ≤ n
  · exact mul_ge base bx by_ n l z stk m A B c d xs ys w hz hb hx hy hn hl hln hnb hax hay hdx hdy hcy hv
  · have con := mul_ge base by_ bx l n z stk m B A d c ys xs w hz hb hy hx hl hn (by omega) hlb hay hax hdy hdx hcx hv
    rw [Nat.mul_comm] at con
    have Con := hide con
    have hlt : n < l := by omega
    clear con hz hx hy hn hl hax hay hdx hdy hcx hcy hv hln
    go_enter_defers Tryz.func177, Tryz.ntmps177
    go_wp2_with fail
    refine (Con.out).mono ?_
    rintro e w1 ⟨R, cr, rfl, h⟩
    have Fin : Hid (SetP w base z (digs 18446744073709551616 (dval 18446744073709551616 xs * dval 18446744073709551616 ys)) (.returned (.slice R (digs 18446744073709551616 (dval 18446744073709551616 xs * dval 18446744073709551616 ys)).length cr)) w1) := ⟨R, cr, rfl, h⟩
    clear h Con
    generalize (digs 18446744073709551616 (dval 18446744073709551616 xs * dval 18446744073709551616 ys)).length = q at Fin ⊢
    go_wp2
    refine ⟨_, results_tmp (t := 8) rfl _ _ _, ?_⟩
    exact Fin.out
end Go.Proofs.YtfkcobdkgjhfaaaGreatDoor

/- Plain arithmetic under the binary power, from the highest bit down. -/
set_option linter.unusedVariables false
set_option linter.unusedSimpArgs false
namespace Go.Proofs.YtfkcobdkgjhfaaaGreatDoor

theorem exp_round {n e r t v : Nat} (hr : r < 64) (hn : n = e * 2 ^ (r + 1) + t) (ht : t < 2 ^ (r + 1)) (hv : v = t * 2 ^ (63 - r)) :
    v < 18446744073709551616 ∧ ((9223372036854775808 ≤ v ∧ ∃ t', n = (2 * e + 1) * 2 ^ r + t' ∧ t' < 2 ^ r ∧ v * 2 % 18446744073709551616 = t' * 2 ^ (64 - r)) ∨
      (v < 9223372036854775808 ∧ ∃ t', n = 2 * e * 2 ^ r + t' ∧ t' < 2 ^ r ∧ v * 2 % 18446744073709551616 = t' * 2 ^ (64 - r))) := by
  have h1 : 2 ^ r * 2 ^ (63 - r) = 9223372036854775808 := by rw [← Nat.pow_add, show r + (63 - r) = 63 by omega]
  have h2 : 2 ^ (64 - r) = 2 * 2 ^ (63 - r) := by rw [show 64 - r = (63 - r) + 1 by omega, Nat.pow_succ, Nat.mul_comm]
  rw [Nat.pow_succ] at hn ht
  rw [h2]
  generalize hp : 2 ^ r = p at *
  generalize hq : 2 ^ (63 - r) = q at *
  have hq0 : 0 < q := by rw [← hq]; exact Nat.pow_pos (by omega)
  have hlt : v < 18446744073709551616 := by
    have : (t + 1) * q ≤ p * 2 * q := Nat.mul_le_mul_right q ht
    have e1 : p * 2 * q = 2 * (p * q) := by grind
    have e2 : (t + 1) * q = t * q + q := by grind
    omega
  refine ⟨hlt, ?_⟩
  by_cases hc : p ≤ t
  · left
    obtain ⟨u, rfl⟩ : ∃ u, t = p + u := ⟨t - p, by omega⟩
    have e1 : (p + u) * q = p * q + u * q := by grind
    have e2 : u * (2 * q) = 2 * (u * q) := by grind
    have e3 : e * (p * 2) = 2 * e * p := by grind
    have e4 : (2 * e + 1) * p = 2 * e * p + p := by grind
    refine ⟨by omega, u, by omega, by omega, ?_⟩
    rw [e2, hv, e1, h1]
    generalize u * q = uq at *
    omega
  · right
    have e2 : t * (2 * q) = 2 * (t * q) := by grind
    have e3 : e * (p * 2) = 2 * e * p := by grind
    have h3 : (t + 1) * q ≤ p * q := Nat.mul_le_mul_right q (by omega)
    have e4 : (t + 1) * q = t * q + q := by grind
    refine ⟨by omega, t, by omega, by omega, ?_⟩
    rw [e2, hv]
    generalize t * q = tq at *
    omega

theorem exp_start {n s : Nat} (hs : s ≤ 63) (h0 : 9223372036854775808 ≤ n * 2 ^ s) (h1 : n * 2 ^ s < 18446744073709551616) :
    ∃ t, n = 1 * 2 ^ (63 - s) + t ∧ t < 2 ^ (63 - s) ∧ n * 2 ^ (s + 1) % 18446744073709551616 = t * 2 ^ (64 - (63 - s)) := by
  have e1 : 2 ^ (63 - s) * 2 ^ s = 9223372036854775808 := by rw [← Nat.pow_add, show 63 - s + s = 63 by omega]
  have e2 : 2 ^ (64 - (63 - s)) = 2 * 2 ^ s := by rw [show 64 - (63 - s) = s + 1 by omega, Nat.pow_succ, Nat.mul_comm]
  rw [e2, Nat.pow_succ]
  have hp0 : 0 < 2 ^ s := Nat.pow_pos (by omega)
  generalize 2 ^ (63 - s) = p at *
  generalize 2 ^ s = q at *
  have hge : p ≤ n := by
    rcases Nat.lt_or_ge n p with h | h
    · have : (n + 1) * q ≤ p * q := Nat.mul_le_mul_right q h
      have e3 : (n + 1) * q = n * q + q := by grind
      omega
    · exact h
  obtain ⟨t, rfl⟩ : ∃ t, n = p + t := ⟨n - p, by omega⟩
  have e3 : (p + t) * q = p * q + t * q := by grind
  have ht : t < p := by
    rcases Nat.lt_or_ge t p with h | h
    · exact h
    · have : p * q ≤ t * q := Nat.mul_le_mul_right q h
      omega
  refine ⟨t, by omega, ht, ?_⟩
  have e4 : (p + t) * (q * 2) = 2 * (p * q) + 2 * (t * q) := by grind
  have e5 : t * (2 * q) = 2 * (t * q) := by grind
  have : (t + 1) * q ≤ p * q := Nat.mul_le_mul_right q ht
  have e6 : (t + 1) * q = t * q + q := by grind
  rw [e4, e5]
  generalize t * q = tq at *
  omega
theorem pow10_lt {k n m : Nat} (h : k ≤ n) (hn : 10 ^ n < m) : 10 ^ k < m := Nat.lt_of_le_of_lt (Nat.pow_le_pow_right (by omega) h) hn

theorem pow_half_lt {k q p : Nat} (hk : k ≤ q + q) (h : 10 ^ q < p) : 10 ^ k < p * p :=
  Nat.lt_of_le_of_lt (Nat.pow_le_pow_right (by omega) hk) (by rw [Nat.pow_add]; exact Nat.mul_lt_mul'' h h)

end Go.Proofs.YtfkcobdkgjhfaaaGreatDoor
