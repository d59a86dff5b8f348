/- Parts of the proofs: KnDiv0, KnVarD, KnDiv1, KnDiv2. -/
import Derived.Test.YtfkcobdkgjhfaaaGreatDoorG19
import Derived.Test.YtfkcobdkgjhfaaaGreatDoorG26
import Derived.Test.YtfkcobdkgjhfaaaGreatDoorG56
import Derived.Test.YtfkcobdkgjhfaaaGreatDoorG68
/- Walk: nat.div of a number that is below its divisor of several words. -/
set_option linter.unusedVariables false
set_option linter.unusedSimpArgs false
namespace Go.Proofs.YtfkcobdkgjhfaaaGreatDoor
open Go.RowKit

set_option maxHeartbeats 1000000 in
set_option maxRecDepth 20000 in
theorem divLt_any (base : Nat) (z z2 : Value) (mz m2 y : Nat) (A B : Option Addr) (c cv a : Nat) (w : World) (hz : Room w base z mz) (hz2 : Room w base z2 m2) (hzz : ∀ k, z.ownBlock = some k → z2.ownBlock ≠ some k) (hb : base ≤ w.heap.size) (hna : (digs 18446744073709551616 a).length ≤ 1000) (hny : (digs 18446744073709551616 y).length ≤ 1000) (hn2 : 2 ≤ (digs 18446744073709551616 y).length) (hlt : a < y)
    (hx : RdW w (.slice A (digs 18446744073709551616 a).length c) (digs 18446744073709551616 a)) (hy : RdW w (.slice B (digs 18446744073709551616 y).length cv) (digs 18446744073709551616 y)) :
    Calls Tryz.prog 123 #[z, .pointer none, z2, .slice A (digs 18446744073709551616 a).length c, .slice B (digs 18446744073709551616 y).length cv] w (QrP w base z z2 a y) := by
  have con1 := ncmp_any A B c cv a y w hx hy (by omega) (by omega)
  unfold CmpP at con1
  rw [cmpI_lt hlt] at con1
  have con2 : ∀ W, Below w.heap.size w W → Calls Tryz.prog 116 #[z2, .slice A (digs 18446744073709551616 a).length c] W (SetP W base z2 (digs 18446744073709551616 a)) := fun W hW => set_any base z2 m2 (.slice A (digs 18446744073709551616 a).length c) (digs 18446744073709551616 a) W (hz2.fr (Fr.of_below hW (fun _ => False)) (fun _ _ h => h)) (RdG.below (k := .u64) hx hW) (Nat.le_trans hb hW.size) (by omega)
  obtain ⟨Az, cz, rfl⟩ := hz.slice
  have e1 : a / y = 0 := Nat.div_eq_of_lt hlt
  have e2 : a % y = a := Nat.mod_eq_of_lt hlt
  have hoz : Own w base (.slice Az 0 cz) [] := by
    rcases (room_cut hz (Nat.zero_le cz)).form with ⟨h, -⟩ | ⟨g, cap, cur, h, hg, hB, h1, h2, h3⟩
    · rw [h]; exact Own.nil _ _
    · rw [h]; exact Own.mk (xs := []) hg hB h1 h2 h3 (by simp [wv])
  have Con1 := hide con1
  have Con2 := hide con2
  have HZ := hide (And.intro hoz (And.intro hzz (And.intro e1 e2)))
  obtain ⟨l, hl⟩ : ∃ l, l = (digs 18446744073709551616 y).length := ⟨_, rfl⟩
  have b1 : ((l : Int) == 0) = false := beq_eq_false_iff_ne.2 (by omega)
  have b2 : ((l : Int) == 1) = false := beq_eq_false_iff_ne.2 (by omega)
  have hc0 : 0 ≤ cz := Nat.zero_le _
  have HL := hide hl
  rw [← hl] at Con1 ⊢
  clear con1 con2 hz hz2 hzz hb hna hny hn2 hlt hx hy e1 e2 hoz hl
  go_enter_defers Tryz.func123, Tryz.ntmps123
  go_wp2_with fail
  refine (Con1.out).mono ?_
  rintro e w1 ⟨rfl, hb1⟩
  have Con3 := hide (Con2.out w1 hb1)
  have HB := hide hb1
  clear Con1 Con2 hb1
  go_wp2_with fail
  refine (Con3.out).mono ?_
  rintro e w2 ⟨R, cr, rfl, hr, hrb, hf⟩
  have hob : (Value.slice Az 0 cz).ownBlock = (Value.slice Az mz cz).ownBlock := by cases Az <;> rfl
  have Fin : Hid (QrP w base (.slice Az mz cz) z2 a y (.returned (.tuple #[.slice Az 0 cz, .slice R (digs 18446744073709551616 a).length cr])) w2) := by
    have hb1 := HB.out
    have hoz1 := HZ.out.1.below hb1
    have e0 : digs 18446744073709551616 0 = [] := digs_zero _
    refine ⟨Az, R, cz, cr, ?_, ?_, ?_, .inl ?_, ?_, ?_, ?_⟩
    · rw [HZ.out.2.2.1, HZ.out.2.2.2, e0]; rfl
    · rw [HZ.out.2.2.1, e0]
      exact hoz1.fr hf (fun k hk h => HZ.out.2.1 k (hob ▸ hk) h)
    · rw [HZ.out.2.2.2]; exact hr
    · rw [HZ.out.2.2.1, e0]; exact hob
    · rw [HZ.out.2.2.2]
      exact hrb.imp id (fun ⟨k, h1, h2⟩ => ⟨k, h1, by have := hb1.size; omega⟩)
    · intro k hk h
      rw [HZ.out.2.2.1, e0] at hk
      rw [HZ.out.2.2.2] at h
      rcases hrb with h1 | ⟨k', h1, h2⟩
      · exact HZ.out.2.1 k (hob ▸ hk) (h1 ▸ h)
      · rw [h1] at h
        obtain rfl := Option.some.inj h
        have := (hoz1.lt hk).2
        omega
    · exact Fr.step (Fr.of_below hb1 _) hf (fun _ _ h => .inr h)
  clear hr hrb hf Con3 HB HZ
  generalize (digs 18446744073709551616 a).length = la at *
  go_wp2
  refine ⟨_, results_tmp2 (t := 10) (u := 11) rfl _ _ _, ?_⟩
  exact Fin.out
end Go.Proofs.YtfkcobdkgjhfaaaGreatDoor

/- The variables' cells that the walks of a division by several words read. -/
set_option linter.unusedVariables false
set_option linter.unusedSimpArgs false
namespace Go.Proofs.YtfkcobdkgjhfaaaGreatDoor
open Go.RowKit

structure VarsD (w : World) (base : Nat) : Prop where
  l : VarsL w base
  c : w.cell? ⟨0, 0, none⟩ = some (.int .i64 40)
  b : 0 < base
theorem VarsD.fr {w w' : World} {base : Nat} {S : Nat → Prop} (h : VarsD w base) (hf : Fr w w' S) (hs : ∀ k, S k → base ≤ k) : VarsD w' base :=
  ⟨h.l.fr hf hs, hf.cell h.c (fun hk => by have h1 : base ≤ 0 := hs _ hk; have := h.b; omega), h.b⟩
theorem VarsD.below {w w' : World} {base : Nat} (h : VarsD w base) (hb : Below w.heap.size w w') : VarsD w' base := h.fr (Fr.of_below hb (fun _ => False)) (fun _ h => h.elim)
theorem VarsD.raise {w : World} {base b : Nat} (h : VarsD w base) (hb : base ≤ b) : VarsD w b := ⟨h.l.raise hb, h.c, by have := h.b; omega⟩
end Go.Proofs.YtfkcobdkgjhfaaaGreatDoor

/- Walk: nat.div of a number that is not below its divisor of two words or three. -/
set_option linter.unusedVariables false
set_option linter.unusedSimpArgs false
namespace Go.Proofs.YtfkcobdkgjhfaaaGreatDoor
open Go.RowKit

theorem QrP.frame {w w1 : World} {base a y : Nat} {z z2 : Value} {e : Ending} {w' : World} (hf : Fr w w1 (fun _ => False)) (h : QrP w1 base z z2 a y e w') : QrP w base z z2 a y e w' := by
  obtain ⟨Q, R, cq, cr, he, h1, h2, h3, h4, h5, h6⟩ := h
  have hs := hf.size
  exact ⟨Q, R, cq, cr, he, h1, h2, h3.imp id (fun ⟨k, a, b⟩ => ⟨k, a, by omega⟩), h4.imp id (fun ⟨k, a, b⟩ => ⟨k, a, by omega⟩), h5, Fr.step (hf.mono (fun _ _ h => h.elim)) h6 (fun _ _ h => h)⟩

set_option maxHeartbeats 1000000 in
set_option maxRecDepth 20000 in
theorem divGe_few (base : Nat) (z z2 : Value) (mz m2 y : Nat) (A B : Option Addr) (c cv a : Nat) (w : World) (hz : Room w base z mz) (hz2 : Room w base z2 m2) (hzz : ∀ k, z.ownBlock = some k → z2.ownBlock ≠ some k) (hb : base ≤ w.heap.size) (hna : (digs 18446744073709551616 a).length ≤ 900) (hn2 : 2 ≤ (digs 18446744073709551616 y).length) (hn3 : (digs 18446744073709551616 y).length ≤ 3) (hge : y ≤ a)
    (hx : RdW w (.slice A (digs 18446744073709551616 a).length c) (digs 18446744073709551616 a)) (hxb : ∀ k, (Value.slice A (digs 18446744073709551616 a).length c).ownBlock = some k → z.ownBlock ≠ some k ∧ z2.ownBlock ≠ some k) (hy : RdW w (.slice B (digs 18446744073709551616 y).length cv) (digs 18446744073709551616 y)) (hyb : ∀ k, (Value.slice B (digs 18446744073709551616 y).length cv).ownBlock = some k → z.ownBlock ≠ some k ∧ z2.ownBlock ≠ some k)
    (hvar : w.cell? ⟨0, 0, none⟩ = some (.int .i64 40)) (hvb : 0 < base) :
    Calls Tryz.prog 123 #[z, .pointer none, z2, .slice A (digs 18446744073709551616 a).length c, .slice B (digs 18446744073709551616 y).length cv] w (QrP w base z z2 a y) := by
  have con1 := ncmp_any A B c cv a y w hx hy (by omega) (by omega)
  unfold CmpP at con1
  obtain ⟨i, hi⟩ : ∃ i, i = cmpI a y := ⟨_, rfl⟩
  have hi0 : 0 ≤ i := by rw [hi]; unfold cmpI; rw [if_neg (by omega)]; split <;> omega
  rw [← hi] at con1
  have hly : (digs 18446744073709551616 y).length ≤ (digs 18446744073709551616 a).length := digs_length_mono (by omega) hge
  have con3 : ∀ W gs, Below w.heap.size w W → w.heap.size ≤ gs → W.heap.size ≤ gs + 1 → W.cell? ⟨gs, 0, none⟩ = some (.pointer none) → Calls Tryz.prog 145 #[z, .pointer (some ⟨gs, 0, none⟩), z2, .slice A (digs 18446744073709551616 a).length c, .slice B (digs 18446744073709551616 y).length cv] W (QrP W base z z2 a y) := fun W gs hW h1 h2 h3 =>
    divLarge_few base gs z z2 mz m2 _ _ A B c cv a y W h3 (.inr h2) ⟨fun h => by have := (hz.lt h).2; omega, fun h => by have := (hz2.lt h).2; omega⟩ (hz.fr (Fr.of_below hW (fun _ => False)) (fun _ _ h => h)) (hz2.fr (Fr.of_below hW (fun _ => False)) (fun _ _ h => h)) hzz (Nat.le_trans hb hW.size) rfl rfl hn2 hn3 hly hna (RdG.below (k := .u64) hx hW) hxb (RdG.below (k := .u64) hy hW) hyb (hW.cell (World.block_lt_of_cell? _ _ hvar) |>.trans hvar) hvb
  have Con1 := hide con1
  have Con3 := hide con3
  have HZ := hide (And.intro (fun k (hk : z.ownBlock = some k) => (hz.lt hk).2) (fun k (hk : z2.ownBlock = some k) => (hz2.lt hk).2))
  obtain ⟨l, hl⟩ : ∃ l, l = (digs 18446744073709551616 y).length := ⟨_, rfl⟩
  have b1 : ((l : Int) == 0) = false := beq_eq_false_iff_ne.2 (by omega)
  have b2 : ((l : Int) == 1) = false := beq_eq_false_iff_ne.2 (by omega)
  have hi1 : ¬ i < 0 := by omega
  rw [← hl] at Con1 Con3 ⊢
  obtain ⟨la, hla⟩ : ∃ l, l = (digs 18446744073709551616 a).length := ⟨_, rfl⟩
  rw [← hla] at Con1 Con3 ⊢
  clear con1 con3 hz hz2 hzz hb hna hn2 hn3 hge hx hxb hy hyb hvar hvb hl hla hly hi
  go_enter_defers Tryz.func123, Tryz.ntmps123
  go_wp2_with fail
  refine (Con1.out).mono ?_
  rintro e w1 ⟨rfl, hb1⟩
  have HB := hide hb1
  clear Con1 hb1
  have ConS := hide (getStack_any w1)
  go_wp2_with fail
  refine (ConS.out).mono ?_
  rintro e w2 ⟨rfl, hw2⟩
  have hb2 : Below w.heap.size w w2 := by rw [hw2]; exact below_al HB.out _
  have hst : Blk w2 w1.heap.size 203 #[.pointer none] := by rw [hw2]; exact Blk.new _ _ _
  have hsz2 : w2.heap.size ≤ w1.heap.size + 1 := by rw [hw2]; simp
  have hsg := HB.out.size
  obtain ⟨gs, hgs⟩ : ∃ g, g = w1.heap.size := ⟨_, rfl⟩
  rw [← hgs] at hst hsz2 hsg ⊢
  have Con4 := hide (Con3.out w2 gs hb2 hsg hsz2 (hst.cell 0))
  have HS := hide (And.intro hst (And.intro hb2 hsg))
  clear hst hb2 hsz2 hsg hw2 Con3 ConS hgs
  go_wp2_with fail
  refine (Con4.out).mono ?_
  rintro e w3 hq
  have hQ := QrP.frame (Fr.of_below HS.out.2.1 (fun _ => False)) hq
  obtain ⟨Q, R, cq, cr, rfl, -, -, -, -, -, h6⟩ := hq
  have hst3 : w3.cell? ⟨gs, 0, none⟩ = some (.pointer none) := (HS.out.1.fr h6 (fun h => by
    have h7 := HS.out.2.2
    rcases h with h | h
    · have := HZ.out.1 _ h; omega
    · have := HZ.out.2 _ h; omega)).cell 0
  have Fin := hide hQ
  clear hQ h6 HS HZ Con4
  generalize (digs 18446744073709551616 (a / y)).length = nq at *
  generalize (digs 18446744073709551616 (a % y)).length = nr at *
  go_wp2
  refine leaves_cons (f := 144) (args := #[.pointer (some ⟨gs, 0, none⟩)]) (by simp) (by simp [go_sem]) ?_
  refine (free_deferred gs .returning _ hst3).mono ?_
  rintro e1 u' w8 ⟨rfl, rfl, rfl⟩
  exact ⟨_, results_tmp2 (t := 10) (u := 11) rfl _ _ _, Fin.out⟩
end Go.Proofs.YtfkcobdkgjhfaaaGreatDoor

/- Walk: nat.div by any number above 0 of three words at most. -/
set_option linter.unusedVariables false
set_option linter.unusedSimpArgs false
namespace Go.Proofs.YtfkcobdkgjhfaaaGreatDoor
open Go.RowKit

/-- Behind divW. -/
def DwP (w : World) (base : Nat) (z : Value) (a y : Nat) (e : Ending) (w' : World) : Prop :=
  ∃ (Q : Option Addr) (cq : Nat), e = .returned (.tuple #[.slice Q (digs 18446744073709551616 (a / y)).length cq, .int .u64 ((a % y : Nat) : Int)]) ∧ Own w' base (.slice Q (digs 18446744073709551616 (a / y)).length cq) (digs 18446744073709551616 (a / y)) ∧
    ((Value.slice Q (digs 18446744073709551616 (a / y)).length cq).ownBlock = z.ownBlock ∨ ∃ k, (Value.slice Q (digs 18446744073709551616 (a / y)).length cq).ownBlock = some k ∧ w.heap.size ≤ k) ∧ Fr w w' (fun k => z.ownBlock = some k)

set_option maxHeartbeats 400000 in
theorem divW_one (base : Nat) (z : Value) (m : Nat) (A : Option Addr) (c a : Nat) (w : World) (hz : Room w base z m) (hb : base ≤ w.heap.size) (hnb : (digs 18446744073709551616 a).length ≤ 1000) (hx : RdW w (.slice A (digs 18446744073709551616 a).length c) (digs 18446744073709551616 a)) :
    Calls Tryz.prog 141 #[z, .slice A (digs 18446744073709551616 a).length c, .int .u64 1] w (DwP w base z a 1) := by
  have Con := hide (set_any base z m (.slice A (digs 18446744073709551616 a).length c) (digs 18446744073709551616 a) w hz hx hb (by omega))
  have e1 : a / 1 = a := Nat.div_one a
  have e2 : a % 1 = 0 := Nat.mod_one a
  have HE := hide (And.intro e1 e2)
  clear hz hb hnb hx e1 e2
  obtain ⟨lx, hlx⟩ : ∃ l, l = (digs 18446744073709551616 a).length := ⟨_, rfl⟩
  have HL := hide hlx
  rw [← hlx] at Con ⊢
  clear hlx
  go_enter Tryz.func141, Tryz.ntmps141
  go_wp2_with fail
  refine (Con.out).mono ?_
  rintro e w1 ⟨Q, cq, rfl, h1, h2, h3⟩
  have Fin : Hid (DwP w base z a 1 (.returned (.tuple #[.slice Q lx cq, .int .u64 0])) w1) := by
    have hl := HL.out
    rw [← hl] at h1 h2
    refine ⟨Q, cq, ?_, ?_, ?_, h3⟩
    · rw [HE.out.1, HE.out.2, hl]; rfl
    · rw [HE.out.1, ← hl]; exact h1
    · rw [HE.out.1, ← hl]; exact h2
  rw [← HL.out]
  clear h1 h2 h3 Con HL HE
  go_wp2
  go_ret2
  exact Fin.out

theorem divW_nil (base : Nat) (z : Value) (m y : Nat) (A : Option Addr) (c : Nat) (w : World) (hz : Room w base z m) (hy1 : 1 < y) :
    Calls Tryz.prog 141 #[z, .slice A 0 c, .int .u64 (y : Int)] w (DwP w base z 0 y) := by
  obtain ⟨Az, cz, rfl⟩ := hz.slice
  have hoz : Own w base (.slice Az 0 cz) [] := by
    rcases (room_cut hz (Nat.zero_le cz)).form with ⟨h, -⟩ | ⟨g, cap, cur, h, hg, hB, h1, h2, h3⟩
    · rw [h]; exact Own.nil _ _
    · rw [h]; exact Own.mk (xs := []) hg hB h1 h2 h3 (by simp [wv])
  have hob : (Value.slice Az 0 cz).ownBlock = (Value.slice Az m cz).ownBlock := by cases Az <;> rfl
  have Fin : Hid (DwP w base (.slice Az m cz) 0 y (.returned (.tuple #[.slice Az 0 cz, .int .u64 0])) w) := by
    refine ⟨Az, cz, ?_, ?_, ?_, Fr.refl _ _⟩
    · rw [Nat.zero_div, Nat.zero_mod, digs_zero]; rfl
    · rw [Nat.zero_div, digs_zero]; exact hoz
    · rw [Nat.zero_div, digs_zero]; exact .inl hob
  have y0 : ((y : Int) == 0) = false := beq_eq_false_iff_ne.2 (by omega)
  have y1 : ((y : Int) == 1) = false := beq_eq_false_iff_ne.2 (by omega)
  have hc0 : 0 ≤ cz := Nat.zero_le _
  clear hz hoz hob hy1
  go_enter Tryz.func141, Tryz.ntmps141
  go_wp2
  go_ret2
  exact Fin.out

set_option maxHeartbeats 1000000 in
set_option maxRecDepth 20000 in
theorem divQR_gen (base : Nat) (z z2 : Value) (m m2 y : Nat) (A : Option Addr) (c a : Nat) (gv ov cv : Nat) (w : World) (hz : Room w base z m) (hz2 : Room w base z2 m2) (hzz : ∀ k, z.ownBlock = some k → z2.ownBlock ≠ some k) (hb : base ≤ w.heap.size)
    (con : Calls Tryz.prog 141 #[z, .slice A (digs 18446744073709551616 a).length c, .int .u64 (y : Int)] w (DwP w base z a y)) (hv : w.cell? ⟨gv, ov, none⟩ = some (.int .u64 (y : Int))) (hy0 : 0 < y) (hy : y < 18446744073709551616) :
    Calls Tryz.prog 123 #[z, .pointer none, z2, .slice A (digs 18446744073709551616 a).length c, .slice (some ⟨gv, ov, none⟩) 1 cv] w (QrP w base z z2 a y) := by
  unfold DwP at con
  have Con := hide con
  have HZ := hide (And.intro hz2 (And.intro hzz (And.intro hb (And.intro hz hy))))
  have hay : a % y < 18446744073709551616 := by have := Nat.mod_lt a (show y > 0 by omega); omega
  have HAY := hide hay
  clear hz hz2 hzz con hb hay hy0
  obtain ⟨la, hla⟩ : ∃ l, l = (digs 18446744073709551616 a).length := ⟨_, rfl⟩
  rw [← hla] at Con ⊢
  clear hla
  go_enter_defers Tryz.func123, Tryz.ntmps123
  go_wp2_with fail
  refine (Con.out).mono ?_
  rintro e w1 ⟨Q, cq, rfl, hown, hblk, hfr⟩
  have hz1 : Room w1 base z2 m2 := HZ.out.1.fr hfr (fun k hk h => HZ.out.2.1 k h hk)
  have con2 := setWord_any base z2 m2 (a % y) w1 hz1 (Nat.le_trans HZ.out.2.2.1 hfr.size) HAY.out
  have Con2 := hide con2
  have HF := hide hfr
  have HO := hide (And.intro hown hblk)
  clear con2 hz1 hown hblk hfr Con
  generalize hrr : a % y = rr at Con2
  have HR := hide hrr
  clear hrr
  go_wp2_with fail
  refine (Con2.out).mono ?_
  rintro e w2 ⟨R, cr, rfl, hr2, hb2, hf2⟩
  have hrr := HR.out
  subst hrr
  have hQ : ∀ k, (Value.slice Q (digs 18446744073709551616 (a / y)).length cq).ownBlock = some k → z2.ownBlock ≠ some k := fun k hk h => by
    rcases HO.out.2 with h1 | ⟨k', h1, h2⟩
    · exact HZ.out.2.1 k (h1 ▸ hk) h
    · rw [h1] at hk
      obtain rfl := Option.some.inj hk
      have := (HZ.out.1.lt h).2
      omega
  have hs := HF.out.size
  have Fin : Hid (QrP w base z z2 a y (.returned (.tuple #[.slice Q (digs 18446744073709551616 (a / y)).length cq, .slice R (digs 18446744073709551616 (a % y)).length cr])) w2) := by
    refine ⟨Q, R, cq, cr, rfl, HO.out.1.fr hf2 hQ, hr2, HO.out.2, hb2.imp id (fun ⟨k, h1, h2⟩ => ⟨k, h1, by omega⟩), fun k hk h => ?_, Fr.step (HF.out.mono (fun _ _ h => .inl h)) hf2 (fun _ _ h => .inr h)⟩
    rcases hb2 with h1 | ⟨k', h1, h2⟩
    · exact hQ k hk (h1 ▸ h)
    · rw [h1] at h
      obtain rfl := Option.some.inj h
      have := (HO.out.1.lt hk).2
      omega
  clear hr2 hb2 hf2 Con2 hQ hs HO HF HZ HR HAY
  generalize (digs 18446744073709551616 (a / y)).length = nq at *
  generalize (digs 18446744073709551616 (a % y)).length = nr at *
  go_wp2
  refine ⟨_, results_tmp2 (t := 10) (u := 11) rfl _ _ _, ?_⟩
  exact Fin.out

/-- A division by a number above 0; a divisor of more than three words only where it is greater. -/
theorem div_few (base : Nat) (z z2 : Value) (mz m2 y : Nat) (A B : Option Addr) (c cv a : Nat) (w : World) (hz : Room w base z mz) (hz2 : Room w base z2 m2) (hzz : ∀ k, z.ownBlock = some k → z2.ownBlock ≠ some k) (hb : base ≤ w.heap.size) (hna : (digs 18446744073709551616 a).length ≤ 900) (hny : (digs 18446744073709551616 y).length ≤ 900) (hy0 : 0 < y) (h3 : a < y ∨ (digs 18446744073709551616 y).length ≤ 3)
    (hx : RdW w (.slice A (digs 18446744073709551616 a).length c) (digs 18446744073709551616 a)) (hxb : ∀ k, (Value.slice A (digs 18446744073709551616 a).length c).ownBlock = some k → z.ownBlock ≠ some k ∧ z2.ownBlock ≠ some k) (hy : RdW w (.slice B (digs 18446744073709551616 y).length cv) (digs 18446744073709551616 y)) (hyb : ∀ k, (Value.slice B (digs 18446744073709551616 y).length cv).ownBlock = some k → z.ownBlock ≠ some k ∧ z2.ownBlock ≠ some k)
    (hvar : w.cell? ⟨0, 0, none⟩ = some (.int .i64 40)) (hvb : 0 < base) :
    Calls Tryz.prog 123 #[z, .pointer none, z2, .slice A (digs 18446744073709551616 a).length c, .slice B (digs 18446744073709551616 y).length cv] w (QrP w base z z2 a y) := by
  have hn1 : 1 ≤ (digs 18446744073709551616 y).length := List.length_pos_iff.2 (digs_ne_nil (by omega) hy0)
  rcases Nat.lt_or_ge (digs 18446744073709551616 y).length 2 with h | h
  · have h2 : y < 18446744073709551616 := by
      have := lt_of_digs_length (b := 18446744073709551616) (k := 1) (by omega) (show (digs 18446744073709551616 y).length ≤ 1 by omega)
      omega
    obtain ⟨gv, ov, e1, -, hc⟩ := RdG.at_ (k := .u64) hy 0 (by omega)
    subst e1
    rw [digs_word h2 (by omega)] at hc ⊢
    have hv : w.cell? ⟨gv, ov, none⟩ = some (.int .u64 (y : Int)) := hc
    rcases Nat.lt_or_ge 1 y with h1 | h1
    · rcases Nat.eq_zero_or_pos a with h0 | h0
      · subst h0
        refine divQR_gen base z z2 mz m2 y A c 0 gv ov cv w hz hz2 hzz hb ?_ hv hy0 h2
        rw [digs_zero]
        exact divW_nil base z mz y A c w hz h1
      · exact divQR_any base z z2 mz m2 y A c a gv ov cv w hz hz2 hzz hb (by omega) h0 hx (fun k hk => (hxb k hk).1) hv h1 h2
    · obtain rfl : y = 1 := by omega
      exact divQR_gen base z z2 mz m2 1 A c a gv ov cv w hz hz2 hzz hb (divW_one base z mz A c a w hz hb (by omega) hx) hv hy0 h2
  · rcases Nat.lt_or_ge a y with h1 | h1
    · exact divLt_any base z z2 mz m2 y A B c cv a w hz hz2 hzz hb (by omega) (by omega) h h1 hx hy
    · exact divGe_few base z z2 mz m2 y A B c cv a w hz hz2 hzz hb hna h (h3.resolve_left (by omega)) h1 hx hxb hy hyb hvar hvb
end Go.Proofs.YtfkcobdkgjhfaaaGreatDoor
