/- Parts of the proofs: KnDiv0, KnVarD, KnDiv1, KnDiv2, Modf1, Modf2, ModfI, ModfL, LaidD. -/
import Derived.Deep.RegionWith
import Derived.BigRegion
import Derived.Test.YtfkcobdkgjhfaaaGreatDoorG19
import Derived.Test.YtfkcobdkgjhfaaaGreatDoorG26
import Derived.Test.YtfkcobdkgjhfaaaGreatDoorG27
import Derived.Test.YtfkcobdkgjhfaaaGreatDoorG28
import Derived.Test.YtfkcobdkgjhfaaaGreatDoorG29
import Derived.Test.YtfkcobdkgjhfaaaGreatDoorG35
import Derived.Test.YtfkcobdkgjhfaaaGreatDoorG45
import Derived.Test.YtfkcobdkgjhfaaaGreatDoorG56
import Derived.Test.YtfkcobdkgjhfaaaGreatDoorG57
import Derived.Test.YtfkcobdkgjhfaaaGreatDoorG62
import Derived.Test.YtfkcobdkgjhfaaaGreatDoorG64
/- Walk: nat.div of a number that is below its divisor of several words. -/
set_option linter.unusedVariables false
set_option linter.unusedSimpArgs false
namespace Go.Proofs.YtfkcobdkgjhfaaaGreatDoor
open Go.RowKit

set_option maxHeartbeats 1000000 in
set_option maxRecDepth 20000 in
theorem divLt_any (base : Nat) (z z2 : Value) (mz m2 y : Nat) (A B : Option Addr) (c cv a : Nat) (w : World) (hz : Room w base z mz) (hz2 : Room w base z2 m2) (hzz : ∀ k, z.ownBlock = some k → z2.ownBlock ≠ some k) (hb : base ≤ w.heap.size) (hna : (digs 18446744073709551616 a).length ≤ 1000) (hny : (digs 18446744073709551616 y).length ≤ 1000) (hn2 : 2 ≤ (digs 18446744073709551616 y).length) (hlt : a < y)
    (hx : RdW w (.slice A (digs 18446744073709551616 a).length c) (digs 18446744073709551616 a)) (hy : RdW w (.slice B (digs 18446744073709551616 y).length cv) (digs 18446744073709551616 y)) :
    Calls Tryz.prog 123 #[z, .pointer none, z2, .slice A (digs 18446744073709551616 a).length c, .slice B (digs 18446744073709551616 y).length cv] w (QrP w base z z2 a y) := by
  have con1 := ncmp_any A B c cv a y w hx hy (by omega) (by omega)
  unfold CmpP at con1
  rw [cmpI_lt hlt] at con1
  have con2 : ∀ W, Below w.heap.size w W → Calls Tryz.prog 116 #[z2, .slice A (digs 18446744073709551616 a).length c] W (SetP W base z2 (digs 18446744073709551616 a)) := fun W hW => set_any base z2 m2 (.slice A (digs 18446744073709551616 a).length c) (digs 18446744073709551616 a) W (hz2.fr (Fr.of_below hW (fun _ => False)) (fun _ _ h => h)) (RdG.below (k := .u64) hx hW) (Nat.le_trans hb hW.size) (by omega)
  obtain ⟨Az, cz, rfl⟩ := hz.slice
  have e1 : a / y = 0 := Nat.div_eq_of_lt hlt
  have e2 : a % y = a := Nat.mod_eq_of_lt hlt
  have hoz : Own w base (.slice Az 0 cz) [] := by
    rcases (room_cut hz (Nat.zero_le cz)).form with ⟨h, -⟩ | ⟨g, cap, cur, h, hg, hB, h1, h2, h3⟩
    · rw [h]; exact Own.nil _ _
    · rw [h]; exact Own.mk (xs := []) hg hB h1 h2 h3 (by simp [wv])
  have Con1 := hide con1
  have Con2 := hide con2
  have HZ := hide (And.intro hoz (And.intro hzz (And.intro e1 e2)))
  obtain ⟨l, hl⟩ : ∃ l, l = (digs 18446744073709551616 y).length := ⟨_, rfl⟩
  have b1 : ((l : Int) == 0) = false := beq_eq_false_iff_ne.2 (by omega)
  have b2 : ((l : Int) == 1) = false := beq_eq_false_iff_ne.2 (by omega)
  have hc0 : 0 ≤ cz := Nat.zero_le _
  have HL := hide hl
  rw [← hl] at Con1 ⊢
  clear con1 con2 hz hz2 hzz hb hna hny hn2 hlt hx hy e1 e2 hoz hl
  go_enter_defers Tryz.func123, Tryz.ntmps123
  go_wp2_with fail
  refine (Con1.out).mono ?_
  rintro e w1 ⟨rfl, hb1⟩
  have Con3 := hide (Con2.out w1 hb1)
  have HB := hide hb1
  clear Con1 Con2 hb1
  go_wp2_with fail
  refine (Con3.out).mono ?_
  rintro e w2 ⟨R, cr, rfl, hr, hrb, hf⟩
  have hob : (Value.slice Az 0 cz).ownBlock = (Value.slice Az mz cz).ownBlock := by cases Az <;> rfl
  have Fin : Hid (QrP w base (.slice Az mz cz) z2 a y (.returned (.tuple #[.slice Az 0 cz, .slice R (digs 18446744073709551616 a).length cr])) w2) := by
    have hb1 := HB.out
    have hoz1 := HZ.out.1.below hb1
    have e0 : digs 18446744073709551616 0 = [] := digs_zero _
    refine ⟨Az, R, cz, cr, ?_, ?_, ?_, .inl ?_, ?_, ?_, ?_⟩
    · rw [HZ.out.2.2.1, HZ.out.2.2.2, e0]; rfl
    · rw [HZ.out.2.2.1, e0]
      exact hoz1.fr hf (fun k hk h => HZ.out.2.1 k (hob ▸ hk) h)
    · rw [HZ.out.2.2.2]; exact hr
    · rw [HZ.out.2.2.1, e0]; exact hob
    · rw [HZ.out.2.2.2]
      exact hrb.imp id (fun ⟨k, h1, h2⟩ => ⟨k, h1, by have := hb1.size; omega⟩)
    · intro k hk h
      rw [HZ.out.2.2.1, e0] at hk
      rw [HZ.out.2.2.2] at h
      rcases hrb with h1 | ⟨k', h1, h2⟩
      · exact HZ.out.2.1 k (hob ▸ hk) (h1 ▸ h)
      · rw [h1] at h
        obtain rfl := Option.some.inj h
        have := (hoz1.lt hk).2
        omega
    · exact Fr.step (Fr.of_below hb1 _) hf (fun _ _ h => .inr h)
  clear hr hrb hf Con3 HB HZ
  generalize (digs 18446744073709551616 a).length = la at *
  go_wp2
  refine ⟨_, results_tmp2 (t := 10) (u := 11) rfl _ _ _, ?_⟩
  exact Fin.out
end Go.Proofs.YtfkcobdkgjhfaaaGreatDoor

/- The variables' cells that the walks of a division by several words read. -/
set_option linter.unusedVariables false
set_option linter.unusedSimpArgs false
namespace Go.Proofs.YtfkcobdkgjhfaaaGreatDoor
open Go.RowKit

structure VarsD (w : World) (base : Nat) : Prop where
  l : VarsL w base
  c : w.cell? ⟨0, 0, none⟩ = some (.int .i64 40)
  b : 0 < base
theorem VarsD.fr {w w' : World} {base : Nat} {S : Nat → Prop} (h : VarsD w base) (hf : Fr w w' S) (hs : ∀ k, S k → base ≤ k) : VarsD w' base :=
  ⟨h.l.fr hf hs, hf.cell h.c (fun hk => by have h1 : base ≤ 0 := hs _ hk; have := h.b; omega), h.b⟩
theorem VarsD.below {w w' : World} {base : Nat} (h : VarsD w base) (hb : Below w.heap.size w w') : VarsD w' base := h.fr (Fr.of_below hb (fun _ => False)) (fun _ h => h.elim)
theorem VarsD.raise {w : World} {base b : Nat} (h : VarsD w base) (hb : base ≤ b) : VarsD w b := ⟨h.l.raise hb, h.c, by have := h.b; omega⟩
end Go.Proofs.YtfkcobdkgjhfaaaGreatDoor

/- Walk: nat.div of a number that is not below its divisor of two words or three. -/
set_option linter.unusedVariables false
set_option linter.unusedSimpArgs false
namespace Go.Proofs.YtfkcobdkgjhfaaaGreatDoor
open Go.RowKit

theorem QrP.frame {w w1 : World} {base a y : Nat} {z z2 : Value} {e : Ending} {w' : World} (hf : Fr w w1 (fun _ => False)) (h : QrP w1 base z z2 a y e w') : QrP w base z z2 a y e w' := by
  obtain ⟨Q, R, cq, cr, he, h1, h2, h3, h4, h5, h6⟩ := h
  have hs := hf.size
  exact ⟨Q, R, cq, cr, he, h1, h2, h3.imp id (fun ⟨k, a, b⟩ => ⟨k, a, by omega⟩), h4.imp id (fun ⟨k, a, b⟩ => ⟨k, a, by omega⟩), h5, Fr.step (hf.mono (fun _ _ h => h.elim)) h6 (fun _ _ h => h)⟩

set_option maxHeartbeats 1000000 in
set_option maxRecDepth 20000 in
theorem divGe_few (base : Nat) (z z2 : Value) (mz m2 y : Nat) (A B : Option Addr) (c cv a : Nat) (w : World) (hz : Room w base z mz) (hz2 : Room w base z2 m2) (hzz : ∀ k, z.ownBlock = some k → z2.ownBlock ≠ some k) (hb : base ≤ w.heap.size) (hna : (digs 18446744073709551616 a).length ≤ 900) (hn2 : 2 ≤ (digs 18446744073709551616 y).length) (hn3 : (digs 18446744073709551616 y).length ≤ 3) (hge : y ≤ a)
    (hx : RdW w (.slice A (digs 18446744073709551616 a).length c) (digs 18446744073709551616 a)) (hxb : ∀ k, (Value.slice A (digs 18446744073709551616 a).length c).ownBlock = some k → z.ownBlock ≠ some k ∧ z2.ownBlock ≠ some k) (hy : RdW w (.slice B (digs 18446744073709551616 y).length cv) (digs 18446744073709551616 y)) (hyb : ∀ k, (Value.slice B (digs 18446744073709551616 y).length cv).ownBlock = some k → z.ownBlock ≠ some k ∧ z2.ownBlock ≠ some k)
    (hvar : w.cell? ⟨0, 0, none⟩ = some (.int .i64 40)) (hvb : 0 < base) :
    Calls Tryz.prog 123 #[z, .pointer none, z2, .slice A (digs 18446744073709551616 a).length c, .slice B (digs 18446744073709551616 y).length cv] w (QrP w base z z2 a y) := by
  have con1 := ncmp_any A B c cv a y w hx hy (by omega) (by omega)
  unfold CmpP at con1
  obtain ⟨i, hi⟩ : ∃ i, i = cmpI a y := ⟨_, rfl⟩
  have hi0 : 0 ≤ i := by rw [hi]; unfold cmpI; rw [if_neg (by omega)]; split <;> omega
  rw [← hi] at con1
  have hly : (digs 18446744073709551616 y).length ≤ (digs 18446744073709551616 a).length := digs_length_mono (by omega) hge
  have con3 : ∀ W gs, Below w.heap.size w W → w.heap.size ≤ gs → W.heap.size ≤ gs + 1 → W.cell? ⟨gs, 0, none⟩ = some (.pointer none) → Calls Tryz.prog 145 #[z, .pointer (some ⟨gs, 0, none⟩), z2, .slice A (digs 18446744073709551616 a).length c, .slice B (digs 18446744073709551616 y).length cv] W (QrP W base z z2 a y) := fun W gs hW h1 h2 h3 =>
    divLarge_few base gs z z2 mz m2 _ _ A B c cv a y W h3 (.inr h2) ⟨fun h => by have := (hz.lt h).2; omega, fun h => by have := (hz2.lt h).2; omega⟩ (hz.fr (Fr.of_below hW (fun _ => False)) (fun _ _ h => h)) (hz2.fr (Fr.of_below hW (fun _ => False)) (fun _ _ h => h)) hzz (Nat.le_trans hb hW.size) rfl rfl hn2 hn3 hly hna (RdG.below (k := .u64) hx hW) hxb (RdG.below (k := .u64) hy hW) hyb (hW.cell (World.block_lt_of_cell? _ _ hvar) |>.trans hvar) hvb
  have Con1 := hide con1
  have Con3 := hide con3
  have HZ := hide (And.intro (fun k (hk : z.ownBlock = some k) => (hz.lt hk).2) (fun k (hk : z2.ownBlock = some k) => (hz2.lt hk).2))
  obtain ⟨l, hl⟩ : ∃ l, l = (digs 18446744073709551616 y).length := ⟨_, rfl⟩
  have b1 : ((l : Int) == 0) = false := beq_eq_false_iff_ne.2 (by omega)
  have b2 : ((l : Int) == 1) = false := beq_eq_false_iff_ne.2 (by omega)
  have hi1 : ¬ i < 0 := by omega
  rw [← hl] at Con1 Con3 ⊢
  obtain ⟨la, hla⟩ : ∃ l, l = (digs 18446744073709551616 a).length := ⟨_, rfl⟩
  rw [← hla] at Con1 Con3 ⊢
  clear con1 con3 hz hz2 hzz hb hna hn2 hn3 hge hx hxb hy hyb hvar hvb hl hla hly hi
  go_enter_defers Tryz.func123, Tryz.ntmps123
  go_wp2_with fail
  refine (Con1.out).mono ?_
  rintro e w1 ⟨rfl, hb1⟩
  have HB := hide hb1
  clear Con1 hb1
  have ConS := hide (getStack_any w1)
  go_wp2_with fail
  refine (ConS.out).mono ?_
  rintro e w2 ⟨rfl, hw2⟩
  have hb2 : Below w.heap.size w w2 := by rw [hw2]; exact below_al HB.out _
  have hst : Blk w2 w1.heap.size 203 #[.pointer none] := by rw [hw2]; exact Blk.new _ _ _
  have hsz2 : w2.heap.size ≤ w1.heap.size + 1 := by rw [hw2]; simp
  have hsg := HB.out.size
  obtain ⟨gs, hgs⟩ : ∃ g, g = w1.heap.size := ⟨_, rfl⟩
  rw [← hgs] at hst hsz2 hsg ⊢
  have Con4 := hide (Con3.out w2 gs hb2 hsg hsz2 (hst.cell 0))
  have HS := hide (And.intro hst (And.intro hb2 hsg))
  clear hst hb2 hsz2 hsg hw2 Con3 ConS hgs
  go_wp2_with fail
  refine (Con4.out).mono ?_
  rintro e w3 hq
  have hQ := QrP.frame (Fr.of_below HS.out.2.1 (fun _ => False)) hq
  obtain ⟨Q, R, cq, cr, rfl, -, -, -, -, -, h6⟩ := hq
  have hst3 : w3.cell? ⟨gs, 0, none⟩ = some (.pointer none) := (HS.out.1.fr h6 (fun h => by
    have h7 := HS.out.2.2
    rcases h with h | h
    · have := HZ.out.1 _ h; omega
    · have := HZ.out.2 _ h; omega)).cell 0
  have Fin := hide hQ
  clear hQ h6 HS HZ Con4
  generalize (digs 18446744073709551616 (a / y)).length = nq at *
  generalize (digs 18446744073709551616 (a % y)).length = nr at *
  go_wp2
  refine leaves_cons (f := 144) (args := #[.pointer (some ⟨gs, 0, none⟩)]) (by simp) (by simp [go_sem]) ?_
  refine (free_deferred gs .returning _ hst3).mono ?_
  rintro e1 u' w8 ⟨rfl, rfl, rfl⟩
  exact ⟨_, results_tmp2 (t := 10) (u := 11) rfl _ _ _, Fin.out⟩
end Go.Proofs.YtfkcobdkgjhfaaaGreatDoor

/- Walk: nat.div by any number above 0 of three words at most. -/
set_option linter.unusedVariables false
set_option linter.unusedSimpArgs false
namespace Go.Proofs.YtfkcobdkgjhfaaaGreatDoor
open Go.RowKit

/-- Behind divW. -/
def DwP (w : World) (base : Nat) (z : Value) (a y : Nat) (e : Ending) (w' : World) : Prop :=
  ∃ (Q : Option Addr) (cq : Nat), e = .returned (.tuple #[.slice Q (digs 18446744073709551616 (a / y)).length cq, .int .u64 ((a % y : Nat) : Int)]) ∧ Own w' base (.slice Q (digs 18446744073709551616 (a / y)).length cq) (digs 18446744073709551616 (a / y)) ∧
    ((Value.slice Q (digs 18446744073709551616 (a / y)).length cq).ownBlock = z.ownBlock ∨ ∃ k, (Value.slice Q (digs 18446744073709551616 (a / y)).length cq).ownBlock = some k ∧ w.heap.size ≤ k) ∧ Fr w w' (fun k => z.ownBlock = some k)

set_option maxHeartbeats 400000 in
theorem divW_one (base : Nat) (z : Value) (m : Nat) (A : Option Addr) (c a : Nat) (w : World) (hz : Room w base z m) (hb : base ≤ w.heap.size) (hnb : (digs 18446744073709551616 a).length ≤ 1000) (hx : RdW w (.slice A (digs 18446744073709551616 a).length c) (digs 18446744073709551616 a)) :
    Calls Tryz.prog 141 #[z, .slice A (digs 18446744073709551616 a).length c, .int .u64 1] w (DwP w base z a 1) := by
  have Con := hide (set_any base z m (.slice A (digs 18446744073709551616 a).length c) (digs 18446744073709551616 a) w hz hx hb (by omega))
  have e1 : a / 1 = a := Nat.div_one a
  have e2 : a % 1 = 0 := Nat.mod_one a
  have HE := hide (And.intro e1 e2)
  clear hz hb hnb hx e1 e2
  obtain ⟨lx, hlx⟩ : ∃ l, l = (digs 18446744073709551616 a).length := ⟨_, rfl⟩
  have HL := hide hlx
  rw [← hlx] at Con ⊢
  clear hlx
  go_enter Tryz.func141, Tryz.ntmps141
  go_wp2_with fail
  refine (Con.out).mono ?_
  rintro e w1 ⟨Q, cq, rfl, h1, h2, h3⟩
  have Fin : Hid (DwP w base z a 1 (.returned (.tuple #[.slice Q lx cq, .int .u64 0])) w1) := by
    have hl := HL.out
    rw [← hl] at h1 h2
    refine ⟨Q, cq, ?_, ?_, ?_, h3⟩
    · rw [HE.out.1, HE.out.2, hl]; rfl
    · rw [HE.out.1, ← hl]; exact h1
    · rw [HE.out.1, ← hl]; exact h2
  rw [← HL.out]
  clear h1 h2 h3 Con HL HE
  go_wp2
  go_ret2
  exact Fin.out

theorem divW_nil (base : Nat) (z : Value) (m y : Nat) (A : Option Addr) (c : Nat) (w : World) (hz : Room w base z m) (hy1 : 1 < y) :
    Calls Tryz.prog 141 #[z, .slice A 0 c, .int .u64 (y : Int)] w (DwP w base z 0 y) := by
  obtain ⟨Az, cz, rfl⟩ := hz.slice
  have hoz : Own w base (.slice Az 0 cz) [] := by
    rcases (room_cut hz (Nat.zero_le cz)).form with ⟨h, -⟩ | ⟨g, cap, cur, h, hg, hB, h1, h2, h3⟩
    · rw [h]; exact Own.nil _ _
    · rw [h]; exact Own.mk (xs := []) hg hB h1 h2 h3 (by simp [wv])
  have hob : (Value.slice Az 0 cz).ownBlock = (Value.slice Az m cz).ownBlock := by cases Az <;> rfl
  have Fin : Hid (DwP w base (.slice Az m cz) 0 y (.returned (.tuple #[.slice Az 0 cz, .int .u64 0])) w) := by
    refine ⟨Az, cz, ?_, ?_, ?_, Fr.refl _ _⟩
    · rw [Nat.zero_div, Nat.zero_mod, digs_zero]; rfl
    · rw [Nat.zero_div, digs_zero]; exact hoz
    · rw [Nat.zero_div, digs_zero]; exact .inl hob
  have y0 : ((y : Int) == 0) = false := beq_eq_false_iff_ne.2 (by omega)
  have y1 : ((y : Int) == 1) = false := beq_eq_false_iff_ne.2 (by omega)
  have hc0 : 0 ≤ cz := Nat.zero_le _
  clear hz hoz hob hy1
  go_enter Tryz.func141, Tryz.ntmps141
  go_wp2
  go_ret2
  exact Fin.out

set_option maxHeartbeats 1000000 in
set_option maxRecDepth 20000 in
theorem divQR_gen (base : Nat) (z z2 : Value) (m m2 y : Nat) (A : Option Addr) (c a : Nat) (gv ov cv : Nat) (w : World) (hz : Room w base z m) (hz2 : Room w base z2 m2) (hzz : ∀ k, z.ownBlock = some k → z2.ownBlock ≠ some k) (hb : base ≤ w.heap.size)
    (con : Calls Tryz.prog 141 #[z, .slice A (digs 18446744073709551616 a).length c, .int .u64 (y : Int)] w (DwP w base z a y)) (hv : w.cell? ⟨gv, ov, none⟩ = some (.int .u64 (y : Int))) (hy0 : 0 < y) (hy : y < 18446744073709551616) :
    Calls Tryz.prog 123 #[z, .pointer none, z2, .slice A (digs 18446744073709551616 a).length c, .slice (some ⟨gv, ov, none⟩) 1 cv] w (QrP w base z z2 a y) := by
  unfold DwP at con
  have Con := hide con
  have HZ := hide (And.intro hz2 (And.intro hzz (And.intro hb (And.intro hz hy))))
  have hay : a % y < 18446744073709551616 := by have := Nat.mod_lt a (show y > 0 by omega); omega
  have HAY := hide hay
  clear hz hz2 hzz con hb hay hy0
  obtain ⟨la, hla⟩ : ∃ l, l = (digs 18446744073709551616 a).length := ⟨_, rfl⟩
  rw [← hla] at Con ⊢
  clear hla
  go_enter_defers Tryz.func123, Tryz.ntmps123
  go_wp2_with fail
  refine (Con.out).mono ?_
  rintro e w1 ⟨Q, cq, rfl, hown, hblk, hfr⟩
  have hz1 : Room w1 base z2 m2 := HZ.out.1.fr hfr (fun k hk h => HZ.out.2.1 k h hk)
  have con2 := setWord_any base z2 m2 (a % y) w1 hz1 (Nat.le_trans HZ.out.2.2.1 hfr.size) HAY.out
  have Con2 := hide con2
  have HF := hide hfr
  have HO := hide (And.intro hown hblk)
  clear con2 hz1 hown hblk hfr Con
  generalize hrr : a % y = rr at Con2
  have HR := hide hrr
  clear hrr
  go_wp2_with fail
  refine (Con2.out).mono ?_
  rintro e w2 ⟨R, cr, rfl, hr2, hb2, hf2⟩
  have hrr := HR.out
  subst hrr
  have hQ : ∀ k, (Value.slice Q (digs 18446744073709551616 (a / y)).length cq).ownBlock = some k → z2.ownBlock ≠ some k := fun k hk h => by
    rcases HO.out.2 with h1 | ⟨k', h1, h2⟩
    · exact HZ.out.2.1 k (h1 ▸ hk) h
    · rw [h1] at hk
      obtain rfl := Option.some.inj hk
      have := (HZ.out.1.lt h).2
      omega
  have hs := HF.out.size
  have Fin : Hid (QrP w base z z2 a y (.returned (.tuple #[.slice Q (digs 18446744073709551616 (a / y)).length cq, .slice R (digs 18446744073709551616 (a % y)).length cr])) w2) := by
    refine ⟨Q, R, cq, cr, rfl, HO.out.1.fr hf2 hQ, hr2, HO.out.2, hb2.imp id (fun ⟨k, h1, h2⟩ => ⟨k, h1, by omega⟩), fun k hk h => ?_, Fr.step (HF.out.mono (fun _ _ h => .inl h)) hf2 (fun _ _ h => .inr h)⟩
    rcases hb2 with h1 | ⟨k', h1, h2⟩
    · exact hQ k hk (h1 ▸ h)
    · rw [h1] at h
      obtain rfl := Option.some.inj h
      have := (HO.out.1.lt hk).2
      omega
  clear hr2 hb2 hf2 Con2 hQ hs HO HF HZ HR HAY
  generalize (digs 18446744073709551616 (a / y)).length = nq at *
  generalize (digs 18446744073709551616 (a % y)).length = nr at *
  go_wp2
  refine ⟨_, results_tmp2 (t := 10) (u := 11) rfl _ _ _, ?_⟩
  exact Fin.out

/-- A division by a number above 0; a divisor of more than three words only where it is greater. -/
theorem div_few (base : Nat) (z z2 : Value) (mz m2 y : Nat) (A B : Option Addr) (c cv a : Nat) (w : World) (hz : Room w base z mz) (hz2 : Room w base z2 m2) (hzz : ∀ k, z.ownBlock = some k → z2.ownBlock ≠ some k) (hb : base ≤ w.heap.size) (hna : (digs 18446744073709551616 a).length ≤ 900) (hny : (digs 18446744073709551616 y).length ≤ 900) (hy0 : 0 < y) (h3 : a < y ∨ (digs 18446744073709551616 y).length ≤ 3)
    (hx : RdW w (.slice A (digs 18446744073709551616 a).length c) (digs 18446744073709551616 a)) (hxb : ∀ k, (Value.slice A (digs 18446744073709551616 a).length c).ownBlock = some k → z.ownBlock ≠ some k ∧ z2.ownBlock ≠ some k) (hy : RdW w (.slice B (digs 18446744073709551616 y).length cv) (digs 18446744073709551616 y)) (hyb : ∀ k, (Value.slice B (digs 18446744073709551616 y).length cv).ownBlock = some k → z.ownBlock ≠ some k ∧ z2.ownBlock ≠ some k)
    (hvar : w.cell? ⟨0, 0, none⟩ = some (.int .i64 40)) (hvb : 0 < base) :
    Calls Tryz.prog 123 #[z, .pointer none, z2, .slice A (digs 18446744073709551616 a).length c, .slice B (digs 18446744073709551616 y).length cv] w (QrP w base z z2 a y) := by
  have hn1 : 1 ≤ (digs 18446744073709551616 y).length := List.length_pos_iff.2 (digs_ne_nil (by omega) hy0)
  rcases Nat.lt_or_ge (digs 18446744073709551616 y).length 2 with h | h
  · have h2 : y < 18446744073709551616 := by
      have := lt_of_digs_length (b := 18446744073709551616) (k := 1) (by omega) (show (digs 18446744073709551616 y).length ≤ 1 by omega)
      omega
    obtain ⟨gv, ov, e1, -, hc⟩ := RdG.at_ (k := .u64) hy 0 (by omega)
    subst e1
    rw [digs_word h2 (by omega)] at hc ⊢
    have hv : w.cell? ⟨gv, ov, none⟩ = some (.int .u64 (y : Int)) := hc
    rcases Nat.lt_or_ge 1 y with h1 | h1
    · rcases Nat.eq_zero_or_pos a with h0 | h0
      · subst h0
        refine divQR_gen base z z2 mz m2 y A c 0 gv ov cv w hz hz2 hzz hb ?_ hv hy0 h2
        rw [digs_zero]
        exact divW_nil base z mz y A c w hz h1
      · exact divQR_any base z z2 mz m2 y A c a gv ov cv w hz hz2 hzz hb (by omega) h0 hx (fun k hk => (hxb k hk).1) hv h1 h2
    · obtain rfl : y = 1 := by omega
      exact divQR_gen base z z2 mz m2 1 A c a gv ov cv w hz hz2 hzz hb (divW_one base z mz A c a w hz hb (by omega) hx) hv hy0 h2
  · rcases Nat.lt_or_ge a y with h1 | h1
    · exact divLt_any base z z2 mz m2 y A B c cv a w hz hz2 hzz hb (by omega) (by omega) h h1 hx hy
    · exact divGe_few base z z2 mz m2 y A B c cv a w hz hz2 hzz hb hna h (h3.resolve_left (by omega)) h1 hx hxb hy hyb hvar hvb
end Go.Proofs.YtfkcobdkgjhfaaaGreatDoor

/- Walk: Decimal.Modf, both places given. -/
set_option linter.unusedVariables false
set_option linter.unusedSimpArgs false
namespace Go.Proofs.YtfkcobdkgjhfaaaGreatDoor
open Go.RowKit

/-- Behind Modf. -/
def MdP (w : World) (gi gf : Nat) (n : Bool) (a : Nat) (e : Int) (e' : Ending) (w' : World) : Prop :=
  e' = .returned (.tuple #[]) ∧ ∃ (p q : Nat) (ep eq : Int) (P Q : Option Addr) (cp cq : Nat), ModN a e p ep q eq ∧ RdW w' (.slice P (digs 18446744073709551616 p).length cp) (digs 18446744073709551616 p) ∧ RdW w' (.slice Q (digs 18446744073709551616 q).length cq) (digs 18446744073709551616 q) ∧
    Blk w' gi 71 (decC 0 n ep false (.slice P (digs 18446744073709551616 p).length cp) false) ∧ Blk w' gf 71 (decC 0 n eq false (.slice Q (digs 18446744073709551616 q).length cq) false) ∧ Fr w w' (fun k => k = gi ∨ k = gf) ∧ ∀ k, (Value.slice P (digs 18446744073709551616 p).length cp).ownBlock = some k → k < w'.heap.size

set_option maxHeartbeats 1000000 in
set_option maxRecDepth 20000 in
theorem modf_up (gd gi gf : Nat) (n : Bool) (e : Int) (A : Option Addr) (c a : Nat) (w : World) (hd : Blk w gd 71 (decC 0 n e false (.slice A (digs 18446744073709551616 a).length c) false)) (hr : RdW w (.slice A (digs 18446744073709551616 a).length c) (digs 18446744073709551616 a)) (hi : Blk w gi 71 (decC 0 false 0 false (.slice none 0 0) false)) (hf : Blk w gf 71 (decC 0 false 0 false (.slice none 0 0) false)) (hne : gi ≠ gf ∧ gd ≠ gi ∧ gd ≠ gf)
    (hab : ∀ k, (Value.slice A (digs 18446744073709551616 a).length c).ownBlock = some k → k ≠ gi ∧ k ≠ gf) (hl : (digs 18446744073709551616 a).length ≤ 3) (he : 0 < e) :
    Calls Tryz.prog 29 #[.pointer (some ⟨gd, 0, none⟩), .pointer (some ⟨gi, 0, none⟩), .pointer (some ⟨gf, 0, none⟩)] w (MdP w gi gf n a e) := by
  have x1 : w.cell? ⟨gd, 1, none⟩ = some (.bool n) := hd.cell 1
  have x2 : w.cell? ⟨gd, 2, none⟩ = some (.int .i32 e) := hd.cell 2
  have y1 : w.cell? ⟨gf, 1, none⟩ = some (.bool false) := hf.cell 1
  have y2 : w.cell? ⟨gf, 2, none⟩ = some (.int .i32 0) := hf.cell 2
  have z1 := hf.frozen 1
  have z2 := hf.frozen 2
  obtain ⟨W1, hW1⟩ : ∃ W, W = (w.setCell ⟨gf, 1, none⟩ (.bool n)).setCell ⟨gf, 2, none⟩ (.int .i32 0) := ⟨_, rfl⟩
  have hF1 : Fr w W1 (fun k => k = gf) := by rw [hW1]; exact ((Fr.refl w (fun k => k = gf)).setCell (p := ⟨gf, 1, none⟩) (fun _ => rfl) _).setCell (p := ⟨gf, 2, none⟩) (fun _ => rfl) _
  have hB1 : Blk W1 gf 71 (decC 0 n 0 false (.slice none 0 0) false) := by rw [hW1]; exact (hf.set 1 _).set 2 _
  have con1 := bsetInt64_any w.heap.size gf 3 71 _ false false (.slice none 0 0) 0 0 W1 hB1 rfl rfl rfl (Own.nil _ _).room (by decide) hF1.size (by decide) (by decide)
  have Con1 := hide con1
  have H0 := hide (And.intro hd (And.intro hr (And.intro hi (And.intro hne (And.intro hab (And.intro hl (And.intro he hF1)))))))
  clear hd hr hi hf hne hab hl hF1 hB1 con1
  go_enter Tryz.func29, Tryz.ntmps29
  go_wp2_with fail
  rw [← hW1]
  clear hW1
  refine (Con1.out).mono ?_
  rintro e1 w1 ⟨rfl, A1, c1, ho1, hb1, hB1, hF1⟩
  have hB1' : Blk w1 gf 71 (decC 0 n 0 false (.slice A1 (digs 18446744073709551616 0).length c1) false) := hB1
  have hF2 : Fr w w1 (fun k => k = gf) := Fr.step H0.out.2.2.2.2.2.2.2 hF1 (fun k _ h => h.elim id (fun h => by cases h))
  obtain ⟨n1, n2, n3⟩ := H0.out.2.2.2.1
  have hrn : ∀ k, (Value.slice A (digs 18446744073709551616 a).length c).ownBlock = some k → ¬ k = gf := fun k hk => (H0.out.2.2.2.2.1 k hk).2
  have con2 := dset_any w.heap.size gi gd 0 false 0 false (.slice none 0 0) false 0 n e false (.slice A (digs 18446744073709551616 a).length c) false 0 (digs 18446744073709551616 a) w1 (H0.out.2.2.1.fr hF2 (fun h => n1 h)) (Own.nil _ _).room (H0.out.1.fr hF2 (fun h => n3 h)) (H0.out.2.1.fr hF2 hrn) (fun k hk => (H0.out.2.2.2.2.1 k hk).1) (fun h => n2 h.symm) hF2.size (by have := H0.out.2.2.2.2.2.1; omega)
  have Con2 := hide con2
  have H1 := hide (And.intro hB1' (And.intro hF2 (show RdW w1 (.slice A1 (digs 18446744073709551616 0).length c1) (digs 18446744073709551616 0) from ho1.rd)))
  have HB1 := hide (And.intro hb1 (show ∀ k, (Value.slice A1 (digs 18446744073709551616 0).length c1).ownBlock = some k → w.heap.size ≤ k from fun k hk => (ho1.lt hk).1))
  clear ho1 hb1 hB1 hF1 hB1' hF2 hrn con2 Con1
  go_wp2_with fail
  refine (Con2.out).mono ?_
  rintro e2 w2 ⟨rfl, A2, c2, ho2, hb2, hB2, hF3⟩
  have hF4 : Fr w1 w2 (fun k => k = gi) := hF3.mono (fun k _ h => h.elim id (fun h => by cases h))
  have HP : Hid (MdP w gi gf n a e (.returned (.tuple #[])) w2) := by
    refine ⟨rfl, a, 0, e, 0, A2, A1, c2, c1, modN_up H0.out.2.2.2.2.2.2.1, ho2.rd, H1.out.2.2.fr hF4 (fun k hk h => ?_), hB2, H1.out.1.fr hF4 (fun h => n1 h.symm), Fr.step (H1.out.2.1.mono (fun _ _ h => .inr h)) hF4 (fun _ _ h => .inl h), fun k hk => (ho2.lt hk).2⟩
    have h1 := HB1.out.2 k hk
    have h2 := H0.out.2.2.1.lt
    have h3 : k = gi := h
    omega
  clear ho2 hb2 hB2 hF3 hF4 H0 H1 HB1 Con2
  go_wp2
  go_end0
  exact HP.out

set_option maxHeartbeats 1000000 in
set_option maxRecDepth 20000 in
theorem modf_small (gd gi gf : Nat) (n : Bool) (e : Int) (A : Option Addr) (c a : Nat) (w : World) (hd : Blk w gd 71 (decC 0 n e false (.slice A (digs 18446744073709551616 a).length c) false)) (hr : RdW w (.slice A (digs 18446744073709551616 a).length c) (digs 18446744073709551616 a)) (hi : Blk w gi 71 (decC 0 false 0 false (.slice none 0 0) false)) (hf : Blk w gf 71 (decC 0 false 0 false (.slice none 0 0) false)) (hne : gi ≠ gf ∧ gd ≠ gi ∧ gd ≠ gf)
    (hab : ∀ k, (Value.slice A (digs 18446744073709551616 a).length c).ownBlock = some k → k ≠ gi ∧ k ≠ gf) (hl : (digs 18446744073709551616 a).length ≤ 3) (base : Nat) (hv : VarsD w base) (hbb : base ≤ w.heap.size) (k : Nat) (he : (k : Int) = -e) (hk : figs a < k) (hk2 : k ≤ 1000) :
    Calls Tryz.prog 29 #[.pointer (some ⟨gd, 0, none⟩), .pointer (some ⟨gi, 0, none⟩), .pointer (some ⟨gf, 0, none⟩)] w (MdP w gi gf n a e) := by
  have x1 : w.cell? ⟨gd, 1, none⟩ = some (.bool n) := hd.cell 1
  have x2 : w.cell? ⟨gd, 2, none⟩ = some (.int .i32 e) := hd.cell 2
  have con1 := dnumD_any gd _ _ A c a w (BigAt.dec hd hr) (blen_words_le (k := 20) (lt_of_digs_length (b := 18446744073709551616) (by omega) (by omega : (digs 18446744073709551616 a).length ≤ 20))) (hv.l.raise hbb)
  unfold FigP at con1
  obtain ⟨f, hfg⟩ : ∃ f, f = figs a := ⟨_, rfl⟩
  rw [← hfg] at con1
  have Con1 := hide con1
  have he0 : ¬ 0 < e := by omega
  have hgt : (f : Int) < (k : Int) := by omega
  have H0 := hide (And.intro hd (And.intro hr (And.intro hi (And.intro hf (And.intro hne (And.intro hab (And.intro hl (And.intro he hk))))))))
  have hkI : -1000000 ≤ (k : Int) ∧ (k : Int) ≤ 1000000 := by omega
  have i1 : -e = (k : Int) := by omega
  have b1 : -1000000 ≤ e ∧ e ≤ 1000000 := by omega
  clear hd hr hi hf hne hab hl hv hbb he hk hk2 con1 hfg
  have k1 : IntKind.i64.wrap (-e) = (k : Int) := kn_i64 i1 hkI
  have k1' : wrap64 (-e) = (k : Int) := kn_w64 i1 hkI
  have k2 : IntKind.i64.wrap e = e := kn_i64 rfl b1
  have k2' : wrap64 e = e := kn_w64 rfl b1
  clear i1 b1 hkI
  go_enter Tryz.func29, Tryz.ntmps29
  go_wp2_with fail
  refine (Con1.out).mono ?_
  rintro e1 w1 ⟨rfl, hb1⟩
  have hd1 := H0.out.1.below hb1
  have hi1 := H0.out.2.2.1.below hb1
  have x3 : w1.cell? ⟨gd, 2, none⟩ = some (.int .i32 e) := hd1.cell 2
  have y1 : w1.cell? ⟨gi, 1, none⟩ = some (.bool false) := hi1.cell 1
  have y2 : w1.cell? ⟨gi, 2, none⟩ = some (.int .i32 0) := hi1.cell 2
  have z1 := hi1.frozen 1
  have z2 := hi1.frozen 2
  obtain ⟨W1, hW1⟩ : ∃ W, W = (w1.setCell ⟨gi, 1, none⟩ (.bool n)).setCell ⟨gi, 2, none⟩ (.int .i32 0) := ⟨_, rfl⟩
  have hF1 : Fr w1 W1 (fun k => k = gi) := by rw [hW1]; exact ((Fr.refl w1 (fun k => k = gi)).setCell (p := ⟨gi, 1, none⟩) (fun _ => rfl) _).setCell (p := ⟨gi, 2, none⟩) (fun _ => rfl) _
  have hB1 : Blk W1 gi 71 (decC 0 n 0 false (.slice none 0 0) false) := by rw [hW1]; exact (hi1.set 1 _).set 2 _
  have con2 := bsetInt64_any w.heap.size gi 3 71 _ false false (.slice none 0 0) 0 0 W1 hB1 rfl rfl rfl (Own.nil _ _).room (by decide) (Nat.le_trans hb1.size hF1.size) (by decide) (by decide)
  have Con2 := hide con2
  have H1 := hide (And.intro hb1 hF1)
  clear hb1 hd1 hi1 hF1 hB1 con2 Con1
  go_wp2_with fail
  rw [← hW1]
  clear hW1
  refine (Con2.out).mono ?_
  rintro e2 w2 ⟨rfl, A1, c1, ho1, hb1, hB1, hF1⟩
  have hB1' : Blk w2 gi 71 (decC 0 n 0 false (.slice A1 (digs 18446744073709551616 0).length c1) false) := hB1
  have hF2 : Fr w w2 (fun k => k = gi) := Fr.step (Fr.step (Fr.of_below H1.out.1 (fun k => k = gi)) H1.out.2 (fun _ _ h => h)) hF1 (fun k _ h => h.elim id (fun h => by cases h))
  obtain ⟨n1, n2, n3⟩ := H0.out.2.2.2.2.1
  have hrn : ∀ k, (Value.slice A (digs 18446744073709551616 a).length c).ownBlock = some k → ¬ k = gi := fun k hk => (H0.out.2.2.2.2.2.1 k hk).1
  have con3 := dset_any w.heap.size gf gd 0 false 0 false (.slice none 0 0) false 0 n e false (.slice A (digs 18446744073709551616 a).length c) false 0 (digs 18446744073709551616 a) w2 (H0.out.2.2.2.1.fr hF2 (fun h => n1 h.symm)) (Own.nil _ _).room (H0.out.1.fr hF2 (fun h => n2 h)) (H0.out.2.1.fr hF2 hrn) (fun k hk => (H0.out.2.2.2.2.2.1 k hk).2) (fun h => n3 h.symm) hF2.size (by have := H0.out.2.2.2.2.2.2.1; omega)
  have Con3 := hide con3
  have H2 := hide (And.intro hB1' (And.intro hF2 (show RdW w2 (.slice A1 (digs 18446744073709551616 0).length c1) (digs 18446744073709551616 0) from ho1.rd)))
  have HB1 := hide (show ∀ k, (Value.slice A1 (digs 18446744073709551616 0).length c1).ownBlock = some k → w.heap.size ≤ k ∧ k < w2.heap.size from fun k hk => ho1.lt hk)
  clear ho1 hb1 hB1 hF1 hB1' hF2 hrn con3 Con2 H1
  go_wp2_with fail
  refine (Con3.out).mono ?_
  rintro e3 w3 ⟨rfl, A2, c2, ho2, hb2, hB2, hF3⟩
  have hF4 : Fr w2 w3 (fun k => k = gf) := hF3.mono (fun k _ h => h.elim id (fun h => by cases h))
  have HP : Hid (MdP w gi gf n a e (.returned (.tuple #[])) w3) := by
    refine ⟨rfl, 0, a, 0, e, A1, A2, c1, c2, modN_small H0.out.2.2.2.2.2.2.2.1 H0.out.2.2.2.2.2.2.2.2, H2.out.2.2.fr hF4 (fun k hk h => ?_), ho2.rd, H2.out.1.fr hF4 (fun h => n1 h), hB2, Fr.step (H2.out.2.1.mono (fun _ _ h => .inl h)) hF4 (fun _ _ h => .inr h), fun k hk => Nat.lt_of_lt_of_le (HB1.out k hk).2 hF4.size⟩
    have h1 := (HB1.out k hk).1
    have h2 := H0.out.2.2.2.1.lt
    have h3 : k = gf := h
    omega
  clear ho2 hb2 hB2 hF3 hF4 H0 H2 HB1 Con3
  go_wp2
  go_end0
  exact HP.out
end Go.Proofs.YtfkcobdkgjhfaaaGreatDoor

/- Walk: Decimal.Modf of a decimal that has a whole part and a fraction. -/
set_option linter.unusedVariables false
set_option linter.unusedSimpArgs false
namespace Go.Proofs.YtfkcobdkgjhfaaaGreatDoor
open Go.RowKit

set_option maxHeartbeats 2000000 in
set_option maxRecDepth 20000 in
theorem modf_part (gd gi gf : Nat) (n : Bool) (e : Int) (A : Option Addr) (c a : Nat) (w : World) (hd : Blk w gd 71 (decC 0 n e false (.slice A (digs 18446744073709551616 a).length c) false)) (hr : RdW w (.slice A (digs 18446744073709551616 a).length c) (digs 18446744073709551616 a)) (hi : Blk w gi 71 (decC 0 false 0 false (.slice none 0 0) false)) (hf : Blk w gf 71 (decC 0 false 0 false (.slice none 0 0) false)) (hne : gi ≠ gf ∧ gd ≠ gi ∧ gd ≠ gf)
    (hab : ∀ k, (Value.slice A (digs 18446744073709551616 a).length c).ownBlock = some k → k ≠ gi ∧ k ≠ gf) (hl : (digs 18446744073709551616 a).length ≤ 3) (base : Nat) (hv : VarsD w base) (hbb : base ≤ gi ∧ base ≤ gf) (k : Nat) (he : (k : Int) = -e) (hk : k ≤ figs a) :
    Calls Tryz.prog 29 #[.pointer (some ⟨gd, 0, none⟩), .pointer (some ⟨gi, 0, none⟩), .pointer (some ⟨gf, 0, none⟩)] w (MdP w gi gf n a e) := by
  have x1 : w.cell? ⟨gd, 1, none⟩ = some (.bool n) := hd.cell 1
  have x2 : w.cell? ⟨gd, 2, none⟩ = some (.int .i32 e) := hd.cell 2
  have con1 := dnumD_any gd _ _ A c a w (BigAt.dec hd hr) (blen_words_le (k := 20) (lt_of_digs_length (b := 18446744073709551616) (by omega) (by omega : (digs 18446744073709551616 a).length ≤ 20))) (hv.l.raise (by have := hi.lt; omega))
  unfold FigP at con1
  have hk60 : k ≤ 60 := by have := figs_few hl; omega
  obtain ⟨f, hfg⟩ : ∃ f, f = figs a := ⟨_, rfl⟩
  rw [← hfg] at con1 hk
  have Con1 := hide con1
  have he0 : ¬ 0 < e := by omega
  have hgt : ¬ (f : Int) < (k : Int) := by omega
  have H0 := hide (And.intro hd (And.intro hr (And.intro hi (And.intro hf (And.intro hne (And.intro hab (And.intro hl (And.intro he (And.intro hk60 (And.intro hv hbb))))))))))
  have hkI : -1000000 ≤ (k : Int) ∧ (k : Int) ≤ 1000000 := by omega
  have i1 : -e = (k : Int) := by omega
  have b1 : -1000000 ≤ e ∧ e ≤ 1000000 := by omega
  clear hd hr hi hf hne hab hl hv hbb he hk hk60 con1 hfg
  have k1 : IntKind.i64.wrap (-e) = (k : Int) := kn_i64 i1 hkI
  have k1' : wrap64 (-e) = (k : Int) := kn_w64 i1 hkI
  have k2 : IntKind.i64.wrap e = e := kn_i64 rfl b1
  have k2' : wrap64 e = e := kn_w64 rfl b1
  clear i1 b1 hkI
  go_enter Tryz.func29, Tryz.ntmps29
  go_wp2_with fail
  refine (Con1.out).mono ?_
  rintro e1 w1 ⟨rfl, hb1⟩
  have x3 : w1.cell? ⟨gd, 2, none⟩ = some (.int .i32 e) := (H0.out.1.below hb1).cell 2
  obtain ⟨gt, hgt1⟩ : ∃ g, g = w1.heap.size := ⟨_, rfl⟩
  obtain ⟨W1, hW1⟩ : ∃ W, W = w1.alloc (.cells #[.bool false, .slice none 0 0, .bool false] 69) := ⟨_, rfl⟩
  have hbt : Below w.heap.size w W1 := by rw [hW1]; exact below_al hb1 _
  have hBt : Blk W1 gt 69 #[.bool false, .slice none 0 0, .bool false] := by rw [hW1, hgt1]; exact Blk.new w1 _ _
  have hsg : w.heap.size ≤ gt := by rw [hgt1]; exact hb1.size
  have conP := tabExp_any w.heap.size gt false false (.slice none 0 0) 0 k W1 hBt (Own.nil _ _).room hbt.size hsg (by have := H0.out.2.2.2.2.2.2.2.2.1; omega) (pow_half H0.out.2.2.2.2.2.2.2.2.1) ((H0.out.2.2.2.2.2.2.2.2.2.1.l.v.below hbt).raise (by have := H0.out.2.2.2.2.2.2.2.2.2.2.1; have := H0.out.2.2.1.lt; omega))
  have ConP := hide conP
  have H1 := hide (And.intro hbt hsg)
  clear hb1 hbt hBt hsg conP Con1
  go_wp2_with fail
  rw [← hgt1, ← hW1]
  clear hgt1 hW1
  refine (ConP.out).mono ?_
  rintro e2 w2 ⟨rfl, A3, c3, ho3, hk3, hB3, hF3⟩
  clear ConP k1 k1'
  have hbw : Below w.heap.size w w2 := (Fr.step (Fr.of_below H1.out.1 (fun k => k = gt)) hF3 (fun k _ h => h.elim id (fun h => by cases h))).below (Nat.le_refl _) (fun k h => by have h : k = gt := h; have := H1.out.2; omega)
  have hi1 := H0.out.2.2.1.below hbw
  have hd1 := H0.out.1.below hbw
  have y1 : w2.cell? ⟨gi, 1, none⟩ = some (.bool false) := hi1.cell 1
  have y2 : w2.cell? ⟨gi, 2, none⟩ = some (.int .i32 0) := hi1.cell 2
  have z1 := hi1.frozen 1
  have z2 := hi1.frozen 2
  obtain ⟨W2, hW2⟩ : ∃ W, W = (w2.setCell ⟨gi, 2, none⟩ (.int .i32 0)).setCell ⟨gi, 1, none⟩ (.bool n) := ⟨_, rfl⟩
  have hF2 : Fr w2 W2 (fun k => k = gi) := by rw [hW2]; exact ((Fr.refl w2 (fun k => k = gi)).setCell (p := ⟨gi, 2, none⟩) (fun _ => rfl) _).setCell (p := ⟨gi, 1, none⟩) (fun _ => rfl) _
  have hB2 : Blk W2 gi 71 (decC 0 n 0 false (.slice none 0 0) false) := by rw [hW2]; exact (hi1.set 2 _).set 1 _
  have hgil := H0.out.2.2.1.lt
  have hgfl := H0.out.2.2.2.1.lt
  have hgdl := H0.out.1.lt
  have hsg := H1.out.2
  obtain ⟨n1, n2, n3⟩ := H0.out.2.2.2.2.1
  have hfW := (H0.out.2.2.2.1.below hbw).fr hF2 (fun h => n1 h.symm)
  have hdW := hd1.fr hF2 (fun h => n2 h)
  have htW := hB3.fr hF2 (fun h => by have h : gt = gi := h; omega)
  have ho3l : ∀ k, (Value.slice A3 (digs 18446744073709551616 (10 ^ _)).length c3).ownBlock = some k → w.heap.size ≤ k := fun k hk => (ho3.lt hk).1
  have hrW : RdW W2 (.slice A (digs 18446744073709551616 a).length c) (digs 18446744073709551616 a) := (RdG.below (k := .u64) H0.out.2.1 hbw).fr hF2 (fun k hk h => (H0.out.2.2.2.2.2.1 k hk).1 h)
  have ho3W : RdW W2 (.slice A3 (digs 18446744073709551616 (10 ^ k)).length c3) (digs 18446744073709551616 (10 ^ k)) := ho3.rd.fr hF2 (fun k hk h => by have h : k = gi := h; have := ho3l k hk; omega)
  have hbb := H0.out.2.2.2.2.2.2.2.2.2.2
  have hvD : VarsD W2 base := (H0.out.2.2.2.2.2.2.2.2.2.1.below hbw).fr hF2 (fun j h => by have h : j = gi := h; omega)
  have conQ := bquorem_gen w.heap.size gi 3 gf 3 gd 3 gt 0 71 71 _ _ false false false false (.slice none 0 0) (.slice none 0 0) (.slice A (digs 18446744073709551616 a).length c) (.slice A3 (digs 18446744073709551616 (10 ^ k)).length c3) 0 0 a (10 ^ k) W2.drew
    hB2.drew rfl rfl rfl (Own.nil _ _).room (by decide) hfW.drew rfl rfl rfl (Own.nil _ _).room (by decide) n1 (hdW.drew.cell 3) (hdW.drew.cell 4) (htW.drew.cell 0) (htW.drew.cell 1)
    ⟨n2, n3, fun h => (by cases h), fun h => (by cases h)⟩ ⟨by omega, by omega, fun h => (by cases h), fun h => (by cases h)⟩
    (fun W hW' => have hW : Fr W2 W (fun k => k = gi ∨ k = gf) := ⟨hW'.os, hW'.tape, hW'.output, hW'.size, hW'.block⟩; div_few w.heap.size (.slice none 0 0) (.slice none 0 0) 0 0 (10 ^ k) A A3 c c3 a W (Own.nil _ _).room (Own.nil _ _).room (fun _ h => (by cases h)) (by have := hbw.size; have := hF2.size; have := hW.size; omega) (by have := H0.out.2.2.2.2.2.2.1; omega) (by have := pow_words H0.out.2.2.2.2.2.2.2.2.1; omega) (Nat.pow_pos (by omega)) (pow_few H0.out.2.2.2.2.2.2.1)
      (hrW.fr hW (fun j hj h => h.elim (H0.out.2.2.2.2.2.1 j hj).1 (H0.out.2.2.2.2.2.1 j hj).2)) (fun _ _ => ⟨fun h => (by cases h), fun h => (by cases h)⟩) (ho3W.fr hW (fun j hj h => by have := ho3l j hj; have h : j = gi ∨ j = gf := h; omega)) (fun _ _ => ⟨fun h => (by cases h), fun h => (by cases h)⟩) (hvD.fr hW (fun j h => by have h : j = gi ∨ j = gf := h; omega)).c (by have := hvD.b; omega))
  have ConQ := hide conQ
  have Fin : Hid (∀ e3 w3, QrB W2.drew w.heap.size gi 3 gf 3 71 71 (decC 0 n 0 false (.slice none 0 0) false) (decC 0 false 0 false (.slice none 0 0) false) (.slice none 0 0) (.slice none 0 0) a (10 ^ k) e3 w3 →
      w3.cell? ⟨gd, 2, none⟩ = some (.int .i32 e) ∧ w3.cell? ⟨gf, 2, none⟩ = some (.int .i32 0) ∧ w3.cell? ⟨gf, 1, none⟩ = some (.bool false) ∧ w3.frozen? ⟨gf, 1, none⟩ = false ∧ w3.frozen? ⟨gf, 2, none⟩ = false ∧
      Hid (MdP w gi gf n a e (.returned (.tuple #[])) ((w3.setCell ⟨gf, 2, none⟩ (.int .i32 e)).setCell ⟨gf, 1, none⟩ (.bool n)))) := by
    rintro e3 w3 ⟨-, Q, R, cq, cr, hoq, hor, hbq, hbr, hqr, hBq, hBr, hF3'⟩
    have hF3 : Fr W2 w3 (fun k => (k = gi ∨ k = gf) ∨ ((Value.slice none 0 0).ownBlock = some k ∨ (Value.slice none 0 0).ownBlock = some k)) := ⟨hF3'.os, hF3'.tape, hF3'.output, hF3'.size, hF3'.block⟩
    clear hF3'
    have hBq' : Blk w3 gi 71 (decC 0 n 0 false (.slice Q (digs 18446744073709551616 (a / 10 ^ k)).length cq) false) := hBq
    have hBr' : Blk w3 gf 71 (decC 0 false 0 false (.slice R (digs 18446744073709551616 (a % 10 ^ k)).length cr) false) := hBr
    have hF3' : Fr W2 w3 (fun k => k = gi ∨ k = gf) := hF3.mono (fun k _ h => h.elim id (fun h => h.elim (fun h => by cases h) (fun h => by cases h)))
    have hd3 := hdW.fr hF3' (fun h => h.elim n2 n3)
    refine ⟨hd3.cell 2, hBr'.cell 2, hBr'.cell 1, hBr'.frozen 1, hBr'.frozen 2, ?_⟩
    have fr := ((Fr.refl w3 (fun k => k = gf)).setCell (p := ⟨gf, 2, none⟩) (fun _ => rfl) (.int .i32 e)).setCell (p := ⟨gf, 1, none⟩) (fun _ => rfl) (.bool n)
    refine ⟨rfl, a / 10 ^ k, a % 10 ^ k, 0, e, Q, R, cq, cr, modN_part H0.out.2.2.2.2.2.2.2.1, hoq.rd.fr fr (fun j hj h => ?_), hor.rd.fr fr (fun j hj h => ?_), hBq'.fr fr (fun h => n1 h), (hBr'.set 2 _).set 1 _, ?_, fun j hj => Nat.lt_of_lt_of_le (hoq.lt hj).2 fr.size⟩
    · have h1 := (hoq.lt hj).1
      have h3 : j = gf := h
      omega
    · have h1 := (hor.lt hj).1
      have h3 : j = gf := h
      omega
    · exact Fr.step (Fr.step (Fr.step (Fr.of_below hbw (fun k => k = gi ∨ k = gf)) hF2 (fun _ _ h => .inl h)) hF3' (fun _ _ h => h)) fr (fun _ _ h => .inr h)
  clear hd1 hi1 hF2 hB2 hfW hdW htW ho3l hrW ho3W hvD conQ ho3 hk3 hB3 hF3 hbw H1 hbb hgil hgdl hsg n1 n2 n3 hgfl H0
  go_wp2_with fail
  rw [← hW2]
  clear hW2
  go_region_with (go_at_call 54; go_loud (refine (ConQ.out).mono ?_; rintro e3 w3 HI; obtain ⟨x4, y3, y4, z3, z4, HP⟩ := Fin.out _ _ HI; obtain ⟨rfl, _⟩ := HI; clear ConQ Fin))
  all_goals go_wp2
  all_goals go_end0
  all_goals exact HP.out

theorem modf_any (gd gi gf : Nat) (n : Bool) (e : Int) (A : Option Addr) (c a : Nat) (w : World) (hd : Blk w gd 71 (decC 0 n e false (.slice A (digs 18446744073709551616 a).length c) false)) (hr : RdW w (.slice A (digs 18446744073709551616 a).length c) (digs 18446744073709551616 a)) (hi : Blk w gi 71 (decC 0 false 0 false (.slice none 0 0) false)) (hf : Blk w gf 71 (decC 0 false 0 false (.slice none 0 0) false)) (hne : gi ≠ gf ∧ gd ≠ gi ∧ gd ≠ gf)
    (hab : ∀ k, (Value.slice A (digs 18446744073709551616 a).length c).ownBlock = some k → k ≠ gi ∧ k ≠ gf) (hl : (digs 18446744073709551616 a).length ≤ 3) (base : Nat) (hv : VarsD w base) (hbb : base ≤ gi ∧ base ≤ gf) (he : -1000 ≤ e ∧ e ≤ 1000) :
    Calls Tryz.prog 29 #[.pointer (some ⟨gd, 0, none⟩), .pointer (some ⟨gi, 0, none⟩), .pointer (some ⟨gf, 0, none⟩)] w (MdP w gi gf n a e) := by
  rcases Int.lt_or_le 0 e with h | h
  · exact modf_up gd gi gf n e A c a w hd hr hi hf hne hab hl h
  · obtain ⟨k, hk⟩ : ∃ k : Nat, (k : Int) = -e := ⟨e.natAbs, by omega⟩
    rcases Nat.lt_or_ge (figs a) k with h1 | h1
    · exact modf_small gd gi gf n e A c a w hd hr hi hf hne hab hl base hv (by have := hi.lt; omega) k hk h1 (by omega)
    · exact modf_part gd gi gf n e A c a w hd hr hi hf hne hab hl base hv hbb k hk h1
end Go.Proofs.YtfkcobdkgjhfaaaGreatDoor

/- Walk: the thin package's Modf. -/
set_option linter.unusedVariables false
set_option linter.unusedSimpArgs false
namespace Go.Proofs.YtfkcobdkgjhfaaaGreatDoor
open Go.RowKit

theorem OwnU.below {w w' : World} {base : Nat} {v : Value} {xs : List Nat} (h : OwnU w base v xs) (hb : Below w.heap.size w w') : OwnU w' base v xs := h.fr (Fr.of_below hb (fun _ => False)) (fun _ _ h => h)
theorem imodf_result (n1 n2 : Nat) (tmps : Array Value) (h : tmps.getD 2 undef = .pointer (some ⟨n1, 0, none⟩)) (h3 : tmps.getD 3 undef = .pointer (some ⟨n2, 0, none⟩)) (W : World) (a b c d a' b' c' d' : Value) (c0 : W.cell? ⟨n1, 0, none⟩ = some a) (c1 : W.cell? ⟨n1, 1, none⟩ = some b) (c2 : W.cell? ⟨n1, 2, none⟩ = some c) (c3 : W.cell? ⟨n1, 3, none⟩ = some d) (e0 : W.cell? ⟨n2, 0, none⟩ = some a') (e1 : W.cell? ⟨n2, 1, none⟩ = some b') (e2 : W.cell? ⟨n2, 2, none⟩ = some c') (e3 : W.cell? ⟨n2, 3, none⟩ = some d') :
    (results Tryz.f10 tmps).run Tryz.prog W = .ok (.tuple #[.agg #[a, b, c, d], .agg #[a', b', c', d']]) W := by
  have x2 : tmps[2]?.getD undef = .pointer (some ⟨n1, 0, none⟩) := by simpa using h
  have x3 : tmps[3]?.getD undef = .pointer (some ⟨n2, 0, none⟩) := by simpa using h3
  simp [results, Tryz.results10, go_sem, x2, x3, c0, c1, c2, c3, e0, e1, e2, e3]
/-- Behind the thin Modf. -/
def IModP (w : World) (n : Bool) (a : Nat) (e : Int) (e' : Ending) (w' : World) : Prop :=
  ∃ (p q : Nat) (ep eq : Int) (P Q : Option Addr) (cp cq : Nat), e' = .returned (.tuple #[.agg #[.int .i64 0, .bool n, .slice P (digs 18446744073709551616 p).length cp, .int .i64 ep], .agg #[.int .i64 0, .bool n, .slice Q (digs 18446744073709551616 q).length cq, .int .i64 eq]]) ∧ ModN a e p ep q eq ∧
    OwnU w' w.heap.size (.slice P (digs 18446744073709551616 p).length cp) (digs 18446744073709551616 p) ∧ OwnU w' w.heap.size (.slice Q (digs 18446744073709551616 q).length cq) (digs 18446744073709551616 q) ∧ Below w.heap.size w w'

theorem ModN.le {a : Nat} {e : Int} {p : Nat} {ep : Int} {q : Nat} {eq : Int} (h : ModN a e p ep q eq) : p ≤ a ∧ q ≤ a := by
  rcases h with ⟨-, rfl, -, rfl, -⟩ | ⟨-, -, -, h, -⟩
  · exact ⟨Nat.le_refl _, Nat.zero_le _⟩
  · have h1 : p * 1 ≤ p * 10 ^ e.natAbs := Nat.mul_le_mul_left _ (Nat.pow_pos (by omega))
    omega
theorem ModN.exps {a : Nat} {e : Int} {p : Nat} {ep : Int} {q : Nat} {eq : Int} (h : ModN a e p ep q eq) (he : -1000 ≤ e ∧ e ≤ 1000) : (0 ≤ ep ∧ ep ≤ 1000) ∧ (-1000 ≤ eq ∧ eq ≤ 0) := by
  rcases h with ⟨h, -, rfl, -, rfl⟩ | ⟨h, rfl, rfl, -, -⟩ <;> omega

set_option maxHeartbeats 2000000 in
set_option maxRecDepth 20000 in
theorem imodf_any (n : Bool) (A : Option Addr) (c a : Nat) (e : Int) (w : World) (hv : RdW w (.slice A (digs 18446744073709551616 a).length c) (digs 18446744073709551616 a)) (hl : (digs 18446744073709551616 a).length ≤ 3) (he : -1000 ≤ e ∧ e ≤ 1000) (hvars : VarsD w w.heap.size) :
    Calls Tryz.prog 10 #[.agg #[.int .i64 0, .bool n, .slice A (digs 18446744073709551616 a).length c, .int .i64 e]] w (IModP w n a e) := by
  obtain ⟨g1, hg1⟩ : ∃ g, g = w.heap.size := ⟨_, rfl⟩
  obtain ⟨r1, hr1⟩ : ∃ g, g = w.heap.size + 1 := ⟨_, rfl⟩
  obtain ⟨r2, hr2⟩ : ∃ g, g = w.heap.size + 1 + 1 := ⟨_, rfl⟩
  obtain ⟨gi, hgi⟩ : ∃ g, g = w.heap.size + 1 + 1 + 1 := ⟨_, rfl⟩
  obtain ⟨gf, hgf⟩ : ∃ g, g = w.heap.size + 1 + 1 + 1 + 1 := ⟨_, rfl⟩
  obtain ⟨W0, hW0⟩ : ∃ W, W = ((((w.alloc (.cells #[.int .i64 0, .bool n, .slice A (digs 18446744073709551616 a).length c, .int .i64 e] 24)).alloc (.cells #[.int .i64 0, .bool false, .slice none 0 0, .int .i64 0] 24)).alloc (.cells #[.int .i64 0, .bool false, .slice none 0 0, .int .i64 0] 24)).alloc (.cells #[.int .i8 0, .bool false, .int .i32 0, .bool false, .slice none 0 0, .bool false] 71)).alloc (.cells #[.int .i8 0, .bool false, .int .i32 0, .bool false, .slice none 0 0, .bool false] 71) := ⟨_, rfl⟩
  have hb0 : Below w.heap.size w W0 := by rw [hW0]; exact below_al (below_al (below_al (below_al (below_al (Below.refl _ _) _) _) _) _) _
  have hB1 : Blk W0 g1 24 #[.int .i64 0, .bool n, .slice A (digs 18446744073709551616 a).length c, .int .i64 e] := by rw [hW0, hg1]; exact ((((Blk.new w _ _).alloc _).alloc _).alloc _).alloc _
  have hBr1 : Blk W0 r1 24 #[.int .i64 0, .bool false, .slice none 0 0, .int .i64 0] := by
    rw [hW0, hr1]
    have := Blk.new (w.alloc (.cells #[.int .i64 0, .bool n, .slice A (digs 18446744073709551616 a).length c, .int .i64 e] 24)) 24 #[.int .i64 0, .bool false, .slice none 0 0, .int .i64 0]
    exact (((by simpa using this : Blk _ (w.heap.size + 1) _ _).alloc _).alloc _).alloc _
  have hBr2 : Blk W0 r2 24 #[.int .i64 0, .bool false, .slice none 0 0, .int .i64 0] := by
    rw [hW0, hr2]
    have := Blk.new ((w.alloc (.cells #[.int .i64 0, .bool n, .slice A (digs 18446744073709551616 a).length c, .int .i64 e] 24)).alloc (.cells #[.int .i64 0, .bool false, .slice none 0 0, .int .i64 0] 24)) 24 #[.int .i64 0, .bool false, .slice none 0 0, .int .i64 0]
    exact ((by simpa using this : Blk _ (w.heap.size + 1 + 1) _ _).alloc _).alloc _
  have hBi : Blk W0 gi 71 (decC 0 false 0 false (.slice none 0 0) false) := by
    rw [hW0, hgi]
    have := Blk.new (((w.alloc (.cells #[.int .i64 0, .bool n, .slice A (digs 18446744073709551616 a).length c, .int .i64 e] 24)).alloc (.cells #[.int .i64 0, .bool false, .slice none 0 0, .int .i64 0] 24)).alloc (.cells #[.int .i64 0, .bool false, .slice none 0 0, .int .i64 0] 24)) 71 (decC 0 false 0 false (.slice none 0 0) false)
    unfold decC at this ⊢
    exact (by simpa using this : Blk _ (w.heap.size + 1 + 1 + 1) _ _).alloc _
  have hBf : Blk W0 gf 71 (decC 0 false 0 false (.slice none 0 0) false) := by
    rw [hW0, hgf]
    have := Blk.new ((((w.alloc (.cells #[.int .i64 0, .bool n, .slice A (digs 18446744073709551616 a).length c, .int .i64 e] 24)).alloc (.cells #[.int .i64 0, .bool false, .slice none 0 0, .int .i64 0] 24)).alloc (.cells #[.int .i64 0, .bool false, .slice none 0 0, .int .i64 0] 24)).alloc (.cells #[.int .i8 0, .bool false, .int .i32 0, .bool false, .slice none 0 0, .bool false] 71)) 71 (decC 0 false 0 false (.slice none 0 0) false)
    unfold decC at this ⊢
    simpa using this
  obtain ⟨x0, x1, x2, x3⟩ := hB1.dec4
  have con1 := made_fin 0 n (.slice A (digs 18446744073709551616 a).length c) (digs 18446744073709551616 a) e W0 (RdG.below (k := .u64) hv hb0) (by omega) (by decide) (by decide) (by decide) (by omega) (by omega)
  rw [trimz_of_canon (canon_digs (by omega) _)] at con1
  have Con1 := hide con1
  have H := hide (And.intro hb0 (And.intro hBr1 (And.intro hBr2 (And.intro hBi (And.intro hBf (And.intro hl (And.intro he hvars)))))))
  have HN : Hid (w.heap.size ≤ r1 ∧ w.heap.size ≤ r2 ∧ w.heap.size ≤ gi ∧ w.heap.size ≤ gf ∧ r1 ≠ r2 ∧ r1 ≠ gi ∧ r1 ≠ gf ∧ r2 ≠ gi ∧ r2 ≠ gf ∧ gi ≠ gf) := by refine ⟨?_, ?_, ?_, ?_, ?_, ?_, ?_, ?_, ?_, ?_⟩ <;> omega
  clear hv hl he con1 hb0 hB1 hBr1 hBr2 hBi hBf hvars
  go_enter Tryz.func10, Tryz.ntmps10
  rw [hW0] at x0 x1 x2 x3
  go_wp2_with fail
  rw [← hW0, ← hgf, ← hgi, ← hr2, ← hr1, ← hg1]
  clear hW0 hgf hgi hr1 hr2 hg1 x0 x1 x2 x3
  refine (Con1.out).mono ?_
  rintro e1 w1 ⟨gx, A1, c1, rfl, hgx, ho, hB, hbel⟩
  have hBi1 := H.out.2.2.2.1.below hbel
  have hBf1 := H.out.2.2.2.2.1.below hbel
  have hil := H.out.2.2.2.1.lt
  have hfl := H.out.2.2.2.2.1.lt
  have Con3 := hide (modf_any gx gi gf n e A1 c1 a w1 hB ho.rd hBi1 hBf1 ⟨HN.out.2.2.2.2.2.2.2.2.2, by omega, by omega⟩ (fun k hk => ⟨ho.room.ne_blk hBi1 (by decide) k hk, ho.room.ne_blk hBf1 (by decide) k hk⟩) H.out.2.2.2.2.2.1 w.heap.size (H.out.2.2.2.2.2.2.2.below (below_next H.out.1 hbel)) ⟨HN.out.2.2.1, HN.out.2.2.2.1⟩ H.out.2.2.2.2.2.2.1)
  have H1 := hide (And.intro (below_next H.out.1 hbel) (And.intro (H.out.2.1.below hbel) (H.out.2.2.1.below hbel)))
  clear hgx ho hB hbel hBi1 hBf1 hil hfl Con1
  go_wp2_with fail
  refine (Con3.out).mono ?_
  rintro e2 w2 ⟨rfl, p, q, ep, eq, P, Q, cp, cq, hN, hrp, hrq, hBp, hBq, hF, -⟩
  have hle := hN.le
  have hex := hN.exps H.out.2.2.2.2.2.2.1
  have hlp : (digs 18446744073709551616 p).length ≤ 3 := Nat.le_trans (digs_length_mono (by omega) hle.1) H.out.2.2.2.2.2.1
  have hlq : (digs 18446744073709551616 q).length ≤ 3 := Nat.le_trans (digs_length_mono (by omega) hle.2) H.out.2.2.2.2.2.1
  have con4 := told_fin gi n ep false false _ _ w2 hBp hrp (by omega) (by omega) (by omega)
  unfold ToldFin at con4
  have Con4 := hide con4
  have Con5 : Hid (∀ W, Below w2.heap.size w2 W → Calls Tryz.prog 30 #[.pointer (some ⟨gf, 0, none⟩)] W (ToldFin W n eq (digs 18446744073709551616 q))) := fun W hW => told_fin gf n eq false false _ _ W (hBq.below hW) (RdG.below (k := .u64) hrq hW) (by omega) (by omega) (by omega)
  have hb2 : Below w.heap.size w w2 := (Fr.step (Fr.of_below H1.out.1 (fun k => w.heap.size ≤ k)) hF (fun i _ hi => by have hi : i = gi ∨ i = gf := hi; have := HN.out; omega)).below (Nat.le_refl _) (fun _ h => h)
  have H2 := hide (And.intro hb2 (And.intro (H1.out.2.1.fr hF (fun h => h.elim HN.out.2.2.2.2.2.1 HN.out.2.2.2.2.2.2.1)) (And.intro (H1.out.2.2.fr hF (fun h => h.elim HN.out.2.2.2.2.2.2.2.1 HN.out.2.2.2.2.2.2.2.2.1)) hN)))
  clear con4 hrp hrq hBp hBq hF hlp hlq hle hex hN hb2 Con3 H1 H
  go_wp2_with fail
  refine (Con4.out).mono ?_
  rintro e3 w3 ⟨A3, c3, rfl, ho3, hb3⟩
  have con5 := Con5.out w3 hb3
  unfold ToldFin at con5
  have Con6 := hide con5
  have H3 := hide (And.intro ho3 hb3)
  clear con5 Con5 Con4 ho3 hb3
  go_wp2_with fail
  refine (Con6.out).mono ?_
  rintro e4 w4 ⟨A4, c4, rfl, ho4, hb4⟩
  have b1 := (H2.out.2.1.below H3.out.2).below hb4
  have b2 := (H2.out.2.2.1.below H3.out.2).below hb4
  obtain ⟨x0, x1, x2, x3⟩ := b1.dec4
  obtain ⟨y0, y1, y2, y3⟩ := b2.dec4
  have f0 := b1.frozen 0
  have f1 := b1.frozen 1
  have f2 := b1.frozen 2
  have f3 := b1.frozen 3
  have k0 := b2.frozen 0
  have k1 := b2.frozen 1
  have k2 := b2.frozen 2
  have k3 := b2.frozen 3
  have n12 : r1 ≠ r2 := HN.out.2.2.2.2.1
  have n21 : r2 ≠ r1 := fun h => n12 h.symm
  obtain ⟨W6, hW6⟩ : ∃ W6, W6 = (((w4.setCell ⟨r1, 0, none⟩ (.int .i64 0)).setCell ⟨r1, 1, none⟩ (.bool n)).setCell ⟨r1, 2, none⟩ (.slice A3 (digs 18446744073709551616 p).length c3)).setCell ⟨r1, 3, none⟩ (.int .i64 ep) := ⟨_, rfl⟩
  obtain ⟨W7, hW7⟩ : ∃ W7, W7 = (((W6.setCell ⟨r2, 0, none⟩ (.int .i64 0)).setCell ⟨r2, 1, none⟩ (.bool n)).setCell ⟨r2, 2, none⟩ (.slice A4 (digs 18446744073709551616 q).length c4)).setCell ⟨r2, 3, none⟩ (.int .i64 eq) := ⟨_, rfl⟩
  have hF6 : Fr w4 W6 (fun k => k = r1) := by rw [hW6]; exact ((((Fr.refl w4 (fun k => k = r1)).setCell (p := ⟨r1, 0, none⟩) (fun _ => rfl) _).setCell (p := ⟨r1, 1, none⟩) (fun _ => rfl) _).setCell (p := ⟨r1, 2, none⟩) (fun _ => rfl) _).setCell (p := ⟨r1, 3, none⟩) (fun _ => rfl) _
  have hF7 : Fr W6 W7 (fun k => k = r2) := by rw [hW7]; exact ((((Fr.refl W6 (fun k => k = r2)).setCell (p := ⟨r2, 0, none⟩) (fun _ => rfl) _).setCell (p := ⟨r2, 1, none⟩) (fun _ => rfl) _).setCell (p := ⟨r2, 2, none⟩) (fun _ => rfl) _).setCell (p := ⟨r2, 3, none⟩) (fun _ => rfl) _
  have hB6 : Blk W6 r1 24 #[.int .i64 0, .bool n, .slice A3 (digs 18446744073709551616 p).length c3, .int .i64 ep] := by rw [hW6]; exact (((b1.set 0 _).set 1 _).set 2 _).set 3 _
  have b26 := b2.fr hF6 (fun h => n21 h)
  have hB7 : Blk W7 r2 24 #[.int .i64 0, .bool n, .slice A4 (digs 18446744073709551616 q).length c4, .int .i64 eq] := by rw [hW7]; exact (((b26.set 0 _).set 1 _).set 2 _).set 3 _
  have hF8 : Fr w4 W7 (fun k => k = r1 ∨ k = r2) := Fr.step (hF6.mono (fun _ _ h => .inl h)) hF7 (fun _ _ h => .inr h)
  have ho3 := H3.out.1.below hb4
  have HP : Hid (IModP w n a e (.returned (.tuple #[.agg #[.int .i64 0, .bool n, .slice A3 (digs 18446744073709551616 p).length c3, .int .i64 ep], .agg #[.int .i64 0, .bool n, .slice A4 (digs 18446744073709551616 q).length c4, .int .i64 eq]])) W7) :=
    ⟨p, q, ep, eq, A3, A4, c3, c4, rfl, H2.out.2.2.2, (ho3.fr hF8 (fun k hk h => h.elim (ho3.ne_blk b1 (by decide) k hk) (ho3.ne_blk b2 (by decide) k hk))).lower H2.out.1.size, (ho4.fr hF8 (fun k hk h => h.elim (ho4.ne_blk b1 (by decide) k hk) (ho4.ne_blk b2 (by decide) k hk))).lower (Nat.le_trans H2.out.1.size H3.out.2.size),
      (Fr.step (Fr.of_below (below_next (below_next H2.out.1 H3.out.2) hb4) (fun k => w.heap.size ≤ k)) hF8 (fun i _ hi => by have hi : i = r1 ∨ i = r2 := hi; have := HN.out; omega)).below (Nat.le_refl _) (fun _ h => h)⟩
  have HC := hide (And.intro (hB6.fr hF7 (fun h => n12 h)).dec4 hB7.dec4)
  clear hF6 hF7 hB6 hB7 b1 b2 b26 hF8 ho3 ho4 hb4 H2 H3 HN Con6
  generalize (digs 18446744073709551616 p).length = np at *
  generalize (digs 18446744073709551616 q).length = nq at *
  go_wp2_with fail
  all_goals (try rw [← hW6])
  all_goals (try rw [← hW7])
  clear hW6 hW7
  go_wp2
  exact bodyPost_ret (imodf_result r1 r2 _ rfl rfl _ _ _ _ _ _ _ _ _ HC.out.1.1 HC.out.1.2.1 HC.out.1.2.2.1 HC.out.1.2.2.2 HC.out.2.1 HC.out.2.2.1 HC.out.2.2.2.1 HC.out.2.2.2.2) rfl HP.out
end Go.Proofs.YtfkcobdkgjhfaaaGreatDoor

/- What the law FnModf holds while it calls; its numbers; the reference's Same. -/
set_option linter.unusedVariables false
set_option linter.unusedSimpArgs false
namespace Go.Proofs.YtfkcobdkgjhfaaaGreatDoor
open Go.RowKit

theorem num_digs (m : Nat) : numW (digs 18446744073709551616 m) = m := by unfold numW; rw [dval_digs (by omega)]
theorem ok_digs (m : Nat) : okB 0 (digs 18446744073709551616 m) = true := by unfold okB; rw [num_digs]; simp [eqB]
theorem digs_one16 : digs 65536 1 = [1] := by rw [digs_pos (by omega) (by omega)]; rw [show 1 / 65536 = 0 from rfl, digs_zero]
theorem sgnI_zero_len (n : Bool) : sgnI n 0 = 0 := by cases n <;> rfl
theorem ordV_self (n : Bool) (a : Nat) : ordV n a n a = 0 := by
  have h : sumV n a (!n) a = (n, 0) := by
    unfold sumV
    rw [if_neg (by cases n <;> simp), if_pos (Nat.le_refl _), Nat.sub_self]
  unfold ordV
  rw [h, digs_zero]
  exact sgnI_zero_len n
theorem ordV_less {a b : Nat} (h : a < b) : ordV false a false b = -1 := by
  have h1 : sumV false a (!false) b = (true, b - a) := by
    unfold sumV
    rw [if_neg (by decide), if_neg (by omega)]
    rfl
  unfold ordV
  rw [h1]
  have h2 : (digs 65536 (b - a)).length ≠ 0 := fun h => digs_ne_nil (by omega) (by omega : 0 < b - a) (List.eq_nil_of_length_eq_zero h)
  obtain ⟨l, hl⟩ : ∃ l, (digs 65536 (b - a)).length = l + 1 := ⟨(digs 65536 (b - a)).length - 1, by omega⟩
  rw [hl]
  rfl

/-- The parts' sum, at one exponent; what is left is below 1. -/
structure ModU (a : Nat) (e : Int) (p : Nat) (ep : Int) (q : Nat) (eq M : Int) (sa sb st u : Nat) : Prop where
  e1 : ep = M + (sa : Int)
  e2 : eq = M + (sb : Int)
  e3 : e = M + (st : Int)
  z : sa = 0 ∨ sb = 0
  l1 : sa ≤ 100
  l2 : sb ≤ 100
  l3 : st ≤ 100
  m1 : -100 ≤ M
  m2 : M ≤ 0
  eu : eq + (u : Int) = 0
  lu : u ≤ 100
  sum : p * 10 ^ sa + q * 10 ^ sb = a * 10 ^ st
  lt : q < 10 ^ u
  p0 : 0 ≤ ep

theorem modN_sum {a : Nat} {e : Int} {p : Nat} {ep : Int} {q : Nat} {eq : Int} (h : ModN a e p ep q eq) (he : -100 ≤ e ∧ e ≤ 100) : ∃ M sa sb st u, ModU a e p ep q eq M sa sb st u := by
  rcases h with ⟨h, rfl, rfl, rfl, rfl⟩ | ⟨h, rfl, rfl, h1, h2⟩
  · obtain ⟨k, hk⟩ : ∃ k : Nat, ep = (k : Int) := ⟨ep.natAbs, by omega⟩
    subst hk
    exact ⟨0, k, 0, k, 0, by omega, by omega, by omega, .inr rfl, by omega, by omega, by omega, by omega, by omega, by omega, by omega, by simp, by simp, by omega⟩
  · obtain ⟨k, hk⟩ : ∃ k : Nat, eq = -(k : Int) := ⟨eq.natAbs, by omega⟩
    subst hk
    have e1 : (-(k : Int)).natAbs = k := by omega
    rw [e1] at h1 h2
    exact ⟨-(k : Int), k, 0, 0, k, by omega, by omega, by omega, .inr rfl, by omega, by omega, by omega, by omega, by omega, by omega, by omega, by simpa using h1, h2, by omega⟩
theorem wide_100 {a s : Nat} (ha : (digs 65536 a).length ≤ 12) (hs : s ≤ 100) : (digs 65536 (a * 10 ^ s)).length ≤ 33 := by
  have h1 := lt_of_digs_length (b := 65536) (by omega) ha
  have h2 : (10 : Nat) ^ s < 65536 ^ 21 := Nat.lt_of_le_of_lt (Nat.pow_le_pow_right (by omega) hs) (by decide)
  refine digs_length_le (by omega) ?_
  exact Nat.lt_of_lt_of_eq (Nat.mul_lt_mul'' h1 h2) (by rw [← Nat.pow_add])

set_option maxHeartbeats 1000000 in
theorem ssame_any (n1 n2 : Bool) (B1 B2 : Option Addr) (l1 l2 c1 c2 a b sa sb : Nat) (m x1 x2 : Int) (w : World) (hx1 : x1 = m + (sa : Int)) (hx2 : x2 = m + (sb : Int)) (hr1 : RdG .i64 w (.slice B1 l1 c1) (digs 65536 a)) (hr2 : RdG .i64 w (.slice B2 l2 c2) (digs 65536 b)) (h1 : l1 ≤ 120) (h2 : l2 ≤ 120) (hz : sa = 0 ∨ sb = 0) (hsa : sa ≤ 200) (hsb : sb ≤ 200) (hm : -1000 ≤ m) (hm2 : m ≤ 1000) :
    Calls Tryz.prog 12 #[.agg #[.bool n1, .slice B1 l1 c1, .int .i64 x1], .agg #[.bool n2, .slice B2 l2 c2, .int .i64 x2]] w (fun e w' => e = .returned (.bool (ordV n1 (a * 10 ^ sa) n2 (b * 10 ^ sb) == 0)) ∧ Below w.heap.size w w') := by
  obtain ⟨g1, hg1⟩ : ∃ g, g = w.heap.size := ⟨_, rfl⟩
  obtain ⟨g2, hg2⟩ : ∃ g, g = w.heap.size + 1 := ⟨_, rfl⟩
  obtain ⟨W0, hW0⟩ : ∃ W0, W0 = (w.alloc (.cells #[.bool n1, .slice B1 l1 c1, .int .i64 x1] 29)).alloc (.cells #[.bool n2, .slice B2 l2 c2, .int .i64 x2] 29) := ⟨_, rfl⟩
  have hb : Below w.heap.size w W0 := by rw [hW0]; exact below_al (below_al (Below.refl _ _) _) _
  have hB1 : Blk W0 g1 29 #[.bool n1, .slice B1 l1 c1, .int .i64 x1] := by rw [hW0, hg1]; exact (Blk.new w _ _).alloc _
  have hB2 : Blk W0 g2 29 #[.bool n2, .slice B2 l2 c2, .int .i64 x2] := by
    rw [hW0, hg2]
    have := Blk.new (w.alloc (.cells #[.bool n1, .slice B1 l1 c1, .int .i64 x1] 29)) 29 #[.bool n2, .slice B2 l2 c2, .int .i64 x2]
    simpa using this
  obtain ⟨q, hq⟩ : ∃ q, q = ordV n1 (a * 10 ^ sa) n2 (b * 10 ^ sb) := ⟨_, rfl⟩
  have con := sorder_any n1 n2 B1 B2 l1 l2 c1 c2 a b sa sb m x1 x2 W0 hx1 hx2 (hr1.below hb) (hr2.below hb) h1 h2 hz hsa hsb hm hm2
  rw [← hq] at con ⊢
  have Con := hide con
  have HB := hide hb
  have k1 := hB1.val3
  have k2 := hB2.val3
  clear con hb hB1 hB2 hr1 hr2 hx1 hx2 h1 h2 hz hsa hsb hm hm2 hq
  obtain ⟨k1, k3, k4⟩ := k1
  obtain ⟨k2, k5, k6⟩ := k2
  rw [hW0] at k1 k2 k3 k4 k5 k6
  go_enter Tryz.func12, Tryz.ntmps12
  go_wp2_with fail
  rw [← hW0]
  clear hW0 k1 k2 k3 k4 k5 k6
  refine (Con.out).mono ?_
  rintro e w1 ⟨rfl, hb1⟩
  have HF := hide (below_next HB.out hb1)
  clear Con HB hb1
  go_wp2
  go_ret
  exact ⟨rfl, HF.out⟩

/-- What the law holds: the value and its parts. -/
structure MfL (w : World) (gv gp gq : Nat) (n nq : Bool) (B P Q : Option Addr) (lb lp lq cb cp cq a p q : Nat) (e ep eq : Int) (W : World) : Prop where
  bel : Below w.heap.size w W
  ba : Blk W gv 29 #[.bool n, .slice B lb cb, .int .i64 e]
  bp : Blk W gp 29 #[.bool n, .slice P lp cp, .int .i64 ep]
  bq : Blk W gq 29 #[.bool nq, .slice Q lq cq, .int .i64 eq]
  ra : OwnI W w.heap.size (.slice B lb cb) (digs 65536 a)
  rp : OwnI W w.heap.size (.slice P lp cp) (digs 65536 p)
  rq : OwnI W w.heap.size (.slice Q lq cq) (digs 65536 q)
section
variable {w : World} {gv gp gq : Nat} {n nq : Bool} {B P Q : Option Addr} {lb lp lq cb cp cq a p q : Nat} {e ep eq : Int} {W W' : World}
theorem MfL.below (h : MfL w gv gp gq n nq B P Q lb lp lq cb cp cq a p q e ep eq W) (hb : Below W.heap.size W W') : MfL w gv gp gq n nq B P Q lb lp lq cb cp cq a p q e ep eq W' :=
  ⟨below_next h.bel hb, h.ba.below hb, h.bp.below hb, h.bq.below hb, h.ra.below hb, h.rp.below hb, h.rq.below hb⟩
theorem MfL.next (h : MfL w gv gp gq n nq B P Q lb lp lq cb cp cq a p q e ep eq W) (h1 : W'.os = W.os) (h2 : W'.tape = W.tape) (h3 : W'.output = W.output) (h4 : W.heap.size ≤ W'.heap.size) (h5 : ∀ k, k < W.heap.size → W'.heap[k]? = W.heap[k]?) : MfL w gv gp gq n nq B P Q lb lp lq cb cp cq a p q e ep eq W' :=
  h.below ⟨h1, h2, h3, h4, h5⟩
theorem MfL.cells (h : MfL w gv gp gq n nq B P Q lb lp lq cb cp cq a p q e ep eq W) :
    (W.cell? ⟨gv, 0, none⟩ = some (.bool n) ∧ W.cell? ⟨gv, 1, none⟩ = some (.slice B lb cb) ∧ W.cell? ⟨gv, 2, none⟩ = some (.int .i64 e)) ∧
    (W.cell? ⟨gp, 0, none⟩ = some (.bool n) ∧ W.cell? ⟨gp, 1, none⟩ = some (.slice P lp cp) ∧ W.cell? ⟨gp, 2, none⟩ = some (.int .i64 ep)) ∧
    (W.cell? ⟨gq, 0, none⟩ = some (.bool nq) ∧ W.cell? ⟨gq, 1, none⟩ = some (.slice Q lq cq) ∧ W.cell? ⟨gq, 2, none⟩ = some (.int .i64 eq)) := ⟨h.ba.val3, h.bp.val3, h.bq.val3⟩
theorem MfL.pos (h : MfL w gv gp gq n nq B P Q lb lp lq cb cp cq a p q e ep eq W) (h1 : gp ≠ gq) (h2 : gv ≠ gq) (hg : w.heap.size ≤ gq) : MfL w gv gp gq n false B P Q lb lp lq cb cp cq a p q e ep eq (W.setCell ⟨gq, 0, none⟩ (.bool false)) := by
  have fr := (Fr.refl W (fun k => k = gq)).setCell (p := ⟨gq, 0, none⟩) (fun _ => rfl) (.bool false)
  refine ⟨?_, h.ba.far (p := ⟨gq, 0, none⟩) h2 _, h.bp.far (p := ⟨gq, 0, none⟩) h1 _, h.bq.set 0 _, ?_, ?_, ?_⟩
  · exact (Fr.step (Fr.of_below h.bel (fun k => w.heap.size ≤ k)) fr (fun i _ hi => by have hi : i = gq := hi; omega)).below (Nat.le_refl _) (fun _ h => h)
  · exact h.ra.fr fr (h.ra.ne_blk h.bq (by decide))
  · exact h.rp.fr fr (h.rp.ne_blk h.bq (by decide))
  · exact h.rq.fr fr (h.rq.ne_blk h.bq (by decide))
end
end Go.Proofs.YtfkcobdkgjhfaaaGreatDoor

/- What the laid package variables give the walks that divide by several words. -/
set_option linter.unusedVariables false
set_option linter.unusedSimpArgs false
namespace Go.Proofs.YtfkcobdkgjhfaaaGreatDoor
open Go Go.RowKit

theorem varsD_of {w : World} {l : List (String × DataW Unit)} (h : laidMetH Tryz.prog l w) (hp : (l.filter fun x => x.2.handleName?.isSome) = [])
    (m0 : ("loop.example/pub-g03241/pub/bigall.basicSqrThreshold", DataW.lit (.int .i64 12)) ∈ l) (m1 : ("loop.example/pub-g03241/pub/bigall.karatsubaSqrThreshold", DataW.lit (.int .i64 80)) ∈ l) (m2 : ("loop.example/pub-g03241/pub/bigall.karatsubaThreshold", DataW.lit (.int .i64 40)) ∈ l) (m3 : ("loop.example/pub-g03241/pub/bigall.leafSize", DataW.lit (.int .i64 8)) ∈ l) (m4 : ("loop.example/pub-g03241/pub/bigall.divRecursiveThreshold", DataW.lit (.int .i64 40)) ∈ l) : VarsD w w.heap.size := by
  have hv := varsL_of h hp m0 m1 m2 m3
  unfold laidMetH at h
  rw [hp] at h
  obtain ⟨ps, hl, -⟩ := h
  have c := laid_int (g := 0) (by kernel_rfl) (by kernel_rfl) hl m4
  exact ⟨hv, c, World.block_lt_of_cell? _ _ c⟩
end Go.Proofs.YtfkcobdkgjhfaaaGreatDoor
