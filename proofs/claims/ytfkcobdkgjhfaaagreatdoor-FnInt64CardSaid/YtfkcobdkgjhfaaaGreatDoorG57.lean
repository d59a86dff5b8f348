/- Parts of the proofs: BQuo, Set64U. -/
import Derived.Test.YtfkcobdkgjhfaaaGreatDoorG9
import Derived.Test.YtfkcobdkgjhfaaaGreatDoorG10
import Derived.Test.YtfkcobdkgjhfaaaGreatDoorG20
import Derived.Test.YtfkcobdkgjhfaaaGreatDoorG56
/- Walks: Int.Neg, BigInt.Neg in place; Decimal.setBig; BigInt.QuoRem. -/
set_option linter.unusedVariables false
set_option linter.unusedSimpArgs false
namespace Go.Proofs.YtfkcobdkgjhfaaaGreatDoor
open Go.RowKit

theorem iset_self (g o : Nat) (w : World) : Calls Tryz.prog 87 #[.pointer (some ⟨g, o, none⟩), .pointer (some ⟨g, o, none⟩)] w fun e w' => e = .returned (.pointer (some ⟨g, o, none⟩)) ∧ w = w' := iset_same g o w

theorem ineg_same (g o n c : Nat) (A : Option Addr) (w : World) (h : w.cell? ⟨g, o, none⟩ = some (.bool false)) (hf : w.frozen? ⟨g, o, none⟩ = false) (h1 : w.cell? ⟨g, o + 1, none⟩ = some (.slice A n c)) (hn : 0 < n) :
    Calls Tryz.prog 126 #[.pointer (some ⟨g, o, none⟩), .pointer (some ⟨g, o, none⟩)] w fun e w' => e = .returned (.pointer (some ⟨g, o, none⟩)) ∧ w' = w.setCell ⟨g, o, none⟩ (.bool true) := by
  have Con := hide (iset_self g o w)
  have d1 : decide ((0 : Int) < (n : Int)) = true := decide_eq_true (by omega)
  have d2 : decide (0 < n) = true := decide_eq_true hn
  go_enter Tryz.func126, Tryz.ntmps126
  go_wp2_with fail
  refine (Con.out).mono ?_
  rintro e w1 ⟨rfl, rfl⟩
  go_wp2
  go_ret
  exact ⟨rfl, rfl⟩
theorem bneg_same (g o n c : Nat) (A : Option Addr) (w : World) (h : w.cell? ⟨g, o, none⟩ = some (.bool false)) (hf : w.frozen? ⟨g, o, none⟩ = false) (h1 : w.cell? ⟨g, o + 1, none⟩ = some (.slice A n c)) (h2 : w.cell? ⟨g, o + 2, none⟩ = some (.bool false)) (hf2 : w.frozen? ⟨g, o + 2, none⟩ = false) (hn : 0 < n) :
    Calls Tryz.prog 102 #[.pointer (some ⟨g, o, none⟩), .pointer (some ⟨g, o, none⟩)] w fun e w' => e = .returned (.pointer (some ⟨g, o, none⟩)) ∧ w' = (w.setCell ⟨g, o + 2, none⟩ (.bool false)).drew.setCell ⟨g, o, none⟩ (.bool true) := by
  have con := ineg_same g o n c A (w.setCell ⟨g, o + 2, none⟩ (.bool false)).drew (by show (w.setCell ⟨g, o + 2, none⟩ (.bool false)).cell? _ = _; rw [World.cell?_setCell_other _ _ _ _ (by intro e; injection e with e1 e2; omega)]; exact h) (by show (w.setCell ⟨g, o + 2, none⟩ (.bool false)).frozen? _ = _; rw [World.frozen?_setCell]; exact hf)
    (by show (w.setCell ⟨g, o + 2, none⟩ (.bool false)).cell? _ = _; rw [World.cell?_setCell_other _ _ _ _ (by intro e; injection e with e1 e2; omega)]; exact h1) hn
  have Con := hide con
  have Sg := isign_any g o false A n c w h h1
  rw [sgnI_pos (by omega)] at Sg
  have SG := hide Sg
  clear con Sg
  go_enter Tryz.func102, Tryz.ntmps102
  go_wp2_with fail
  refine (SG.out).mono ?_
  rintro e w1 ⟨rfl, rfl⟩
  clear SG
  go_wp2_with fail
  go_region_with (go_at_call 126; go_loud (refine (Con.out).mono ?_; rintro e w1 ⟨rfl, rfl⟩))
  all_goals go_wp2
  all_goals go_ret
  all_goals exact ⟨rfl, rfl⟩
/-- Behind setBig: b holds the coefficient, with the number's sign. -/
def SbP (w : World) (gz : Nat) (xs : List Nat) (e : Ending) (w' : World) : Prop :=
  e = .returned (.pointer (some ⟨gz, 0, none⟩)) ∧ ∃ b A c, Own w' w.heap.size (.slice A xs.length c) xs ∧ Blk w' gz 69 #[.bool b, .slice A xs.length c, .bool false] ∧ Fr w w' (fun k => k = gz)

set_option maxHeartbeats 1000000 in
theorem dsetBig_any (gd gz : Nat) (n : Bool) (e : Int) (v : Value) (xs : List Nat) (w : World) (hd : Blk w gd 71 (decC 0 n e false v false)) (hr : RdW w v xs) (hxb : ∀ k, v.ownBlock = some k → k ≠ gz) (hl : 0 < xs.length) (hl2 : xs.length ≤ 1000) (hz : Blk w gz 69 #[.bool false, .slice none 0 0, .bool false]) (hne : gz ≠ gd) :
    Calls Tryz.prog 66 #[.pointer (some ⟨gd, 0, none⟩), .pointer (some ⟨gz, 0, none⟩)] w (SbP w gz xs) := by
  have Con := hide (bset_any w.heap.size gz 0 gd 3 69 71 #[.bool false, .slice none 0 0, .bool false] (decC 0 n e false v false) false false false false (.slice none 0 0) v 0 xs w hz rfl rfl rfl (Own.nil _ _).room (by decide) hd rfl rfl rfl hr hxb (by decide) hne (Nat.le_refl _) (by omega))
  have HD := hide (And.intro hd (And.intro hl hne))
  clear hd hr hxb hl hl2 hz hne
  go_enter Tryz.func66, Tryz.ntmps66
  go_wp2_with fail
  refine (Con.out).mono ?_
  rintro e1 w1 ⟨rfl, A, c, ho, -, hB, hF⟩
  have hB1 : Blk w1 gz 69 #[.bool false, .slice A xs.length c, .bool false] := hB
  have hF1 : Fr w w1 (fun k => k = gz) := hF.mono (fun k _ h => h.elim id (fun h => by cases h))
  have d1 : w1.cell? ⟨gd, 1, none⟩ = some (.bool n) := (HD.out.1.fr hF1 (fun h => HD.out.2.2 h.symm)).cell 1
  cases n with
  | false =>
    have HP : Hid (SbP w gz xs (.returned (.pointer (some ⟨gz, 0, none⟩))) w1) := ⟨rfl, _, A, c, ho, hB1, hF1⟩
    clear ho hB hF hB1 hF1 Con HD
    go_wp2
    go_ret
    exact HP.out
  | true =>
    have Con2 := hide (bneg_same gz 0 xs.length c A w1 (hB1.cell 0) (hB1.frozen 0) (hB1.cell 1) (hB1.cell 2) (hB1.frozen 2) HD.out.2.1)
    have HP : Hid (SbP w gz xs (.returned (.pointer (some ⟨gz, 0, none⟩))) ((w1.setCell ⟨gz, 0 + 2, none⟩ (.bool false)).drew.setCell ⟨gz, 0, none⟩ (.bool true))) := by
      have fa : Fr w1 ((w1.setCell ⟨gz, 0 + 2, none⟩ (.bool false)).drew.setCell ⟨gz, 0, none⟩ (.bool true)) (fun k => k = gz) := (((Fr.refl w1 (fun k => k = gz)).setCell (p := ⟨gz, 0 + 2, none⟩) (fun _ => rfl) _).drew).setCell (p := ⟨gz, 0, none⟩) (fun _ => rfl) _
      exact ⟨rfl, true, A, c, ho.fr fa (ho.room.ne_blk hB1 (by decide)), ((hB1.set 2 _).drew).set 0 _, Fr.step hF1 fa (fun _ _ h => h)⟩
    clear ho hB hF hB1 hF1 Con HD
    go_wp2_with fail
    refine (Con2.out).mono ?_
    rintro e2 w2 ⟨rfl, rfl⟩
    clear Con2
    generalize (w1.setCell ⟨gz, 0 + 2, none⟩ (.bool false)).drew.setCell ⟨gz, 0, none⟩ (.bool true) = W2 at *
    go_wp2
    go_ret
    exact HP.out
/-- Behind BigInt.QuoRem: quotient and rest in z and r. -/
def QrB (w : World) (base gz oz gr or : Nat) (tz tr : TypeId) (cz cr : Array Value) (vz vr : Value) (a y : Nat) (e : Ending) (w' : World) : Prop :=
  e = .returned (.tuple #[.pointer (some ⟨gz, oz, none⟩), .pointer (some ⟨gr, or, none⟩)]) ∧ ∃ (Q R : Option Addr) (cq c2 : Nat),
    Own w' base (.slice Q (digs 18446744073709551616 (a / y)).length cq) (digs 18446744073709551616 (a / y)) ∧ Own w' base (.slice R (digs 18446744073709551616 (a % y)).length c2) (digs 18446744073709551616 (a % y)) ∧
    ((Value.slice Q (digs 18446744073709551616 (a / y)).length cq).ownBlock = vz.ownBlock ∨ ∃ k, (Value.slice Q (digs 18446744073709551616 (a / y)).length cq).ownBlock = some k ∧ w.heap.size ≤ k) ∧
    ((Value.slice R (digs 18446744073709551616 (a % y)).length c2).ownBlock = vr.ownBlock ∨ ∃ k, (Value.slice R (digs 18446744073709551616 (a % y)).length c2).ownBlock = some k ∧ w.heap.size ≤ k) ∧
    (∀ k, (Value.slice Q (digs 18446744073709551616 (a / y)).length cq).ownBlock = some k → (Value.slice R (digs 18446744073709551616 (a % y)).length c2).ownBlock ≠ some k) ∧
    Blk w' gz tz (setBig cz oz false (.slice Q (digs 18446744073709551616 (a / y)).length cq) false) ∧ Blk w' gr tr (setBig cr or false (.slice R (digs 18446744073709551616 (a % y)).length c2) false) ∧
    Fr w w' (fun k => (k = gz ∨ k = gr) ∨ (vz.ownBlock = some k ∨ vr.ownBlock = some k))

set_option maxHeartbeats 2000000 in
set_option maxRecDepth 20000 in
theorem bquorem_gen (base gz oz gr or gx ox gy oy : Nat) (tz tr : TypeId) (cz cr : Array Value) (bz br mz mr : Bool) (vz vr vx vy : Value) (m m2 a y : Nat) (w : World)
    (hz : Blk w gz tz cz) (hz0 : cz[oz]? = some (.bool bz)) (hz1 : cz[oz + 1]? = some vz) (hz2 : cz[oz + 2]? = some (.bool mz)) (hzr : Room w base vz m) (htz : tz ≠ 145)
    (hr : Blk w gr tr cr) (hr0 : cr[or]? = some (.bool br)) (hr1 : cr[or + 1]? = some vr) (hr2 : cr[or + 2]? = some (.bool mr)) (hrr : Room w base vr m2) (htr : tr ≠ 145) (hne : gz ≠ gr)
    (hx0 : w.cell? ⟨gx, ox, none⟩ = some (.bool false)) (hx1 : w.cell? ⟨gx, ox + 1, none⟩ = some vx) (hy0 : w.cell? ⟨gy, oy, none⟩ = some (.bool false)) (hy1 : w.cell? ⟨gy, oy + 1, none⟩ = some vy)
    (hxk : gx ≠ gz ∧ gx ≠ gr ∧ vz.ownBlock ≠ some gx ∧ vr.ownBlock ≠ some gx) (hyk : gy ≠ gz ∧ gy ≠ gr ∧ vz.ownBlock ≠ some gy ∧ vr.ownBlock ≠ some gy)
    (con : ∀ W, Fr w W (fun k => k = gz ∨ k = gr) → Calls Tryz.prog 123 #[vz, .pointer none, vr, vx, vy] W (QrP W base vz vr a y)) :
    Calls Tryz.prog 54 #[.pointer (some ⟨gz, oz, none⟩), .pointer (some ⟨gx, ox, none⟩), .pointer (some ⟨gy, oy, none⟩), .pointer (some ⟨gr, or, none⟩)] w (QrB w base gz oz gr or tz tr cz cr vz vr a y) := by
  obtain ⟨W2, hW2⟩ : ∃ W, W = ((w.setCell ⟨gz, oz + 2, none⟩ (.bool false)).setCell ⟨gr, or + 2, none⟩ (.bool false)).drew := ⟨_, rfl⟩
  have c1 : w.cell? ⟨gz, oz + 2, none⟩ = some (.bool mz) := (hz.cell _).trans hz2
  have f1 : w.frozen? ⟨gz, oz + 2, none⟩ = false := hz.frozen _
  have bra := hr.far (p := ⟨gz, oz + 2, none⟩) (Ne.symm hne) (.bool false)
  have c2 : (w.setCell ⟨gz, oz + 2, none⟩ (.bool false)).cell? ⟨gr, or + 2, none⟩ = some (.bool mr) := (bra.cell _).trans hr2
  have f2 : (w.setCell ⟨gz, oz + 2, none⟩ (.bool false)).frozen? ⟨gr, or + 2, none⟩ = false := bra.frozen _
  have hF : Fr w W2 (fun k => k = gz ∨ k = gr) := by rw [hW2]; exact (((Fr.refl w (fun k => k = gz ∨ k = gr)).setCell (p := ⟨gz, oz + 2, none⟩) (fun _ => .inl rfl) _).setCell (p := ⟨gr, or + 2, none⟩) (fun _ => .inr rfl) _).drew
  have bz2 : Blk W2 gz tz (cz.setIfInBounds (oz + 2) (.bool false)) := by rw [hW2]; exact ((hz.set _ _).far (p := ⟨gr, or + 2, none⟩) hne _).drew
  have br2 : Blk W2 gr tr (cr.setIfInBounds (or + 2) (.bool false)) := by rw [hW2]; exact (bra.set _ _).drew
  have hxs : ¬ (gx = gz ∨ gx = gr) := fun h => h.elim hxk.1 hxk.2.1
  have hys : ¬ (gy = gz ∨ gy = gr) := fun h => h.elim hyk.1 hyk.2.1
  have hs2 : w.heap.size = W2.heap.size := by rw [hW2]; simp
  have con2 := iquorem_gen base gz oz gr or gx ox gy oy tz tr (cz.setIfInBounds (oz + 2) (.bool false)) (cr.setIfInBounds (or + 2) (.bool false)) bz br vz vr vx vy m m2 a y W2
    bz2 (by rw [getElem?_set_ne (by omega)]; exact hz0) (by rw [getElem?_set_ne (by omega)]; exact hz1) (hzr.fr hF (fun k hk h => h.elim (fun h => hzr.ne_blk hz htz k hk h) (fun h => hzr.ne_blk hr htr k hk h))) htz
    br2 (by rw [getElem?_set_ne (by omega)]; exact hr0) (by rw [getElem?_set_ne (by omega)]; exact hr1) (hrr.fr hF (fun k hk h => h.elim (fun h => hrr.ne_blk hz htz k hk h) (fun h => hrr.ne_blk hr htr k hk h))) htr hne
    (hF.cell hx0 hxs) (hF.cell hx1 hxs) (hF.cell hy0 hys) (hF.cell hy1 hys) hxk hyk (con W2.drew hF.drew)
  have Fin : Hid (∀ e w', QrI W2 base gz oz gr or tz tr (cz.setIfInBounds (oz + 2) (.bool false)) (cr.setIfInBounds (or + 2) (.bool false)) vz vr a y e w' → QrB w base gz oz gr or tz tr cz cr vz vr a y e w') := by
    rintro e w' ⟨he, Q, R, cq, c2, hoq, hor, hbq, hbr, hqr, b1, b2, hf⟩
    exact ⟨he, Q, R, cq, c2, hoq, hor, by rw [hs2]; exact hbq, by rw [hs2]; exact hbr, hqr, b1, b2, Fr.step (hF.mono (fun _ _ h => .inl h)) hf (fun _ _ h => h)⟩
  have Con := hide con2
  rw [hW2] at Con
  clear hz hz0 hz1 hz2 hzr htz hr hr0 hr1 hr2 hrr htr hne hx0 hx1 hy0 hy1 hxk hyk con con2 hF bz2 br2 hxs hys hs2 bra
  go_enter Tryz.func54, Tryz.ntmps54
  go_wp2_with fail
  go_region_with (go_at_call 94; go_loud (refine (Con.out).mono ?_; rw [← hW2]; rintro e w1 HI; have HI2 := hide (Fin.out _ _ HI); obtain ⟨rfl, _⟩ := HI; clear Con Fin))
  all_goals go_wp2
  all_goals go_ret2
  all_goals exact HI2.out
end Go.Proofs.YtfkcobdkgjhfaaaGreatDoor

/- Walks: SetUint64, IsUint64, Uint64 of Int and BigInt. -/
set_option linter.unusedVariables false
set_option linter.unusedSimpArgs false
namespace Go.Proofs.YtfkcobdkgjhfaaaGreatDoor
open Go.RowKit

set_option maxHeartbeats 1000000 in
theorem isetU64_any (base gz oz : Nat) (tz : TypeId) (cz : Array Value) (nz : Bool) (vz : Value) (m x : Nat) (w : World)
    (hz : Blk w gz tz cz) (hz0 : cz[oz]? = some (.bool nz)) (hz1 : cz[oz + 1]? = some vz) (hzr : Room w base vz m) (htz : tz ≠ 145) (hb : base ≤ w.heap.size) (hx1 : x < 18446744073709551616) :
    Calls Tryz.prog 101 #[.pointer (some ⟨gz, oz, none⟩), .int .u64 (x : Int)] w (IntP w base gz oz tz cz vz false (digs 18446744073709551616 x)) := by
  have c1 : w.cell? ⟨gz, oz + 1, none⟩ = some vz := (hz.cell _).trans hz1
  have hzne : ∀ k, vz.ownBlock = some k → k ≠ gz := hzr.ne_blk hz htz
  have key : ∀ (r : Value) (w1 : World), Fr w w1 (fun k => vz.ownBlock = some k) → w1.cell? ⟨gz, oz + 1, none⟩ = some vz ∧ w1.frozen? ⟨gz, oz + 1, none⟩ = false ∧
      (w1.setCell ⟨gz, oz + 1, none⟩ r).cell? ⟨gz, oz, none⟩ = some (.bool nz) ∧ (w1.setCell ⟨gz, oz + 1, none⟩ r).frozen? ⟨gz, oz, none⟩ = false := by
    intro r w1 hf
    have b1 : Blk w1 gz tz cz := hz.fr hf (fun h => hzne gz h rfl)
    refine ⟨(b1.cell _).trans hz1, b1.frozen _, ?_, ?_⟩
    · rw [World.cell?_setCell_other _ _ _ _ (by intro e; injection e with e1 e2; omega)]
      exact (b1.cell _).trans hz0
    · rw [World.frozen?_setCell]; exact b1.frozen _
  have fin : ∀ (n : Bool) (r : Value) (w1 : World) (xs : List Nat), Own w1 base r xs → (r.ownBlock = vz.ownBlock ∨ ∃ k, r.ownBlock = some k ∧ w.heap.size ≤ k) → Fr w w1 (fun k => vz.ownBlock = some k) →
      IntP w base gz oz tz cz vz n xs (.returned (.pointer (some ⟨gz, oz, none⟩))) ((w1.setCell ⟨gz, oz + 1, none⟩ r).setCell ⟨gz, oz, none⟩ (.bool n)) := by
    intro n r w1 xs hr hrb hf
    have b1 : Blk w1 gz tz cz := hz.fr hf (fun h => hzne gz h rfl)
    refine ⟨rfl, r, ?_, hrb, (b1.set _ _).set _ _, ?_⟩
    · have hg : ∀ k, r.ownBlock = some k → k ≠ gz := hr.room.ne_blk b1 htz
      exact (hr.fr (Fr.setCell (Fr.refl w1 (fun k => k = gz)) (p := ⟨gz, oz + 1, none⟩) (fun _ => rfl) r) hg).fr (Fr.setCell (Fr.refl _ (fun k => k = gz)) (p := ⟨gz, oz, none⟩) (fun _ => rfl) _) hg
    · exact ((hf.mono (fun k _ h => .inr h)).setCell (p := ⟨gz, oz + 1, none⟩) (fun _ => .inl rfl) _).setCell (p := ⟨gz, oz, none⟩) (fun _ => .inl rfl) _
  have con := setUint64_any base vz m x w hzr hb hx1
  have Key := hide key
  have Fin := hide fin
  clear hz hz0 hz1 key fin hzne hzr
  have Con := hide con
  clear con
  go_enter Tryz.func101, Tryz.ntmps101
  go_wp2_with fail
  refine (Con.out).mono ?_
  rintro e w1 ⟨A, c, rfl, hr, hrb, hf⟩
  obtain ⟨k1, k2, k3, k4⟩ := Key.out (.slice A (digs 18446744073709551616 x).length c) w1 hf
  have HF := hide (Fin.out false (.slice A (digs 18446744073709551616 x).length c) w1 _ hr hrb hf)
  clear hr hrb hf
  go_wp2
  go_ret
  exact HF.out
set_option maxHeartbeats 800000 in
theorem bsetU64_any (base gz oz : Nat) (tz : TypeId) (cz : Array Value) (nz mz : Bool) (vz : Value) (m x : Nat) (w : World)
    (hz : Blk w gz tz cz) (hz0 : cz[oz]? = some (.bool nz)) (hz1 : cz[oz + 1]? = some vz) (hz2 : cz[oz + 2]? = some (.bool mz)) (hzr : Room w base vz m) (htz : tz ≠ 145) (hb : base ≤ w.heap.size) (hx1 : x < 18446744073709551616) :
    Calls Tryz.prog 65 #[.pointer (some ⟨gz, oz, none⟩), .int .u64 (x : Int)] w (BigP w base gz oz tz cz vz false false (digs 18446744073709551616 x)) := by
  have c1 : w.cell? ⟨gz, oz + 2, none⟩ = some (.bool mz) := (hz.cell _).trans hz2
  have f1 : w.frozen? ⟨gz, oz + 2, none⟩ = false := hz.frozen _
  have hf0 : Fr w (w.setCell ⟨gz, oz + 2, none⟩ (.bool false)) (fun k => k = gz) := (Fr.refl w (fun k => k = gz)).setCell (p := ⟨gz, oz + 2, none⟩) (fun _ => rfl) _
  have con := isetU64_any base gz oz tz (cz.setIfInBounds (oz + 2) (.bool false)) nz vz m x (w.setCell ⟨gz, oz + 2, none⟩ (.bool false))
    (hz.set _ _) (by rw [getElem?_set_ne (by omega)]; exact hz0) (by rw [getElem?_set_ne (by omega)]; exact hz1) (hzr.fr hf0 (hzr.ne_blk hz htz)) htz (by simpa using hb) hx1
  have fin : ∀ e w', IntP (w.setCell ⟨gz, oz + 2, none⟩ (.bool false)) base gz oz tz (cz.setIfInBounds (oz + 2) (.bool false)) vz false (digs 18446744073709551616 x) e w' → BigP w base gz oz tz cz vz false false (digs 18446744073709551616 x) e w' := by
    rintro e w' ⟨he, r, hr, hrb, hB, hF⟩
    obtain ⟨A, c, rfl⟩ := hr.room.slice
    refine ⟨he, A, c, hr, ?_, hB, ?_⟩
    · simpa using hrb
    · exact Fr.step (hf0.mono (fun k _ h => .inl h)) hF (fun i _ h => h)
  have Con := hide con
  have Fin := hide fin
  clear hz hz0 hz1 hz2 con fin hf0 hzr
  go_enter Tryz.func65, Tryz.ntmps65
  go_wp2_with fail
  refine (Con.out).mono ?_
  rintro e w1 HI
  have HI2 := hide HI
  obtain ⟨rfl, _⟩ := HI
  go_wp2
  go_ret
  exact Fin.out _ _ HI2.out

theorem iisU64_any (g o l c : Nat) (A : Option Addr) (w : World) (c0 : w.cell? ⟨g, o, none⟩ = some (.bool false)) (c1 : w.cell? ⟨g, o + 1, none⟩ = some (.slice A l c)) : Calls Tryz.prog 99 #[.pointer (some ⟨g, o, none⟩)] w fun e w' => e = .returned (.bool (decide ((l : Int) ≤ 1))) ∧ w = w' := by
  go_enter Tryz.func99, Tryz.ntmps99
  go_wp2
  go_ret
  exact ⟨rfl, rfl⟩
theorem bisU64_any (g o l c : Nat) (A : Option Addr) (w : World) (c0 : w.cell? ⟨g, o, none⟩ = some (.bool false)) (c1 : w.cell? ⟨g, o + 1, none⟩ = some (.slice A l c)) : Calls Tryz.prog 63 #[.pointer (some ⟨g, o, none⟩)] w fun e w' => e = .returned (.bool (decide ((l : Int) ≤ 1))) ∧ w = w' := by
  have Con := hide (iisU64_any g o l c A w c0 c1)
  clear c0 c1
  generalize decide ((l : Int) ≤ 1) = q at *
  go_enter Tryz.func63, Tryz.ntmps63
  go_wp2_with fail
  refine (Con.out).mono ?_
  rintro e w1 ⟨rfl, rfl⟩
  go_wp2
  go_ret
  exact ⟨rfl, rfl⟩
set_option maxRecDepth 20000 in
theorem low64_one (x c : Nat) (A : Option Addr) (w : World) (h : RdW w (.slice A 1 c) [x]) : Calls Tryz.prog 125 #[.slice A 1 c] w fun e w' => e = .returned (.int .u64 (x : Int)) ∧ w = w' := by
  rcases h with ⟨A', c', e, h1, _⟩ | ⟨g, o, c', e, h1, h2, h3⟩
  · cases h1
  · injection e with e1 e2 e3
    subst e1 e3
    have c0 : w.cell? ⟨g, o, none⟩ = some (.int .u64 (x : Int)) := by have := h3 0 (by simp); simpa using this
    clear h3 h1 h2 e2
    go_enter Tryz.func125, Tryz.ntmps125
    go_wp2
    go_ret
    exact ⟨rfl, rfl⟩
set_option maxRecDepth 20000 in
theorem iU64_one (g o x c : Nat) (A : Option Addr) (w : World) (c1 : w.cell? ⟨g, o + 1, none⟩ = some (.slice A 1 c)) (h : RdW w (.slice A 1 c) [x]) : Calls Tryz.prog 100 #[.pointer (some ⟨g, o, none⟩)] w fun e w' => e = .returned (.int .u64 (x : Int)) ∧ w = w' := by
  have Con := hide (low64_one x c A w h)
  clear h
  go_enter Tryz.func100, Tryz.ntmps100
  go_wp2_with fail
  refine (Con.out).mono ?_
  rintro e w1 ⟨rfl, rfl⟩
  go_wp2
  go_ret
  exact ⟨rfl, rfl⟩
set_option maxRecDepth 20000 in
theorem bU64_one (g o x c : Nat) (A : Option Addr) (w : World) (c1 : w.cell? ⟨g, o + 1, none⟩ = some (.slice A 1 c)) (h : RdW w (.slice A 1 c) [x]) : Calls Tryz.prog 64 #[.pointer (some ⟨g, o, none⟩)] w fun e w' => e = .returned (.int .u64 (x : Int)) ∧ w = w' := by
  have Con := hide (iU64_one g o x c A w c1 h)
  clear h c1
  go_enter Tryz.func64, Tryz.ntmps64
  go_wp2_with fail
  refine (Con.out).mono ?_
  rintro e w1 ⟨rfl, rfl⟩
  go_wp2
  go_ret
  exact ⟨rfl, rfl⟩
end Go.Proofs.YtfkcobdkgjhfaaaGreatDoor
