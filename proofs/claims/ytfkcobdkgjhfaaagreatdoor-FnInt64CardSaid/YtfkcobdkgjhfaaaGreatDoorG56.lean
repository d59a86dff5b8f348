/- Parts of the proofs: DivQR, QuoR. -/
import Derived.Deep.RegionWith
import Derived.Deep.DeepCutAuto
import Derived.BigRegion
import Derived.Test.YtfkcobdkgjhfaaaGreatDoorG10
import Derived.Test.YtfkcobdkgjhfaaaGreatDoorG18
/- Walk: nat.div by one word, with a place for the quotient and one for the rest. -/
set_option linter.unusedVariables false
set_option linter.unusedSimpArgs false
namespace Go.Proofs.YtfkcobdkgjhfaaaGreatDoor
open Go.RowKit

/-- Behind 'z.div(nil, z2, u, v)', v of one word: the quotient in z's block or a new one, the rest in z2's or a new one. -/
def QrP (w : World) (base : Nat) (z z2 : Value) (a y : Nat) (e : Ending) (w' : World) : Prop :=
  ∃ (Q R : Option Addr) (cq cr : Nat), e = .returned (.tuple #[.slice Q (digs 18446744073709551616 (a / y)).length cq, .slice R (digs 18446744073709551616 (a % y)).length cr]) ∧
    Own w' base (.slice Q (digs 18446744073709551616 (a / y)).length cq) (digs 18446744073709551616 (a / y)) ∧ Own w' base (.slice R (digs 18446744073709551616 (a % y)).length cr) (digs 18446744073709551616 (a % y)) ∧
    ((Value.slice Q (digs 18446744073709551616 (a / y)).length cq).ownBlock = z.ownBlock ∨ ∃ k, (Value.slice Q (digs 18446744073709551616 (a / y)).length cq).ownBlock = some k ∧ w.heap.size ≤ k) ∧
    ((Value.slice R (digs 18446744073709551616 (a % y)).length cr).ownBlock = z2.ownBlock ∨ ∃ k, (Value.slice R (digs 18446744073709551616 (a % y)).length cr).ownBlock = some k ∧ w.heap.size ≤ k) ∧
    (∀ k, (Value.slice Q (digs 18446744073709551616 (a / y)).length cq).ownBlock = some k → (Value.slice R (digs 18446744073709551616 (a % y)).length cr).ownBlock ≠ some k) ∧
    Fr w w' (fun k => z.ownBlock = some k ∨ z2.ownBlock = some k)

set_option maxHeartbeats 1000000 in
set_option maxRecDepth 20000 in
theorem divQR_any (base : Nat) (z z2 : Value) (m m2 y : Nat) (A : Option Addr) (c a : Nat) (gv ov cv : Nat) (w : World) (hz : Room w base z m) (hz2 : Room w base z2 m2) (hzz : ∀ k, z.ownBlock = some k → z2.ownBlock ≠ some k) (hb : base ≤ w.heap.size) (hnb : (digs 18446744073709551616 a).length ≤ 1099511627776) (ha : 0 < a)
    (hx : RdW w (.slice A (digs 18446744073709551616 a).length c) (digs 18446744073709551616 a)) (hxb : ∀ k, (Value.slice A (digs 18446744073709551616 a).length c).ownBlock = some k → z.ownBlock ≠ some k) (hv : w.cell? ⟨gv, ov, none⟩ = some (.int .u64 (y : Int))) (hy1 : 1 < y) (hy : y < 18446744073709551616) :
    Calls Tryz.prog 123 #[z, .pointer none, z2, .slice A (digs 18446744073709551616 a).length c, .slice (some ⟨gv, ov, none⟩) 1 cv] w (QrP w base z z2 a y) := by
  have hn1 : 1 ≤ (digs 18446744073709551616 a).length := List.length_pos_iff.2 (digs_ne_nil (by omega) ha)
  have con := divW_any base (digs 18446744073709551616 a).length z m y A c (digs 18446744073709551616 a) w hz hb rfl hnb hn1 hx hxb hy1 hy (dig_digs (by omega) _)
  have ht : trimz (divD y (digs 18446744073709551616 a)).1 = digs 18446744073709551616 (a / y) := by
    have h := (divD_quo (y := y) (by omega) (digs 18446744073709551616 a)).1
    rw [dval_digs (by omega)] at h
    rw [← h, digs_dval_trim (by omega) (divD_dig (by omega) _ (dig_digs (by omega) _))]
  have hr : (divD y (digs 18446744073709551616 a)).2 = a % y := by
    have h := (divD_quo (y := y) (by omega) (digs 18446744073709551616 a)).2
    rwa [dval_digs (by omega)] at h
  unfold DivWP at con
  rw [ht, hr] at con
  have Con := hide con
  have HZ := hide (And.intro hz2 (And.intro hzz (And.intro hb (And.intro hz hy))))
  have hay : a % y < 18446744073709551616 := by have := Nat.mod_lt a (show y > 0 by omega); omega
  have HAY := hide hay
  clear hx hxb hz hz2 hzz con ht hr hn1 hb hay ha
  go_enter_defers Tryz.func123, Tryz.ntmps123
  go_wp2_with fail
  refine (Con.out).mono ?_
  rintro e w1 ⟨Q, cq, rr, rfl, hrr, hown, hblk, hfr⟩
  have hrr' : rr = a % y := hrr.out
  subst hrr'
  have hz1 : Room w1 base z2 m2 := HZ.out.1.fr hfr (fun k hk h => HZ.out.2.1 k h hk)
  have con2 := setWord_any base z2 m2 (a % y) w1 hz1 (Nat.le_trans HZ.out.2.2.1 hfr.size) HAY.out
  have Con2 := hide con2
  have HF := hide hfr
  have HO := hide (And.intro hown hblk)
  clear con2 hz1 hown hblk hfr Con hrr
  go_wp2_with fail
  refine (Con2.out).mono ?_
  rintro e w2 ⟨R, cr, rfl, hr2, hb2, hf2⟩
  have hQ : ∀ k, (Value.slice Q (digs 18446744073709551616 (a / y)).length cq).ownBlock = some k → z2.ownBlock ≠ some k := fun k hk h => by
    rcases HO.out.2 with h1 | ⟨k', h1, h2⟩
    · exact HZ.out.2.1 k (h1 ▸ hk) h
    · rw [h1] at hk
      obtain rfl := Option.some.inj hk
      have := (HZ.out.1.lt h).2
      omega
  have hs := HF.out.size
  have Fin : Hid (QrP w base z z2 a y (.returned (.tuple #[.slice Q (digs 18446744073709551616 (a / y)).length cq, .slice R (digs 18446744073709551616 (a % y)).length cr])) w2) := by
    refine ⟨Q, R, cq, cr, rfl, HO.out.1.fr hf2 hQ, hr2, HO.out.2, hb2.imp id (fun ⟨k, h1, h2⟩ => ⟨k, h1, by omega⟩), fun k hk h => ?_, Fr.step (HF.out.mono (fun _ _ h => .inl h)) hf2 (fun _ _ h => .inr h)⟩
    rcases hb2 with h1 | ⟨k', h1, h2⟩
    · exact hQ k hk (h1 ▸ h)
    · rw [h1] at h
      obtain rfl := Option.some.inj h
      have := (HO.out.1.lt hk).2
      omega
  clear hr2 hb2 hf2 Con2 hQ hs HO HF HZ
  generalize (digs 18446744073709551616 (a / y)).length = nq at *
  generalize (digs 18446744073709551616 (a % y)).length = nr at *
  go_wp2
  refine ⟨_, results_tmp2 (t := 10) (u := 11) rfl _ _ _, ?_⟩
  exact Fin.out
end Go.Proofs.YtfkcobdkgjhfaaaGreatDoor

/- Walk: Int.QuoRem of two numbers that are not below 0, by a contract of nat.div. -/
set_option linter.unusedVariables false
set_option linter.unusedSimpArgs false
namespace Go.Proofs.YtfkcobdkgjhfaaaGreatDoor
open Go.RowKit

/-- Behind the division: quotient and rest stand in z and r, their signs not yet. -/
def QrM (w : World) (base gz oz gr or : Nat) (tz tr : TypeId) (cz cr : Array Value) (vz vr : Value) (a y : Nat) (W : World) : Prop :=
  ∃ (Q R : Option Addr) (cq c2 : Nat),
    Own W base (.slice Q (digs 18446744073709551616 (a / y)).length cq) (digs 18446744073709551616 (a / y)) ∧ Own W base (.slice R (digs 18446744073709551616 (a % y)).length c2) (digs 18446744073709551616 (a % y)) ∧
    ((Value.slice Q (digs 18446744073709551616 (a / y)).length cq).ownBlock = vz.ownBlock ∨ ∃ k, (Value.slice Q (digs 18446744073709551616 (a / y)).length cq).ownBlock = some k ∧ w.heap.size ≤ k) ∧
    ((Value.slice R (digs 18446744073709551616 (a % y)).length c2).ownBlock = vr.ownBlock ∨ ∃ k, (Value.slice R (digs 18446744073709551616 (a % y)).length c2).ownBlock = some k ∧ w.heap.size ≤ k) ∧
    (∀ k, (Value.slice Q (digs 18446744073709551616 (a / y)).length cq).ownBlock = some k → (Value.slice R (digs 18446744073709551616 (a % y)).length c2).ownBlock ≠ some k) ∧
    Blk W gz tz (cz.setIfInBounds (oz + 1) (.slice Q (digs 18446744073709551616 (a / y)).length cq)) ∧ Blk W gr tr (cr.setIfInBounds (or + 1) (.slice R (digs 18446744073709551616 (a % y)).length c2)) ∧
    Fr w W (fun k => (k = gz ∨ k = gr) ∨ (vz.ownBlock = some k ∨ vr.ownBlock = some k))
/-- What the walk takes of the division's call. -/
def QrC (gz oz gr or : Nat) (vz vr : Value) (Rel : World → Prop) (e : Ending) (w1 : World) : Prop :=
  ∃ (Q R : Option Addr) (nq nr cq c2 : Nat), e = .returned (.tuple #[.slice Q nq cq, .slice R nr c2]) ∧ w1.cell? ⟨gz, oz + 1, none⟩ = some vz ∧ w1.frozen? ⟨gz, oz + 1, none⟩ = false ∧
    (w1.setCell ⟨gz, oz + 1, none⟩ (.slice Q nq cq)).cell? ⟨gr, or + 1, none⟩ = some vr ∧ (w1.setCell ⟨gz, oz + 1, none⟩ (.slice Q nq cq)).frozen? ⟨gr, or + 1, none⟩ = false ∧
    Hid (Rel ((w1.setCell ⟨gz, oz + 1, none⟩ (.slice Q nq cq)).setCell ⟨gr, or + 1, none⟩ (.slice R nr c2)))
/-- Behind QuoRem: quotient and rest in z and r. -/
def QrI (w : World) (base gz oz gr or : Nat) (tz tr : TypeId) (cz cr : Array Value) (vz vr : Value) (a y : Nat) (e : Ending) (w' : World) : Prop :=
  e = .returned (.tuple #[.pointer (some ⟨gz, oz, none⟩), .pointer (some ⟨gr, or, none⟩)]) ∧ ∃ (Q R : Option Addr) (cq c2 : Nat),
    Own w' base (.slice Q (digs 18446744073709551616 (a / y)).length cq) (digs 18446744073709551616 (a / y)) ∧ Own w' base (.slice R (digs 18446744073709551616 (a % y)).length c2) (digs 18446744073709551616 (a % y)) ∧
    ((Value.slice Q (digs 18446744073709551616 (a / y)).length cq).ownBlock = vz.ownBlock ∨ ∃ k, (Value.slice Q (digs 18446744073709551616 (a / y)).length cq).ownBlock = some k ∧ w.heap.size ≤ k) ∧
    ((Value.slice R (digs 18446744073709551616 (a % y)).length c2).ownBlock = vr.ownBlock ∨ ∃ k, (Value.slice R (digs 18446744073709551616 (a % y)).length c2).ownBlock = some k ∧ w.heap.size ≤ k) ∧
    (∀ k, (Value.slice Q (digs 18446744073709551616 (a / y)).length cq).ownBlock = some k → (Value.slice R (digs 18446744073709551616 (a % y)).length c2).ownBlock ≠ some k) ∧
    Blk w' gz tz (setInt cz oz false (.slice Q (digs 18446744073709551616 (a / y)).length cq)) ∧ Blk w' gr tr (setInt cr or false (.slice R (digs 18446744073709551616 (a % y)).length c2)) ∧
    Fr w w' (fun k => (k = gz ∨ k = gr) ∨ (vz.ownBlock = some k ∨ vr.ownBlock = some k))

theorem qr_mid (base gz oz gr or : Nat) (tz tr : TypeId) (cz cr : Array Value) (vz vr : Value) (m m2 a y : Nat) (w : World)
    (hz : Blk w gz tz cz) (hz1 : cz[oz + 1]? = some vz) (hzr : Room w base vz m) (htz : tz ≠ 145) (hr : Blk w gr tr cr) (hr1 : cr[or + 1]? = some vr) (hrr : Room w base vr m2) (htr : tr ≠ 145) (hne : gz ≠ gr) (e : Ending) (w1 : World) (h : QrP w.drew base vz vr a y e w1) :
    QrC gz oz gr or vz vr (QrM w base gz oz gr or tz tr cz cr vz vr a y) e w1 := by
  obtain ⟨Q, R, cq, c2, rfl, hoq, hor, hbq, hbr, hqr, hf⟩ := h
  have hf1 : Fr w w1 (fun k => vz.ownBlock = some k ∨ vr.ownBlock = some k) := ⟨hf.os, hf.tape, hf.output, hf.size, hf.block⟩
  have b1 : Blk w1 gz tz cz := hz.fr hf1 (fun h => h.elim (fun h => hzr.ne_blk hz htz gz h rfl) (fun h => hrr.ne_blk hz htz gz h rfl))
  have b2 : Blk w1 gr tr cr := hr.fr hf1 (fun h => h.elim (fun h => hzr.ne_blk hr htr gr h rfl) (fun h => hrr.ne_blk hr htr gr h rfl))
  have b2' : Blk (w1.setCell ⟨gz, oz + 1, none⟩ (.slice Q (digs 18446744073709551616 (a / y)).length cq)) gr tr cr := b2.far (p := ⟨gz, oz + 1, none⟩) (Ne.symm hne) _
  have b1' := b1.set (oz + 1) (.slice Q (digs 18446744073709551616 (a / y)).length cq)
  refine ⟨Q, R, _, _, cq, c2, rfl, (b1.cell _).trans hz1, b1.frozen _, (b2'.cell _).trans hr1, b2'.frozen _, ?_⟩
  have fa : Fr w1 (w1.setCell ⟨gz, oz + 1, none⟩ (.slice Q (digs 18446744073709551616 (a / y)).length cq)) (fun k => k = gz) := (Fr.refl w1 (fun k => k = gz)).setCell (p := ⟨gz, oz + 1, none⟩) (fun _ => rfl) _
  have fb : Fr (w1.setCell ⟨gz, oz + 1, none⟩ (.slice Q (digs 18446744073709551616 (a / y)).length cq)) ((w1.setCell ⟨gz, oz + 1, none⟩ (.slice Q (digs 18446744073709551616 (a / y)).length cq)).setCell ⟨gr, or + 1, none⟩ (.slice R (digs 18446744073709551616 (a % y)).length c2)) (fun k => k = gr) := (Fr.refl _ (fun k => k = gr)).setCell (p := ⟨gr, or + 1, none⟩) (fun _ => rfl) _
  refine ⟨Q, R, cq, c2, (hoq.fr fa (hoq.room.ne_blk b1 htz)).fr fb (hoq.room.ne_blk b2 htr), (hor.fr fa (hor.room.ne_blk b1 htz)).fr fb (hor.room.ne_blk b2 htr), hbq, hbr, hqr, ?_, ?_, ?_⟩
  · exact b1'.far (p := ⟨gr, or + 1, none⟩) hne _
  · exact b2'.set _ _
  · exact Fr.step (Fr.step (hf1.mono (fun _ _ h => .inr h)) fa (fun _ _ h => .inl (.inl h))) fb (fun _ _ h => .inl (.inr h))

theorem qr_end (base gz oz gr or : Nat) (tz tr : TypeId) (cz cr : Array Value) (vz vr : Value) (a y : Nat) (w W : World) (htz : tz ≠ 145) (htr : tr ≠ 145) (hne : gz ≠ gr) (h : QrM w base gz oz gr or tz tr cz cr vz vr a y W) :
    QrI w base gz oz gr or tz tr cz cr vz vr a y (.returned (.tuple #[.pointer (some ⟨gz, oz, none⟩), .pointer (some ⟨gr, or, none⟩)])) ((W.setCell ⟨gz, oz, none⟩ (.bool false)).setCell ⟨gr, or, none⟩ (.bool false)) := by
  obtain ⟨Q, R, cq, c2, hoq, hor, hbq, hbr, hqr, b1, b2, hf⟩ := h
  have fa : Fr W (W.setCell ⟨gz, oz, none⟩ (.bool false)) (fun k => k = gz) := (Fr.refl W (fun k => k = gz)).setCell (p := ⟨gz, oz, none⟩) (fun _ => rfl) _
  have fb : Fr (W.setCell ⟨gz, oz, none⟩ (.bool false)) ((W.setCell ⟨gz, oz, none⟩ (.bool false)).setCell ⟨gr, or, none⟩ (.bool false)) (fun k => k = gr) := (Fr.refl _ (fun k => k = gr)).setCell (p := ⟨gr, or, none⟩) (fun _ => rfl) _
  refine ⟨rfl, Q, R, cq, c2, (hoq.fr fa (hoq.room.ne_blk b1 htz)).fr fb (hoq.room.ne_blk b2 htr), (hor.fr fa (hor.room.ne_blk b1 htz)).fr fb (hor.room.ne_blk b2 htr), hbq, hbr, hqr, ?_, ?_, ?_⟩
  · exact (b1.set oz _).far (p := ⟨gr, or, none⟩) hne _
  · exact (b2.far (p := ⟨gz, oz, none⟩) (Ne.symm hne) _).set or _
  · exact Fr.step (Fr.step hf fa (fun _ _ h => .inl (.inl h))) fb (fun _ _ h => .inl (.inr h))

theorem qri_drew {w : World} {base gz oz gr or : Nat} {tz tr : TypeId} {cz cr : Array Value} {vz vr : Value} {a y : Nat} {e : Ending} {W : World} (h : QrI w base gz oz gr or tz tr cz cr vz vr a y e W) : QrI w base gz oz gr or tz tr cz cr vz vr a y e W.drew := by
  obtain ⟨he, Q, R, cq, c2, hoq, hor, hbq, hbr, hqr, b1, b2, hf⟩ := h
  exact ⟨he, Q, R, cq, c2, hoq.fr (Fr.refl W (fun _ => False)).drew (fun _ _ h => h), hor.fr (Fr.refl W (fun _ => False)).drew (fun _ _ h => h), hbq, hbr, hqr, b1.drew, b2.drew, hf.drew⟩

set_option maxHeartbeats 4000000 in
set_option maxRecDepth 20000 in
theorem iquorem_gen (base gz oz gr or gx ox gy oy : Nat) (tz tr : TypeId) (cz cr : Array Value) (bz br : Bool) (vz vr vx vy : Value) (m m2 a y : Nat) (w : World)
    (hz : Blk w gz tz cz) (hz0 : cz[oz]? = some (.bool bz)) (hz1 : cz[oz + 1]? = some vz) (hzr : Room w base vz m) (htz : tz ≠ 145)
    (hr : Blk w gr tr cr) (hr0 : cr[or]? = some (.bool br)) (hr1 : cr[or + 1]? = some vr) (hrr : Room w base vr m2) (htr : tr ≠ 145) (hne : gz ≠ gr)
    (hx0 : w.cell? ⟨gx, ox, none⟩ = some (.bool false)) (hx1 : w.cell? ⟨gx, ox + 1, none⟩ = some vx) (hy0 : w.cell? ⟨gy, oy, none⟩ = some (.bool false)) (hy1 : w.cell? ⟨gy, oy + 1, none⟩ = some vy)
    (hxk : gx ≠ gz ∧ gx ≠ gr ∧ vz.ownBlock ≠ some gx ∧ vr.ownBlock ≠ some gx) (hyk : gy ≠ gz ∧ gy ≠ gr ∧ vz.ownBlock ≠ some gy ∧ vr.ownBlock ≠ some gy)
    (con : Calls Tryz.prog 123 #[vz, .pointer none, vr, vx, vy] w.drew (QrP w.drew base vz vr a y)) :
    Calls Tryz.prog 94 #[.pointer (some ⟨gz, oz, none⟩), .pointer (some ⟨gx, ox, none⟩), .pointer (some ⟨gy, oy, none⟩), .pointer (some ⟨gr, or, none⟩)] w (QrI w base gz oz gr or tz tr cz cr vz vr a y) := by
  have c1 : w.cell? ⟨gz, oz + 1, none⟩ = some vz := (hz.cell _).trans hz1
  have c3 : w.cell? ⟨gr, or + 1, none⟩ = some vr := (hr.cell _).trans hr1
  have lz : oz < cz.size := (Array.getElem?_eq_some_iff.1 hz0).1
  have lz1 : oz + 1 < cz.size := (Array.getElem?_eq_some_iff.1 hz1).1
  have lr : or < cr.size := (Array.getElem?_eq_some_iff.1 hr0).1
  have lr1 : or + 1 < cr.size := (Array.getElem?_eq_some_iff.1 hr1).1
  have Con := hide (con.mono (fun e w1 h => qr_mid base gz oz gr or tz tr cz cr vz vr m m2 a y w hz hz1 hzr htz hr hr1 hrr htr hne e w1 h))
  unfold QrC at Con
  have End := hide (fun W h => qr_end base gz oz gr or tz tr cz cr vz vr a y w W htz htr hne h)
  have Cells : Hid (∀ W, QrM w base gz oz gr or tz tr cz cr vz vr a y W → ∃ Q R nq nr cq c2, W.cell? ⟨gz, oz + 1, none⟩ = some (.slice Q nq cq) ∧ W.cell? ⟨gr, or + 1, none⟩ = some (.slice R nr c2) ∧ W.cell? ⟨gx, ox, none⟩ = some (.bool false) ∧ W.cell? ⟨gy, oy, none⟩ = some (.bool false) ∧ W.cell? ⟨gz, oz, none⟩ = some (.bool bz) ∧ W.frozen? ⟨gz, oz, none⟩ = false ∧ (W.setCell ⟨gz, oz, none⟩ (.bool false)).cell? ⟨gr, or, none⟩ = some (.bool br) ∧ (W.setCell ⟨gz, oz, none⟩ (.bool false)).frozen? ⟨gr, or, none⟩ = false) := by
    rintro W ⟨Q, R, cq, c2, -, -, -, -, -, b1, b2, hf⟩
    have b2' := b2.far (p := ⟨gz, oz, none⟩) (Ne.symm hne) (.bool false)
    refine ⟨Q, R, (digs 18446744073709551616 (a / y)).length, (digs 18446744073709551616 (a % y)).length, cq, c2, ?_, ?_, hf.cell hx0 ?_, hf.cell hy0 ?_, ?_, b1.frozen _, ?_, b2'.frozen _⟩
    · rw [b1.cell]; simp [Array.getElem?_setIfInBounds, lz1]
    · rw [b2.cell]; simp [Array.getElem?_setIfInBounds, lr1]
    · rintro ((h | h) | (h | h))
      · exact hxk.1 h
      · exact hxk.2.1 h
      · exact hxk.2.2.1 h
      · exact hxk.2.2.2 h
    · rintro ((h | h) | (h | h))
      · exact hyk.1 h
      · exact hyk.2.1 h
      · exact hyk.2.2.1 h
      · exact hyk.2.2.2 h
    · rw [b1.cell, getElem?_set_ne (by omega)]; exact hz0
    · rw [b2'.cell, getElem?_set_ne (by omega)]; exact hr0
  clear hz hz0 hz1 hzr htz hr hr0 hr1 hrr htr hne hxk hyk con lz lz1 lr lr1 hx0 hy0
  go_enter Tryz.func94, Tryz.ntmps94
  go_upto_region 1 with fail
  go_cut [] (fun wx => Hid (QrM w base gz oz gr or tz tr cz cr vz vr a y wx))
  case first =>
    clear Cells End
    go_region_with (go_at_call 123; refine (Con.out).mono ?_; rintro e w1 ⟨Q, R, nq, nr, cq, c2, rfl, z1, fz, r1, fr, HM⟩; clear Con)
    all_goals (go_wp2_with fail; go_meet; exact HM)
  case rest =>
    have HM := hide hcut
    obtain ⟨Q, R, nq, nr, cq, c2, z1, r1, x0, y0, z0, fz, r0, fr⟩ := Cells.out _ hcut.out
    have HE := hide (End.out _ hcut.out)
    clear c1 c3 hx1 hy1 Con Cells End hcut HM
    generalize wc = W at *
    rcases Nat.eq_zero_or_pos nq with hq | hq
    · subst hq
      rcases Nat.eq_zero_or_pos nr with hr | hr
      · subst hr
        go_wp2_with fail
        go_region
        all_goals go_wp2
        all_goals go_ret2
        all_goals exact qri_drew HE.out
      · have hr2 : decide (0 < nr) = true := decide_eq_true hr
        go_wp2_with fail
        go_region
        all_goals go_wp2
        all_goals go_ret2
        all_goals exact qri_drew HE.out
    · have hq2 : decide (0 < nq) = true := decide_eq_true hq
      rcases Nat.eq_zero_or_pos nr with hr | hr
      · subst hr
        go_wp2_with fail
        go_region
        all_goals go_wp2
        all_goals go_ret2
        all_goals exact qri_drew HE.out
      · have hr2 : decide (0 < nr) = true := decide_eq_true hr
        go_wp2_with fail
        go_region
        all_goals go_wp2
        all_goals go_ret2
        all_goals exact qri_drew HE.out
end Go.Proofs.YtfkcobdkgjhfaaaGreatDoor
