/- Parts of the proofs: Red2. -/
import Derived.Test.YtfkcobdkgjhfaaaGreatDoorG16
import Derived.Test.YtfkcobdkgjhfaaaGreatDoorG57
import Derived.Test.YtfkcobdkgjhfaaaGreatDoorG58
import Derived.Test.YtfkcobdkgjhfaaaGreatDoorG59
/- Walk: Decimal.Reduce, where the coefficient has two words or three. (printed by gen-red2.py) -/
set_option linter.unusedVariables false
set_option linter.unusedSimpArgs false
namespace Go.Proofs.YtfkcobdkgjhfaaaGreatDoor
open Go.RowKit

/-- What the loop holds: t noughts are struck. -/
structure RdL (w : World) (gd gz gr : Nat) (n : Bool) (e : Int) (a t : Nat) (A : Option Addr) (c : Nat) (bz br : Bool) (vz vr : Value) (m m2 : Nat) (W : World) : Prop where
  dv : 10 ^ t ∣ a
  fr : Fr w W (fun k => k = gd)
  own : Own W w.heap.size (.slice A (digs 18446744073709551616 (a / 10 ^ t)).length c) (digs 18446744073709551616 (a / 10 ^ t))
  d : Blk W gd 71 (decC 0 n e false (.slice A (digs 18446744073709551616 (a / 10 ^ t)).length c) false)
  z : Blk W gz 69 #[.bool bz, vz, .bool false]
  zr : Room W w.heap.size vz m
  r : Blk W gr 69 #[.bool br, vr, .bool false]
  rr : Room W w.heap.size vr m2
  zz : ∀ k, vz.ownBlock = some k → vr.ownBlock ≠ some k
  az : ∀ k, (Value.slice A (digs 18446744073709551616 (a / 10 ^ t)).length c).ownBlock = some k → vz.ownBlock ≠ some k
  ar : ∀ k, (Value.slice A (digs 18446744073709551616 (a / 10 ^ t)).length c).ownBlock = some k → vr.ownBlock ≠ some k

theorem Room.belowR {w w' : World} {base n : Nat} {v : Value} (h : Room w base v n) (hb : Below w.heap.size w w') : Room w' base v n := h.fr (Fr.of_below hb (fun _ => False)) (fun _ _ h => h)

/-- The division of the loop's round. -/
theorem RdL.quo {w : World} {gd gz gr : Nat} {n : Bool} {e : Int} {a t : Nat} {A : Option Addr} {c : Nat} {bz br : Bool} {vz vr : Value} {m m2 : Nat} {wr : World} (h : RdL w gd gz gr n e a t A c bz br vz vr m m2 wr)
    (hp : 0 < a / 10 ^ t) (hl : (digs 18446744073709551616 (a / 10 ^ t)).length ≤ 3) (hg : gd < w.heap.size ∧ w.heap.size ≤ gz ∧ w.heap.size ≤ gr ∧ gz ≠ gr) (W : World) (gy : Nat) (B : Option Addr) (cy : Nat) (hW : Below wr.heap.size wr W) (hgy : wr.heap.size ≤ gy) (hoy : Own W wr.heap.size (.slice B [10].length cy) [10]) (hby : Blk W gy 69 #[.bool false, .slice B [10].length cy, .bool false]) :
    Calls Tryz.prog 54 #[.pointer (some ⟨gz, 0, none⟩), .pointer (some ⟨gd, 3, none⟩), .pointer (some ⟨gy, 0, none⟩), .pointer (some ⟨gr, 0, none⟩)] W (QrB W w.heap.size gz 0 gr 0 69 69 #[.bool bz, vz, .bool false] #[.bool br, vr, .bool false] vz vr (a / 10 ^ t) 10) := by
  obtain ⟨g1, g2, g3, g4⟩ := hg
  have hsz := h.fr.size
  have hzl := h.z.lt
  have hrl := h.r.lt
  have lz : ∀ k, vz.ownBlock = some k → w.heap.size ≤ k ∧ k < wr.heap.size := fun k hk => h.zr.lt hk
  have lr : ∀ k, vr.ownBlock = some k → w.heap.size ≤ k ∧ k < wr.heap.size := fun k hk => h.rr.lt hk
  have hdW := h.d.below hW
  have hoW := h.own.below hW
  have hy1 : [10].length = 1 := rfl
  obtain ⟨gv, ov, e1, _, hc⟩ := RdG.at_ (k := .u64) hoy.rd 0 (by simp)
  subst e1
  have hv : W.cell? ⟨gv, ov, none⟩ = some (.int .u64 (10 : Nat)) := hc
  have hgv : wr.heap.size ≤ gv := (hoy.lt (k := gv) rfl).1
  refine bquorem_gen w.heap.size gz 0 gr 0 gd 3 gy 0 69 69 _ _ bz br false false vz vr (.slice A (digs 18446744073709551616 (a / 10 ^ t)).length c) (.slice (some ⟨gv, ov, none⟩) [10].length cy) m m2 (a / 10 ^ t) 10 W
    (h.z.below hW) rfl rfl rfl (h.zr.belowR hW) (by decide) (h.r.below hW) rfl rfl rfl (h.rr.belowR hW) (by decide) g4
    (hdW.cell 3) (hdW.cell 4) (hby.cell 0) (hby.cell 1)
    ⟨by omega, by omega, fun hk => by have := (lz _ hk).1; omega, fun hk => by have := (lr _ hk).1; omega⟩
    ⟨by omega, by omega, fun hk => by have := (lz _ hk).2; omega, fun hk => by have := (lr _ hk).2; omega⟩ ?_
  intro W2 hF
  exact divQR_any w.heap.size vz vr m m2 10 A c (a / 10 ^ t) gv ov cy W2 ((h.zr.belowR hW).fr hF (fun k hk hs => hs.elim ((h.zr.belowR hW).ne_blk (h.z.below hW) (by decide) k hk) ((h.zr.belowR hW).ne_blk (h.r.below hW) (by decide) k hk)))
    ((h.rr.belowR hW).fr hF (fun k hk hs => hs.elim ((h.rr.belowR hW).ne_blk (h.z.below hW) (by decide) k hk) ((h.rr.belowR hW).ne_blk (h.r.below hW) (by decide) k hk))) h.zz (by have := hW.size; have := hF.size; omega) (by omega) hp
    (hoW.rd.fr hF (fun k hk hs => hs.elim (hoW.room.ne_blk (h.z.below hW) (by decide) k hk) (hoW.room.ne_blk (h.r.below hW) (by decide) k hk))) h.az (hF.cell hv (fun hs => by have hs' : gv = gz ∨ gv = gr := hs; omega)) (by omega) (by omega)

/-- Behind the division: z and r are known. -/
structure RdQ (w wr : World) (gd gz gr : Nat) (n : Bool) (e : Int) (a t : Nat) (A : Option Addr) (c : Nat) (Q R : Option Addr) (cq c2 : Nat) (W : World) : Prop where
  fr : Fr w W (fun k => k = gd)
  own : Own W w.heap.size (.slice A (digs 18446744073709551616 (a / 10 ^ t)).length c) (digs 18446744073709551616 (a / 10 ^ t))
  d : Blk W gd 71 (decC 0 n e false (.slice A (digs 18446744073709551616 (a / 10 ^ t)).length c) false)
  z : Blk W gz 69 #[.bool false, .slice Q (digs 18446744073709551616 (a / 10 ^ t / 10)).length cq, .bool false]
  zo : Own W w.heap.size (.slice Q (digs 18446744073709551616 (a / 10 ^ t / 10)).length cq) (digs 18446744073709551616 (a / 10 ^ t / 10))
  r : Blk W gr 69 #[.bool false, .slice R (digs 18446744073709551616 (a / 10 ^ t % 10)).length c2, .bool false]
  ro : Own W w.heap.size (.slice R (digs 18446744073709551616 (a / 10 ^ t % 10)).length c2) (digs 18446744073709551616 (a / 10 ^ t % 10))
  zz : ∀ k, (Value.slice Q (digs 18446744073709551616 (a / 10 ^ t / 10)).length cq).ownBlock = some k → (Value.slice R (digs 18446744073709551616 (a / 10 ^ t % 10)).length c2).ownBlock ≠ some k
  az : ∀ k, (Value.slice A (digs 18446744073709551616 (a / 10 ^ t)).length c).ownBlock = some k → (Value.slice Q (digs 18446744073709551616 (a / 10 ^ t / 10)).length cq).ownBlock ≠ some k
  ar : ∀ k, (Value.slice A (digs 18446744073709551616 (a / 10 ^ t)).length c).ownBlock = some k → (Value.slice R (digs 18446744073709551616 (a / 10 ^ t % 10)).length c2).ownBlock ≠ some k

theorem RdL.after {w : World} {gd gz gr : Nat} {n : Bool} {e : Int} {a t : Nat} {A : Option Addr} {c : Nat} {bz br : Bool} {vz vr : Value} {m m2 : Nat} {wr : World} (h : RdL w gd gz gr n e a t A c bz br vz vr m m2 wr)
    (hg : gd < w.heap.size ∧ w.heap.size ≤ gz ∧ w.heap.size ≤ gr ∧ gz ≠ gr) (W W' : World) (hW : Below wr.heap.size wr W) (e' : Ending) (hq : QrB W w.heap.size gz 0 gr 0 69 69 #[.bool bz, vz, .bool false] #[.bool br, vr, .bool false] vz vr (a / 10 ^ t) 10 e' W') :
    e' = .returned (.tuple #[.pointer (some ⟨gz, 0, none⟩), .pointer (some ⟨gr, 0, none⟩)]) ∧ ∃ Q R cq c2, RdQ w wr gd gz gr n e a t A c Q R cq c2 W' := by
  obtain ⟨g1, g2, g3, g4⟩ := hg
  obtain ⟨he, Q, R, cq, c2, hoq, hor, hbq, hbr, hqr, b1, b2, hf⟩ := hq
  have hwr := h.fr.size
  have hsW := hW.size
  have lz : ∀ k, vz.ownBlock = some k → w.heap.size ≤ k ∧ k < wr.heap.size := fun k hk => h.zr.lt hk
  have lr : ∀ k, vr.ownBlock = some k → w.heap.size ≤ k ∧ k < wr.heap.size := fun k hk => h.rr.lt hk
  have la : ∀ k, (Value.slice A (digs 18446744073709551616 (a / 10 ^ t)).length c).ownBlock = some k → w.heap.size ≤ k ∧ k < wr.heap.size := fun k hk => h.own.lt hk
  have hoW := h.own.below hW
  refine ⟨he, Q, R, cq, c2, ?_, ?_, ?_, b1, hoq, b2, hor, hqr, ?_, ?_⟩
  · refine Fr.step (Fr.step h.fr (Fr.of_below hW (fun _ => False)) (fun _ _ h => h.elim)) hf (fun i hi hs => ?_)
    rcases hs with (hs | hs) | (hs | hs)
    · omega
    · omega
    · have := (lz i hs).1; omega
    · have := (lr i hs).1; omega
  · refine hoW.fr hf (fun k hk hs => ?_)
    rcases hs with (hs | hs) | (hs | hs)
    · exact hoW.room.ne_blk (h.z.below hW) (by decide) k hk hs
    · exact hoW.room.ne_blk (h.r.below hW) (by decide) k hk hs
    · exact h.az k hk hs
    · exact h.ar k hk hs
  · refine (h.d.below hW).fr hf (fun hs => ?_)
    rcases hs with (hs | hs) | (hs | hs)
    · omega
    · omega
    · have := (lz _ hs).1; omega
    · have := (lr _ hs).1; omega
  · intro k hk hs
    rcases hbq with h1 | ⟨k', h1, h2⟩
    · exact h.az k hk (h1 ▸ hs)
    · rw [h1] at hs
      obtain rfl := Option.some.inj hs
      have := (la _ hk).2; omega
  · intro k hk hs
    rcases hbr with h1 | ⟨k', h1, h2⟩
    · exact h.ar k hk (h1 ▸ hs)
    · rw [h1] at hs
      obtain rfl := Option.some.inj hs
      have := (la _ hk).2; omega

theorem RdQ.next {w wr : World} {gd gz gr : Nat} {n : Bool} {e : Int} {a t : Nat} {A : Option Addr} {c : Nat} {Q R : Option Addr} {cq c2 : Nat} {W W' : World} (h : RdQ w wr gd gz gr n e a t A c Q R cq c2 W)
    (hg : gd < w.heap.size ∧ w.heap.size ≤ gz ∧ w.heap.size ≤ gr ∧ gz ≠ gr) (hdv : 10 ^ (t + 1) ∣ a) (e' : Ending) (hs : BigP W w.heap.size gd 3 71 (decC 0 n e false (.slice A (digs 18446744073709551616 (a / 10 ^ t)).length c) false) (.slice A (digs 18446744073709551616 (a / 10 ^ t)).length c) false false (digs 18446744073709551616 (a / 10 ^ t / 10)) e' W') :
    ∃ A' c' bz br vz vr m m2, RdL w gd gz gr n e a (t + 1) A' c' bz br vz vr m m2 W' := by
  obtain ⟨g1, g2, g3, g4⟩ := hg
  obtain ⟨he, A', c', ho, hb, hB, hF⟩ := hs
  have e1 : a / 10 ^ t / 10 = a / 10 ^ (t + 1) := by rw [Nat.div_div_eq_div_mul, Nat.pow_succ]
  have la : ∀ k, (Value.slice A (digs 18446744073709551616 (a / 10 ^ t)).length c).ownBlock = some k → w.heap.size ≤ k ∧ k < W.heap.size := fun k hk => h.own.lt hk
  have lq : ∀ k, (Value.slice Q (digs 18446744073709551616 (a / 10 ^ t / 10)).length cq).ownBlock = some k → w.heap.size ≤ k ∧ k < W.heap.size := fun k hk => h.zo.lt hk
  have lr : ∀ k, (Value.slice R (digs 18446744073709551616 (a / 10 ^ t % 10)).length c2).ownBlock = some k → w.heap.size ≤ k ∧ k < W.heap.size := fun k hk => h.ro.lt hk
  have hB' : Blk W' gd 71 (decC 0 n e false (.slice A' (digs 18446744073709551616 (a / 10 ^ t / 10)).length c') false) := hB
  refine ⟨A', c', false, false, .slice Q (digs 18446744073709551616 (a / 10 ^ t / 10)).length cq, .slice R (digs 18446744073709551616 (a / 10 ^ t % 10)).length c2, _, _, hdv, ?_, e1 ▸ ho, e1 ▸ hB', ?_, (h.zo.fr hF ?_).room, ?_, (h.ro.fr hF ?_).room, h.zz, ?_, ?_⟩
  · refine Fr.step h.fr hF (fun i hi hs => ?_)
    rcases hs with hs | hs
    · exact hs
    · have := (la i hs).1; omega
  · exact h.z.fr hF (fun hs => by
      rcases hs with hs | hs
      · omega
      · exact h.own.room.ne_blk h.z (by decide) _ hs rfl)
  · intro k hk hs
    rcases hs with hs | hs
    · have := (lq k hk).1; omega
    · exact h.az k hs hk
  · exact h.r.fr hF (fun hs => by
      rcases hs with hs | hs
      · omega
      · exact h.own.room.ne_blk h.r (by decide) _ hs rfl)
  · intro k hk hs
    rcases hs with hs | hs
    · have := (lr k hk).1; omega
    · exact h.ar k hs hk
  · rw [← e1]
    intro k hk hs
    rcases hb with h1 | ⟨k', h1, h2⟩
    · exact h.az k (h1 ▸ hk) hs
    · rw [h1] at hk
      obtain rfl := Option.some.inj hk
      have := (lq _ hs).2; omega
  · rw [← e1]
    intro k hk hs
    rcases hb with h1 | ⟨k', h1, h2⟩
    · exact h.ar k (h1 ▸ hk) hs
    · rw [h1] at hk
      obtain rfl := Option.some.inj hk
      have := (lr _ hs).2; omega

set_option maxHeartbeats 4000000 in
set_option maxRecDepth 20000 in
theorem red_big_p (gd gx : Nat) (e : Int) (A : Option Addr) (c a : Nat) (w : World) (hx : Blk w gx 71 (decC 0 false e false (.slice A (digs 18446744073709551616 a).length c) false)) (hxr : RdW w (.slice A (digs 18446744073709551616 a).length c) (digs 18446744073709551616 a)) (hd : Blk w gd 71 (decC 0 false 0 false (.slice none 0 0) false)) (hne : gd ≠ gx) (hxb : ∀ k, (Value.slice A (digs 18446744073709551616 a).length c).ownBlock = some k → k ≠ gd)
    (hl2 : 2 ≤ (digs 18446744073709551616 a).length) (hl3 : (digs 18446744073709551616 a).length ≤ 3) (he : -1000 ≤ e ∧ e ≤ 1000) (hts : ∀ t, 10 ^ t ∣ a → t ≤ 1000) :
    Calls Tryz.prog 38 #[.pointer (some ⟨gd, 0, none⟩), .pointer (some ⟨gx, 0, none⟩)] w (RedP w gd false a e) := by
  have ha : 0 < a := by
    rcases Nat.eq_zero_or_pos a with h | h
    · subst h; rw [digs_zero] at hl2; simp at hl2
    · exact h
  have c1 := dsign_any gx false e A (digs 18446744073709551616 a).length c w hx
  have hsg : sgnI false (digs 18446744073709551616 a).length = 1 := by unfold sgnI; rw [if_neg (by omega)]; rfl
  rw [hsg] at c1
  have Con1 := hide c1
  have Con2 := hide (dset_any w.heap.size gd gx 0 false 0 false (.slice none 0 0) false 0 false e false (.slice A (digs 18446744073709551616 a).length c) false 0 (digs 18446744073709551616 a) w hd (Own.nil _ _).room hx hxr hxb hne (Nat.le_refl _) (by omega))
  have x0 : w.cell? ⟨gx, 0, none⟩ = some (.int .i8 0) := hx.cell 0
  have hgl := hd.lt
  have HA := hide (And.intro ha (And.intro hl2 (And.intro hl3 (And.intro hts hgl))))
  have HE0 := hide he
  clear c1 hsg hx hxr hd hne hxb ha hl2 hl3 he hts hgl
  go_enter Tryz.func38, Tryz.ntmps38
  go_wp2_with fail
  refine (Con1.out).mono ?_
  rintro e1 w1 ⟨rfl, rfl⟩
  go_wp2_with fail
  refine (Con2.out).mono ?_
  rintro e3 w3 ⟨rfl, A3, c3, ho, -, hB, hF⟩
  have hB' : Blk w3 gd 71 (decC 0 false e false (.slice A3 (digs 18446744073709551616 a).length c3) false) := hB
  have con3 := bisU64_any gd 3 (digs 18446744073709551616 a).length c3 A3 w3 (hB'.cell 3) (hB'.cell 4)
  rw [decide_eq_false (by have := HA.out.2.1; omega)] at con3
  have Con3 := hide con3
  have hF1 : Fr w w3 (fun k => k = gd) := hF.mono (fun k _ h => h.elim id (fun h => by cases h))
  have HO := hide (And.intro ho (And.intro hB' hF1))
  clear ho hB hB' hF con3 hF1 Con1 Con2 x0
  go_wp2_with fail
  refine (Con3.out).mono ?_
  rintro e4 w4 ⟨rfl, rfl⟩
  clear Con3
  obtain ⟨gz, hgz⟩ : ∃ g, g = w3.heap.size := ⟨_, rfl⟩
  obtain ⟨gr, hgr⟩ : ∃ g, g = w3.heap.size + 1 := ⟨_, rfl⟩
  obtain ⟨W4, hW4⟩ : ∃ W, W = (w3.alloc (.cells #[.bool false, .slice none 0 0, .bool false] 69)).alloc (.cells #[.bool false, .slice none 0 0, .bool false] 69) := ⟨_, rfl⟩
  have hb4 : Below w3.heap.size w3 W4 := by rw [hW4]; exact below_al (below_al (Below.refl _ _) _) _
  have hz4 : Blk W4 gz 69 #[.bool false, .slice none 0 0, .bool false] := by rw [hW4, hgz]; exact (Blk.new w3 _ _).alloc _
  have hr4 : Blk W4 gr 69 #[.bool false, .slice none 0 0, .bool false] := by
    rw [hW4, hgr]
    have := Blk.new (w3.alloc (.cells #[.bool false, .slice none 0 0, .bool false] 69)) 69 #[.bool false, .slice none 0 0, .bool false]
    simpa using this
  have hs3 := HO.out.2.2.size
  have hgl := HA.out.2.2.2.2
  have ho4 := HO.out.1.below hb4
  have hd4 := HO.out.2.1.below hb4
  have Con5 := hide (dsetBig_any gd gz false e (.slice A3 (digs 18446744073709551616 a).length c3) (digs 18446744073709551616 a) W4 hd4 ho4.rd (ho4.room.ne_blk hz4 (by decide)) (by have := HA.out.2.1; omega) (by have := HA.out.2.2.1; omega) hz4 (by omega))
  have HG : Hid (gd < w.heap.size ∧ w.heap.size ≤ gz ∧ w.heap.size ≤ gr ∧ gz ≠ gr) := ⟨hgl, by omega, by omega, by omega⟩
  have H4 := hide (And.intro ho4 (And.intro hd4 (And.intro hr4 (Fr.step HO.out.2.2 (Fr.of_below hb4 (fun _ => False)) (fun _ _ h => h.elim)))))
  have hr4l := hr4.lt
  have HL4 := hide (And.intro hr4l (And.intro (show gz ≠ gr by omega) (And.intro (show ∀ k, (Value.slice A3 (digs 18446744073709551616 a).length c3).ownBlock = some k → k < W4.heap.size from fun k hk => (ho4.lt hk).2) (ho4.room.ne_blk hz4 (by decide)))))
  clear hb4 hz4 hr4 hs3 hgl ho4 hd4 HO hr4l
  go_wp2_with fail
  rw [← hW4, ← hgr, ← hgz]
  clear hW4 hgr hgz
  refine (Con5.out).mono ?_
  rintro e5 w5 ⟨rfl, b5, A5, c5, ho5, hB5, hF5⟩
  have HS : Hid (RdL w gd gz gr false e a 0 A3 c3 b5 false (.slice A5 (digs 18446744073709551616 a).length c5) (.slice none 0 0) (digs 18446744073709551616 a).length 0 w5) := by
    have e0 : a / 10 ^ 0 = a := by simp
    refine ⟨by simp, ?_, ?_, ?_, hB5, (ho5.lower (H4.out.2.2.2.size)).room, H4.out.2.2.1.fr hF5 (fun h => HL4.out.2.1 h.symm), (Own.nil _ _).room, (fun k _ h => (by cases h)), ?_, (fun k _ h => (by cases h))⟩
    · exact Fr.step H4.out.2.2.2 hF5 (fun i hi h => by have := HG.out; omega)
    · rw [e0]; exact H4.out.1.fr hF5 HL4.out.2.2.2
    · rw [e0]; exact H4.out.2.1.fr hF5 (fun h => by have := HG.out; omega)
    · intro k hk h
      rw [e0] at hk
      have h1 := HL4.out.2.2.1 k hk
      have h2 := (ho5.lt h).1
      omega
  clear ho5 hB5 hF5 H4 HL4 Con5
  go_wp2_with fail
  go_loopw [6] (fun vn wr => ∃ (t : Nat) (A : Option Addr) (c : Nat) (bz br : Bool) (vz vr : Value) (m m2 : Nat), vn = .int .i64 (t : Int) ∧ Hid (RdL w gd gz gr false e a t A c bz br vz vr m m2 wr)) (fun vn _ => match vn with | .int _ i => 2000 - i.toNat | _ => 0)
  case atStart => exact ⟨0, _, _, _, _, _, _, _, _, rfl, HS⟩
  case round =>
    obtain ⟨t, A, c, bz, br, vz, vr, m, m2, rfl, HR⟩ := hrel
    clear HS
    have hp10 : 0 < 10 ^ t := Nat.pow_pos (by omega)
    have hpos : 0 < a / 10 ^ t := Nat.div_pos (Nat.le_of_dvd HA.out.1 HR.out.dv) hp10
    have hlen : (digs 18446744073709551616 (a / 10 ^ t)).length ≤ 3 := Nat.le_trans (digs_length_mono (by omega) (Nat.div_le_self _ _)) HA.out.2.2.1
    have ConQ := hide (fun W gy B cy hW hgy hoy hby => (HR.out.quo hpos hlen HG.out W gy B cy hW hgy hoy hby).mono (fun e' W' hq => HR.out.after HG.out W W' hW e' hq))
    have ConT := hide (fun W => ten_any W)
    have hti := HA.out.2.2.2.1 t HR.out.dv
    have HT := hide (And.intro hpos (And.intro hlen (And.intro hti HR.out.dv)))
    clear hp10 hpos hlen hti HR
    go_wp2_with fail
    go_region_with (first
      | (go_at_call 67; go_loud (refine (ConT.out _).mono ?_; rintro e1 w1 ⟨gy, B, cy, rfl, hgy, hoy, hby, hb1⟩; have HQ := hide (ConQ.out w1 gy B cy (Below.mk hb1.os hb1.tape hb1.output hb1.size hb1.block) hgy hoy hby); clear hgy hoy hby hb1))
      | (go_at_call 54; go_loud (refine (HQ.out).mono ?_; rintro e2 w2 ⟨rfl, Q, R, cq, c2, hq⟩; have HW := hide hq; clear hq HQ)))
    all_goals (
      clear ConQ ConT
      have s0 : w2.cell? ⟨gr, 0, none⟩ = some (.bool false) := HW.out.r.cell 0
      have s1 : w2.cell? ⟨gr, 0 + 1, none⟩ = some (.slice R (digs 18446744073709551616 (a / 10 ^ t % 10)).length c2) := HW.out.r.cell 1
      have s2 : w2.cell? ⟨gr, 0 + 2, none⟩ = some (.bool false) := HW.out.r.cell 2
      have conS := bsign_any gr 0 false R (digs 18446744073709551616 (a / 10 ^ t % 10)).length c2 w2 s0 s1 s2
      by_cases h0 : a / 10 ^ t % 10 = 0)
    all_goals first
      | (rw [show sgnI false (digs 18446744073709551616 (a / 10 ^ t % 10)).length = 0 by rw [h0, digs_zero]; rfl] at conS
         have hdv : 10 ^ (t + 1) ∣ a := dvd_step 1 HT.out.2.2.2 h0
         have ht1 := HA.out.2.2.2.1 (t + 1) hdv
         have hwt : IntKind.i64.wrap ((t : Int) + 1) = ((t + 1 : Nat) : Int) := by simp [IntKind.wrap, IntKind.signed, IntKind.bits]; omega
         have HM : Hid (2000 - ((t + 1 : Nat) : Int).toNat < 2000 - (t : Int).toNat) := by show _ < _; omega
         have hgg := HG.out
         have HN := hide (fun e' w' => HW.out.next HG.out hdv e' (W' := w'))
         have Con6 := hide (bset_any w.heap.size gd 3 gz 0 71 69 (decC 0 false e false (.slice A (digs 18446744073709551616 (a / 10 ^ t)).length c) false) #[.bool false, .slice Q (digs 18446744073709551616 (a / 10 ^ t / 10)).length cq, .bool false] false false false false (.slice A (digs 18446744073709551616 (a / 10 ^ t)).length c) (.slice Q (digs 18446744073709551616 (a / 10 ^ t / 10)).length cq) _ (digs 18446744073709551616 (a / 10 ^ t / 10)) w2 HW.out.d rfl rfl rfl HW.out.own.room (by decide) HW.out.z rfl rfl rfl HW.out.zo.rd (HW.out.zo.room.ne_blk HW.out.d (by decide)) (by decide) (by omega) HW.out.fr.size (by have := digs_length_mono (b := 18446744073709551616) (by omega) (Nat.div_le_self (a / 10 ^ t) 10); have := HT.out.2.1; omega))
         have ConS := hide conS
         clear conS s0 s1 s2 h0 hdv ht1 hgg HW HT
         go_wp2_with fail
         refine (ConS.out).mono ?_
         rintro e3 w3' ⟨rfl, rfl⟩
         clear ConS
         go_wp2_with fail
         refine (Con6.out).mono ?_
         rintro e4 w4 hb4
         have HN4 := hide (HN.out e4 w4 hb4)
         obtain ⟨rfl, -⟩ := hb4
         obtain ⟨A', c', bz', br', vz', vr', m', m2', hN⟩ := HN4.out
         have HN5 := hide hN
         clear hN HN4 HN Con6
         go_wp2
         go_roundw
         case rel => exact ⟨t + 1, A', c', bz', br', vz', vr', m', m2', rfl, HN5⟩
         case measure => exact HM.out)
      | (have hnr : 0 < (digs 18446744073709551616 (a / 10 ^ t % 10)).length := List.length_pos_iff.2 (digs_ne_nil (by omega) (by omega))
         rw [sgnI_pos (by omega)] at conS
         obtain ⟨x1, hx1⟩ : ∃ x1 : Int, x1 = e + (t : Int) := ⟨_, rfl⟩
         have hwe := HE0.out
         have hti := HT.out.2.2.1
         have w1' : IntKind.i32.wrap (t : Int) = (t : Int) := by simp [IntKind.wrap, IntKind.signed, IntKind.bits]; omega
         have w2' : IntKind.i32.wrap (e + (t : Int)) = x1 := by rw [hx1]; simp [IntKind.wrap, IntKind.signed, IntKind.bits]; omega
         have hB := HW.out.d
         have d2 : w2.cell? ⟨gd, 2, none⟩ = some (.int .i32 e) := hB.cell 2
         have f2 := hB.frozen 2
         have hFa : Fr w2 (w2.setCell ⟨gd, 2, none⟩ (.int .i32 x1)) (fun k => k = gd) := (Fr.refl w2 (fun k => k = gd)).setCell (p := ⟨gd, 2, none⟩) (fun _ => rfl) _
         have HE : Hid (RedP w gd false a e (.returned (.tuple #[.pointer (some ⟨gd, 0, none⟩), .int .i64 (t : Int)])) (w2.setCell ⟨gd, 2, none⟩ (.int .i32 x1))) :=
           ⟨t, A, c, rfl, HT.out.2.2.2, h0, HW.out.own.fr hFa (HW.out.own.room.ne_blk hB (by decide)), by rw [← hx1]; exact hB.set 2 _, Fr.step HW.out.fr hFa (fun _ _ h => h)⟩
         have ConS := hide conS
         clear conS s0 s1 s2 h0 hnr hB hFa hwe hti HW HT hx1
         go_wp2_with fail
         refine (ConS.out).mono ?_
         rintro e3 w3' ⟨rfl, rfl⟩
         clear ConS
         go_wp2
         go_ret2
         exact HE.out)

set_option maxHeartbeats 4000000 in
set_option maxRecDepth 20000 in
theorem red_big_n (gd gx : Nat) (e : Int) (A : Option Addr) (c a : Nat) (w : World) (hx : Blk w gx 71 (decC 0 true e false (.slice A (digs 18446744073709551616 a).length c) false)) (hxr : RdW w (.slice A (digs 18446744073709551616 a).length c) (digs 18446744073709551616 a)) (hd : Blk w gd 71 (decC 0 false 0 false (.slice none 0 0) false)) (hne : gd ≠ gx) (hxb : ∀ k, (Value.slice A (digs 18446744073709551616 a).length c).ownBlock = some k → k ≠ gd)
    (hl2 : 2 ≤ (digs 18446744073709551616 a).length) (hl3 : (digs 18446744073709551616 a).length ≤ 3) (he : -1000 ≤ e ∧ e ≤ 1000) (hts : ∀ t, 10 ^ t ∣ a → t ≤ 1000) :
    Calls Tryz.prog 38 #[.pointer (some ⟨gd, 0, none⟩), .pointer (some ⟨gx, 0, none⟩)] w (RedP w gd true a e) := by
  have ha : 0 < a := by
    rcases Nat.eq_zero_or_pos a with h | h
    · subst h; rw [digs_zero] at hl2; simp at hl2
    · exact h
  have c1 := dsign_any gx true e A (digs 18446744073709551616 a).length c w hx
  have hsg : sgnI true (digs 18446744073709551616 a).length = (-1) := by unfold sgnI; rw [if_neg (by omega)]; rfl
  rw [hsg] at c1
  have Con1 := hide c1
  have Con2 := hide (dset_any w.heap.size gd gx 0 false 0 false (.slice none 0 0) false 0 true e false (.slice A (digs 18446744073709551616 a).length c) false 0 (digs 18446744073709551616 a) w hd (Own.nil _ _).room hx hxr hxb hne (Nat.le_refl _) (by omega))
  have x0 : w.cell? ⟨gx, 0, none⟩ = some (.int .i8 0) := hx.cell 0
  have hgl := hd.lt
  have HA := hide (And.intro ha (And.intro hl2 (And.intro hl3 (And.intro hts hgl))))
  have HE0 := hide he
  clear c1 hsg hx hxr hd hne hxb ha hl2 hl3 he hts hgl
  go_enter Tryz.func38, Tryz.ntmps38
  go_wp2_with fail
  refine (Con1.out).mono ?_
  rintro e1 w1 ⟨rfl, rfl⟩
  go_wp2_with fail
  refine (Con2.out).mono ?_
  rintro e3 w3 ⟨rfl, A3, c3, ho, -, hB, hF⟩
  have hB' : Blk w3 gd 71 (decC 0 true e false (.slice A3 (digs 18446744073709551616 a).length c3) false) := hB
  have con3 := bisU64_any gd 3 (digs 18446744073709551616 a).length c3 A3 w3 (hB'.cell 3) (hB'.cell 4)
  rw [decide_eq_false (by have := HA.out.2.1; omega)] at con3
  have Con3 := hide con3
  have hF1 : Fr w w3 (fun k => k = gd) := hF.mono (fun k _ h => h.elim id (fun h => by cases h))
  have HO := hide (And.intro ho (And.intro hB' hF1))
  clear ho hB hB' hF con3 hF1 Con1 Con2 x0
  go_wp2_with fail
  refine (Con3.out).mono ?_
  rintro e4 w4 ⟨rfl, rfl⟩
  clear Con3
  obtain ⟨gz, hgz⟩ : ∃ g, g = w3.heap.size := ⟨_, rfl⟩
  obtain ⟨gr, hgr⟩ : ∃ g, g = w3.heap.size + 1 := ⟨_, rfl⟩
  obtain ⟨W4, hW4⟩ : ∃ W, W = (w3.alloc (.cells #[.bool false, .slice none 0 0, .bool false] 69)).alloc (.cells #[.bool false, .slice none 0 0, .bool false] 69) := ⟨_, rfl⟩
  have hb4 : Below w3.heap.size w3 W4 := by rw [hW4]; exact below_al (below_al (Below.refl _ _) _) _
  have hz4 : Blk W4 gz 69 #[.bool false, .slice none 0 0, .bool false] := by rw [hW4, hgz]; exact (Blk.new w3 _ _).alloc _
  have hr4 : Blk W4 gr 69 #[.bool false, .slice none 0 0, .bool false] := by
    rw [hW4, hgr]
    have := Blk.new (w3.alloc (.cells #[.bool false, .slice none 0 0, .bool false] 69)) 69 #[.bool false, .slice none 0 0, .bool false]
    simpa using this
  have hs3 := HO.out.2.2.size
  have hgl := HA.out.2.2.2.2
  have ho4 := HO.out.1.below hb4
  have hd4 := HO.out.2.1.below hb4
  have Con5 := hide (dsetBig_any gd gz true e (.slice A3 (digs 18446744073709551616 a).length c3) (digs 18446744073709551616 a) W4 hd4 ho4.rd (ho4.room.ne_blk hz4 (by decide)) (by have := HA.out.2.1; omega) (by have := HA.out.2.2.1; omega) hz4 (by omega))
  have HG : Hid (gd < w.heap.size ∧ w.heap.size ≤ gz ∧ w.heap.size ≤ gr ∧ gz ≠ gr) := ⟨hgl, by omega, by omega, by omega⟩
  have H4 := hide (And.intro ho4 (And.intro hd4 (And.intro hr4 (Fr.step HO.out.2.2 (Fr.of_below hb4 (fun _ => False)) (fun _ _ h => h.elim)))))
  have hr4l := hr4.lt
  have HL4 := hide (And.intro hr4l (And.intro (show gz ≠ gr by omega) (And.intro (show ∀ k, (Value.slice A3 (digs 18446744073709551616 a).length c3).ownBlock = some k → k < W4.heap.size from fun k hk => (ho4.lt hk).2) (ho4.room.ne_blk hz4 (by decide)))))
  clear hb4 hz4 hr4 hs3 hgl ho4 hd4 HO hr4l
  go_wp2_with fail
  rw [← hW4, ← hgr, ← hgz]
  clear hW4 hgr hgz
  refine (Con5.out).mono ?_
  rintro e5 w5 ⟨rfl, b5, A5, c5, ho5, hB5, hF5⟩
  have HS : Hid (RdL w gd gz gr true e a 0 A3 c3 b5 false (.slice A5 (digs 18446744073709551616 a).length c5) (.slice none 0 0) (digs 18446744073709551616 a).length 0 w5) := by
    have e0 : a / 10 ^ 0 = a := by simp
    refine ⟨by simp, ?_, ?_, ?_, hB5, (ho5.lower (H4.out.2.2.2.size)).room, H4.out.2.2.1.fr hF5 (fun h => HL4.out.2.1 h.symm), (Own.nil _ _).room, (fun k _ h => (by cases h)), ?_, (fun k _ h => (by cases h))⟩
    · exact Fr.step H4.out.2.2.2 hF5 (fun i hi h => by have := HG.out; omega)
    · rw [e0]; exact H4.out.1.fr hF5 HL4.out.2.2.2
    · rw [e0]; exact H4.out.2.1.fr hF5 (fun h => by have := HG.out; omega)
    · intro k hk h
      rw [e0] at hk
      have h1 := HL4.out.2.2.1 k hk
      have h2 := (ho5.lt h).1
      omega
  clear ho5 hB5 hF5 H4 HL4 Con5
  go_wp2_with fail
  go_loopw [6] (fun vn wr => ∃ (t : Nat) (A : Option Addr) (c : Nat) (bz br : Bool) (vz vr : Value) (m m2 : Nat), vn = .int .i64 (t : Int) ∧ Hid (RdL w gd gz gr true e a t A c bz br vz vr m m2 wr)) (fun vn _ => match vn with | .int _ i => 2000 - i.toNat | _ => 0)
  case atStart => exact ⟨0, _, _, _, _, _, _, _, _, rfl, HS⟩
  case round =>
    obtain ⟨t, A, c, bz, br, vz, vr, m, m2, rfl, HR⟩ := hrel
    clear HS
    have hp10 : 0 < 10 ^ t := Nat.pow_pos (by omega)
    have hpos : 0 < a / 10 ^ t := Nat.div_pos (Nat.le_of_dvd HA.out.1 HR.out.dv) hp10
    have hlen : (digs 18446744073709551616 (a / 10 ^ t)).length ≤ 3 := Nat.le_trans (digs_length_mono (by omega) (Nat.div_le_self _ _)) HA.out.2.2.1
    have ConQ := hide (fun W gy B cy hW hgy hoy hby => (HR.out.quo hpos hlen HG.out W gy B cy hW hgy hoy hby).mono (fun e' W' hq => HR.out.after HG.out W W' hW e' hq))
    have ConT := hide (fun W => ten_any W)
    have hti := HA.out.2.2.2.1 t HR.out.dv
    have HT := hide (And.intro hpos (And.intro hlen (And.intro hti HR.out.dv)))
    clear hp10 hpos hlen hti HR
    go_wp2_with fail
    go_region_with (first
      | (go_at_call 67; go_loud (refine (ConT.out _).mono ?_; rintro e1 w1 ⟨gy, B, cy, rfl, hgy, hoy, hby, hb1⟩; have HQ := hide (ConQ.out w1 gy B cy (Below.mk hb1.os hb1.tape hb1.output hb1.size hb1.block) hgy hoy hby); clear hgy hoy hby hb1))
      | (go_at_call 54; go_loud (refine (HQ.out).mono ?_; rintro e2 w2 ⟨rfl, Q, R, cq, c2, hq⟩; have HW := hide hq; clear hq HQ)))
    all_goals (
      clear ConQ ConT
      have s0 : w2.cell? ⟨gr, 0, none⟩ = some (.bool false) := HW.out.r.cell 0
      have s1 : w2.cell? ⟨gr, 0 + 1, none⟩ = some (.slice R (digs 18446744073709551616 (a / 10 ^ t % 10)).length c2) := HW.out.r.cell 1
      have s2 : w2.cell? ⟨gr, 0 + 2, none⟩ = some (.bool false) := HW.out.r.cell 2
      have conS := bsign_any gr 0 false R (digs 18446744073709551616 (a / 10 ^ t % 10)).length c2 w2 s0 s1 s2
      by_cases h0 : a / 10 ^ t % 10 = 0)
    all_goals first
      | (rw [show sgnI false (digs 18446744073709551616 (a / 10 ^ t % 10)).length = 0 by rw [h0, digs_zero]; rfl] at conS
         have hdv : 10 ^ (t + 1) ∣ a := dvd_step 1 HT.out.2.2.2 h0
         have ht1 := HA.out.2.2.2.1 (t + 1) hdv
         have hwt : IntKind.i64.wrap ((t : Int) + 1) = ((t + 1 : Nat) : Int) := by simp [IntKind.wrap, IntKind.signed, IntKind.bits]; omega
         have HM : Hid (2000 - ((t + 1 : Nat) : Int).toNat < 2000 - (t : Int).toNat) := by show _ < _; omega
         have hgg := HG.out
         have HN := hide (fun e' w' => HW.out.next HG.out hdv e' (W' := w'))
         have Con6 := hide (bset_any w.heap.size gd 3 gz 0 71 69 (decC 0 true e false (.slice A (digs 18446744073709551616 (a / 10 ^ t)).length c) false) #[.bool false, .slice Q (digs 18446744073709551616 (a / 10 ^ t / 10)).length cq, .bool false] false false false false (.slice A (digs 18446744073709551616 (a / 10 ^ t)).length c) (.slice Q (digs 18446744073709551616 (a / 10 ^ t / 10)).length cq) _ (digs 18446744073709551616 (a / 10 ^ t / 10)) w2 HW.out.d rfl rfl rfl HW.out.own.room (by decide) HW.out.z rfl rfl rfl HW.out.zo.rd (HW.out.zo.room.ne_blk HW.out.d (by decide)) (by decide) (by omega) HW.out.fr.size (by have := digs_length_mono (b := 18446744073709551616) (by omega) (Nat.div_le_self (a / 10 ^ t) 10); have := HT.out.2.1; omega))
         have ConS := hide conS
         clear conS s0 s1 s2 h0 hdv ht1 hgg HW HT
         go_wp2_with fail
         refine (ConS.out).mono ?_
         rintro e3 w3' ⟨rfl, rfl⟩
         clear ConS
         go_wp2_with fail
         refine (Con6.out).mono ?_
         rintro e4 w4 hb4
         have HN4 := hide (HN.out e4 w4 hb4)
         obtain ⟨rfl, -⟩ := hb4
         obtain ⟨A', c', bz', br', vz', vr', m', m2', hN⟩ := HN4.out
         have HN5 := hide hN
         clear hN HN4 HN Con6
         go_wp2
         go_roundw
         case rel => exact ⟨t + 1, A', c', bz', br', vz', vr', m', m2', rfl, HN5⟩
         case measure => exact HM.out)
      | (have hnr : 0 < (digs 18446744073709551616 (a / 10 ^ t % 10)).length := List.length_pos_iff.2 (digs_ne_nil (by omega) (by omega))
         rw [sgnI_pos (by omega)] at conS
         obtain ⟨x1, hx1⟩ : ∃ x1 : Int, x1 = e + (t : Int) := ⟨_, rfl⟩
         have hwe := HE0.out
         have hti := HT.out.2.2.1
         have w1' : IntKind.i32.wrap (t : Int) = (t : Int) := by simp [IntKind.wrap, IntKind.signed, IntKind.bits]; omega
         have w2' : IntKind.i32.wrap (e + (t : Int)) = x1 := by rw [hx1]; simp [IntKind.wrap, IntKind.signed, IntKind.bits]; omega
         have hB := HW.out.d
         have d2 : w2.cell? ⟨gd, 2, none⟩ = some (.int .i32 e) := hB.cell 2
         have f2 := hB.frozen 2
         have hFa : Fr w2 (w2.setCell ⟨gd, 2, none⟩ (.int .i32 x1)) (fun k => k = gd) := (Fr.refl w2 (fun k => k = gd)).setCell (p := ⟨gd, 2, none⟩) (fun _ => rfl) _
         have HE : Hid (RedP w gd true a e (.returned (.tuple #[.pointer (some ⟨gd, 0, none⟩), .int .i64 (t : Int)])) (w2.setCell ⟨gd, 2, none⟩ (.int .i32 x1))) :=
           ⟨t, A, c, rfl, HT.out.2.2.2, h0, HW.out.own.fr hFa (HW.out.own.room.ne_blk hB (by decide)), by rw [← hx1]; exact hB.set 2 _, Fr.step HW.out.fr hFa (fun _ _ h => h)⟩
         have ConS := hide conS
         clear conS s0 s1 s2 h0 hnr hB hFa hwe hti HW HT hx1
         go_wp2_with fail
         refine (ConS.out).mono ?_
         rintro e3 w3' ⟨rfl, rfl⟩
         clear ConS
         go_wp2
         go_ret2
         exact HE.out)
end Go.Proofs.YtfkcobdkgjhfaaaGreatDoor
