/- Parts of the proofs: RedI, RedA, SpBare. -/
import Derived.WalkLawsBesides
import Derived.Test.YtfkcobdkgjhfaaaGreatDoorG28
import Derived.Test.YtfkcobdkgjhfaaaGreatDoorG29
import Derived.Test.YtfkcobdkgjhfaaaGreatDoorG48
import Derived.Test.YtfkcobdkgjhfaaaGreatDoorG58
import Derived.Test.YtfkcobdkgjhfaaaGreatDoorG60
/- Walk: the thin package's Reduced, by a contract of Decimal.Reduce. -/
set_option linter.unusedVariables false
set_option linter.unusedSimpArgs false
namespace Go.Proofs.YtfkcobdkgjhfaaaGreatDoor
open Go.RowKit

theorem ired_result (n : Nat) (v3 : Value) (tmps : Array Value) (h : tmps.getD 2 undef = .pointer (some ⟨n, 0, none⟩)) (h3 : tmps.getD 3 undef = v3) (W : World) (a b c d : Value) (c0 : W.cell? ⟨n, 0, none⟩ = some a) (c1 : W.cell? ⟨n, 1, none⟩ = some b) (c2 : W.cell? ⟨n, 2, none⟩ = some c) (c3 : W.cell? ⟨n, 3, none⟩ = some d) :
    (results Tryz.f17 tmps).run Tryz.prog W = .ok (.tuple #[.agg #[a, b, c, d], v3]) W := by
  have e2 : tmps[2]?.getD undef = .pointer (some ⟨n, 0, none⟩) := by simpa using h
  have e3 : tmps[3]?.getD undef = v3 := by simpa using h3
  simp [results, Tryz.results17, go_sem, e2, e3, c0, c1, c2, c3]
/-- Behind Reduced. -/
def IredP (w : World) (n : Bool) (a : Nat) (e : Int) (e' : Ending) (w' : World) : Prop :=
  ∃ (t : Nat) (B : Option Addr) (c : Nat), e' = .returned (.tuple #[.agg #[.int .i64 0, .bool n, .slice B (digs 18446744073709551616 (a / 10 ^ t)).length c, .int .i64 (e + (t : Int))], .int .i64 (t : Int)]) ∧ 10 ^ t ∣ a ∧ a / 10 ^ t % 10 ≠ 0 ∧
    OwnU w' w.heap.size (.slice B (digs 18446744073709551616 (a / 10 ^ t)).length c) (digs 18446744073709551616 (a / 10 ^ t)) ∧ Below w.heap.size w w'

set_option maxHeartbeats 2000000 in
set_option maxRecDepth 20000 in
theorem ired_gen (n : Bool) (A : Option Addr) (c a : Nat) (e : Int) (w : World) (hv : RdW w (.slice A (digs 18446744073709551616 a).length c) (digs 18446744073709551616 a)) (hl : (digs 18446744073709551616 a).length ≤ 3) (he : -1000 ≤ e ∧ e ≤ 1000)
    (hts : ∀ t, 10 ^ t ∣ a → t ≤ 1000)
    (con : ∀ W gd gx A1 c1, gd ≠ gx → Below w.heap.size w W → Blk W gx 71 (decC 0 n e false (.slice A1 (digs 18446744073709551616 a).length c1) false) → RdW W (.slice A1 (digs 18446744073709551616 a).length c1) (digs 18446744073709551616 a) → (∀ k, (Value.slice A1 (digs 18446744073709551616 a).length c1).ownBlock = some k → k ≠ gd) → Blk W gd 71 (decC 0 false 0 false (.slice none 0 0) false) →
      Calls Tryz.prog 38 #[.pointer (some ⟨gd, 0, none⟩), .pointer (some ⟨gx, 0, none⟩)] W (RedP W gd n a e)) :
    Calls Tryz.prog 17 #[.agg #[.int .i64 0, .bool n, .slice A (digs 18446744073709551616 a).length c, .int .i64 e]] w (IredP w n a e) := by
  obtain ⟨g1, hg1⟩ : ∃ g, g = w.heap.size := ⟨_, rfl⟩
  obtain ⟨gr, hgr⟩ : ∃ g, g = w.heap.size + 1 := ⟨_, rfl⟩
  obtain ⟨gd, hgd⟩ : ∃ g, g = w.heap.size + 1 + 1 := ⟨_, rfl⟩
  obtain ⟨W0, hW0⟩ : ∃ W, W = ((w.alloc (.cells #[.int .i64 0, .bool n, .slice A (digs 18446744073709551616 a).length c, .int .i64 e] 24)).alloc (.cells #[.int .i64 0, .bool false, .slice none 0 0, .int .i64 0] 24)).alloc (.cells #[.int .i8 0, .bool false, .int .i32 0, .bool false, .slice none 0 0, .bool false] 71) := ⟨_, rfl⟩
  have hb0 : Below w.heap.size w W0 := by rw [hW0]; exact below_al (below_al (below_al (Below.refl _ _) _) _) _
  have hB1 : Blk W0 g1 24 #[.int .i64 0, .bool n, .slice A (digs 18446744073709551616 a).length c, .int .i64 e] := by rw [hW0, hg1]; exact ((Blk.new w _ _).alloc _).alloc _
  have hBr : Blk W0 gr 24 #[.int .i64 0, .bool false, .slice none 0 0, .int .i64 0] := by
    rw [hW0, hgr]
    have := (Blk.new (w.alloc (.cells #[.int .i64 0, .bool n, .slice A (digs 18446744073709551616 a).length c, .int .i64 e] 24)) 24 #[.int .i64 0, .bool false, .slice none 0 0, .int .i64 0]).alloc (.cells #[.int .i8 0, .bool false, .int .i32 0, .bool false, .slice none 0 0, .bool false] 71)
    simpa using this
  have hBd : Blk W0 gd 71 (decC 0 false 0 false (.slice none 0 0) false) := by
    rw [hW0, hgd]
    have := Blk.new ((w.alloc (.cells #[.int .i64 0, .bool n, .slice A (digs 18446744073709551616 a).length c, .int .i64 e] 24)).alloc (.cells #[.int .i64 0, .bool false, .slice none 0 0, .int .i64 0] 24)) 71 (decC 0 false 0 false (.slice none 0 0) false)
    unfold decC at this ⊢
    simpa using this
  obtain ⟨x0, x1, x2, x3⟩ := hB1.dec4
  have con1 := made_fin 0 n (.slice A (digs 18446744073709551616 a).length c) (digs 18446744073709551616 a) e W0 (RdG.below (k := .u64) hv hb0) (by omega) (by decide) (by decide) (by decide) (by omega) (by omega)
  rw [trimz_of_canon (canon_digs (by omega) _)] at con1
  have Con1 := hide con1
  have Con2 := hide con
  have H := hide (And.intro hb0 (And.intro hBr (And.intro hBd (And.intro hl (And.intro he hts)))))
  have HN : Hid (w.heap.size ≤ gr ∧ gr ≠ gd ∧ w.heap.size ≤ gd) := ⟨by omega, by omega, by omega⟩
  clear hv hl he hts con con1 hb0 hB1 hBr hBd
  go_enter Tryz.func17, Tryz.ntmps17
  rw [hW0] at x0 x1 x2 x3
  go_wp2_with fail
  rw [← hW0, ← hgd, ← hgr, ← hg1]
  clear hW0 hgd hgr hg1 x0 x1 x2 x3
  refine (Con1.out).mono ?_
  rintro e1 w1 ⟨gx, A1, c1, rfl, hgx, ho, hB, hbel⟩
  have hgdl := H.out.2.2.1.lt
  have Con3 := hide (Con2.out w1 gd gx A1 c1 (by omega) (below_next H.out.1 hbel) hB ho.rd (ho.room.ne_blk (H.out.2.2.1.below hbel) (by decide)) (H.out.2.2.1.below hbel))
  have H1 := hide (And.intro (below_next H.out.1 hbel) (H.out.2.1.below hbel))
  clear hgx ho hB hbel hgdl Con1 Con2
  go_wp2_with fail
  refine (Con3.out).mono ?_
  rintro e2 w2 ⟨t, B, cB, rfl, hdv, hlast, hoB, hBd, hF⟩
  have ht := H.out.2.2.2.2.2 t hdv
  have hll : (digs 18446744073709551616 (a / 10 ^ t)).length ≤ 3 := Nat.le_trans (digs_length_mono (by omega) (Nat.div_le_self _ _)) H.out.2.2.2.1
  have con4 := told_fin gd n (e + (t : Int)) false false _ _ w2 hBd hoB.rd (by omega) (by have := H.out.2.2.2.2.1; omega) (by have := H.out.2.2.2.2.1; omega)
  unfold ToldFin at con4
  have Con4 := hide con4
  have hb2 : Below w.heap.size w w2 := (Fr.step (Fr.of_below H1.out.1 (fun k => w.heap.size ≤ k)) hF (fun i _ hi => by subst hi; exact HN.out.2.2)).below (Nat.le_refl _) (fun _ h => h)
  have H2 := hide (And.intro hb2 (And.intro (H1.out.2.fr hF (fun h => HN.out.2.1 h)) (And.intro hdv hlast)))
  clear con4 hdv hlast hoB hBd hF ht hll hb2 Con3 H1 H
  go_wp2_with fail
  refine (Con4.out).mono ?_
  rintro e3 w3 ⟨A3, c3, rfl, ho3, hb3⟩
  have hB3 := H2.out.2.1.below hb3
  obtain ⟨y0, y1, y2, y3⟩ := hB3.dec4
  have f0 := hB3.frozen 0
  have f1 := hB3.frozen 1
  have f2 := hB3.frozen 2
  have f3 := hB3.frozen 3
  obtain ⟨x, hx⟩ : ∃ x, x = e + (t : Int) := ⟨_, rfl⟩
  rw [← hx]
  obtain ⟨W6, hW6⟩ : ∃ W6, W6 = (((w3.setCell ⟨gr, 0, none⟩ (.int .i64 0)).setCell ⟨gr, 1, none⟩ (.bool n)).setCell ⟨gr, 2, none⟩ (.slice A3 (digs 18446744073709551616 (a / 10 ^ t)).length c3)).setCell ⟨gr, 3, none⟩ (.int .i64 x) := ⟨_, rfl⟩
  have hF6 : Fr w3 W6 (fun k => k = gr) := by rw [hW6]; exact ((((Fr.refl w3 (fun k => k = gr)).setCell (p := ⟨gr, 0, none⟩) (fun _ => rfl) _).setCell (p := ⟨gr, 1, none⟩) (fun _ => rfl) _).setCell (p := ⟨gr, 2, none⟩) (fun _ => rfl) _).setCell (p := ⟨gr, 3, none⟩) (fun _ => rfl) _
  have hB6 : Blk W6 gr 24 #[.int .i64 0, .bool n, .slice A3 (digs 18446744073709551616 (a / 10 ^ t)).length c3, .int .i64 x] := by rw [hW6]; exact (((hB3.set 0 _).set 1 _).set 2 _).set 3 _
  have HP : Hid (IredP w n a e (.returned (.tuple #[.agg #[.int .i64 0, .bool n, .slice A3 (digs 18446744073709551616 (a / 10 ^ t)).length c3, .int .i64 x], .int .i64 (t : Int)])) W6) :=
    ⟨t, A3, c3, by rw [hx], H2.out.2.2.1, H2.out.2.2.2, (ho3.fr hF6 (ho3.ne_blk hB3 (by decide))).lower H2.out.1.size, (Fr.step (Fr.of_below (below_next H2.out.1 hb3) (fun k => w.heap.size ≤ k)) hF6 (fun i _ hi => by subst hi; exact HN.out.1)).below (Nat.le_refl _) (fun _ h => h)⟩
  have HC := hide hB6.dec4
  clear hF6 hB6 hB3 ho3 hb3 H2 HN Con4 hx
  generalize (digs 18446744073709551616 (a / 10 ^ t)).length = nl at *
  go_wp2_with fail
  all_goals (try rw [← hW6])
  clear hW6
  go_wp2
  exact bodyPost_ret (ired_result gr (.int .i64 (t : Int)) _ rfl rfl _ _ _ _ _ HC.out.1 HC.out.2.1 HC.out.2.2.1 HC.out.2.2.2) rfl HP.out
end Go.Proofs.YtfkcobdkgjhfaaaGreatDoor

/- Walk: Decimal.Reduce of up to three words, impl.Reduced. -/
set_option linter.unusedVariables false
set_option linter.unusedSimpArgs false
namespace Go.Proofs.YtfkcobdkgjhfaaaGreatDoor
open Go.RowKit

theorem tz_bound {a t : Nat} (ha : 0 < a) (hl : (digs 18446744073709551616 a).length ≤ 3) (h : 10 ^ t ∣ a) : t ≤ 1000 := by
  have h1 : 10 ^ t ≤ a := Nat.le_of_dvd ha h
  have h2 : a < 18446744073709551616 ^ 3 := lt_of_digs_length (by omega) hl
  have h3 : 10 ^ t < 10 ^ 60 := Nat.lt_of_le_of_lt h1 (Nat.lt_of_lt_of_le h2 (by decide))
  have := (Nat.pow_lt_pow_iff_right (a := 10) (by omega)).1 h3
  omega

theorem red_any (gd gx : Nat) (n : Bool) (e : Int) (A : Option Addr) (c a : Nat) (w : World) (hx : Blk w gx 71 (decC 0 n e false (.slice A (digs 18446744073709551616 a).length c) false)) (hxr : RdW w (.slice A (digs 18446744073709551616 a).length c) (digs 18446744073709551616 a)) (hd : Blk w gd 71 (decC 0 false 0 false (.slice none 0 0) false)) (hne : gd ≠ gx) (hxb : ∀ k, (Value.slice A (digs 18446744073709551616 a).length c).ownBlock = some k → k ≠ gd)
    (ha : 0 < a) (hl3 : (digs 18446744073709551616 a).length ≤ 3) (he : -1000 ≤ e ∧ e ≤ 1000) :
    Calls Tryz.prog 38 #[.pointer (some ⟨gd, 0, none⟩), .pointer (some ⟨gx, 0, none⟩)] w (RedP w gd n a e) := by
  rcases Nat.lt_or_ge (digs 18446744073709551616 a).length 2 with h | h
  · have h2 : a < 18446744073709551616 := by
      have := lt_of_digs_length (b := 18446744073709551616) (k := 1) (by omega) (show (digs 18446744073709551616 a).length ≤ 1 by omega)
      omega
    have e1 := digs_word h2 (by omega : a ≠ 0)
    rw [e1] at hx hxr hxb
    cases n with
    | false => exact red_small_p gd gx e A c a w hx hxr hd hne hxb ha h2 he
    | true => exact red_small_n gd gx e A c a w hx hxr hd hne hxb ha h2 he
  · cases n with
    | false => exact red_big_p gd gx e A c a w hx hxr hd hne hxb h hl3 he (fun t ht => tz_bound ha hl3 ht)
    | true => exact red_big_n gd gx e A c a w hx hxr hd hne hxb h hl3 he (fun t ht => tz_bound ha hl3 ht)
theorem ired_any (n : Bool) (A : Option Addr) (c a : Nat) (e : Int) (w : World) (hv : RdW w (.slice A (digs 18446744073709551616 a).length c) (digs 18446744073709551616 a)) (hl : (digs 18446744073709551616 a).length ≤ 3) (ha : 0 < a) (he : -1000 ≤ e ∧ e ≤ 1000) :
    Calls Tryz.prog 17 #[.agg #[.int .i64 0, .bool n, .slice A (digs 18446744073709551616 a).length c, .int .i64 e]] w (IredP w n a e) :=
  ired_gen n A c a e w hv hl he (fun t ht => tz_bound ha hl ht) (fun W gd gx A1 c1 hne _ hx hxr hxb hd => red_any gd gx n e A1 c1 a W hx hxr hd hne hxb ha hl he)
end Go.Proofs.YtfkcobdkgjhfaaaGreatDoor

/- Walk: the reference's Bare: the noughts at a number's end. -/
set_option linter.unusedVariables false
set_option linter.unusedSimpArgs false
namespace Go.Proofs.YtfkcobdkgjhfaaaGreatDoor
open Go.RowKit

structure SbS (w : World) (g gr : Nat) (n : Bool) (B : Option Addr) (l c a t : Nat) (x : Int) (W : World) : Prop where
  bel : Below w.heap.size w W
  b : Blk W g 29 #[.bool n, .slice B l c, .int .i64 x]
  r : Blk W gr 29 #[.bool false, .slice none 0 0, .int .i64 0]
  rd : RdG .i64 W (.slice B l c) (digs 65536 (a / 10 ^ t))
  ap : ∀ k, (Value.slice B l c).ownBlock = some k → k ≠ g ∧ k ≠ gr
  dv : 10 ^ t ∣ a
/-- Behind Bare. -/
def BareP (w : World) (n : Bool) (a : Nat) (e : Int) (e' : Ending) (w' : World) : Prop :=
  ∃ (t : Nat) (B : Option Addr) (l c : Nat), e' = .returned (.tuple #[.agg #[.bool n, .slice B l c, .int .i64 (e + (t : Int))], .int .i64 (t : Int)]) ∧ RdG .i64 w' (.slice B l c) (digs 65536 (a / 10 ^ t)) ∧ 10 ^ t ∣ a ∧ a / 10 ^ t % 10 ≠ 0 ∧ Below w.heap.size w w'
theorem bare_result (g : Nat) (v3 : Value) (tmps : Array Value) (h : tmps.getD 2 undef = .pointer (some ⟨g, 0, none⟩)) (h3 : tmps.getD 3 undef = v3) (W : World) (a b c : Value) (c0 : W.cell? ⟨g, 0, none⟩ = some a) (c1 : W.cell? ⟨g, 1, none⟩ = some b) (c2 : W.cell? ⟨g, 2, none⟩ = some c) :
    (results Tryz.f18 tmps).run Tryz.prog W = .ok (.tuple #[.agg #[a, b, c], v3]) W := by
  have e2 : tmps[2]?.getD undef = .pointer (some ⟨g, 0, none⟩) := by simpa using h
  have e3 : tmps[3]?.getD undef = v3 := by simpa using h3
  simp [results, Tryz.results18, go_sem, e2, e3, c0, c1, c2]

set_option maxHeartbeats 2000000 in
set_option maxRecDepth 20000 in
theorem sbare_any (n : Bool) (B0 : Option Addr) (l0 c0 a : Nat) (e : Int) (w : World) (hr : RdG .i64 w (.slice B0 l0 c0) (digs 65536 a)) (ha : 0 < a) (hl : l0 ≤ 1000) (he : -1000000 ≤ e ∧ e ≤ 1000) :
    Calls Tryz.prog 18 #[.agg #[.bool n, .slice B0 l0 c0, .int .i64 e]] w (BareP w n a e) := by
  have hlen := RdG.len hr
  obtain ⟨g, hg⟩ : ∃ g, g = w.heap.size := ⟨_, rfl⟩
  obtain ⟨gr, hgr⟩ : ∃ g, g = w.heap.size + 1 := ⟨_, rfl⟩
  obtain ⟨W0, hW0⟩ : ∃ W, W = (w.alloc (.cells #[.bool n, .slice B0 l0 c0, .int .i64 e] 29)).alloc (.cells #[.bool false, .slice none 0 0, .int .i64 0] 29) := ⟨_, rfl⟩
  have hb0 : Below w.heap.size w W0 := by rw [hW0]; exact below_al (below_al (Below.refl _ _) _) _
  have HS0 : Hid (SbS w g gr n B0 l0 c0 a 0 e W0) := by
    refine ⟨hb0, ?_, ?_, ?_, ?_, by simp⟩
    · rw [hW0, hg]; exact (Blk.new w _ _).alloc _
    · rw [hW0, hgr]
      have := Blk.new (w.alloc (.cells #[.bool n, .slice B0 l0 c0, .int .i64 e] 29)) 29 #[.bool false, .slice none 0 0, .int .i64 0]
      simpa using this
    · simpa using hr.below hb0
    · intro k hk
      have hne : 0 < (digs 65536 a).length := List.length_pos_iff.2 (digs_ne_nil (by omega) ha)
      obtain ⟨g', o', e1, h2, -⟩ := hr.at_ 0 hne
      subst e1
      have e2 : g' = k := by injection hk
      omega
  have HG : Hid (w.heap.size ≤ g ∧ w.heap.size ≤ gr ∧ g ≠ gr) := ⟨by omega, by omega, by omega⟩
  have hd1 : (digs 65536 a).length ≤ 1000 := by omega
  have HA := hide (And.intro ha (And.intro hd1 he))
  clear hr hlen hb0 hl ha hd1 he
  go_enter Tryz.func18, Tryz.ntmps18
  go_wp2_with fail
  rw [← hW0, ← hgr, ← hg]
  clear hW0 hgr hg
  go_loopw [4] (fun vn wr => ∃ (t l c : Nat) (B : Option Addr) (x : Int), vn = .int .i64 (t : Int) ∧ x = e + (t : Int) ∧ Hid (SbS w g gr n B l c a t x wr)) (fun vn _ => match vn with | .int _ i => figs a - i.toNat | _ => 0)
  case atStart => exact ⟨0, l0, c0, B0, e, rfl, by simp, HS0⟩
  case round =>
    obtain ⟨t, l, c, B, x, rfl, hx, HR⟩ := hrel
    clear HS0
    have hlen := RdG.len HR.out.rd
    have hp10 : 0 < 10 ^ t := Nat.pow_pos (by omega)
    have h10 : 10 ^ t ≤ a := Nat.le_of_dvd HA.out.1 HR.out.dv
    have hpos : 0 < a / 10 ^ t := Nat.div_pos h10 hp10
    have htf : t < figs a := by
      rw [figs, if_neg (by have := HA.out.1; omega)]
      have := lt_of_digs_length (b := 10) (n := a) (k := (digs 10 a).length) (by omega) (Nat.le_refl _)
      exact (Nat.pow_lt_pow_iff_right (by omega)).1 (Nat.lt_of_le_of_lt h10 this)
    have hf5 : figs a ≤ 5000 := by
      rw [figs, if_neg (by have := HA.out.1; omega)]
      have := figs_le HA.out.2.1; omega
    have hl0 : 0 < l := by rw [hlen]; exact List.length_pos_iff.2 (digs_ne_nil (by omega) hpos)
    have hl1 : l ≤ 1000 := by
      rw [hlen]
      exact Nat.le_trans (digs_length_mono (by omega) (Nat.div_le_self _ _)) HA.out.2.1
    have hli : (0 : Int) < (l : Int) := by omega
    obtain ⟨b0, b1, b2⟩ := HR.out.b.val3
    have con := byDigit_any B l c 10 (digs 65536 (a / 10 ^ t)) wr HR.out.rd hlen (by omega) (by omega) (by omega) (dig_digs (by omega) _)
    unfold ByP at con
    rw [dval_digs (by omega)] at con
    have Con := hide con
    obtain ⟨d, hd⟩ : ∃ d, d = a / 10 ^ t % 10 := ⟨_, rfl⟩
    rw [← hd] at Con
    have e1 : a / 10 ^ t / 10 = a / 10 ^ (t + 1) := by rw [Nat.div_div_eq_div_mul, Nat.pow_succ]
    rw [e1] at Con
    have HT := hide (And.intro hd (And.intro htf (And.intro hx hf5)))
    clear con hlen hp10 h10 hpos htf hl0 hl1 e1 hx hd hf5
    go_wp2_with fail
    refine (Con.out).mono ?_
    rintro e3 w1 ⟨B1, c1, rfl, hown, hbel⟩
    clear b0 b1 b2 Con
    have hB1 := HR.out.b.below hbel
    have hR1 := HR.out.r.below hbel
    obtain ⟨b0, b1, b2⟩ := hB1.val3
    obtain ⟨r0, r1, r2⟩ := hR1.val3
    by_cases hd0 : d = 0
    · subst hd0
      have hdvd : 10 ^ (t + 1) ∣ a := by
        obtain ⟨m, hm⟩ := HR.out.dv
        have hp10 : 0 < 10 ^ t := Nat.pow_pos (by omega)
        have h0 := HT.out.1
        rw [hm, Nat.mul_div_cancel_left _ hp10] at h0
        obtain ⟨m2, hm2⟩ : 10 ∣ m := Nat.dvd_of_mod_eq_zero h0.symm
        exact ⟨m2, by rw [hm, hm2, Nat.pow_succ, Nat.mul_assoc]⟩
      obtain ⟨x1, hx1⟩ : ∃ x1 : Int, x1 = x + 1 := ⟨_, rfl⟩
      have hxe := HT.out.2.2.1
      have hw : IntKind.i64.wrap (x + 1) = x1 := by
        rw [← hx1]
        have := HA.out.2.2; have := HT.out.2.1; have := HT.out.2.2.2
        simp [IntKind.wrap, IntKind.signed, IntKind.bits]; omega
      have hwt : IntKind.i64.wrap ((t : Int) + 1) = ((t + 1 : Nat) : Int) := by
        have := HT.out.2.1; have := HT.out.2.2.2
        simp [IntKind.wrap, IntKind.signed, IntKind.bits]; omega
      have f1 := hB1.frozen 1
      have f2 := hB1.frozen 2
      obtain ⟨W2, hW2⟩ : ∃ W, W = (w1.setCell ⟨g, 1, none⟩ (.slice B1 (digs 65536 (a / 10 ^ (t + 1))).length c1)).setCell ⟨g, 2, none⟩ (.int .i64 x1) := ⟨_, rfl⟩
      have hF2 : Fr w1 W2 (fun k => k = g) := by rw [hW2]; exact ((Fr.refl w1 (fun k => k = g)).setCell (p := ⟨g, 1, none⟩) (fun _ => rfl) _).setCell (p := ⟨g, 2, none⟩) (fun _ => rfl) _
      have hob : ∀ k, (Value.slice B1 (digs 65536 (a / 10 ^ (t + 1))).length c1).ownBlock = some k → k ≠ g ∧ k ≠ gr := fun k hk => by
        have h1 := (hown.lt hk).1
        have h2 := HR.out.b.lt
        have h3 := HR.out.r.lt
        exact ⟨by omega, by omega⟩
      have HN : Hid (SbS w g gr n B1 (digs 65536 (a / 10 ^ (t + 1))).length c1 a (t + 1) x1 W2) := by
        refine ⟨(Fr.step (Fr.of_below (below_next HR.out.bel hbel) (fun k => w.heap.size ≤ k)) hF2 (fun i _ hi => by subst hi; exact HG.out.1)).below (Nat.le_refl _) (fun _ h => h), ?_, hR1.fr hF2 (fun h => HG.out.2.2 h.symm), RdG.fr (k := .i64) hown.rd hF2 (fun k hk => (hob k hk).1), hob, hdvd⟩
        rw [hW2]; exact (hB1.set 1 _).set 2 _
      have HM : Hid (figs a - ((t : Int) + 1).toNat < figs a - (t : Int).toNat) := by have := HT.out.2.1; show _ < _; omega
      have HX : Hid (x1 = e + ((t + 1 : Nat) : Int)) := by show x1 = _; rw [hx1, hxe]; push_cast; omega
      clear hdvd hob hF2 hB1 hR1 hown hbel HR HT hx1 hxe
      generalize (digs 65536 (a / 10 ^ (t + 1))).length = l1 at *
      go_wp2_with fail
      all_goals (try rw [← hW2])
      clear hW2
      go_wp2
      go_roundw
      case rel => exact ⟨t + 1, l1, c1, B1, x1, rfl, HX.out, HN⟩
      case measure => exact HM.out
    · have hdb : ((d : Int) == 0) = false := beq_eq_false_iff_ne.2 (by omega)
      have f0 := hR1.frozen 0
      have f1 := hR1.frozen 1
      have f2 := hR1.frozen 2
      obtain ⟨W2, hW2⟩ : ∃ W, W = ((w1.setCell ⟨gr, 0, none⟩ (.bool n)).setCell ⟨gr, 1, none⟩ (.slice B l c)).setCell ⟨gr, 2, none⟩ (.int .i64 x) := ⟨_, rfl⟩
      have hF2 : Fr w1 W2 (fun k => k = gr) := by rw [hW2]; exact (((Fr.refl w1 (fun k => k = gr)).setCell (p := ⟨gr, 0, none⟩) (fun _ => rfl) _).setCell (p := ⟨gr, 1, none⟩) (fun _ => rfl) _).setCell (p := ⟨gr, 2, none⟩) (fun _ => rfl) _
      have hB2 : Blk W2 gr 29 #[.bool n, .slice B l c, .int .i64 x] := by rw [hW2]; exact ((hR1.set 0 _).set 1 _).set 2 _
      have HE : Hid (BareP w n a e (.returned (.tuple #[.agg #[.bool n, .slice B l c, .int .i64 x], .int .i64 (t : Int)])) W2) := by
        refine ⟨t, B, l, c, by rw [HT.out.2.2.1], (HR.out.rd.below hbel).fr hF2 (fun k hk => (HR.out.ap k hk).2), HR.out.dv, by rw [← HT.out.1]; exact hd0, ?_⟩
        exact (Fr.step (Fr.of_below (below_next HR.out.bel hbel) (fun k => w.heap.size ≤ k)) hF2 (fun i _ hi => by subst hi; exact HG.out.2.1)).below (Nat.le_refl _) (fun _ h => h)
      have HC := hide hB2.val3
      clear hF2 hB2 hB1 hR1 hown hbel HR HT hd0
      go_wp2_with fail
      all_goals (try rw [← hW2])
      clear hW2
      go_wp2
      exact bodyPost_ret (bare_result gr (.int .i64 (t : Int)) _ rfl rfl _ _ _ _ HC.out.1 HC.out.2.1 HC.out.2.2) rfl HE.out
end Go.Proofs.YtfkcobdkgjhfaaaGreatDoor
