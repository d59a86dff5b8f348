/- Parts of the proofs: QiI. -/
import Derived.Test.YtfkcobdkgjhfaaaGreatDoorG38
/- Walk: the thin package's QuoInteger. (printed by gen-qii.py) -/
set_option linter.unusedVariables false
set_option linter.unusedSimpArgs false
namespace Go.Proofs.YtfkcobdkgjhfaaaGreatDoor
open Go.RowKit

/-- What QuoInteger holds: its boxes, its result's cell, and d. -/
structure QiH (w : World) (g0 g1 g2 gr gd : Nat) (X0 X1 X2 Dd : Array Value) (W : World) : Prop where
  bel : Below w.heap.size w W
  b0 : Blk W g0 48 X0
  b1 : Blk W g1 24 X1
  b2 : Blk W g2 24 X2
  br : Blk W gr 24 #[.int .i64 0, .bool false, .slice none 0 0, .int .i64 0]
  bd : Blk W gd 71 Dd
theorem QiH.next {w : World} {g0 g1 g2 gr gd : Nat} {X0 X1 X2 Dd : Array Value} {W W' : World} (h : QiH w g0 g1 g2 gr gd X0 X1 X2 Dd W) (h1 : W'.os = W.os) (h2 : W'.tape = W.tape) (h3 : W'.output = W.output) (h4 : W.heap.size ≤ W'.heap.size) (h5 : ∀ k, k < W.heap.size → W'.heap[k]? = W.heap[k]?) : QiH w g0 g1 g2 gr gd X0 X1 X2 Dd W' :=
  ⟨below_next h.bel ⟨h1, h2, h3, h4, h5⟩, h.b0.below ⟨h1, h2, h3, h4, h5⟩, h.b1.below ⟨h1, h2, h3, h4, h5⟩, h.b2.below ⟨h1, h2, h3, h4, h5⟩, h.br.below ⟨h1, h2, h3, h4, h5⟩, h.bd.below ⟨h1, h2, h3, h4, h5⟩⟩
theorem QiH.setd {w : World} {g0 g1 g2 gr gd : Nat} {X0 X1 X2 Dd Dd' : Array Value} {W W' : World} (h : QiH w g0 g1 g2 gr gd X0 X1 X2 Dd W) (hn : g0 ≠ gd ∧ g1 ≠ gd ∧ g2 ≠ gd ∧ gr ≠ gd ∧ w.heap.size ≤ gd) (hF : Fr W W' (fun k => k = gd)) (hd : Blk W' gd 71 Dd') : QiH w g0 g1 g2 gr gd X0 X1 X2 Dd' W' :=
  ⟨(Fr.step (Fr.of_below h.bel (fun k => w.heap.size ≤ k)) hF (fun i _ hi => by subst hi; exact hn.2.2.2.2)).below (Nat.le_refl _) (fun _ h => h), h.b0.fr hF hn.1, h.b1.fr hF hn.2.1, h.b2.fr hF hn.2.2.1, h.br.fr hF hn.2.2.2.1, hd⟩

theorem frz4q {w : World} {g : Nat} {t : TypeId} {cs : Array Value} (h : Blk w g t cs) : w.frozen? ⟨g, 0, none⟩ = false ∧ w.frozen? ⟨g, 1, none⟩ = false ∧ w.frozen? ⟨g, 2, none⟩ = false ∧ w.frozen? ⟨g, 3, none⟩ = false := ⟨h.frozen 0, h.frozen 1, h.frozen 2, h.frozen 3⟩

theorem qii_result (n : Nat) (v7 v8 : Value) (tmps : Array Value) (h : tmps.getD 6 undef = .pointer (some ⟨n, 0, none⟩)) (h7 : tmps.getD 7 undef = v7) (h8 : tmps.getD 8 undef = v8) (W : World) (a b c d : Value) (c0 : W.cell? ⟨n, 0, none⟩ = some a) (c1 : W.cell? ⟨n, 1, none⟩ = some b) (c2 : W.cell? ⟨n, 2, none⟩ = some c) (c3 : W.cell? ⟨n, 3, none⟩ = some d) :
    (results Tryz.f22 tmps).run Tryz.prog W = .ok (.tuple #[.agg #[a, b, c, d], v7, v8]) W := by
  have e6 : tmps[6]?.getD undef = .pointer (some ⟨n, 0, none⟩) := by simpa using h
  have e7 : tmps[7]?.getD undef = v7 := by simpa using h7
  have e8 : tmps[8]?.getD undef = v8 := by simpa using h8
  simp [results, Tryz.results22, go_sem, e6, e7, e8, c0, c1, c2, c3]

/-- Behind QuoInteger, where the quotient has not too many figures. -/
def IqfP (w : World) (n : Bool) (q : Nat) (e : Ending) (w' : World) : Prop :=
  ∃ (A : Option Addr) (c : Nat), e = .returned (.tuple #[.agg #[.int .i64 0, .bool n, .slice A (digs 18446744073709551616 q).length c, .int .i64 0], .int .i64 0, .bool true]) ∧ OwnU w' w.heap.size (.slice A (digs 18446744073709551616 q).length c) (digs 18446744073709551616 q) ∧ Below w.heap.size w w'
/-- Where it has. -/
def IqbP (w : World) (n : Bool) (e : Ending) (w' : World) : Prop :=
  e = .returned (.tuple #[.agg #[.int .i64 3, .bool n, .slice none 0 0, .int .i64 0], .int .i64 128, .bool true]) ∧ Below w.heap.size w w'
/-- What Context.QuoInteger leaves. -/
def CqfP (w W : World) (gd : Nat) (n : Bool) (ql : List Nat) (e : Ending) (w' : World) : Prop :=
  e = .returned (.tuple #[.int .u32 0, .nilIface]) ∧ ∃ A c, RdW w' (.slice A ql.length c) ql ∧ Blk w' gd 71 (decC 0 n 0 false (.slice A ql.length c) false) ∧ Fr W w' (fun k => k = gd)
def CqbP (w W : World) (gd : Nat) (n : Bool) (ql : List Nat) (e : Ending) (w' : World) : Prop :=
  e = .returned (.tuple #[.int .u32 512, .nilIface]) ∧ ∃ v, Blk w' gd 71 (decC 3 n 0 false v false) ∧ Fr W w' (fun k => k = gd)

set_option maxHeartbeats 4000000 in
set_option maxRecDepth 20000 in
theorem iqi_fit (q k : Nat) (hq : 1 ≤ q ∧ q ≤ 100) (hk : k < 8) (n1 n2 : Bool) (A1 A2 : Option Addr) (c1 c2 a b sa sb : Nat) (m : Int) (w : World) (hr1 : RdG .u64 w (.slice A1 (digs 18446744073709551616 a).length c1) (digs 18446744073709551616 a)) (hr2 : RdG .u64 w (.slice A2 (digs 18446744073709551616 b).length c2) (digs 18446744073709551616 b))
    (hv : VarsD w w.heap.size) (hs : sa = 0 ∨ sb = 0) (hsa : sa ≤ 200) (hsb : sb ≤ 200) (hm : -1000 ≤ m ∧ m ≤ 1000) (h3 : (digs 18446744073709551616 a).length ≤ 3) (h3b : (digs 18446744073709551616 b).length ≤ 3) (hbp : 0 < b) (hfg : figs (a * 10 ^ sa / (b * 10 ^ sb)) ≤ q) :
    Calls Tryz.prog 22 #[.agg #[.int .u64 (q : Int), .int .i64 100000, .int .i64 (-100000), .int .i64 (k : Int)], .agg #[.int .i64 0, .bool n1, .slice A1 (digs 18446744073709551616 a).length c1, .int .i64 (m + sa)], .agg #[.int .i64 0, .bool n2, .slice A2 (digs 18446744073709551616 b).length c2, .int .i64 (m + sb)]] w (IqfP w (n1 != n2) (a * 10 ^ sa / (b * 10 ^ sb))) := by
  obtain ⟨X0, hX0⟩ : ∃ X : Array Value, X = #[.int .u64 (q : Int), .int .i64 100000, .int .i64 (-100000), .int .i64 (k : Int)] := ⟨_, rfl⟩
  obtain ⟨g0, hg0⟩ : ∃ g, g = w.heap.size := ⟨_, rfl⟩
  obtain ⟨g1, hg1⟩ : ∃ g, g = w.heap.size + 1 := ⟨_, rfl⟩
  obtain ⟨g2, hg2⟩ : ∃ g, g = w.heap.size + 1 + 1 := ⟨_, rfl⟩
  obtain ⟨gr, hgr⟩ : ∃ g, g = w.heap.size + 1 + 1 + 1 := ⟨_, rfl⟩
  obtain ⟨gd, hgd⟩ : ∃ g, g = w.heap.size + 1 + 1 + 1 + 1 := ⟨_, rfl⟩
  obtain ⟨xs, hxs⟩ : ∃ xs, xs = digs 18446744073709551616 a := ⟨_, rfl⟩
  obtain ⟨ys, hys⟩ : ∃ ys, ys = digs 18446744073709551616 b := ⟨_, rfl⟩
  obtain ⟨l1, hl1⟩ : ∃ l, l = xs.length := ⟨_, rfl⟩
  obtain ⟨l2, hl2⟩ : ∃ l, l = ys.length := ⟨_, rfl⟩
  obtain ⟨e1, he1⟩ : ∃ e : Int, e = m + sa := ⟨_, rfl⟩
  obtain ⟨e2, he2⟩ : ∃ e : Int, e = m + sb := ⟨_, rfl⟩
  obtain ⟨qq, hqq⟩ : ∃ x, x = a * 10 ^ sa / (b * 10 ^ sb) := ⟨_, rfl⟩
  obtain ⟨nn, hnn⟩ : ∃ x, x = (n1 != n2) := ⟨_, rfl⟩
  rw [← hqq] at hfg ⊢
  rw [← hnn]
  have hlq : (digs 18446744073709551616 qq).length ≤ 14 := digs_length_le (by omega) (Nat.lt_of_le_of_lt (by rw [hqq]; exact Nat.div_le_self _ _) (qi_len h3 hsa))
  obtain ⟨ql, hql⟩ : ∃ l, l = digs 18446744073709551616 qq := ⟨_, rfl⟩
  rw [← hql] at hlq
  obtain ⟨W0, hW0⟩ : ∃ W, W = ((((w.alloc (.cells #[.int .u64 (q : Int), .int .i64 100000, .int .i64 (-100000), .int .i64 (k : Int)] 48)).alloc (.cells #[.int .i64 0, .bool n1, .slice A1 l1 c1, .int .i64 e1] 24)).alloc (.cells #[.int .i64 0, .bool n2, .slice A2 l2 c2, .int .i64 e2] 24)).alloc (.cells #[.int .i64 0, .bool false, .slice none 0 0, .int .i64 0] 24)).alloc (.cells #[.int .i8 0, .bool false, .int .i32 0, .bool false, .slice none 0 0, .bool false] 71) := ⟨_, rfl⟩
  have HS : Hid (QiH w g0 g1 g2 gr gd X0 #[.int .i64 0, .bool n1, .slice A1 l1 c1, .int .i64 e1] #[.int .i64 0, .bool n2, .slice A2 l2 c2, .int .i64 e2] (decC 0 false 0 false (.slice none 0 0) false) W0) := by
    rw [hW0, hg0, hg1, hg2, hgr, hgd, hX0]
    refine ⟨below_al (below_al (below_al (below_al (below_al (Below.refl _ _) _) _) _) _) _, ?_, ?_, ?_, ?_, ?_⟩
    · exact ((((Blk.new w _ _).alloc _).alloc _).alloc _).alloc _
    · have := (((Blk.new (w.alloc (.cells #[.int .u64 (q : Int), .int .i64 100000, .int .i64 (-100000), .int .i64 (k : Int)] 48)) 24 #[.int .i64 0, .bool n1, .slice A1 l1 c1, .int .i64 e1]).alloc (.cells #[.int .i64 0, .bool n2, .slice A2 l2 c2, .int .i64 e2] 24)).alloc (.cells #[.int .i64 0, .bool false, .slice none 0 0, .int .i64 0] 24)).alloc (.cells #[.int .i8 0, .bool false, .int .i32 0, .bool false, .slice none 0 0, .bool false] 71)
      simpa using this
    · have := ((Blk.new ((w.alloc (.cells #[.int .u64 (q : Int), .int .i64 100000, .int .i64 (-100000), .int .i64 (k : Int)] 48)).alloc (.cells #[.int .i64 0, .bool n1, .slice A1 l1 c1, .int .i64 e1] 24)) 24 #[.int .i64 0, .bool n2, .slice A2 l2 c2, .int .i64 e2]).alloc (.cells #[.int .i64 0, .bool false, .slice none 0 0, .int .i64 0] 24)).alloc (.cells #[.int .i8 0, .bool false, .int .i32 0, .bool false, .slice none 0 0, .bool false] 71)
      simpa using this
    · have := (Blk.new (((w.alloc (.cells #[.int .u64 (q : Int), .int .i64 100000, .int .i64 (-100000), .int .i64 (k : Int)] 48)).alloc (.cells #[.int .i64 0, .bool n1, .slice A1 l1 c1, .int .i64 e1] 24)).alloc (.cells #[.int .i64 0, .bool n2, .slice A2 l2 c2, .int .i64 e2] 24)) 24 #[.int .i64 0, .bool false, .slice none 0 0, .int .i64 0]).alloc (.cells #[.int .i8 0, .bool false, .int .i32 0, .bool false, .slice none 0 0, .bool false] 71)
      simpa using this
    · have := Blk.new ((((w.alloc (.cells #[.int .u64 (q : Int), .int .i64 100000, .int .i64 (-100000), .int .i64 (k : Int)] 48)).alloc (.cells #[.int .i64 0, .bool n1, .slice A1 l1 c1, .int .i64 e1] 24)).alloc (.cells #[.int .i64 0, .bool n2, .slice A2 l2 c2, .int .i64 e2] 24)).alloc (.cells #[.int .i64 0, .bool false, .slice none 0 0, .int .i64 0] 24)) 71 (decC 0 false 0 false (.slice none 0 0) false)
      unfold decC at this ⊢
      simpa using this
  have HN : Hid (g0 ≠ gd ∧ g1 ≠ gd ∧ g2 ≠ gd ∧ gr ≠ gd ∧ w.heap.size ≤ gd) := ⟨by omega, by omega, by omega, by omega, by omega⟩
  have HGr : Hid (w.heap.size ≤ gr) := (by show w.heap.size ≤ gr; omega)
  have ConX := hide (fun W => context_figs q k hq.2 hk W)
  have ConA : Hid (∀ W, Below w.heap.size w W → Calls Tryz.prog 28 #[.agg #[.int .i64 0, .bool n1, .slice A1 l1 c1, .int .i64 e1]] W (MadeDec W 0 n1 e1 xs)) := fun W hW => by
    have con1 := made_fin 0 n1 (.slice A1 l1 c1) xs e1 W (by rw [hl1, hxs]; exact RdG.below (k := .u64) hr1 hW) (by rw [hxs]; omega) (by decide) (by decide) (by decide) (by omega) (by omega)
    rwa [show trimz xs = xs by rw [hxs]; exact trimz_of_canon (canon_digs (by omega) _)] at con1
  have ConB : Hid (∀ W, Below w.heap.size w W → Calls Tryz.prog 28 #[.agg #[.int .i64 0, .bool n2, .slice A2 l2 c2, .int .i64 e2]] W (MadeDec W 0 n2 e2 ys)) := fun W hW => by
    have con1 := made_fin 0 n2 (.slice A2 l2 c2) ys e2 W (by rw [hl2, hys]; exact RdG.below (k := .u64) hr2 hW) (by rw [hys]; omega) (by decide) (by decide) (by decide) (by omega) (by omega)
    rwa [show trimz ys = ys by rw [hys]; exact trimz_of_canon (canon_digs (by omega) _)] at con1
  unfold MadeDec at ConA ConB
  have ConC : Hid (∀ W gc ga gb s Aa ca Ab cb bha bhb, Below w.heap.size w W → Blk W gc 125 (ctxP q s) → Blk W gd 71 (decC 0 false 0 false (.slice none 0 0) false) → Blk W ga 71 (decC 0 n1 e1 false (.slice Aa xs.length ca) false) → Blk W gb 71 (decC 0 n2 e2 false (.slice Ab ys.length cb) false) → Own W bha (.slice Aa xs.length ca) xs → Own W bhb (.slice Ab ys.length cb) ys → gd ≠ ga → gd ≠ gb → gd ≠ gc →
      Calls Tryz.prog 41 #[.pointer (some ⟨gc, 0, none⟩), .pointer (some ⟨gd, 0, none⟩), .pointer (some ⟨ga, 0, none⟩), .pointer (some ⟨gb, 0, none⟩)] W (CqfP w W gd nn ql)) := fun W gc ga gb s Aa ca Ab cb bha bhb hW hc hd ha hb hoa hob n1' n2' n3' => by
    rw [hxs, he1] at ha
    rw [hxs] at hoa
    rw [hys, he2] at hb
    rw [hys] at hob
    refine (qint_any gc gd ga gb sa sb bha bhb q w.heap.size s n1 n2 m Aa Ab ca cb a b W hc hd ha hb hoa hob ⟨n1', n2', n3'⟩ (hv.below hW) HN.out.2.2.2.2 hs hsa hsb hm h3 h3b hbp hq).mono ?_
    rw [← hqq, ← hnn]
    rintro e w' ⟨h1, h2, hF⟩
    obtain ⟨he, A, c, ho, hB⟩ := h1 hfg
    exact ⟨he, A, c, by rw [hql]; exact ho.rd, by rw [hql]; exact hB, hF⟩
  unfold CqfP at ConC
  have HL := hide (And.intro hlq (And.intro hql hfg))
  rw [← hxs, ← hys, ← hl1, ← hl2, ← he1, ← he2]
  rw [hX0] at HS
  clear hr1 hr2 hv hs hsa hsb hm h3 h3b hbp hfg hX0 hq hk he1 he2 hqq hlq hql hxs hys hl1 hl2 hnn
  go_enter Tryz.func22, Tryz.ntmps22
  go_wp2_with fail
  rw [← hW0, ← hgd, ← hgr, ← hg2, ← hg1, ← hg0]
  clear hW0 hgd hgr hg2 hg1 hg0
  go_region_held3 (fun W => (W.cell? ⟨g0, 0, none⟩ = some (.int .u64 (q : Int)) ∧ W.cell? ⟨g0, 1, none⟩ = some (.int .i64 100000) ∧ W.cell? ⟨g0, 2, none⟩ = some (.int .i64 (-100000)) ∧ W.cell? ⟨g0, 3, none⟩ = some (.int .i64 (k : Int))) ∧ ((W.cell? ⟨g1, 0, none⟩ = some (.int .i64 0) ∧ W.cell? ⟨g1, 1, none⟩ = some (.bool n1) ∧ W.cell? ⟨g1, 2, none⟩ = some (.slice A1 l1 c1) ∧ W.cell? ⟨g1, 3, none⟩ = some (.int .i64 e1)) ∧ (W.cell? ⟨g2, 0, none⟩ = some (.int .i64 0) ∧ W.cell? ⟨g2, 1, none⟩ = some (.bool n2) ∧ W.cell? ⟨g2, 2, none⟩ = some (.slice A2 l2 c2) ∧ W.cell? ⟨g2, 3, none⟩ = some (.int .i64 e2)))) (first | exact ⟨HS.out.b0.dec4, HS.out.b1.dec4, HS.out.b2.dec4⟩ | go_keep)
    (first
      | (go_at_call 40; go_loud (refine (ConX.out _).mono ?_; rintro e w1 ⟨⟨gc, s, rfl, hgc, hBc⟩, hb1⟩; have HG : Hid (gd ≠ gc) := (by have h1 := HS.out.bd.lt; have h2 : W0.heap.size ≤ gc := hgc; intro e; omega); have HC := hide hBc; have HS := hide (HS.out.next hb1.os hb1.tape hb1.output hb1.size hb1.block); clear hgc hBc hb1))
      | (go_at_call_of 28 n1; refine (ConA.out _ ?_).mono ?_; exact Below.mk HS.out.bel.os HS.out.bel.tape HS.out.bel.output HS.out.bel.size HS.out.bel.block; go_loud (rintro e w2 ⟨ga, Aa, ca, rfl, hga, hoa, hBa, hba⟩; have HNa : Hid (gd ≠ ga) := (by have h1 := HS.out.bd.lt; have h2 : w1.heap.size ≤ ga := hga; intro e; omega); have HC := hide (HC.out.below (Below.mk hba.os hba.tape hba.output hba.size hba.block)); have HA := hide (And.intro hBa hoa); have HS := hide (HS.out.next hba.os hba.tape hba.output hba.size hba.block); clear hga hoa hBa hba))
      | (go_at_call_of 28 n2; refine (ConB.out _ ?_).mono ?_; exact Below.mk HS.out.bel.os HS.out.bel.tape HS.out.bel.output HS.out.bel.size HS.out.bel.block; go_loud (rintro e w3 ⟨gb, Ab, cb, rfl, hgb, hob, hBb, hbb⟩; have HNb : Hid (gd ≠ gb) := (by have h1 := HS.out.bd.lt; have h2 : w2.heap.size ≤ gb := hgb; intro e; omega); have HC := hide (HC.out.below (Below.mk hbb.os hbb.tape hbb.output hbb.size hbb.block)); have HA := hide (And.intro (HA.out.1.below (Below.mk hbb.os hbb.tape hbb.output hbb.size hbb.block)) (HA.out.2.below (Below.mk hbb.os hbb.tape hbb.output hbb.size hbb.block))); have HB := hide (And.intro hBb hob); have HS := hide (HS.out.next hbb.os hbb.tape hbb.output hbb.size hbb.block); clear hgb hob hBb hbb))
      | (go_at_call 41; go_loud (refine (ConC.out w3 gc ga gb s Aa ca Ab cb _ _ HS.out.bel HC.out HS.out.bd HA.out.1 HB.out.1 HA.out.2 HB.out.2 HNa.out HNb.out HG.out).mono ?_; rintro e w4 ⟨rfl, A, c, ho, hB, hF⟩; have HS := hide (HS.out.setd HN.out (Fr.mk hF.os hF.tape hF.output hF.size hF.block) hB); have HO := hide ho; clear ho hB hF)))
  have ConT : Hid (∀ W, Below w4.heap.size w4 W → Calls Tryz.prog 30 #[.pointer (some ⟨gd, 0, none⟩)] W (ToldFin W nn 0 ql)) := fun W hW =>
    told_fin gd nn 0 false false _ _ W (HS.out.bd.below hW) (RdG.below (k := .u64) HO.out hW) (by have := HL.out.1; omega) (by omega) (by omega)
  have ConE := hide (fun W => conditions_none W)
  unfold ToldFin at ConT
  have HX : Hid (w.heap.size ≤ gr ∧ gr < w4.heap.size) := ⟨HGr.out, HS.out.br.lt⟩
  clear ConX ConA ConB ConC HN HA HB HC HG HNa HNb
  go_wp2_with fail
  go_region_with (first
    | (go_at_call 30; go_loud (refine (ConT.out _ ?_).mono ?_; exact Below.mk rfl rfl rfl (Nat.le_refl _) (fun _ _ => rfl); rintro e5 w5 ⟨A5, d5, rfl, ho5, hb5⟩; have HO5 : Hid (OwnU w5 w4.heap.size (.slice A5 ql.length d5) ql) := ho5; clear ho5; have HS5 := hide (HS.out.next hb5.os hb5.tape hb5.output hb5.size hb5.block); obtain ⟨y0, y1, y2, y3⟩ := HS5.out.br.dec4; obtain ⟨f0, f1, f2, f3⟩ := frz4q HS5.out.br; clear hb5))
    | (go_at_call 42; go_loud (refine (ConE.out _).mono ?_; rintro e6 w6 ⟨rfl, rfl⟩)))
  all_goals (
    obtain ⟨W6, hW6⟩ : ∃ W6, W6 = (((w5.setCell ⟨gr, 0, none⟩ (.int .i64 0)).setCell ⟨gr, 1, none⟩ (.bool nn)).setCell ⟨gr, 2, none⟩ (.slice A5 ql.length d5)).setCell ⟨gr, 3, none⟩ (.int .i64 0) := ⟨_, rfl⟩
    have hF6 : Fr w5 W6 (fun k => k = gr) := by rw [hW6]; exact ((((Fr.refl w5 (fun k => k = gr)).setCell (p := ⟨gr, 0, none⟩) (fun _ => rfl) _).setCell (p := ⟨gr, 1, none⟩) (fun _ => rfl) _).setCell (p := ⟨gr, 2, none⟩) (fun _ => rfl) _).setCell (p := ⟨gr, 3, none⟩) (fun _ => rfl) _
    have hB6 : Blk W6 gr 24 #[.int .i64 0, .bool nn, (.slice A5 ql.length d5), .int .i64 0] := by rw [hW6]; exact (((HS5.out.br.set 0 _).set 1 _).set 2 _).set 3 _
    have hbl6 : Below w.heap.size w W6 := (Fr.step (Fr.of_below HS5.out.bel (fun k => w.heap.size ≤ k)) hF6 (fun i _ hi => by subst hi; exact HX.out.1)).below (Nat.le_refl _) (fun _ h => h)
    have ho6 := HO5.out.fr hF6 (fun k hk hne => by have h1 := (HO5.out.lt hk).1; have h2 := HX.out.2; omega)
    have HP : Hid (IqfP w nn qq (.returned (.tuple #[.agg #[.int .i64 0, .bool nn, .slice A5 ql.length d5, .int .i64 0], .int .i64 0, .bool true])) W6) :=
      ⟨A5, d5, by rw [HL.out.2.1], by rw [← HL.out.2.1]; exact ho6.lower (Nat.le_trans HX.out.1 (Nat.le_of_lt HX.out.2)), hbl6⟩
    clear ho6 HO5
    have HC := hide hB6.dec4
    rw [← hW6]
    clear hF6 hB6 hbl6 hW6 y0 y1 y2 y3 f0 f1 f2 f3 HS5 ConT ConE HS HX)
  all_goals go_wp2
  all_goals exact bodyPost_ret (qii_result gr (.int .i64 0) (.bool true) _ rfl rfl rfl _ _ _ _ _ HC.out.1 HC.out.2.1 HC.out.2.2.1 HC.out.2.2.2) rfl HP.out

set_option maxHeartbeats 4000000 in
set_option maxRecDepth 20000 in
theorem iqi_big (q k : Nat) (hq : 1 ≤ q ∧ q ≤ 100) (hk : k < 8) (n1 n2 : Bool) (A1 A2 : Option Addr) (c1 c2 a b sa sb : Nat) (m : Int) (w : World) (hr1 : RdG .u64 w (.slice A1 (digs 18446744073709551616 a).length c1) (digs 18446744073709551616 a)) (hr2 : RdG .u64 w (.slice A2 (digs 18446744073709551616 b).length c2) (digs 18446744073709551616 b))
    (hv : VarsD w w.heap.size) (hs : sa = 0 ∨ sb = 0) (hsa : sa ≤ 200) (hsb : sb ≤ 200) (hm : -1000 ≤ m ∧ m ≤ 1000) (h3 : (digs 18446744073709551616 a).length ≤ 3) (h3b : (digs 18446744073709551616 b).length ≤ 3) (hbp : 0 < b) (hfg : q < figs (a * 10 ^ sa / (b * 10 ^ sb))) :
    Calls Tryz.prog 22 #[.agg #[.int .u64 (q : Int), .int .i64 100000, .int .i64 (-100000), .int .i64 (k : Int)], .agg #[.int .i64 0, .bool n1, .slice A1 (digs 18446744073709551616 a).length c1, .int .i64 (m + sa)], .agg #[.int .i64 0, .bool n2, .slice A2 (digs 18446744073709551616 b).length c2, .int .i64 (m + sb)]] w (IqbP w (n1 != n2)) := by
  obtain ⟨X0, hX0⟩ : ∃ X : Array Value, X = #[.int .u64 (q : Int), .int .i64 100000, .int .i64 (-100000), .int .i64 (k : Int)] := ⟨_, rfl⟩
  obtain ⟨g0, hg0⟩ : ∃ g, g = w.heap.size := ⟨_, rfl⟩
  obtain ⟨g1, hg1⟩ : ∃ g, g = w.heap.size + 1 := ⟨_, rfl⟩
  obtain ⟨g2, hg2⟩ : ∃ g, g = w.heap.size + 1 + 1 := ⟨_, rfl⟩
  obtain ⟨gr, hgr⟩ : ∃ g, g = w.heap.size + 1 + 1 + 1 := ⟨_, rfl⟩
  obtain ⟨gd, hgd⟩ : ∃ g, g = w.heap.size + 1 + 1 + 1 + 1 := ⟨_, rfl⟩
  obtain ⟨xs, hxs⟩ : ∃ xs, xs = digs 18446744073709551616 a := ⟨_, rfl⟩
  obtain ⟨ys, hys⟩ : ∃ ys, ys = digs 18446744073709551616 b := ⟨_, rfl⟩
  obtain ⟨l1, hl1⟩ : ∃ l, l = xs.length := ⟨_, rfl⟩
  obtain ⟨l2, hl2⟩ : ∃ l, l = ys.length := ⟨_, rfl⟩
  obtain ⟨e1, he1⟩ : ∃ e : Int, e = m + sa := ⟨_, rfl⟩
  obtain ⟨e2, he2⟩ : ∃ e : Int, e = m + sb := ⟨_, rfl⟩
  obtain ⟨qq, hqq⟩ : ∃ x, x = a * 10 ^ sa / (b * 10 ^ sb) := ⟨_, rfl⟩
  obtain ⟨nn, hnn⟩ : ∃ x, x = (n1 != n2) := ⟨_, rfl⟩
  rw [← hqq] at hfg
  rw [← hnn]
  have hlq : (digs 18446744073709551616 qq).length ≤ 14 := digs_length_le (by omega) (Nat.lt_of_le_of_lt (by rw [hqq]; exact Nat.div_le_self _ _) (qi_len h3 hsa))
  obtain ⟨ql, hql⟩ : ∃ l, l = digs 18446744073709551616 qq := ⟨_, rfl⟩
  rw [← hql] at hlq
  obtain ⟨W0, hW0⟩ : ∃ W, W = ((((w.alloc (.cells #[.int .u64 (q : Int), .int .i64 100000, .int .i64 (-100000), .int .i64 (k : Int)] 48)).alloc (.cells #[.int .i64 0, .bool n1, .slice A1 l1 c1, .int .i64 e1] 24)).alloc (.cells #[.int .i64 0, .bool n2, .slice A2 l2 c2, .int .i64 e2] 24)).alloc (.cells #[.int .i64 0, .bool false, .slice none 0 0, .int .i64 0] 24)).alloc (.cells #[.int .i8 0, .bool false, .int .i32 0, .bool false, .slice none 0 0, .bool false] 71) := ⟨_, rfl⟩
  have HS : Hid (QiH w g0 g1 g2 gr gd X0 #[.int .i64 0, .bool n1, .slice A1 l1 c1, .int .i64 e1] #[.int .i64 0, .bool n2, .slice A2 l2 c2, .int .i64 e2] (decC 0 false 0 false (.slice none 0 0) false) W0) := by
    rw [hW0, hg0, hg1, hg2, hgr, hgd, hX0]
    refine ⟨below_al (below_al (below_al (below_al (below_al (Below.refl _ _) _) _) _) _) _, ?_, ?_, ?_, ?_, ?_⟩
    · exact ((((Blk.new w _ _).alloc _).alloc _).alloc _).alloc _
    · have := (((Blk.new (w.alloc (.cells #[.int .u64 (q : Int), .int .i64 100000, .int .i64 (-100000), .int .i64 (k : Int)] 48)) 24 #[.int .i64 0, .bool n1, .slice A1 l1 c1, .int .i64 e1]).alloc (.cells #[.int .i64 0, .bool n2, .slice A2 l2 c2, .int .i64 e2] 24)).alloc (.cells #[.int .i64 0, .bool false, .slice none 0 0, .int .i64 0] 24)).alloc (.cells #[.int .i8 0, .bool false, .int .i32 0, .bool false, .slice none 0 0, .bool false] 71)
      simpa using this
    · have := ((Blk.new ((w.alloc (.cells #[.int .u64 (q : Int), .int .i64 100000, .int .i64 (-100000), .int .i64 (k : Int)] 48)).alloc (.cells #[.int .i64 0, .bool n1, .slice A1 l1 c1, .int .i64 e1] 24)) 24 #[.int .i64 0, .bool n2, .slice A2 l2 c2, .int .i64 e2]).alloc (.cells #[.int .i64 0, .bool false, .slice none 0 0, .int .i64 0] 24)).alloc (.cells #[.int .i8 0, .bool false, .int .i32 0, .bool false, .slice none 0 0, .bool false] 71)
      simpa using this
    · have := (Blk.new (((w.alloc (.cells #[.int .u64 (q : Int), .int .i64 100000, .int .i64 (-100000), .int .i64 (k : Int)] 48)).alloc (.cells #[.int .i64 0, .bool n1, .slice A1 l1 c1, .int .i64 e1] 24)).alloc (.cells #[.int .i64 0, .bool n2, .slice A2 l2 c2, .int .i64 e2] 24)) 24 #[.int .i64 0, .bool false, .slice none 0 0, .int .i64 0]).alloc (.cells #[.int .i8 0, .bool false, .int .i32 0, .bool false, .slice none 0 0, .bool false] 71)
      simpa using this
    · have := Blk.new ((((w.alloc (.cells #[.int .u64 (q : Int), .int .i64 100000, .int .i64 (-100000), .int .i64 (k : Int)] 48)).alloc (.cells #[.int .i64 0, .bool n1, .slice A1 l1 c1, .int .i64 e1] 24)).alloc (.cells #[.int .i64 0, .bool n2, .slice A2 l2 c2, .int .i64 e2] 24)).alloc (.cells #[.int .i64 0, .bool false, .slice none 0 0, .int .i64 0] 24)) 71 (decC 0 false 0 false (.slice none 0 0) false)
      unfold decC at this ⊢
      simpa using this
  have HN : Hid (g0 ≠ gd ∧ g1 ≠ gd ∧ g2 ≠ gd ∧ gr ≠ gd ∧ w.heap.size ≤ gd) := ⟨by omega, by omega, by omega, by omega, by omega⟩
  have HGr : Hid (w.heap.size ≤ gr) := (by show w.heap.size ≤ gr; omega)
  have ConX := hide (fun W => context_figs q k hq.2 hk W)
  have ConA : Hid (∀ W, Below w.heap.size w W → Calls Tryz.prog 28 #[.agg #[.int .i64 0, .bool n1, .slice A1 l1 c1, .int .i64 e1]] W (MadeDec W 0 n1 e1 xs)) := fun W hW => by
    have con1 := made_fin 0 n1 (.slice A1 l1 c1) xs e1 W (by rw [hl1, hxs]; exact RdG.below (k := .u64) hr1 hW) (by rw [hxs]; omega) (by decide) (by decide) (by decide) (by omega) (by omega)
    rwa [show trimz xs = xs by rw [hxs]; exact trimz_of_canon (canon_digs (by omega) _)] at con1
  have ConB : Hid (∀ W, Below w.heap.size w W → Calls Tryz.prog 28 #[.agg #[.int .i64 0, .bool n2, .slice A2 l2 c2, .int .i64 e2]] W (MadeDec W 0 n2 e2 ys)) := fun W hW => by
    have con1 := made_fin 0 n2 (.slice A2 l2 c2) ys e2 W (by rw [hl2, hys]; exact RdG.below (k := .u64) hr2 hW) (by rw [hys]; omega) (by decide) (by decide) (by decide) (by omega) (by omega)
    rwa [show trimz ys = ys by rw [hys]; exact trimz_of_canon (canon_digs (by omega) _)] at con1
  unfold MadeDec at ConA ConB
  have ConC : Hid (∀ W gc ga gb s Aa ca Ab cb bha bhb, Below w.heap.size w W → Blk W gc 125 (ctxP q s) → Blk W gd 71 (decC 0 false 0 false (.slice none 0 0) false) → Blk W ga 71 (decC 0 n1 e1 false (.slice Aa xs.length ca) false) → Blk W gb 71 (decC 0 n2 e2 false (.slice Ab ys.length cb) false) → Own W bha (.slice Aa xs.length ca) xs → Own W bhb (.slice Ab ys.length cb) ys → gd ≠ ga → gd ≠ gb → gd ≠ gc →
      Calls Tryz.prog 41 #[.pointer (some ⟨gc, 0, none⟩), .pointer (some ⟨gd, 0, none⟩), .pointer (some ⟨ga, 0, none⟩), .pointer (some ⟨gb, 0, none⟩)] W (CqbP w W gd nn ql)) := fun W gc ga gb s Aa ca Ab cb bha bhb hW hc hd ha hb hoa hob n1' n2' n3' => by
    rw [hxs, he1] at ha
    rw [hxs] at hoa
    rw [hys, he2] at hb
    rw [hys] at hob
    refine (qint_any gc gd ga gb sa sb bha bhb q w.heap.size s n1 n2 m Aa Ab ca cb a b W hc hd ha hb hoa hob ⟨n1', n2', n3'⟩ (hv.below hW) HN.out.2.2.2.2 hs hsa hsb hm h3 h3b hbp hq).mono ?_
    rw [← hqq, ← hnn]
    rintro e w' ⟨h1, h2, hF⟩
    obtain ⟨he, A, c, hB, -⟩ := h2 hfg
    exact ⟨he, _, hB, hF⟩
  unfold CqbP at ConC
  have HL := hide (And.intro hlq (And.intro hql hfg))
  rw [← hxs, ← hys, ← hl1, ← hl2, ← he1, ← he2]
  rw [hX0] at HS
  clear hr1 hr2 hv hs hsa hsb hm h3 h3b hbp hfg hX0 hq hk he1 he2 hqq hlq hql hxs hys hl1 hl2 hnn
  go_enter Tryz.func22, Tryz.ntmps22
  go_wp2_with fail
  rw [← hW0, ← hgd, ← hgr, ← hg2, ← hg1, ← hg0]
  clear hW0 hgd hgr hg2 hg1 hg0
  go_region_held3 (fun W => (W.cell? ⟨g0, 0, none⟩ = some (.int .u64 (q : Int)) ∧ W.cell? ⟨g0, 1, none⟩ = some (.int .i64 100000) ∧ W.cell? ⟨g0, 2, none⟩ = some (.int .i64 (-100000)) ∧ W.cell? ⟨g0, 3, none⟩ = some (.int .i64 (k : Int))) ∧ ((W.cell? ⟨g1, 0, none⟩ = some (.int .i64 0) ∧ W.cell? ⟨g1, 1, none⟩ = some (.bool n1) ∧ W.cell? ⟨g1, 2, none⟩ = some (.slice A1 l1 c1) ∧ W.cell? ⟨g1, 3, none⟩ = some (.int .i64 e1)) ∧ (W.cell? ⟨g2, 0, none⟩ = some (.int .i64 0) ∧ W.cell? ⟨g2, 1, none⟩ = some (.bool n2) ∧ W.cell? ⟨g2, 2, none⟩ = some (.slice A2 l2 c2) ∧ W.cell? ⟨g2, 3, none⟩ = some (.int .i64 e2)))) (first | exact ⟨HS.out.b0.dec4, HS.out.b1.dec4, HS.out.b2.dec4⟩ | go_keep)
    (first
      | (go_at_call 40; go_loud (refine (ConX.out _).mono ?_; rintro e w1 ⟨⟨gc, s, rfl, hgc, hBc⟩, hb1⟩; have HG : Hid (gd ≠ gc) := (by have h1 := HS.out.bd.lt; have h2 : W0.heap.size ≤ gc := hgc; intro e; omega); have HC := hide hBc; have HS := hide (HS.out.next hb1.os hb1.tape hb1.output hb1.size hb1.block); clear hgc hBc hb1))
      | (go_at_call_of 28 n1; refine (ConA.out _ ?_).mono ?_; exact Below.mk HS.out.bel.os HS.out.bel.tape HS.out.bel.output HS.out.bel.size HS.out.bel.block; go_loud (rintro e w2 ⟨ga, Aa, ca, rfl, hga, hoa, hBa, hba⟩; have HNa : Hid (gd ≠ ga) := (by have h1 := HS.out.bd.lt; have h2 : w1.heap.size ≤ ga := hga; intro e; omega); have HC := hide (HC.out.below (Below.mk hba.os hba.tape hba.output hba.size hba.block)); have HA := hide (And.intro hBa hoa); have HS := hide (HS.out.next hba.os hba.tape hba.output hba.size hba.block); clear hga hoa hBa hba))
      | (go_at_call_of 28 n2; refine (ConB.out _ ?_).mono ?_; exact Below.mk HS.out.bel.os HS.out.bel.tape HS.out.bel.output HS.out.bel.size HS.out.bel.block; go_loud (rintro e w3 ⟨gb, Ab, cb, rfl, hgb, hob, hBb, hbb⟩; have HNb : Hid (gd ≠ gb) := (by have h1 := HS.out.bd.lt; have h2 : w2.heap.size ≤ gb := hgb; intro e; omega); have HC := hide (HC.out.below (Below.mk hbb.os hbb.tape hbb.output hbb.size hbb.block)); have HA := hide (And.intro (HA.out.1.below (Below.mk hbb.os hbb.tape hbb.output hbb.size hbb.block)) (HA.out.2.below (Below.mk hbb.os hbb.tape hbb.output hbb.size hbb.block))); have HB := hide (And.intro hBb hob); have HS := hide (HS.out.next hbb.os hbb.tape hbb.output hbb.size hbb.block); clear hgb hob hBb hbb))
      | (go_at_call 41; go_loud (refine (ConC.out w3 gc ga gb s Aa ca Ab cb _ _ HS.out.bel HC.out HS.out.bd HA.out.1 HB.out.1 HA.out.2 HB.out.2 HNa.out HNb.out HG.out).mono ?_; rintro e w4 ⟨rfl, v4, hB, hF⟩; have HS := hide (HS.out.setd HN.out (Fr.mk hF.os hF.tape hF.output hF.size hF.block) hB); clear hB hF)))
  have ConT : Hid (∀ W, Below w4.heap.size w4 W → Calls Tryz.prog 30 #[.pointer (some ⟨gd, 0, none⟩)] W (fun e w' => e = .returned (.agg #[.int .i64 3, .bool nn, .slice none 0 0, .int .i64 0]) ∧ Below W.heap.size W w')) := fun W hW =>
    told_nan gd nn 0 false false _ W (HS.out.bd.below hW)
  have ConE := hide (fun W => conditions_imp W)
  have HX : Hid (w.heap.size ≤ gr ∧ gr < w4.heap.size) := ⟨HGr.out, HS.out.br.lt⟩
  clear ConX ConA ConB ConC HN HA HB HC HG HNa HNb
  go_wp2_with fail
  go_region_with (first
    | (go_at_call 30; go_loud (refine (ConT.out _ ?_).mono ?_; exact Below.mk rfl rfl rfl (Nat.le_refl _) (fun _ _ => rfl); rintro e5 w5 ⟨rfl, hb5⟩; have HS5 := hide (HS.out.next hb5.os hb5.tape hb5.output hb5.size hb5.block); obtain ⟨y0, y1, y2, y3⟩ := HS5.out.br.dec4; obtain ⟨f0, f1, f2, f3⟩ := frz4q HS5.out.br; clear hb5))
    | (go_at_call 42; go_loud (refine (ConE.out _).mono ?_; rintro e6 w6 ⟨rfl, rfl⟩)))
  all_goals (
    obtain ⟨W6, hW6⟩ : ∃ W6, W6 = (((w5.setCell ⟨gr, 0, none⟩ (.int .i64 3)).setCell ⟨gr, 1, none⟩ (.bool nn)).setCell ⟨gr, 2, none⟩ (.slice none 0 0)).setCell ⟨gr, 3, none⟩ (.int .i64 0) := ⟨_, rfl⟩
    have hF6 : Fr w5 W6 (fun k => k = gr) := by rw [hW6]; exact ((((Fr.refl w5 (fun k => k = gr)).setCell (p := ⟨gr, 0, none⟩) (fun _ => rfl) _).setCell (p := ⟨gr, 1, none⟩) (fun _ => rfl) _).setCell (p := ⟨gr, 2, none⟩) (fun _ => rfl) _).setCell (p := ⟨gr, 3, none⟩) (fun _ => rfl) _
    have hB6 : Blk W6 gr 24 #[.int .i64 3, .bool nn, (.slice none 0 0), .int .i64 0] := by rw [hW6]; exact (((HS5.out.br.set 0 _).set 1 _).set 2 _).set 3 _
    have hbl6 : Below w.heap.size w W6 := (Fr.step (Fr.of_below HS5.out.bel (fun k => w.heap.size ≤ k)) hF6 (fun i _ hi => by subst hi; exact HX.out.1)).below (Nat.le_refl _) (fun _ h => h)
    have HP : Hid (IqbP w nn (.returned (.tuple #[.agg #[.int .i64 3, .bool nn, .slice none 0 0, .int .i64 0], .int .i64 128, .bool true])) W6) := ⟨rfl, hbl6⟩
    have HC := hide hB6.dec4
    rw [← hW6]
    clear hF6 hB6 hbl6 hW6 y0 y1 y2 y3 f0 f1 f2 f3 HS5 ConT ConE HS HX)
  all_goals go_wp2
  all_goals exact bodyPost_ret (qii_result gr (.int .i64 128) (.bool true) _ rfl rfl rfl _ _ _ _ _ HC.out.1 HC.out.2.1 HC.out.2.2.1 HC.out.2.2.2) rfl HP.out
end Go.Proofs.YtfkcobdkgjhfaaaGreatDoor
