/- Walks: upscale whatever the exponents; ZZUpscale; the thin package's Upscale. -/
import Derived.Test.YtamjfjomehcikaaGreatDoorUp2
import Derived.Deep.RegionHeld3
import Derived.Deep.RegionWith
set_option linter.unusedVariables false
set_option linter.unusedSimpArgs false
namespace Go.Proofs.YtamjfjomehcikaaGreatDoor
open Go.RowKit

theorem up_any (ga gb gz sa sb bha bhb : Nat) (na nb : Bool) (m : Int) (A B : Option Addr) (ca cb a b : Nat) (w : World)
    (ha : Blk w ga 81 (decC 0 na (m + sa) false (.slice A (digs 18446744073709551616 a).length ca) false)) (hb : Blk w gb 81 (decC 0 nb (m + sb) false (.slice B (digs 18446744073709551616 b).length cb) false))
    (har : Own w bha (.slice A (digs 18446744073709551616 a).length ca) (digs 18446744073709551616 a)) (hbr : Own w bhb (.slice B (digs 18446744073709551616 b).length cb) (digs 18446744073709551616 b))
    (hz : Blk w gz 76 #[.bool false, .slice none 0 0, .bool false]) (hga : ga ≠ gz) (hgb : gb ≠ gz) (hv : Vars w gz) (hs : sa = 0 ∨ sb = 0) (hsa : sa ≤ 400) (hsb : sb ≤ 400) (hm : -1000 ≤ m ∧ m ≤ 1000) (h3 : (digs 18446744073709551616 a).length ≤ 3) (h3b : (digs 18446744073709551616 b).length ≤ 3) :
    Calls Tryz.prog 35 #[.pointer (some ⟨ga, 0, none⟩), .pointer (some ⟨gb, 0, none⟩), .pointer (some ⟨gz, 0, none⟩)] w (UpP w m (a * 10 ^ sa) (b * 10 ^ sb) (fun k => k = gz)) := by
  have hza := har.room.ne_blk hz (by decide)
  have hzb := hbr.room.ne_blk hz (by decide)
  rcases Nat.eq_zero_or_pos sa with rfl | h1
  · rw [Nat.pow_zero, Nat.mul_one]
    rcases Nat.eq_zero_or_pos sb with rfl | h2
    · rw [Nat.pow_zero, Nat.mul_one]
      have e : m + ((0 : Nat) : Int) = m := by omega
      rw [e] at ha hb
      exact up_eq ga gb gz na nb m A B ca cb a b w ha hb har.rd hbr.rd
    · have e : m + ((0 : Nat) : Int) = m := by omega
      rw [e] at ha
      exact up_lt ga gb gz bhb sb na nb m (m + sb) A B ca cb a b w ha hb hbr har.rd hza hz hga hgb hv (by omega) h2 hsb h3b (by omega)
  · have hs0 : sb = 0 := by omega
    subst hs0
    rw [Nat.pow_zero, Nat.mul_one]
    have e : m + ((0 : Nat) : Int) = m := by omega
    rw [e] at hb
    exact up_gt ga gb gz bha sa na nb (m + sa) m A B ca cb a b w ha hb har hbr.rd hzb hz hga hgb hv (by omega) h1 hsa h3 (by omega)

theorem zup_result (a b c d : Value) (tmps : Array Value) (h6 : tmps.getD 4 undef = a) (h7 : tmps.getD 5 undef = b) (h8 : tmps.getD 6 undef = c) (h9 : tmps.getD 7 undef = d) (W : World) :
    (results Tryz.f24 tmps).run Tryz.prog W = .ok (.tuple #[a, b, c, d]) W := by
  have e6 : tmps[4]?.getD undef = a := by simpa using h6
  have e7 : tmps[5]?.getD undef = b := by simpa using h7
  have e8 : tmps[6]?.getD undef = c := by simpa using h8
  have e9 : tmps[7]?.getD undef = d := by simpa using h9
  simp [results, Tryz.results24, go_sem, e6, e7, e8, e9]

theorem zup_any (ga gb sa sb bha bhb : Nat) (na nb : Bool) (m : Int) (A B : Option Addr) (ca cb a b : Nat) (w : World)
    (ha : Blk w ga 81 (decC 0 na (m + sa) false (.slice A (digs 18446744073709551616 a).length ca) false)) (hb : Blk w gb 81 (decC 0 nb (m + sb) false (.slice B (digs 18446744073709551616 b).length cb) false))
    (har : Own w bha (.slice A (digs 18446744073709551616 a).length ca) (digs 18446744073709551616 a)) (hbr : Own w bhb (.slice B (digs 18446744073709551616 b).length cb) (digs 18446744073709551616 b))
    (hv : Vars w w.heap.size) (hs : sa = 0 ∨ sb = 0) (hsa : sa ≤ 400) (hsb : sb ≤ 400) (hm : -1000 ≤ m ∧ m ≤ 1000) (h3 : (digs 18446744073709551616 a).length ≤ 3) (h3b : (digs 18446744073709551616 b).length ≤ 3) :
    Calls Tryz.prog 24 #[.pointer (some ⟨ga, 0, none⟩), .pointer (some ⟨gb, 0, none⟩)] w (UpP w m (a * 10 ^ sa) (b * 10 ^ sb) (fun _ => False)) := by
  obtain ⟨gt, hgt⟩ : ∃ gt, gt = w.heap.size := ⟨_, rfl⟩
  obtain ⟨W, hW⟩ : ∃ W, W = w.alloc (.cells #[.bool false, .slice none 0 0, .bool false] 76) := ⟨_, rfl⟩
  have hbW : Below w.heap.size w W := by rw [hW]; exact below_al (Below.refl _ _) _
  have htW : Blk W gt 76 #[.bool false, .slice none 0 0, .bool false] := by rw [hW, hgt]; exact Blk.new w _ _
  have h1 := ha.lt
  have h2 := hb.lt
  have Con := hide (up_any ga gb gt sa sb bha bhb na nb m A B ca cb a b W (ha.below hbW) (hb.below hbW) (har.below hbW) (hbr.below hbW) htW (by omega) (by omega) (by rw [hgt]; exact hv.below hbW) hs hsa hsb hm h3 h3b)
  have HB := hide (And.intro hbW hgt)
  clear hbW htW hv ha hb har hbr h1 h2 h3 h3b
  go_enter Tryz.func24, Tryz.ntmps24
  go_wp2_with fail
  rw [← hgt, ← hW]
  clear hgt hW
  refine (Con.out).mono ?_
  rintro e w1 ⟨P, Q, rfl, hP, hQ, hF⟩
  have Fin : Hid (UpP w m (a * 10 ^ sa) (b * 10 ^ sb) (fun _ => False) (.returned (.tuple #[.pointer (some P), .pointer (some Q), .int .i32 m, .nilIface])) w1) :=
    ⟨P, Q, rfl, hP, hQ, Fr.step (Fr.of_below HB.out.1 _) hF (fun i hi h => by have := HB.out.2; omega)⟩
  clear hP hQ hF HB Con
  go_wp2
  exact bodyPost_ret (zup_result _ _ _ _ _ rfl rfl rfl rfl _) rfl Fin.out

/-- Behind the thin package's Upscale. -/
def IUpP (w : World) (m : Int) (p q : Nat) (e : Ending) (w' : World) : Prop :=
  ∃ (A B : Option Addr) (ca cb : Nat), e = .returned (.tuple #[.slice A (digs 18446744073709551616 p).length ca, .slice B (digs 18446744073709551616 q).length cb, .int .i64 m, .bool true]) ∧
    RdG .u64 w' (.slice A (digs 18446744073709551616 p).length ca) (digs 18446744073709551616 p) ∧ RdG .u64 w' (.slice B (digs 18446744073709551616 q).length cb) (digs 18446744073709551616 q) ∧ Below w.heap.size w w'

/-- What is held between the calls. -/
structure UpH (w : World) (g1 g2 : Nat) (n1 n2 : Bool) (A1 A2 : Option Addr) (c1 c2 a b : Nat) (e1 e2 : Int) (W : World) : Prop where
  bel : Below w.heap.size w W
  b1 : Blk W g1 31 #[.int .i64 0, .bool n1, .slice A1 (digs 18446744073709551616 a).length c1, .int .i64 e1]
  b2 : Blk W g2 31 #[.int .i64 0, .bool n2, .slice A2 (digs 18446744073709551616 b).length c2, .int .i64 e2]
  r1 : RdG .u64 W (.slice A1 (digs 18446744073709551616 a).length c1) (digs 18446744073709551616 a)
  r2 : RdG .u64 W (.slice A2 (digs 18446744073709551616 b).length c2) (digs 18446744073709551616 b)
  vars : Vars W w.heap.size
theorem UpH.below {w : World} {g1 g2 : Nat} {n1 n2 : Bool} {A1 A2 : Option Addr} {c1 c2 a b : Nat} {e1 e2 : Int} {W W' : World} (h : UpH w g1 g2 n1 n2 A1 A2 c1 c2 a b e1 e2 W) (hb : Below W.heap.size W W') : UpH w g1 g2 n1 n2 A1 A2 c1 c2 a b e1 e2 W' :=
  ⟨below_next h.bel hb, h.b1.below hb, h.b2.below hb, h.r1.below hb, h.r2.below hb, h.vars.below hb⟩
theorem UpH.next {w : World} {g1 g2 : Nat} {n1 n2 : Bool} {A1 A2 : Option Addr} {c1 c2 a b : Nat} {e1 e2 : Int} {W W' : World} (h : UpH w g1 g2 n1 n2 A1 A2 c1 c2 a b e1 e2 W) (h1 : W'.os = W.os) (h2 : W'.tape = W.tape) (h3 : W'.output = W.output) (h4 : W.heap.size ≤ W'.heap.size) (h5 : ∀ k, k < W.heap.size → W'.heap[k]? = W.heap[k]?) : UpH w g1 g2 n1 n2 A1 A2 c1 c2 a b e1 e2 W' :=
  h.below ⟨h1, h2, h3, h4, h5⟩

theorem iup_result (a b c d : Value) (tmps : Array Value) (h6 : tmps.getD 4 undef = a) (h7 : tmps.getD 5 undef = b) (h8 : tmps.getD 6 undef = c) (h9 : tmps.getD 7 undef = d) (W : World) :
    (results Tryz.f12 tmps).run Tryz.prog W = .ok (.tuple #[a, b, c, d]) W := by
  have e6 : tmps[4]?.getD undef = a := by simpa using h6
  have e7 : tmps[5]?.getD undef = b := by simpa using h7
  have e8 : tmps[6]?.getD undef = c := by simpa using h8
  have e9 : tmps[7]?.getD undef = d := by simpa using h9
  simp [results, Tryz.results12, go_sem, e6, e7, e8, e9]

theorem words_at (P : Addr) (xs : List Nat) (w : World) (h : BigAt w P xs) (hn : xs.length ≤ 1048576) : Calls Tryz.prog 21 #[.pointer (some P)] w (NewU w xs) := by
  obtain ⟨g, o, t, cs, nx, A, c, rfl, h1, h2, h3, h4, h5⟩ := h
  exact words_any g o t cs nx _ xs w h1 h2 h3 h4 h5 hn

set_option maxHeartbeats 2000000 in
set_option maxRecDepth 20000 in
theorem iup_any (n1 n2 : Bool) (A1 A2 : Option Addr) (c1 c2 a b sa sb : Nat) (m : Int) (w : World) (hr1 : RdG .u64 w (.slice A1 (digs 18446744073709551616 a).length c1) (digs 18446744073709551616 a)) (hr2 : RdG .u64 w (.slice A2 (digs 18446744073709551616 b).length c2) (digs 18446744073709551616 b))
    (hv : Vars w w.heap.size) (hs : sa = 0 ∨ sb = 0) (hsa : sa ≤ 400) (hsb : sb ≤ 400) (hm : -1000 ≤ m ∧ m ≤ 1000) (h3 : (digs 18446744073709551616 a).length ≤ 3) (h3b : (digs 18446744073709551616 b).length ≤ 3)
    (hp : (digs 18446744073709551616 (a * 10 ^ sa)).length ≤ 1048576) (hq : (digs 18446744073709551616 (b * 10 ^ sb)).length ≤ 1048576) :
    Calls Tryz.prog 12 #[.agg #[.int .i64 0, .bool n1, .slice A1 (digs 18446744073709551616 a).length c1, .int .i64 (m + sa)], .agg #[.int .i64 0, .bool n2, .slice A2 (digs 18446744073709551616 b).length c2, .int .i64 (m + sb)]] w (IUpP w m (a * 10 ^ sa) (b * 10 ^ sb)) := by
  obtain ⟨g1, hg1⟩ : ∃ g, g = w.heap.size := ⟨_, rfl⟩
  obtain ⟨g2, hg2⟩ : ∃ g, g = w.heap.size + 1 := ⟨_, rfl⟩
  obtain ⟨ea, hea⟩ : ∃ ea : Int, ea = m + sa := ⟨_, rfl⟩
  obtain ⟨eb, heb⟩ : ∃ eb : Int, eb = m + sb := ⟨_, rfl⟩
  obtain ⟨la, hla⟩ : ∃ la, la = (digs 18446744073709551616 a).length := ⟨_, rfl⟩
  obtain ⟨lb, hlb⟩ : ∃ lb, lb = (digs 18446744073709551616 b).length := ⟨_, rfl⟩
  obtain ⟨W0, hW0⟩ : ∃ W0, W0 = (w.alloc (.cells #[.int .i64 0, .bool n1, .slice A1 la c1, .int .i64 ea] 31)).alloc (.cells #[.int .i64 0, .bool n2, .slice A2 lb c2, .int .i64 eb] 31) := ⟨_, rfl⟩
  have hb0 : Below w.heap.size w W0 := by rw [hW0]; exact below_al (below_al (Below.refl _ _) _) _
  have hx1 : Blk W0 g1 31 #[.int .i64 0, .bool n1, .slice A1 la c1, .int .i64 ea] := by rw [hW0, hg1]; exact (Blk.new w _ _).alloc _
  have hx2 : Blk W0 g2 31 #[.int .i64 0, .bool n2, .slice A2 lb c2, .int .i64 eb] := by
    rw [hW0, hg2]
    have := Blk.new (w.alloc (.cells #[.int .i64 0, .bool n1, .slice A1 la c1, .int .i64 ea] 31)) 31 #[.int .i64 0, .bool n2, .slice A2 lb c2, .int .i64 eb]
    simpa using this
  have hU : UpH w g1 g2 n1 n2 A1 A2 c1 c2 a b ea eb W0 := ⟨hb0, by rw [← hla]; exact hx1, by rw [← hlb]; exact hx2, hr1.below hb0, hr2.below hb0, hv.below hb0⟩
  have ConA := hide (fun W (h : UpH w g1 g2 n1 n2 A1 A2 c1 c2 a b ea eb W) => made_fin 0 n1 (.slice A1 la c1) (digs 18446744073709551616 a) ea W (by rw [hla]; exact h.r1) (by omega) (by decide) (by decide) (by decide) (by omega) (by omega))
  have ConB := hide (fun W (h : UpH w g1 g2 n1 n2 A1 A2 c1 c2 a b ea eb W) => made_fin 0 n2 (.slice A2 lb c2) (digs 18446744073709551616 b) eb W (by rw [hlb]; exact h.r2) (by omega) (by decide) (by decide) (by decide) (by omega) (by omega))
  rw [trimz_of_canon (canon_digs (by omega) _)] at ConA ConB
  obtain ⟨x0, x1, x2, x3⟩ : W0.cell? ⟨g1, 0, none⟩ = some (.int .i64 0) ∧ W0.cell? ⟨g1, 1, none⟩ = some (.bool n1) ∧ W0.cell? ⟨g1, 2, none⟩ = some (.slice A1 la c1) ∧ W0.cell? ⟨g1, 3, none⟩ = some (.int .i64 ea) := ⟨hx1.cell 0, hx1.cell 1, hx1.cell 2, hx1.cell 3⟩
  obtain ⟨y0, y1, y2, y3⟩ : W0.cell? ⟨g2, 0, none⟩ = some (.int .i64 0) ∧ W0.cell? ⟨g2, 1, none⟩ = some (.bool n2) ∧ W0.cell? ⟨g2, 2, none⟩ = some (.slice A2 lb c2) ∧ W0.cell? ⟨g2, 3, none⟩ = some (.int .i64 eb) := ⟨hx2.cell 0, hx2.cell 1, hx2.cell 2, hx2.cell 3⟩
  have cells : ∀ W, UpH w g1 g2 n1 n2 A1 A2 c1 c2 a b ea eb W → ((W.cell? ⟨g1, 0, none⟩ = some (.int .i64 0) ∧ W.cell? ⟨g1, 1, none⟩ = some (.bool n1) ∧ W.cell? ⟨g1, 2, none⟩ = some (.slice A1 la c1) ∧ W.cell? ⟨g1, 3, none⟩ = some (.int .i64 ea)) ∧ (W.cell? ⟨g2, 0, none⟩ = some (.int .i64 0) ∧ W.cell? ⟨g2, 1, none⟩ = some (.bool n2) ∧ W.cell? ⟨g2, 2, none⟩ = some (.slice A2 lb c2) ∧ W.cell? ⟨g2, 3, none⟩ = some (.int .i64 eb))) := fun W h => by
    rw [hla, hlb]
    exact ⟨⟨h.b1.cell 0, h.b1.cell 1, h.b1.cell 2, h.b1.cell 3⟩, ⟨h.b2.cell 0, h.b2.cell 1, h.b2.cell 2, h.b2.cell 3⟩⟩
  have conZ := fun (ga gb bha bhb : Nat) (A B : Option Addr) (ca cb : Nat) (W : World) => zup_any ga gb sa sb bha bhb n1 n2 m A B ca cb a b W
  rw [← hea, ← heb] at conZ
  have HS := hide hU
  have Cells := hide cells
  have ConZ := hide conZ
  have HN := hide (And.intro hs (And.intro hsa (And.intro hsb (And.intro hm (And.intro h3 (And.intro h3b (And.intro hp (And.intro hq (And.intro hea heb)))))))))
  rw [← hla, ← hlb, ← hea, ← heb]
  clear hb0 hx1 hx2 hU cells conZ hr1 hr2 hv hs hsa hsb hm h3 h3b hp hq hea heb hla hlb
  go_enter Tryz.func12, Tryz.ntmps12
  go_wp2_with fail
  rw [← hW0, ← hg2, ← hg1]
  clear hW0 hg2 hg1
  go_region_held3 (fun W => (W.cell? ⟨g1, 0, none⟩ = some (.int .i64 0) ∧ W.cell? ⟨g1, 1, none⟩ = some (.bool n1) ∧ W.cell? ⟨g1, 2, none⟩ = some (.slice A1 la c1) ∧ W.cell? ⟨g1, 3, none⟩ = some (.int .i64 ea)) ∧ (W.cell? ⟨g2, 0, none⟩ = some (.int .i64 0) ∧ W.cell? ⟨g2, 1, none⟩ = some (.bool n2) ∧ W.cell? ⟨g2, 2, none⟩ = some (.slice A2 lb c2) ∧ W.cell? ⟨g2, 3, none⟩ = some (.int .i64 eb))) (first | exact Cells.out _ HS.out | go_keep)
    (first
      | (go_at_call_of 25 (Value.slice A1 la c1); refine (ConA.out _ ?_).mono ?_; exact HS.out.next rfl rfl rfl (Nat.le_refl _) (fun _ _ => rfl); go_loud (rintro e w1 ⟨ga, Aa, ca, rfl, hga, hoa, hBa, hba⟩; have HS := hide (HS.out.next hba.os hba.tape hba.output hba.size hba.block); have HA := hide (And.intro hoa hBa); clear hga hoa hBa hba))
      | (go_at_call_of 25 (Value.slice A2 lb c2); refine (ConB.out _ ?_).mono ?_; exact HS.out.next rfl rfl rfl (Nat.le_refl _) (fun _ _ => rfl); go_loud (rintro e w2 ⟨gb, Ab, cb, rfl, hgb, hob, hBb, hbb⟩; have HA := hide (And.intro (HA.out.1.below hbb) (HA.out.2.below hbb)); have HS := hide (HS.out.next hbb.os hbb.tape hbb.output hbb.size hbb.block); have HB := hide (And.intro hob hBb); clear hgb hob hBb hbb))
      | (go_at_call 24; go_loud (refine (ConZ.out ga gb _ _ Aa Ab ca cb w2 HA.out.2 HB.out.2 HA.out.1 HB.out.1 (HS.out.vars.raise HS.out.bel.size) HN.out.1 HN.out.2.1 HN.out.2.2.1 HN.out.2.2.2.1 HN.out.2.2.2.2.1 HN.out.2.2.2.2.2.1).mono ?_; rintro e w3 ⟨P, Q, rfl, hP, hQ, hF⟩; have HS := hide (HS.out.below (hF.below (Nat.le_refl _) (fun _ h => h.elim))); have HPQ := hide (And.intro hP hQ); clear hP hQ hF)))
  have ConP := hide (words_at P _ w3 HPQ.out.1 HN.out.2.2.2.2.2.2.1)
  have HQ := hide HPQ.out.2
  have hm1 := HN.out.2.2.2.1.1
  have hm2 := HN.out.2.2.2.1.2
  have HQL := hide HN.out.2.2.2.2.2.2.2.1
  have HBL := hide HS.out.bel
  clear ConA ConB ConZ Cells x0 x1 x2 x3 y0 y1 y2 y3 HS HA HB HPQ HN
  go_wp2_with fail
  refine (ConP.out).mono ?_
  rintro e w4 ⟨R1, d1, rfl, ho1, hb1⟩
  have ConQ := hide (words_at Q _ w4 (HQ.out.below hb1) HQL.out)
  have HO1 := hide ho1.rd
  have HB1 := hide (below_next HBL.out hb1)
  clear ho1 hb1 ConP HQ HQL HBL
  go_wp2_with fail
  refine (ConQ.out).mono ?_
  rintro e w5 ⟨R2, d2, rfl, ho2, hb2⟩
  have Fin : Hid (IUpP w m (a * 10 ^ sa) (b * 10 ^ sb) (.returned (.tuple #[.slice R1 (digs 18446744073709551616 (a * 10 ^ sa)).length d1, .slice R2 (digs 18446744073709551616 (b * 10 ^ sb)).length d2, .int .i64 m, .bool true])) w5) :=
    ⟨R1, R2, d1, d2, rfl, RdG.below (k := .u64) HO1.out hb2, ho2.rd, below_next HB1.out hb2⟩
  clear ho2 hb2 HO1 HB1 ConQ
  generalize (digs 18446744073709551616 (a * 10 ^ sa)).length = q1 at Fin ⊢
  generalize (digs 18446744073709551616 (b * 10 ^ sb)).length = q2 at Fin ⊢
  go_wp2
  exact bodyPost_ret (iup_result _ _ _ _ _ rfl rfl rfl rfl _) rfl Fin.out
end Go.Proofs.YtamjfjomehcikaaGreatDoor
