/- Parts of the proofs: DecCmp5, ICmp2, ICmp3. -/
import Derived.Test.YtfkcobdkgjhfaaaGreatDoorG38
/- Decimal.Cmp: of finite decimals, as the order of their values; of an infinity and a finite one. -/
set_option linter.unusedVariables false
set_option linter.unusedSimpArgs false
namespace Go.Proofs.YtfkcobdkgjhfaaaGreatDoor
open Go.RowKit

theorem dcmp_same (ga gb : Nat) (n : Bool) (ea eb m : Int) (A B : Option Addr) (ca cb a b sa sb : Nat) (w : World) (ha : DecAt w ga n ea A ca a) (hb : DecAt w gb n eb B cb b) (hne : ga ≠ gb) (ha0 : 0 < a) (hb0 : 0 < b) (hla : (digs 18446744073709551616 a).length ≤ 3) (hlb : (digs 18446744073709551616 b).length ≤ 3)
    (hxa : ∀ k, (Value.slice A (digs 18446744073709551616 a).length ca).ownBlock = some k → k < w.heap.size) (hxb : ∀ k, (Value.slice B (digs 18446744073709551616 b).length cb).ownBlock = some k → k < w.heap.size)
    (hea : ea = m + (sa : Int)) (heb : eb = m + (sb : Int)) (hz : sa = 0 ∨ sb = 0) (hsa : sa ≤ 200) (hsb : sb ≤ 200) (hm : -500 ≤ m) (hm2 : m ≤ 500) (hv : VarsL w w.heap.size) :
    Calls Tryz.prog 80 #[.pointer (some ⟨ga, 0, none⟩), .pointer (some ⟨gb, 0, none⟩)] w (DcmpP w (if n then -cmpI (a * 10 ^ sa) (b * 10 ^ sb) else cmpI (a * 10 ^ sa) (b * 10 ^ sb))) := by
  by_cases he : ea = eb
  · have e : sa = sb := by omega
    subst e
    subst he
    rw [cmpI_scale]
    exact dcmp_eq ga gb n ea A B ca cb a b w ha hb hne ha0 hb0 hla hlb
  have fa := figs_small hla
  have fb := figs_small hlb
  rcases Nat.lt_trichotomy (figs a + sa) (figs b + sb) with h | h | h
  · rw [cmpI_lt (figs_lt hb0 h)]
    exact dcmp_adj ga gb n ea eb A B ca cb a b _ w ha hb ha0 hb0 hla hlb he (by omega) hv (.inl ⟨by omega, by cases n <;> rfl⟩)
  · rcases hz with rfl | rfl
    · rw [Nat.pow_zero, Nat.mul_one]
      exact dcmp_lt ga gb sb n ea eb A B ca cb a b w ha hb ha0 hb0 hla hlb hxb (by omega) (by omega) (by omega) (by omega) hv (by omega)
    · rw [Nat.pow_zero, Nat.mul_one]
      exact dcmp_gt ga gb sa n ea eb A B ca cb a b w ha hb ha0 hb0 hla hlb hxa (by omega) (by omega) (by omega) (by omega) hv (by omega)
  · rw [cmpI_gt (figs_lt ha0 h)]
    exact dcmp_adj ga gb n ea eb A B ca cb a b _ w ha hb ha0 hb0 hla hlb he (by omega) hv (.inr ⟨by omega, by cases n <;> rfl⟩)

theorem dcmp_any (ga gb : Nat) (na nb : Bool) (ea eb m : Int) (A B : Option Addr) (ca cb a b sa sb : Nat) (w : World) (ha : DecAt w ga na ea A ca a) (hb : DecAt w gb nb eb B cb b) (hne : ga ≠ gb) (hla : (digs 18446744073709551616 a).length ≤ 3) (hlb : (digs 18446744073709551616 b).length ≤ 3)
    (hxa : ∀ k, (Value.slice A (digs 18446744073709551616 a).length ca).ownBlock = some k → k < w.heap.size) (hxb : ∀ k, (Value.slice B (digs 18446744073709551616 b).length cb).ownBlock = some k → k < w.heap.size)
    (hea : ea = m + (sa : Int)) (heb : eb = m + (sb : Int)) (hz : sa = 0 ∨ sb = 0) (hsa : sa ≤ 200) (hsb : sb ≤ 200) (hm : -500 ≤ m) (hm2 : m ≤ 500) (hv : VarsL w w.heap.size) :
    Calls Tryz.prog 80 #[.pointer (some ⟨ga, 0, none⟩), .pointer (some ⟨gb, 0, none⟩)] w (DcmpP w (ordV na (a * 10 ^ sa) nb (b * 10 ^ sb))) := by
  rcases Int.lt_trichotomy (sgnV na a) (sgnV nb b) with h | h | h
  · rw [ordV_lt (by rw [sgnV_scale, sgnV_scale]; exact h)]
    exact dcmp_sgn ga gb na nb ea eb A B ca cb a b _ w ha hb (.inl ⟨h, rfl⟩)
  · rcases sgnV_cases na a with h1 | h1 | h1
    · rw [ordV_zero (by rw [sgnV_scale]; exact h1) (by rw [sgnV_scale]; omega)]
      exact dcmp_sgn ga gb na nb ea eb A B ca cb a b _ w ha hb (.inr (.inr ⟨⟨h1, by omega⟩, rfl⟩))
    · obtain ⟨rfl, ha0⟩ := sgnV_one h1
      obtain ⟨rfl, hb0⟩ := sgnV_one (show sgnV nb b = 1 by omega)
      rw [ordV_same]
      exact dcmp_same ga gb false ea eb m A B ca cb a b sa sb w ha hb hne ha0 hb0 hla hlb hxa hxb hea heb hz hsa hsb hm hm2 hv
    · obtain ⟨rfl, ha0⟩ := sgnV_neg1 h1
      obtain ⟨rfl, hb0⟩ := sgnV_neg1 (show sgnV nb b = -1 by omega)
      rw [ordV_same]
      exact dcmp_same ga gb true ea eb m A B ca cb a b sa sb w ha hb hne ha0 hb0 hla hlb hxa hxb hea heb hz hsa hsb hm hm2 hv
  · rw [ordV_gt (by rw [sgnV_scale, sgnV_scale]; exact h)]
    exact dcmp_sgn ga gb na nb ea eb A B ca cb a b _ w ha hb (.inr (.inl ⟨h, rfl⟩))

/-- An infinity on the left. -/
theorem dcmp_infl (ga gb : Nat) (na nb : Bool) (eb : Int) (B : Option Addr) (cb b : Nat) (w : World) (ha : Blk w ga 71 (decC 1 na 0 false (.slice none 0 0) false)) (hb : DecAt w gb nb eb B cb b) :
    Calls Tryz.prog 80 #[.pointer (some ⟨ga, 0, none⟩), .pointer (some ⟨gb, 0, none⟩)] w (DcmpP w (if na then -1 else 1)) := by
  have c1 := dsign_other ga 1 na w (by decide) ha
  have c2 := dsign_any gb nb eb B _ cb w hb.blk
  rw [sgnV_len _ (by omega)] at c2
  have hq := sgnV_cases nb b
  generalize sgnV nb b = q at *
  have Con1 := hide c1
  have Con2 := hide c2
  have a0 : w.cell? ⟨ga, 0, none⟩ = some (.int .i8 1) := ha.cell 0
  have b0 : w.cell? ⟨gb, 0, none⟩ = some (.int .i8 0) := hb.blk.cell 0
  clear c1 c2 ha hb
  cases na
  all_goals rcases hq with rfl | rfl | rfl
  all_goals go_enter Tryz.func80, Tryz.ntmps80
  all_goals go_wp2_with fail
  all_goals refine (Con1.out).mono ?_
  all_goals rintro e w1 ⟨rfl, rfl⟩
  all_goals go_wp2_with fail
  all_goals refine (Con2.out).mono ?_
  all_goals rintro e w1 ⟨rfl, rfl⟩
  all_goals go_wp2
  all_goals go_ret
  all_goals exact ⟨rfl, Below.refl _ _⟩

/-- An infinity on the right. -/
theorem dcmp_infr (ga gb : Nat) (na nb : Bool) (ea : Int) (A : Option Addr) (ca a : Nat) (w : World) (ha : DecAt w ga na ea A ca a) (hb : Blk w gb 71 (decC 1 nb 0 false (.slice none 0 0) false)) :
    Calls Tryz.prog 80 #[.pointer (some ⟨ga, 0, none⟩), .pointer (some ⟨gb, 0, none⟩)] w (DcmpP w (if nb then 1 else -1)) := by
  have c1 := dsign_any ga na ea A _ ca w ha.blk
  have c2 := dsign_other gb 1 nb w (by decide) hb
  rw [sgnV_len _ (by omega)] at c1
  have hq := sgnV_cases na a
  generalize sgnV na a = q at *
  have Con1 := hide c1
  have Con2 := hide c2
  have a0 : w.cell? ⟨ga, 0, none⟩ = some (.int .i8 0) := ha.blk.cell 0
  have b0 : w.cell? ⟨gb, 0, none⟩ = some (.int .i8 1) := hb.cell 0
  clear c1 c2 ha hb
  cases nb
  all_goals rcases hq with rfl | rfl | rfl
  all_goals go_enter Tryz.func80, Tryz.ntmps80
  all_goals go_wp2_with fail
  all_goals refine (Con1.out).mono ?_
  all_goals rintro e w1 ⟨rfl, rfl⟩
  all_goals go_wp2_with fail
  all_goals refine (Con2.out).mono ?_
  all_goals rintro e w1 ⟨rfl, rfl⟩
  all_goals go_wp2
  all_goals go_ret
  all_goals exact ⟨rfl, Below.refl _ _⟩
end Go.Proofs.YtfkcobdkgjhfaaaGreatDoor

/- Walk: the thin package's Compare, at any two decimals that are made. -/
set_option linter.unusedVariables false
set_option linter.unusedSimpArgs false
namespace Go.Proofs.YtfkcobdkgjhfaaaGreatDoor
open Go.RowKit

/-- What Compare holds. -/
structure CmpH (w : World) (g1 g2 : Nat) (f1 f2 : Int) (n1 n2 : Bool) (s1 s2 : Value) (e1 e2 : Int) (W : World) : Prop where
  bel : Below w.heap.size w W
  b1 : Blk W g1 24 #[.int .i64 f1, .bool n1, s1, .int .i64 e1]
  b2 : Blk W g2 24 #[.int .i64 f2, .bool n2, s2, .int .i64 e2]
theorem CmpH.below {w : World} {g1 g2 : Nat} {f1 f2 : Int} {n1 n2 : Bool} {s1 s2 : Value} {e1 e2 : Int} {W W' : World} (h : CmpH w g1 g2 f1 f2 n1 n2 s1 s2 e1 e2 W) (hb : Below W.heap.size W W') : CmpH w g1 g2 f1 f2 n1 n2 s1 s2 e1 e2 W' :=
  ⟨below_next h.bel hb, h.b1.below hb, h.b2.below hb⟩
theorem CmpH.next {w : World} {g1 g2 : Nat} {f1 f2 : Int} {n1 n2 : Bool} {s1 s2 : Value} {e1 e2 : Int} {W W' : World} (h : CmpH w g1 g2 f1 f2 n1 n2 s1 s2 e1 e2 W) (h1 : W'.os = W.os) (h2 : W'.tape = W.tape) (h3 : W'.output = W.output) (h4 : W.heap.size ≤ W'.heap.size) (h5 : ∀ k, k < W.heap.size → W'.heap[k]? = W.heap[k]?) : CmpH w g1 g2 f1 f2 n1 n2 s1 s2 e1 e2 W' :=
  h.below ⟨h1, h2, h3, h4, h5⟩
theorem CmpH.cells {w : World} {g1 g2 : Nat} {f1 f2 : Int} {n1 n2 : Bool} {s1 s2 : Value} {e1 e2 : Int} {W : World} (h : CmpH w g1 g2 f1 f2 n1 n2 s1 s2 e1 e2 W) :
    (W.cell? ⟨g1, 0, none⟩ = some (.int .i64 f1) ∧ W.cell? ⟨g1, 1, none⟩ = some (.bool n1) ∧ W.cell? ⟨g1, 2, none⟩ = some s1 ∧ W.cell? ⟨g1, 3, none⟩ = some (.int .i64 e1)) ∧
    (W.cell? ⟨g2, 0, none⟩ = some (.int .i64 f2) ∧ W.cell? ⟨g2, 1, none⟩ = some (.bool n2) ∧ W.cell? ⟨g2, 2, none⟩ = some s2 ∧ W.cell? ⟨g2, 3, none⟩ = some (.int .i64 e2)) :=
  ⟨⟨h.b1.cell 0, h.b1.cell 1, h.b1.cell 2, h.b1.cell 3⟩, ⟨h.b2.cell 0, h.b2.cell 1, h.b2.cell 2, h.b2.cell 3⟩⟩

/-- What made leaves of one decimal. -/
def MadeC (D : World → Nat → Prop) (v : Value) (W : World) : Prop :=
  Calls Tryz.prog 28 #[v] W (fun e w' => ∃ g, e = .returned (.pointer (some ⟨g, 0, none⟩)) ∧ W.heap.size ≤ g ∧ D w' g ∧ Below W.heap.size W w')

/-- A fact on a block that later steps keep. -/
structure Kept (D : World → Nat → Prop) : Prop where
  below : ∀ W W' g, D W g → Below W.heap.size W W' → D W' g
  lt : ∀ W g, D W g → g < W.heap.size


end Go.Proofs.YtfkcobdkgjhfaaaGreatDoor

/- The thin package's Compare: of finite decimals, and of an infinity and a finite one. -/
set_option linter.unusedVariables false
set_option linter.unusedSimpArgs false
namespace Go.Proofs.YtfkcobdkgjhfaaaGreatDoor
open Go.RowKit

def FinD (n : Bool) (e : Int) (a : Nat) (W : World) (g : Nat) : Prop := ∃ A c, DecAt W g n e A c a ∧ ∀ k, (Value.slice A (digs 18446744073709551616 a).length c).ownBlock = some k → k < W.heap.size
def InfD (n : Bool) (W : World) (g : Nat) : Prop := Blk W g 71 (decC 1 n 0 false (.slice none 0 0) false)
theorem finD_kept (n : Bool) (e : Int) (a : Nat) : Kept (FinD n e a) where
  below := by
    rintro W W' g ⟨A, c, h, hk⟩ hb
    exact ⟨A, c, h.below hb, fun k h => Nat.lt_of_lt_of_le (hk k h) hb.size⟩
  lt := by
    rintro W g ⟨A, c, h, _⟩
    exact h.blk.lt
theorem infD_kept (n : Bool) : Kept (InfD n) where
  below := fun _ _ _ h hb => Blk.below h hb
  lt := fun _ _ h => Blk.lt h
theorem finD_made (n : Bool) (e : Int) (a : Nat) (A : Option Addr) (c : Nat) (W : World) (hr : RdW W (.slice A (digs 18446744073709551616 a).length c) (digs 18446744073709551616 a)) (hl : (digs 18446744073709551616 a).length ≤ 3) (he : -1000 ≤ e) (he2 : e ≤ 1000) :
    MadeC (FinD n e a) (.agg #[.int .i64 0, .bool n, .slice A (digs 18446744073709551616 a).length c, .int .i64 e]) W := by
  have con := made_fin 0 n _ (digs 18446744073709551616 a) e W hr (by omega) (by decide) (by decide) (by decide) (by omega) (by omega)
  rw [trimz_of_canon (canon_digs (by omega) _)] at con
  refine con.mono ?_
  rintro e w1 ⟨g, A1, c1, rfl, hg, ho, hB, hbel⟩
  exact ⟨g, rfl, hg, ⟨A1, c1, ⟨hB, ho.rd⟩, fun k hk => (ho.lt hk).2⟩, hbel⟩
theorem infD_made (n : Bool) (W : World) : MadeC (InfD n) (.agg #[.int .i64 1, .bool n, .slice none 0 0, .int .i64 0]) W :=
  made_other 1 n (.slice none 0 0) 0 W (.inl rfl)


end Go.Proofs.YtfkcobdkgjhfaaaGreatDoor
