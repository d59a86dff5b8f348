/- Parts of the proofs: SpQ, SpTxt. -/
import Derived.WalkLawsBesides
import Derived.Test.YtfkcobdkgjhfaaaGreatDoorG26
import Derived.Test.YtfkcobdkgjhfaaaGreatDoorG34
import Derived.Test.YtfkcobdkgjhfaaaGreatDoorG40
import Derived.Test.YtfkcobdkgjhfaaaGreatDoorG44
import Derived.Test.YtfkcobdkgjhfaaaGreatDoorG45
/- Walk: the reference's Divided. -/
set_option linter.unusedVariables false
set_option linter.unusedSimpArgs false
namespace Go.Proofs.YtfkcobdkgjhfaaaGreatDoor
open Go.RowKit

theorem wide_few {a s : Nat} (ha : (digs 65536 a).length ≤ 12) (hs : s ≤ 200) : (digs 65536 (a * 10 ^ s)).length ≤ 100 := by
  have h1 := lt_of_digs_length (b := 65536) (by omega) ha
  have h2 := lt_of_digs_length (b := 65536) (by omega) (wide10 hs)
  refine Nat.le_trans (digs_length_le (k := 12 + 64) (by omega) ?_) (by omega)
  exact Nat.lt_of_lt_of_eq (Nat.mul_lt_mul'' h1 h2) (by rw [← Nat.pow_add])

theorem dvd_result (n o : Nat) (tmps : Array Value) (h : tmps.getD 4 undef = .pointer (some ⟨n, 0, none⟩)) (h5 : tmps.getD 5 undef = .pointer (some ⟨o, 0, none⟩)) (W : World) (a b c d e f : Value) (c0 : W.cell? ⟨n, 0, none⟩ = some a) (c1 : W.cell? ⟨n, 1, none⟩ = some b) (c2 : W.cell? ⟨n, 2, none⟩ = some c) (d0 : W.cell? ⟨o, 0, none⟩ = some d) (d1 : W.cell? ⟨o, 1, none⟩ = some e) (d2 : W.cell? ⟨o, 2, none⟩ = some f) :
    (results Tryz.f23 tmps).run Tryz.prog W = .ok (.tuple #[.agg #[a, b, c], .agg #[d, e, f]]) W := by
  have h2 : tmps[4]?.getD undef = .pointer (some ⟨n, 0, none⟩) := by simpa using h
  have h3 : tmps[5]?.getD undef = .pointer (some ⟨o, 0, none⟩) := by simpa using h5
  simp [results, Tryz.results23, go_sem, h2, h3, c0, c1, c2, d0, d1, d2]

/-- Behind Divided: the quotient's value. -/
def DvdP (w : World) (n : Bool) (q : Nat) (e : Ending) (w' : World) : Prop :=
  ∃ (Q R : Option Addr) (lq cq lr cr : Nat) (n1 : Bool) (m : Int), e = .returned (.tuple #[.agg #[.bool n, .slice Q lq cq, .int .i64 0], .agg #[.bool n1, .slice R lr cr, .int .i64 m]]) ∧ RdG .i64 w' (.slice Q lq cq) (digs 65536 q) ∧ Below w.heap.size w w'

/-- What Divided holds. -/
structure DvdL (w : World) (g1 g2 g3 g4 : Nat) (n1 n2 : Bool) (B1 B2 : Option Addr) (l1 l2 c1 c2 a b : Nat) (e1 e2 : Int) (W : World) : Prop where
  bel : Below w.heap.size w W
  b1 : Blk W g1 29 #[.bool n1, .slice B1 l1 c1, .int .i64 e1]
  b2 : Blk W g2 29 #[.bool n2, .slice B2 l2 c2, .int .i64 e2]
  b3 : Blk W g3 29 #[.bool false, .slice none 0 0, .int .i64 0]
  b4 : Blk W g4 29 #[.bool false, .slice none 0 0, .int .i64 0]
  r1 : RdG .i64 W (.slice B1 l1 c1) (digs 65536 a)
  r2 : RdG .i64 W (.slice B2 l2 c2) (digs 65536 b)
theorem DvdL.next {w : World} {g1 g2 g3 g4 : Nat} {n1 n2 : Bool} {B1 B2 : Option Addr} {l1 l2 c1 c2 a b : Nat} {e1 e2 : Int} {W W' : World} (h : DvdL w g1 g2 g3 g4 n1 n2 B1 B2 l1 l2 c1 c2 a b e1 e2 W) (h1 : W'.os = W.os) (h2 : W'.tape = W.tape) (h3 : W'.output = W.output) (h4 : W.heap.size ≤ W'.heap.size) (h5 : ∀ k, k < W.heap.size → W'.heap[k]? = W.heap[k]?) : DvdL w g1 g2 g3 g4 n1 n2 B1 B2 l1 l2 c1 c2 a b e1 e2 W' :=
  have hb : Below W.heap.size W W' := ⟨h1, h2, h3, h4, h5⟩
  ⟨below_next h.bel hb, h.b1.below hb, h.b2.below hb, h.b3.below hb, h.b4.below hb, h.r1.below hb, h.r2.below hb⟩
theorem DvdL.cells {w : World} {g1 g2 g3 g4 : Nat} {n1 n2 : Bool} {B1 B2 : Option Addr} {l1 l2 c1 c2 a b : Nat} {e1 e2 : Int} {W : World} (h : DvdL w g1 g2 g3 g4 n1 n2 B1 B2 l1 l2 c1 c2 a b e1 e2 W) :
    (W.cell? ⟨g1, 0, none⟩ = some (.bool n1) ∧ W.cell? ⟨g1, 1, none⟩ = some (.slice B1 l1 c1) ∧ W.cell? ⟨g1, 2, none⟩ = some (.int .i64 e1)) ∧ (W.cell? ⟨g2, 0, none⟩ = some (.bool n2) ∧ W.cell? ⟨g2, 1, none⟩ = some (.slice B2 l2 c2) ∧ W.cell? ⟨g2, 2, none⟩ = some (.int .i64 e2)) := ⟨h.b1.val3, h.b2.val3⟩

set_option maxHeartbeats 4000000 in
set_option maxRecDepth 20000 in
theorem sdivided_any (n1 n2 : Bool) (B1 B2 : Option Addr) (l1 l2 c1 c2 a b sa sb : Nat) (m x1 x2 : Int) (w : World) (hx1 : x1 = m + (sa : Int)) (hx2 : x2 = m + (sb : Int)) (hr1 : RdG .i64 w (.slice B1 l1 c1) (digs 65536 a)) (hr2 : RdG .i64 w (.slice B2 l2 c2) (digs 65536 b)) (h1 : l1 ≤ 12) (h2 : l2 ≤ 12) (hz : sa = 0 ∨ sb = 0) (hsa : sa ≤ 200) (hsb : sb ≤ 200) (hm : -1000 ≤ m) (hm2 : m ≤ 1000) (hb0 : 0 < b) :
    Calls Tryz.prog 23 #[.agg #[.bool n1, .slice B1 l1 c1, .int .i64 x1], .agg #[.bool n2, .slice B2 l2 c2, .int .i64 x2]] w (DvdP w (n1 != n2) (a * 10 ^ sa / (b * 10 ^ sb))) := by
  obtain ⟨g1, hg1⟩ : ∃ g, g = w.heap.size := ⟨_, rfl⟩
  obtain ⟨g2, hg2⟩ : ∃ g, g = w.heap.size + 1 := ⟨_, rfl⟩
  obtain ⟨g3, hg3⟩ : ∃ g, g = w.heap.size + 1 + 1 := ⟨_, rfl⟩
  obtain ⟨g4, hg4⟩ : ∃ g, g = w.heap.size + 1 + 1 + 1 := ⟨_, rfl⟩
  obtain ⟨W0, hW0⟩ : ∃ W0, W0 = (((w.alloc (.cells #[.bool n1, .slice B1 l1 c1, .int .i64 x1] 29)).alloc (.cells #[.bool n2, .slice B2 l2 c2, .int .i64 x2] 29)).alloc (.cells #[.bool false, .slice none 0 0, .int .i64 0] 29)).alloc (.cells #[.bool false, .slice none 0 0, .int .i64 0] 29) := ⟨_, rfl⟩
  have hL : DvdL w g1 g2 g3 g4 n1 n2 B1 B2 l1 l2 c1 c2 a b x1 x2 W0 := by
    have hb : Below w.heap.size w W0 := by rw [hW0]; exact below_al (below_al (below_al (below_al (Below.refl _ _) _) _) _) _
    refine ⟨hb, ?_, ?_, ?_, ?_, hr1.below hb, hr2.below hb⟩
    · rw [hW0, hg1]; exact (((Blk.new w _ _).alloc _).alloc _).alloc _
    · rw [hW0, hg2]
      have := Blk.new (w.alloc (.cells #[.bool n1, .slice B1 l1 c1, .int .i64 x1] 29)) 29 #[.bool n2, .slice B2 l2 c2, .int .i64 x2]
      exact (Blk.alloc (by simpa using this) _).alloc _
    · rw [hW0, hg3]
      have := Blk.new ((w.alloc (.cells #[.bool n1, .slice B1 l1 c1, .int .i64 x1] 29)).alloc (.cells #[.bool n2, .slice B2 l2 c2, .int .i64 x2] 29)) 29 #[.bool false, .slice none 0 0, .int .i64 0]
      exact Blk.alloc (by simpa using this) _
    · rw [hW0, hg4]
      have := Blk.new (((w.alloc (.cells #[.bool n1, .slice B1 l1 c1, .int .i64 x1] 29)).alloc (.cells #[.bool n2, .slice B2 l2 c2, .int .i64 x2] 29)).alloc (.cells #[.bool false, .slice none 0 0, .int .i64 0] 29)) 29 #[.bool false, .slice none 0 0, .int .i64 0]
      simpa using this
  have hif : (if x2 < x1 then x2 else x1) = m := by split <;> omega
  have hmn : min x1 x2 = m := by omega
  have HS := hide hL
  have HG := hide (show g3 ≠ g4 ∧ g1 ≠ g3 ∧ g2 ≠ g3 ∧ g1 ≠ g4 ∧ g2 ≠ g4 ∧ w.heap.size ≤ g3 ∧ w.heap.size ≤ g4 by omega)
  have ConW1 : Hid (∀ W, RdG .i64 W (.slice B1 l1 c1) (digs 65536 a) → Calls Tryz.prog 33 #[.agg #[.bool n1, .slice B1 l1 c1, .int .i64 x1], .int .i64 m] W (NewI W (digs 65536 (a * 10 ^ sa)))) := fun W h => by rw [hx1]; exact widened_any n1 B1 l1 c1 a sa m W h (by omega) hsa hm hm2
  have ConW2 : Hid (∀ W, RdG .i64 W (.slice B2 l2 c2) (digs 65536 b) → Calls Tryz.prog 33 #[.agg #[.bool n2, .slice B2 l2 c2, .int .i64 x2], .int .i64 m] W (NewI W (digs 65536 (b * 10 ^ sb)))) := fun W h => by rw [hx2]; exact widened_any n2 B2 l2 c2 b sb m W h (by omega) hsb hm hm2
  have hA := wide_few (a := a) (s := sa) (by have := RdG.len hr1; omega) hsa
  have hB := wide_few (a := b) (s := sb) (by have := RdG.len hr2; omega) hsb
  have hb0' : 0 < b * 10 ^ sb := Nat.mul_pos hb0 (Nat.pow_pos (by omega))
  have ConD : Hid (∀ W R4 d4 R5 d5, RdG .i64 W (.slice R4 (digs 65536 (a * 10 ^ sa)).length d4) (digs 65536 (a * 10 ^ sa)) → RdG .i64 W (.slice R5 (digs 65536 (b * 10 ^ sb)).length d5) (digs 65536 (b * 10 ^ sb)) → Calls Tryz.prog 43 #[.slice R4 (digs 65536 (a * 10 ^ sa)).length d4, .slice R5 (digs 65536 (b * 10 ^ sb)).length d5] W (DmP W (a * 10 ^ sa) (b * 10 ^ sb))) := fun W R4 d4 R5 d5 h4 h5 =>
    sdivmod_any R4 R5 _ _ d4 d5 _ _ W h4 h5 hA hb0' hB
  unfold DmP at ConD
  clear hL hr1 hr2 hA hB hz hx1 hx2 hb0 hb0'
  obtain ⟨qq, hqq⟩ : ∃ q, q = a * 10 ^ sa / (b * 10 ^ sb) := ⟨_, rfl⟩
  rw [← hqq] at ConD ⊢
  clear hqq
  go_enter Tryz.func23, Tryz.ntmps23
  go_wp2_with fail
  rw [← hW0, ← hg4, ← hg3, ← hg2, ← hg1]
  clear hW0 hg1 hg2 hg3 hg4
  go_region_held3 (fun W => (W.cell? ⟨g1, 0, none⟩ = some (.bool n1) ∧ W.cell? ⟨g1, 1, none⟩ = some (.slice B1 l1 c1) ∧ W.cell? ⟨g1, 2, none⟩ = some (.int .i64 x1)) ∧ (W.cell? ⟨g2, 0, none⟩ = some (.bool n2) ∧ W.cell? ⟨g2, 1, none⟩ = some (.slice B2 l2 c2) ∧ W.cell? ⟨g2, 2, none⟩ = some (.int .i64 x2))) (first | exact HS.out.cells | go_keep)
    (first
      | (go_at_call_of 33 (Value.slice B1 l1 c1); go_loud (refine (ConW1.out _ ?_).mono ?_; exact HS.out.r1; rintro e4 w4 ⟨R4, d4, rfl, ho4, hb4⟩; have HS := hide (HS.out.next hb4.os hb4.tape hb4.output hb4.size hb4.block); have H4 : Hid (∀ W, Below w4.heap.size w4 W → RdG .i64 W (.slice R4 (digs 65536 (a * 10 ^ sa)).length d4) (digs 65536 (a * 10 ^ sa))) := fun W hW => (OwnG.rd ho4).below hW; clear ho4 hb4))
      | (go_at_call_of 33 (Value.slice B2 l2 c2); go_loud (refine (ConW2.out _ ?_).mono ?_; exact HS.out.r2; rintro e5 w5 ⟨R5, d5, rfl, ho5, hb5⟩; have HS := hide (HS.out.next hb5.os hb5.tape hb5.output hb5.size hb5.block); have H5 : Hid (∀ W, Below w5.heap.size w5 W → RdG .i64 W (.slice R5 (digs 65536 (b * 10 ^ sb)).length d5) (digs 65536 (b * 10 ^ sb))) := fun W hW => (OwnG.rd ho5).below hW; have H4 : Hid (∀ W, Below w5.heap.size w5 W → RdG .i64 W (.slice R4 (digs 65536 (a * 10 ^ sa)).length d4) (digs 65536 (a * 10 ^ sa))) := hide (fun W hW => H4.out W (below_next hb5 hW)); clear ho5 hb5))
      | (go_at_call 43; go_loud (refine (ConD.out w5 R4 d4 R5 d5 (H4.out _ (Below.refl _ _)) (H5.out _ (Below.refl _ _))).mono ?_; rintro e6 w6 ⟨Q, R, lq, lr, cq, cr, rfl, ho6, hr6, hb6⟩; have HS := hide (HS.out.next hb6.os hb6.tape hb6.output hb6.size hb6.block); have HQ := hide ho6; clear ho6 hr6 hb6)))
  obtain ⟨k0, k1, k2⟩ := HS.out.b3.val3
  obtain ⟨y0, y1, y2⟩ := HS.out.b4.val3
  obtain ⟨x0, -, -⟩ := HS.out.b1.val3
  obtain ⟨z0, -, -⟩ := HS.out.b2.val3
  have kf0 := HS.out.b3.frozen 0
  have kf1 := HS.out.b3.frozen 1
  have kf2 := HS.out.b3.frozen 2
  have yf0 := HS.out.b4.frozen 0
  have yf1 := HS.out.b4.frozen 1
  have yf2 := HS.out.b4.frozen 2
  obtain ⟨n34, n13, n23, n14, n24, -, -⟩ := HG.out
  clear ConW1 ConW2 ConD H4 H5 hif hmn
  go_wp2_with fail
  go_region
  obtain ⟨W7, hW7⟩ : ∃ W7, W7 = (((((w6.setCell ⟨g3, 0, none⟩ (.bool (!(n1 == n2)))).setCell ⟨g3, 1, none⟩ (.slice Q lq cq)).setCell ⟨g3, 2, none⟩ (.int .i64 0)).setCell ⟨g4, 0, none⟩ (.bool n1)).setCell ⟨g4, 1, none⟩ (.slice R lr cr)).setCell ⟨g4, 2, none⟩ (.int .i64 m) := ⟨_, rfl⟩
  have hB3 : Blk W7.drew g3 29 #[.bool (!(n1 == n2)), .slice Q lq cq, .int .i64 0] := by
    rw [hW7]
    exact ((((((HS.out.b3.set 0 _).set 1 _).set 2 _).far (p := ⟨g4, 0, none⟩) n34 _).far (p := ⟨g4, 1, none⟩) n34 _).far (p := ⟨g4, 2, none⟩) n34 _).drew
  have hB4 : Blk W7.drew g4 29 #[.bool n1, .slice R lr cr, .int .i64 m] := by
    rw [hW7]
    exact ((((((HS.out.b4.far (p := ⟨g3, 0, none⟩) (Ne.symm n34) _).far (p := ⟨g3, 1, none⟩) (Ne.symm n34) _).far (p := ⟨g3, 2, none⟩) (Ne.symm n34) _).set 0 _).set 1 _).set 2 _).drew
  have hF7 : Fr w6 W7.drew (fun k => k = g3 ∨ k = g4) := by
    rw [hW7]
    exact (((((((Fr.refl w6 (fun k => k = g3 ∨ k = g4)).setCell (p := ⟨g3, 0, none⟩) (fun _ => .inl rfl) _).setCell (p := ⟨g3, 1, none⟩) (fun _ => .inl rfl) _).setCell (p := ⟨g3, 2, none⟩) (fun _ => .inl rfl) _).setCell (p := ⟨g4, 0, none⟩) (fun _ => .inr rfl) _).setCell (p := ⟨g4, 1, none⟩) (fun _ => .inr rfl) _).setCell (p := ⟨g4, 2, none⟩) (fun _ => .inr rfl) _).drew
  have HP : Hid (DvdP w (n1 != n2) qq (.returned (.tuple #[.agg #[.bool (!(n1 == n2)), .slice Q lq cq, .int .i64 0], .agg #[.bool n1, .slice R lr cr, .int .i64 m]])) W7.drew) := by
    refine ⟨Q, R, lq, cq, lr, cr, n1, m, rfl, RdG.fr (OwnG.rd HQ.out) hF7 (fun k hk h => ?_), (Fr.step (Fr.of_below HS.out.bel (fun k => w.heap.size ≤ k)) hF7 (fun i _ hi => ?_)).below (Nat.le_refl _) (fun _ h => h)⟩
    · rcases h with h | h
      · exact OwnG.ne_blk HQ.out HS.out.b3 (by decide) k hk h
      · exact OwnG.ne_blk HQ.out HS.out.b4 (by decide) k hk h
    · rcases hi with h | h
      · rw [h]; exact HG.out.2.2.2.2.2.1
      · rw [h]; exact HG.out.2.2.2.2.2.2
  rw [← hW7]
  have HC3 := hide hB3.val3
  have HC4 := hide hB4.val3
  clear hB3 hB4 hF7 hW7 HS HQ k0 k1 k2 y0 y1 y2 x0 z0 kf0 kf1 kf2 yf0 yf1 yf2
  generalize W7.drew = W8 at *
  go_wp2
  exact bodyPost_ret (dvd_result g3 g4 _ rfl rfl _ _ _ _ _ _ _ HC3.out.1 HC3.out.2.1 HC3.out.2.2 HC4.out.1 HC4.out.2.1 HC4.out.2.2) rfl HP.out
end Go.Proofs.YtfkcobdkgjhfaaaGreatDoor

/- Walks: the reference's Digits, Figures. -/
set_option linter.unusedVariables false
set_option linter.unusedSimpArgs false
namespace Go.Proofs.YtfkcobdkgjhfaaaGreatDoor
open Go.RowKit

theorem conv_one (x : Nat) (W : World) : (convert 136 9 (.slice (some ⟨W.heap.size, 0, none⟩) 1 1)).run Tryz.prog (W.alloc (.cells #[.int .u8 (x : Int)] 5)) = .ok (.string (bstr [x])) (W.alloc (.cells #[.int .u8 (x : Int)] 5)) := by
  refine conv_text (.inr ⟨W.heap.size, 0, 1, rfl, by simp, by unfold maxLen; omega, fun i hi => ?_⟩)
  obtain rfl : i = 0 := by simpa using hi
  exact (Blk.new W 5 #[.int .u8 (x : Int)]).cell 0

theorem itRow_succ (t n : Nat) : itRow (t + 1) n = (48 + n / 10 ^ t % 10) :: itRow t n := by
  apply List.ext_getElem
  · simp [itRow_length]
  · intro i h1 h2
    cases i with
    | zero => simp [itRow]
    | succ i =>
      simp only [itRow, List.getElem_map, List.getElem_range, List.getElem_cons_succ]
      congr 4
      omega

/-- The figures so far. -/
structure SdS (w : World) (n t : Nat) (B : Option Addr) (l c : Nat) (W : World) : Prop where
  rd : RdG .i64 W (.slice B l c) (digs 65536 (n / 10 ^ t))
  bel : Below w.heap.size w W
  low : t = 0 ∨ 10 ^ (t - 1) ≤ n
theorem SdS.end_ {w W : World} {n t l c : Nat} {B : Option Addr} (h : SdS w n t B l c W) (hn : 0 < n) (hl : l = 0) : itRow t n = decB n := by
  have hd := RdG.len h.rd
  have h0 : n / 10 ^ t = 0 := by
    rcases Nat.eq_zero_or_pos (n / 10 ^ t) with h1 | h1
    · exact h1
    · have := List.length_pos_iff.2 (digs_ne_nil (b := 65536) (by omega) h1); omega
  have hlt : n < 10 ^ t := by
    rcases (Nat.div_eq_zero_iff).1 h0 with h2 | h2
    · have := Nat.pow_pos (n := t) (show 0 < 10 by omega); omega
    · exact h2
  have hp : 1 ≤ t := by
    rcases Nat.eq_zero_or_pos t with h1 | h1
    · rw [h1] at hlt; simp at hlt; omega
    · exact h1
  have h10 : 10 ^ (t - 1) ≤ n := by rcases h.low with h1 | h1; omega; exact h1
  have := digs_length_of (b := 10) (k := t - 1) (by omega) h10 (by rw [show t - 1 + 1 = t by omega]; exact hlt)
  rw [itRow_split hn hlt, this, show t - (t - 1 + 1) = 0 by omega]; rfl

/-- Behind Digits. -/
def StrP (w : World) (xs : List Nat) (e : Ending) (w' : World) : Prop := e = .returned (.string (bstr xs)) ∧ Below w.heap.size w w'

set_option maxHeartbeats 1000000 in
set_option maxRecDepth 20000 in
theorem sdigits_any (A : Option Addr) (l c n : Nat) (w : World) (hx : RdG .i64 w (.slice A l c) (digs 65536 n)) (hl : l ≤ 100000) :
    Calls Tryz.prog 44 #[.slice A l c] w (StrP w (decB n)) := by
  have hlen := RdG.len hx
  rcases Nat.eq_zero_or_pos n with rfl | hn
  · rw [digs_zero] at hlen
    obtain rfl : l = 0 := hlen
    have HF : Hid (StrP w (decB 0) (.returned (.string (bstr [48]))) w) := ⟨rfl, Below.refl _ _⟩
    clear hx
    go_enter Tryz.func44, Tryz.ntmps44
    go_wp2
    go_ret
    exact HF.out
  · have hl1 : 0 < l := by rw [hlen]; exact List.length_pos_iff.2 (digs_ne_nil (by omega) hn)
    have hln : (digs 65536 n).length ≤ 100000 := by omega
    have l0 : ((l : Int) == 0) = false := beq_eq_false_iff_ne.2 (by omega)
    have HS0 : Hid (SdS w n 0 A l c w) := ⟨by simpa using hx, Below.refl _ _, .inl rfl⟩
    clear hx hlen
    go_enter Tryz.func44, Tryz.ntmps44
    go_wp2
    go_loopw [0, 3] (fun va vo wr => ∃ (t l c : Nat) (B : Option Addr), l ≤ 100000 ∧ va = .slice B l c ∧ vo = .string (bstr (itRow t n)) ∧ Hid (SdS w n t B l c wr)) (fun _ vo _ => match vo with | .string s => figs n - s.size | _ => 0)
    case atStart => exact ⟨0, l, c, A, hl, rfl, rfl, HS0⟩
    case round =>
      obtain ⟨t, l, c, B, hl, rfl, rfl, HR⟩ := hrel
      by_cases h0 : l = 0
      · have HF : Hid (StrP w (decB n) (.returned (.string (bstr (itRow t n)))) wr) := ⟨by rw [HR.out.end_ hn h0], HR.out.bel⟩
        subst h0
        clear HR HS0 l0 hl1
        generalize bstr (itRow t n) = T at *
        go_wp2
        go_ret
        exact HF.out
      · have hlen := RdG.len HR.out.rd
        have hpos : 0 < n / 10 ^ t := by
          rcases Nat.eq_zero_or_pos (n / 10 ^ t) with h1 | h1
          · rw [h1, digs_zero] at hlen; exact absurd hlen h0
          · exact h1
        have h10 : 10 ^ t ≤ n := by
          rcases Nat.lt_or_ge n (10 ^ t) with h1 | h1
          · rw [Nat.div_eq_of_lt h1] at hpos; omega
          · exact h1
        have htf : t < figs n := by
          rw [figs, if_neg (by omega)]
          have := lt_of_digs_length (b := 10) (n := n) (k := (digs 10 n).length) (by omega) (Nat.le_refl _)
          exact (Nat.pow_lt_pow_iff_right (by omega)).1 (Nat.lt_of_le_of_lt h10 this)
        have con := byDigit_any B l c 10 (digs 65536 (n / 10 ^ t)) wr HR.out.rd hlen (by omega) (by omega) (by omega) (dig_digs (by omega) _)
        have Con := hide con
        obtain ⟨d, hd⟩ : ∃ d, d = n / 10 ^ t % 10 := ⟨_, rfl⟩
        have hd9 : d ≤ 9 := by omega
        obtain ⟨x, hx⟩ : ∃ x, x = 48 + d := ⟨_, rfl⟩
        have u8 : IntKind.u8.wrap (48 + (d : Int)) = (x : Int) := by simp [IntKind.wrap, IntKind.signed, IntKind.bits]; omega
        have a8 : 48 + (d : Int) = (x : Int) := by omega
        have u8' : IntKind.u8.wrap (x : Int) = (x : Int) := by simp [IntKind.wrap, IntKind.signed, IntKind.bits]; omega
        have hcv := fun W => conv_one x W
        have hlp : 0 < l := by omega
        have hlpi : (0 : Int) < (l : Int) := by omega
        have HT := hide (And.intro htf (And.intro h10 (And.intro hd (And.intro hx (show figs n ≤ 1000000 by rw [figs, if_neg (by omega)]; exact Nat.le_trans (figs_le hln) (by omega))))))
        clear hx con hlen hpos h10 htf HS0 h0 l0 hl1 hd
        go_wp2_with fail
        refine (Con.out).mono ?_
        rintro e w1 ⟨B1, c1, rfl, hown, hbel⟩
        rw [dval_digs (by omega)] at hown ⊢
        rw [← HT.out.2.2.1]
        have e1 : n / 10 ^ t / 10 = n / 10 ^ (t + 1) := by rw [Nat.div_div_eq_div_mul, Nat.pow_succ]
        rw [e1] at hown ⊢
        have hl1 : (digs 65536 (n / 10 ^ (t + 1))).length ≤ 100000 := by
          have h2 : n / 10 ^ (t + 1) ≤ n / 10 ^ t := by rw [← e1]; exact Nat.div_le_self _ _
          have := digs_length_mono (b := 65536) (by omega) h2
          have := RdG.len HR.out.rd
          omega
        have hrow : bstr [x] ++ bstr (itRow t n) = bstr (itRow (t + 1) n) := by rw [← bstr_append, itRow_succ, ← HT.out.2.2.1, HT.out.2.2.2.1]; rfl
        have hadd := fun W => add_text hrow (by rw [bstr_size, bstr_size, itRow_length]; have := HT.out.1; have := HT.out.2.2.2.2; simp; omega) W
        have HN : Hid (SdS w n (t + 1) B1 (digs 65536 (n / 10 ^ (t + 1))).length c1 (w1.alloc (.cells #[.int .u8 (x : Int)] 5))) :=
          ⟨hown.rd.below (below_al (Below.refl _ _) _), below_al (below_next HR.out.bel hbel) _, .inr HT.out.2.1⟩
        have HM : Hid (t < figs n) := HT.out.1
        have hc1 := hcv w1
        clear hown hbel e1 HT HR Con hcv
        generalize (digs 65536 (n / 10 ^ (t + 1))).length = l1 at *
        generalize bstr (itRow t n) = T at *
        go_wp2
        go_roundw
        case rel => exact ⟨t + 1, l1, c1, B1, hl1, rfl, rfl, HN⟩
        case measure =>
          show figs n - (bstr (itRow (t + 1) n)).size < figs n - (bstr (itRow t n)).size
          rw [bstr_size, bstr_size, itRow_length, itRow_length]; have := HM.out; omega
theorem sfigs_any (A : Option Addr) (l c n : Nat) (w : World) (hx : RdG .i64 w (.slice A l c) (digs 65536 n)) (hl : l ≤ 100000) :
    Calls Tryz.prog 24 #[.slice A l c] w fun e w' => e = .returned (.int .i64 (figs n : Int)) ∧ Below w.heap.size w w' := by
  have Con := hide (sdigits_any A l c n w hx hl)
  have hs : (bstr (decB n)).size = figs n := by rw [bstr_size, decB_length]
  clear hx
  generalize figs n = q at *
  go_enter Tryz.func24, Tryz.ntmps24
  go_wp2_with fail
  refine (Con.out).mono ?_
  rintro e w1 ⟨rfl, hb⟩
  have HB := hide hb
  clear hb Con
  generalize bstr (decB n) = T at *
  go_wp2
  go_ret
  exact ⟨rfl, HB.out⟩
end Go.Proofs.YtfkcobdkgjhfaaaGreatDoor
