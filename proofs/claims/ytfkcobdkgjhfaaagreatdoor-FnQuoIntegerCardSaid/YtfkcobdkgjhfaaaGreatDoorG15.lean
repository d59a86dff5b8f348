/- Parts of the proofs: Exp1, KnStk, KnMem, ShMath. -/
import Derived.Defers
import Derived.Lib.AppendZeros
import Derived.Test.YtfkcobdkgjhfaaaGreatDoorG9
import Derived.Test.YtfkcobdkgjhfaaaGreatDoorG11
import Derived.Test.YtfkcobdkgjhfaaaGreatDoorG14
/- Walks: the temporary stack, got and given back; what the binary power holds. -/
set_option linter.unusedVariables false
set_option linter.unusedSimpArgs false
namespace Go.Proofs.YtfkcobdkgjhfaaaGreatDoor
open Go.RowKit

theorem getStack_any (w : World) : Calls Tryz.prog 143 #[] w fun e w' => e = .returned (.pointer (some ⟨w.heap.size, 0, none⟩)) ∧ w' = w.alloc (.cells #[.pointer none] 203) := by
  go_enter Tryz.func143, Tryz.ntmps143
  go_wp2
  go_ret
  exact ⟨rfl, rfl⟩
theorem free_deferred (g : Nat) (u : FrameMode) (w : World) (h : w.cell? ⟨g, 0, none⟩ = some (.pointer none)) :
    CallsD Tryz.prog 144 #[.pointer (some ⟨g, 0, none⟩)] u w fun e u' w' => u' = u ∧ (e = .returned (.tuple #[]) ∧ w' = w) := by
  go_enter_d Tryz.func144, Tryz.ntmps144
  go_wp2
  go_end0
  exact ⟨rfl, rfl⟩
/-- Where a row may lie: in z0's block, or in a new one. -/
def Fresh (w : World) (z0 z : Value) : Prop := ∀ k, z.ownBlock = some k → z0.ownBlock = some k ∨ w.heap.size ≤ k

/-- The power so far in z; zz is room. -/
structure ExM (w : World) (base : Nat) (z0 : Value) (b e : Nat) (z zz : Value) (W : World) : Prop where
  own : Own W base z (digs 18446744073709551616 (b ^ e))
  room : ∃ m, Room W base zz m
  ap : Apart zz z
  fz : Fresh w z0 z
  fzz : Fresh w z0 zz
  fr : Fr w W (fun k => z0.ownBlock = some k)

theorem ExM.swap {w W W1 : World} {base b e e' v : Nat} {z0 z zz zz1 : Value} (h : ExM w base z0 b e z zz W) (hv : v = b ^ e') (hs : SetP W base zz (digs 18446744073709551616 v) (.returned zz1) W1) : ExM w base z0 b e' zz1 z W1 := by
  obtain ⟨A, c, he, hown, hblk, hfr⟩ := hs
  injection he with he
  subst he
  rw [hv] at hown hblk
  have hz1 : Own W1 base z (digs 18446744073709551616 (b ^ e)) := h.own.fr hfr (fun k hk hzz => h.ap k hzz hk)
  rw [hv]
  refine ⟨hown, ⟨_, hz1.room⟩, ?_, ?_, h.fz, Fr.step h.fr hfr (fun i hi hzz => (h.fzz i hzz).elim id (fun hge => by omega))⟩
  · intro k hk h2
    rcases hblk with h3 | ⟨j, h3, h4⟩
    · exact h.ap k (h3.symm.trans h2) hk
    · rw [h2] at h3
      have e : k = j := by injection h3
      have := (h.own.lt hk).2
      omega
  · intro k hk
    rcases hblk with h3 | ⟨j, h3, h4⟩
    · exact h.fzz k (h3.symm.trans hk)
    · rw [hk] at h3
      have e : k = j := by injection h3
      exact .inr (by have := h.fr.size; omega)

theorem ExM.x {w W : World} {base b e bx : Nat} {z0 z zz x : Value} {xs : List Nat} (h : ExM w base z0 b e z zz W) (hx : Own w bx x xs) (ha : Apart z0 x) : Own W bx x xs ∧ Apart z x ∧ Apart zz x := by
  have hl : ∀ k, x.ownBlock = some k → k < w.heap.size := fun k hk => (hx.lt hk).2
  refine ⟨hx.fr h.fr (fun k hk hz => ha k hz hk), fun k hk hxk => ?_, fun k hk hxk => ?_⟩
  · rcases h.fz k hk with h1 | h1
    · exact ha k h1 hxk
    · have := hl k hxk; omega
  · rcases h.fzz k hk with h1 | h1
    · exact ha k h1 hxk
    · have := hl k hxk; omega

/-- The numbers: e so far, t to come in r bits, v its bits from the top. -/
structure ExN (n r e t v : Nat) : Prop where
  num : n = e * 2 ^ r + t
  tl : t < 2 ^ r
  vv : v = t * 2 ^ (64 - r)
  e1 : 1 ≤ e

theorem ExN.round {n r e t v : Nat} (h : ExN n (r + 1) e t v) (hr : r < 64) :
    v < 18446744073709551616 ∧ 2 * e ≤ n ∧ ((9223372036854775808 ≤ v ∧ ∃ t', ExN n r (2 * e + 1) t' (v * 2 % 18446744073709551616)) ∨ (v < 9223372036854775808 ∧ ∃ t', ExN n r (2 * e) t' (v * 2 % 18446744073709551616))) := by
  obtain ⟨h1, h2⟩ := exp_round (v := v) hr h.num h.tl (by rw [h.vv, show 64 - (r + 1) = 63 - r by omega])
  refine ⟨h1, ?_, ?_⟩
  · have h3 := h.num
    have h4 : 1 ≤ 2 ^ r := Nat.one_le_two_pow
    have h5 : e * 2 ≤ e * 2 ^ (r + 1) := Nat.mul_le_mul_left e (by rw [Nat.pow_succ]; omega)
    omega
  · have := h.e1
    rcases h2 with ⟨a, t', b1, b2, b3⟩ | ⟨a, t', b1, b2, b3⟩
    · exact .inl ⟨a, t', ⟨b1, b2, b3, by omega⟩⟩
    · exact .inr ⟨a, t', ⟨b1, b2, b3, by omega⟩⟩

theorem digs_pow_len {b e n k : Nat} (hb : 1 ≤ b) (hen : e ≤ n) (h : b ^ n < 18446744073709551616 ^ k) : (digs 18446744073709551616 (b ^ e)).length ≤ k :=
  digs_length_le (by omega) (Nat.lt_of_le_of_lt (Nat.pow_le_pow_right hb hen) h)

theorem and_top (v : Nat) (hv : v < 18446744073709551616) : bits .and .u64 (v : Int) 9223372036854775808 = if 9223372036854775808 ≤ v then 9223372036854775808 else 0 := by
  rw [show (9223372036854775808 : Int) = ((9223372036854775808 : Nat) : Int) from rfl, u64_and_nat v 9223372036854775808 hv (by omega)]
  have hb : v.testBit 63 = decide (9223372036854775808 ≤ v) := by
    rw [Nat.testBit_eq_decide_div_mod_eq]
    by_cases hc : 9223372036854775808 ≤ v
    · rw [decide_eq_true hc, decide_eq_true (by omega)]
    · rw [decide_eq_false hc, decide_eq_false (by omega)]
  have h : v &&& 2 ^ 63 = if 9223372036854775808 ≤ v then 2 ^ 63 else 0 := by
    apply Nat.eq_of_testBit_eq
    intro i
    rw [Nat.testBit_and, Nat.testBit_two_pow]
    by_cases hc : 9223372036854775808 ≤ v
    · rw [if_pos hc, Nat.testBit_two_pow]
      by_cases hi : 63 = i
      · subst hi; rw [hb, decide_eq_true hc]; rfl
      · rw [decide_eq_false hi, Bool.and_false]
    · rw [if_neg hc, Nat.zero_testBit]
      by_cases hi : 63 = i
      · subst hi; rw [hb, decide_eq_false hc]; rfl
      · rw [decide_eq_false hi, Bool.and_false]
  have h2 : v &&& 9223372036854775808 = if 9223372036854775808 ≤ v then 9223372036854775808 else 0 := h
  rw [h2]
  split <;> rfl
end Go.Proofs.YtfkcobdkgjhfaaaGreatDoor

/- Walks: the temporary stack without its inner part: save, restore, rows of four words at most. -/
set_option linter.unusedVariables false
set_option linter.unusedSimpArgs false
namespace Go.Proofs.YtfkcobdkgjhfaaaGreatDoor
open Go.RowKit

theorem save_nil (g : Nat) (w : World) (h : w.cell? ⟨g, 0, none⟩ = some (.pointer none)) :
    Calls Tryz.prog 168 #[.pointer (some ⟨g, 0, none⟩)] w fun e w' => e = .returned (.int .i64 0) ∧ w = w' := by
  go_enter Tryz.func168, Tryz.ntmps168
  go_wp2
  go_ret
  exact ⟨rfl, rfl⟩
theorem restore_deferred (g : Nat) (u : FrameMode) (w : World) (h : w.cell? ⟨g, 0, none⟩ = some (.pointer none)) :
    CallsD Tryz.prog 167 #[.pointer (some ⟨g, 0, none⟩), .int .i64 0] u w fun e u' w' => u' = u ∧ (e = .returned (.tuple #[]) ∧ w' = w) := by
  go_enter_d Tryz.func167, Tryz.ntmps167
  go_wp2
  exact bodyPost_ret (results_none rfl _ _ _) rfl ⟨rfl, rfl⟩
/-- A new row of the call's own, of n words. -/
def NewRow (w : World) (n : Nat) (e : Ending) (w' : World) : Prop :=
  ∃ (g cap : Nat) (cur : Array Value), e = .returned (.slice (some ⟨g, 0, none⟩) n cap) ∧ w.heap.size ≤ g ∧ Blk w' g 145 cur ∧ n ≤ cap ∧ cap ≤ maxLen ∧ cur.size = cap ∧ Below w.heap.size w w'

set_option maxHeartbeats 1000000 in
set_option maxRecDepth 20000 in
theorem grow_nil (n : Nat) (w : World) (h1 : 1 ≤ n) (h4 : n ≤ 1000) :
    Calls Tryz.prog 197 #[.slice none 0 0, .int .i64 (n : Int)] w fun e w' => ∃ (g cap : Nat) (cur : Array Value), e = .returned (.slice (some ⟨g, 0, none⟩) 0 cap) ∧ w.heap.size ≤ g ∧ Blk w' g 145 cur ∧ n ≤ cap ∧ cap ≤ maxLen ∧ cur.size = cap ∧ Below w.heap.size w w' := by
  obtain ⟨i0, hi, hz0, hz1, hz2⟩ := info_parts infoWord
  have happ := Lib.run_append_nil_zeros (P := Tryz.prog) w 65 3 65 145 i0 (.int .u64 0) .i64 .i64 Tryz.underlying65 Tryz.underlying3 hi hz0 n (by omega) (by omega) (by omega) (by rw [hz2]; omega)
  have hcap : n ≤ grownCap w n 0 145 := grownCap_ge w n 0 145
  have hcap2 : grownCap w n 0 145 ≤ maxLen := grownCap_le_maxLen w n 0 145 (by simp only [maxLen]; omega)
  generalize grownCap w n 0 145 = cap at happ hcap hcap2
  obtain ⟨Z, hZ⟩ : ∃ Z, Z = Builtin.zeroCells (Value.int .u64 0).cells n ++ Builtin.zeroCells (Value.int .u64 0).cells (cap - n) := ⟨_, rfl⟩
  rw [← hZ] at happ
  have hZs : Z.size = cap := by rw [hZ]; simp [size_zeroCells, Value.cells]; omega
  have HF : Hid (∃ (g cap' : Nat) (cur : Array Value), Ending.returned (.slice (some ⟨w.heap.size, 0, none⟩) 0 cap) = .returned (.slice (some ⟨g, 0, none⟩) 0 cap') ∧ w.heap.size ≤ g ∧ Blk (w.drew.alloc (.cells Z 145)) g 145 cur ∧ n ≤ cap' ∧ cap' ≤ maxLen ∧ cur.size = cap' ∧ Below w.heap.size w (w.drew.alloc (.cells Z 145))) :=
    ⟨w.heap.size, cap, Z, rfl, Nat.le_refl _, Blk.new w.drew _ _, hcap, hcap2, hZs, (Below.mk rfl rfl rfl (Nat.le_refl _) (fun _ _ => rfl) : Below w.heap.size w w.drew).alloc (Nat.le_refl _) _⟩
  have hn0 : (0 : Int) < (n : Int) := by omega
  have hn1 : 0 < n := by omega
  have hc0 : 0 ≤ cap := Nat.zero_le _
  have HA := hide happ
  clear hi hz0 hz1 hz2 hZ hZs happ
  go_enter Tryz.func197, Tryz.ntmps197
  go_wp2_with (at_builtin; refine Lib.wpList_append_run _ rfl _ _ _ _ rfl _ _ rfl rfl _ _ HA.out ?_)
  go_ret
  exact HF.out

set_option maxRecDepth 20000 in
theorem snat_few (gs n : Nat) (w : World) (hs : w.cell? ⟨gs, 0, none⟩ = some (.pointer none)) (h1 : 1 ≤ n) (h4 : n ≤ 4) :
    Calls Tryz.prog 170 #[.pointer (some ⟨gs, 0, none⟩), .int .i64 (n : Int)] w (NewRow w n) := by
  have Con := hide (grow_nil n w h1 (by omega))
  have q1 : (n : Int) ≤ 4 := by omega
  have q2 : n ≤ 4 := h4
  have q3 : 0 < n := h1
  have hcapI : ∀ cap : Nat, n ≤ cap → (n : Int) ≤ (cap : Int) := fun _ h => by omega
  go_enter Tryz.func170, Tryz.ntmps170
  go_wp2_with fail
  refine (Con.out).mono ?_
  rintro e w1 ⟨g, cap, cur, rfl, hg, hB, hn, hm, hs1, hb⟩
  have c0 : ∃ u, w1.cell? ⟨g, 0, none⟩ = some u := ⟨_, (hB.cell 0).trans (Array.getElem?_eq_getElem (by omega))⟩
  obtain ⟨u, c0⟩ := c0
  have f0 := hB.frozen 0
  have hF := (Fr.refl w1 (fun k => k = g)).setCell (p := ⟨g, 0, none⟩) (fun _ => rfl) (.int .u64 11259375)
  have HE : Hid (NewRow w n (.returned (.slice (some ⟨g, 0, none⟩) n cap)) (w1.setCell ⟨g, 0, none⟩ (.int .u64 11259375))) :=
    ⟨g, cap, _, rfl, hg, hB.set 0 _, hn, hm, by simpa using hs1, (Fr.step (Fr.of_below hb (fun k => w.heap.size ≤ k)) hF (fun i _ hi => by subst hi; exact hg)).below (Nat.le_refl _) (fun _ h => h)⟩
  clear hB hs1 hb hF Con hs hcapI
  go_wp2
  go_ret
  exact HE.out
end Go.Proofs.YtfkcobdkgjhfaaaGreatDoor

/- What a round of the division by several words holds in memory, and what its calls leave. -/
set_option linter.unusedVariables false
set_option linter.unusedSimpArgs false
namespace Go.Proofs.YtfkcobdkgjhfaaaGreatDoor
open Go.RowKit

theorem rd_part {w : World} {g o c n : Nat} {P S : List Value} {xs : List Nat} (h : Blk w g 145 (P ++ wv xs ++ S).toArray) (ho : o = P.length) (hn : n = xs.length) (hc : n ≤ c) (hm : c ≤ maxLen) : RdW w (.slice (some ⟨g, o, none⟩) n c) xs := by
  subst hn
  refine .inr ⟨g, o, c, rfl, hc, hm, WordsAt.of_blk h (fun i hi => ?_)⟩
  subst ho
  rw [List.getElem?_toArray, List.append_assoc, List.getElem?_append_right (by omega), Nat.add_sub_cancel_left, List.getElem?_append_left (by rw [wv_length]; exact hi), wv_at, List.getElem?_eq_getElem hi, getD_at hi]
  rfl
theorem wv_set (xs : List Nat) (i x : Nat) : wv (xs.set i x) = (wv xs).set i (.int .u64 (x : Int)) := by simp [wv]

/-- The rows of a round. -/
structure KnW (w : World) (gu gv gq gh n cv : Nat) (vs : List Nat) (Su Sq Sh qa : List Value) (k : Nat) (us qk : List Nat) (hl : List Value) (W : World) : Prop where
  u : Blk W gu 145 (wv us ++ Su).toArray
  q : Blk W gq 145 (qa.take k ++ wv qk ++ Sq).toArray
  h : Blk W gh 145 (hl ++ Sh).toArray
  v : RdW W (.slice (some ⟨gv, 0, none⟩) n cv) vs
  fr : Fr w W (fun k => k = gu ∨ k = gq ∨ w.heap.size ≤ k)

section
variable {w : World} {gu gv gq gh n cv : Nat} {vs : List Nat} {Su Sq Sh qa : List Value} {k : Nat} {us qk : List Nat} {hl : List Value} {W : World}

/-- The rows lie apart. -/
structure KnA (w : World) (gu gv gq gh : Nat) : Prop where
  uq : gu ≠ gq
  uv : gu ≠ gv
  qv : gq ≠ gv
  h : w.heap.size ≤ gh
  u : gu < w.heap.size
  v : gv < w.heap.size
  q : gq < w.heap.size

theorem KnW.below (h : KnW w gu gv gq gh n cv vs Su Sq Sh qa k us qk hl W) {W' : World} (hb : Below W.heap.size W W') : KnW w gu gv gq gh n cv vs Su Sq Sh qa k us qk hl W' :=
  ⟨h.u.below hb, h.q.below hb, h.h.below hb, RdG.below (k := .u64) h.v hb, Fr.step h.fr (Fr.of_below hb (fun _ => False)) (fun _ _ h => h.elim)⟩
theorem KnW.drew (h : KnW w gu gv gq gh n cv vs Su Sq Sh qa k us qk hl W) : KnW w gu gv gq gh n cv vs Su Sq Sh qa k us qk hl W.drew := ⟨h.u, h.q, h.h, h.v, h.fr.drew⟩
theorem KnW.ucell (h : KnW w gu gv gq gh n cv vs Su Sq Sh qa k us qk hl W) {i : Nat} (hi : i < us.length) : W.cell? ⟨gu, i, none⟩ = some (.int .u64 (us.getD i 0 : Nat)) := by
  rw [h.u.cell, List.getElem?_toArray, List.getElem?_append_left (by rw [wv_length]; exact hi), wv_at, List.getElem?_eq_getElem hi, getD_at hi]
  rfl
theorem KnW.vcell (h : KnW w gu gv gq gh n cv vs Su Sq Sh qa k us qk hl W) {i : Nat} (hi : i < vs.length) : W.cell? ⟨gv, i, none⟩ = some (.int .u64 (vs.getD i 0 : Nat)) := by
  obtain ⟨g, o, e1, _, e2⟩ := RdG.at_ (k := .u64) h.v i hi
  injection e1 with e1
  injection e1 with e3 e4
  subst e3 e4
  rw [Nat.zero_add] at e2
  exact e2

theorem KnW.mav (h : KnW w gu gv gq gh n cv vs Su Sq Sh qa k us qk hl W) (ha : KnA w gu gv gq gh) (hv : vs.length = n) (hdv : Dig 18446744073709551616 vs) (hn : n ≤ 1000) (hll : hl.length = n + 1) (c1 qh : Nat) (hc1 : n ≤ c1) (hq : qh < 18446744073709551616) :
    Calls Tryz.prog 202 #[.slice (some ⟨gh, 0, none⟩) n c1, .slice (some ⟨gv, 0, none⟩) n cv, .int .u64 (qh : Int), .int .u64 0] W fun e W' => ∃ c : Nat, e = .returned (.int .u64 (c : Int)) ∧ Hid (c = (amul 18446744073709551616 qh (List.replicate n 0) vs 0).2) ∧
      KnW w gu gv gq gh n cv vs Su Sq Sh qa k us qk (wv (amul 18446744073709551616 qh (List.replicate n 0) vs 0).1 ++ hl.drop n) W' := by
  have hB : Blk W gh 145 ([] ++ hl.take n ++ (hl.drop n ++ Sh)).toArray := by
    have e : [] ++ hl.take n ++ (hl.drop n ++ Sh) = hl ++ Sh := by rw [List.nil_append, ← List.append_assoc, List.take_append_drop]
    rw [e]; exact h.h
  have con := mav_any gh 0 n c1 0 qh [] (hl.drop n ++ Sh) (hl.take n) (some ⟨gv, 0, none⟩) cv vs W hB rfl (by rw [List.length_take, hll, hv]; omega) hv.symm (by omega) hc1 (.inl ⟨h.v, fun k hk => by have hk' : gv = k := (by injection hk); have := ha.h; have := ha.v; omega⟩) (by omega) hq hdv
  have hx : ((0 : Nat) : Int) = 0 := rfl
  rw [hx] at con
  refine con.mono ?_
  rintro e W' ⟨c, rfl, hc, hB', hF⟩
  refine ⟨c, rfl, hc, h.u.fr hF (fun e => by have := ha.h; have := ha.u; omega), h.q.fr hF (fun e => by have := ha.h; have := ha.q; omega), ?_, h.v.fr hF (fun k hk e => by have hk' : gv = k := (by injection hk); have := ha.h; have := ha.v; omega), Fr.step h.fr hF (fun i hi e => by have := ha.h; omega)⟩
  simpa [List.append_assoc] using hB'

theorem KnW.seth (h : KnW w gu gv gq gh n cv vs Su Sq Sh qa k us qk hl W) (ha : KnA w gu gv gq gh) (v : Value) {i : Nat} (hi : i < hl.length) : (∃ u, W.cell? ⟨gh, i, none⟩ = some u) ∧ W.frozen? ⟨gh, i, none⟩ = false ∧ KnW w gu gv gq gh n cv vs Su Sq Sh qa k us qk (hl.set i v) (W.setCell ⟨gh, i, none⟩ v) := by
  have hF := (Fr.refl W (fun k => k = gh)).setCell (p := ⟨gh, i, none⟩) (fun _ => rfl) v
  refine ⟨⟨_, (h.h.cell i).trans (by rw [List.getElem?_toArray, List.getElem?_append_left hi, List.getElem?_eq_getElem hi])⟩, h.h.frozen _, h.u.fr hF (fun e => by have := ha.h; have := ha.u; omega), h.q.fr hF (fun e => by have := ha.h; have := ha.q; omega), ?_, h.v.fr hF (fun k hk e => by have hk' : gv = k := (by injection hk); have := ha.h; have := ha.v; omega), Fr.step h.fr hF (fun i hi e => by have := ha.h; omega)⟩
  have := h.h.set i v
  rwa [List.setIfInBounds_toArray, List.set_append_left _ _ hi] at this

theorem KnW.setu (h : KnW w gu gv gq gh n cv vs Su Sq Sh qa k us qk hl W) (ha : KnA w gu gv gq gh) (x : Nat) {i : Nat} (hi : i < us.length) : W.frozen? ⟨gu, i, none⟩ = false ∧ KnW w gu gv gq gh n cv vs Su Sq Sh qa k (us.set i x) qk hl (W.setCell ⟨gu, i, none⟩ (.int .u64 (x : Int))) := by
  have hF := (Fr.refl W (fun k => k = gu)).setCell (p := ⟨gu, i, none⟩) (fun _ => rfl) (.int .u64 (x : Int))
  refine ⟨h.u.frozen _, ?_, h.q.fr hF (fun e => ha.uq e.symm), h.h.fr hF (fun e => by have := ha.h; have := ha.u; omega), h.v.fr hF (fun k hk e => by have hk' : gv = k := (by injection hk); exact ha.uv (by omega)), Fr.step h.fr hF (fun i hi e => .inl e)⟩
  have := h.u.set i (.int .u64 (x : Int))
  rwa [List.setIfInBounds_toArray, List.set_append_left _ _ (by rw [wv_length]; exact hi), ← wv_set] at this

theorem KnW.setq {j : Nat} (h : KnW w gu gv gq gh n cv vs Su Sq Sh qa (j + 1) us qk hl W) (ha : KnA w gu gv gq gh) (x : Nat) (hj : j < qa.length) : (∃ u, W.cell? ⟨gq, j, none⟩ = some u) ∧ W.frozen? ⟨gq, j, none⟩ = false ∧ KnW w gu gv gq gh n cv vs Su Sq Sh qa j us (x :: qk) hl (W.setCell ⟨gq, j, none⟩ (.int .u64 (x : Int))) := by
  have hF := (Fr.refl W (fun k => k = gq)).setCell (p := ⟨gq, j, none⟩) (fun _ => rfl) (.int .u64 (x : Int))
  have hB := h.q
  rw [List.take_succ_eq_append_getElem hj, List.append_assoc, List.append_assoc, List.singleton_append] at hB
  obtain ⟨h1, h2, h3⟩ := hB.part (i := j) (by rw [List.length_take]; omega)
  refine ⟨⟨_, h1⟩, h2, h.u.fr hF (fun e => ha.uq e), ?_, h.h.fr hF (fun e => by have := ha.h; have := ha.q; omega), h.v.fr hF (fun k hk e => by have hk' : gv = k := (by injection hk); exact ha.qv (by omega)), Fr.step h.fr hF (fun i hi e => .inr (.inl e))⟩
  have := h3 (.int .u64 (x : Int))
  rw [wv_cons]
  simpa [List.append_assoc] using this

theorem KnW.sub (h : KnW w gu gv gq gh n cv vs Su Sq Sh qa k us qk hl W) (ha : KnA w gu gv gq gh) (j l c1 c2 ch : Nat) (xs : List Nat) (hx : RdW W (.slice (some ⟨gh, 0, none⟩) l ch) xs) (hl1 : l = xs.length) (hl2 : j + l ≤ us.length) (hlb : l ≤ 1000) (hc1 : l ≤ c1) (hc2 : l ≤ c2) :
    Calls Tryz.prog 203 #[.slice (some ⟨gu, j, none⟩) l c1, .slice (some ⟨gu, j, none⟩) l c2, .slice (some ⟨gh, 0, none⟩) l ch] W fun e W' => ∃ q : Nat, e = .returned (.int .u64 (q : Int)) ∧ Hid (q = (subL 18446744073709551616 ((us.drop j).take l) xs 0).2) ∧
      KnW w gu gv gq gh n cv vs Su Sq Sh qa k (us.take j ++ (subL 18446744073709551616 ((us.drop j).take l) xs 0).1 ++ us.drop (j + l)) qk hl W' := by
  have hB : Blk W gu 145 (wv (us.take j) ++ wv ((us.drop j).take l) ++ (wv (us.drop (j + l)) ++ Su)).toArray := by
    have e : us = us.take j ++ ((us.drop j).take l ++ us.drop (j + l)) := by rw [← List.drop_drop, List.take_append_drop, List.take_append_drop]
    have := h.u
    rw [e] at this
    simpa [wv_append, List.append_assoc] using this
  have con := subvv_any gu j l c1 c2 (wv (us.take j)) (wv (us.drop (j + l)) ++ Su) (some ⟨gh, 0, none⟩) ch ((us.drop j).take l) xs W hB (by rw [wv_length, List.length_take]; omega) (by rw [List.length_take, List.length_drop]; omega) hl1 (by omega) hc1 hc2 hx (fun k hk e => by have hk' : gh = k := (by injection hk); have := ha.h; have := ha.u; omega)
  refine con.mono ?_
  rintro e W' ⟨q, rfl, hq, hB', hF⟩
  refine ⟨q, rfl, hq, ?_, h.q.fr hF (fun e => ha.uq e.symm), h.h.fr hF (fun e => by have := ha.h; have := ha.u; omega), h.v.fr hF (fun k hk e => by have hk' : gv = k := (by injection hk); exact ha.uv (by omega)), Fr.step h.fr hF (fun i hi e => .inl e)⟩
  rw [wv_append, wv_append]
  simpa [List.append_assoc] using hB'

theorem KnW.add (h : KnW w gu gv gq gh n cv vs Su Sq Sh qa k us qk hl W) (ha : KnA w gu gv gq gh) (hv : vs.length = n) (hdv : Dig 18446744073709551616 vs) (hdu : Dig 18446744073709551616 us) (j c1 c2 : Nat) (hl2 : j + n ≤ us.length) (hlb : n ≤ 1000) (hc1 : n ≤ c1) (hc2 : n ≤ c2) :
    Calls Tryz.prog 204 #[.slice (some ⟨gu, j, none⟩) n c1, .slice (some ⟨gu, j, none⟩) n c2, .slice (some ⟨gv, 0, none⟩) n cv] W fun e W' => ∃ q : Nat, e = .returned (.int .u64 (q : Int)) ∧ Hid (q = (amul 18446744073709551616 1 ((us.drop j).take n) vs 0).2) ∧
      KnW w gu gv gq gh n cv vs Su Sq Sh qa k (us.take j ++ (amul 18446744073709551616 1 ((us.drop j).take n) vs 0).1 ++ us.drop (j + n)) qk hl W' := by
  have hB : Blk W gu 145 (wv (us.take j) ++ wv ((us.drop j).take n) ++ (wv (us.drop (j + n)) ++ Su)).toArray := by
    have e : us = us.take j ++ ((us.drop j).take n ++ us.drop (j + n)) := by rw [← List.drop_drop, List.take_append_drop, List.take_append_drop]
    have := h.u
    rw [e] at this
    simpa [wv_append, List.append_assoc] using this
  have con := addvv_any gu j n c1 c2 (wv (us.take j)) (wv (us.drop (j + n)) ++ Su) (some ⟨gv, 0, none⟩) cv ((us.drop j).take n) vs W hB (by rw [wv_length, List.length_take]; omega) (by rw [List.length_take, List.length_drop]; omega) hv.symm (by omega) hc1 hc2 h.v (fun k hk e => by have hk' : gv = k := (by injection hk); exact ha.uv (by omega)) (dig_take (dig_drop hdu _) _) hdv
  refine con.mono ?_
  rintro e W' ⟨q, rfl, hq, hB', hF⟩
  refine ⟨q, rfl, hq, ?_, h.q.fr hF (fun e => ha.uq e.symm), h.h.fr hF (fun e => by have := ha.h; have := ha.u; omega), h.v.fr hF (fun k hk e => by have hk' : gv = k := (by injection hk); exact ha.uv (by omega)), Fr.step h.fr hF (fun i hi e => .inl e)⟩
  rw [wv_append, wv_append]
  simpa [List.append_assoc] using hB'
end

theorem gt_any (x1 x2 y1 y2 : Nat) (hx2 : x2 < 18446744073709551616) (hy2 : y2 < 18446744073709551616) (w : World) :
    Calls Tryz.prog 201 #[.int .u64 (x1 : Int), .int .u64 (x2 : Int), .int .u64 (y1 : Int), .int .u64 (y2 : Int)] w fun e w' => e = .returned (.bool (decide (y1 * 18446744073709551616 + y2 < x1 * 18446744073709551616 + x2))) ∧ w = w' := by
  rcases Nat.lt_trichotomy y1 x1 with h | h | h
  · have hd : decide (y1 * 18446744073709551616 + y2 < x1 * 18446744073709551616 + x2) = true := decide_eq_true (by omega)
    have q1 : decide ((y1 : Int) < (x1 : Int)) = true := decide_eq_true (by omega)
    have q2 : decide (y1 < x1) = true := decide_eq_true h
    rw [hd]
    clear hd hx2 hy2
    go_enter Tryz.func201, Tryz.ntmps201
    go_wp2
    go_ret
    exact ⟨rfl, rfl⟩
  · subst h
    have hd : decide (y1 * 18446744073709551616 + y2 < y1 * 18446744073709551616 + x2) = decide (y2 < x2) := decide_eq_decide.2 (by omega)
    rw [hd]
    clear hd hx2 hy2
    by_cases h2 : y2 < x2
    · have q3 : decide (y2 < x2) = true := decide_eq_true h2
      go_enter Tryz.func201, Tryz.ntmps201
      go_wp2
      go_ret
      exact ⟨by simp [h2], rfl⟩
    · have q3 : decide (y2 < x2) = false := decide_eq_false h2
      go_enter Tryz.func201, Tryz.ntmps201
      go_wp2
      go_ret
      exact ⟨by simp [h2], rfl⟩
  · have hd : decide (y1 * 18446744073709551616 + y2 < x1 * 18446744073709551616 + x2) = false := decide_eq_false (by omega)
    have q1 : decide ((y1 : Int) < (x1 : Int)) = false := decide_eq_false (by omega)
    have q2 : decide (y1 < x1) = false := decide_eq_false (by omega)
    have q3 : ((x1 : Int) == (y1 : Int)) = false := beq_eq_false_iff_ne.2 (by omega)
    have q4 : (x1 == y1) = false := beq_eq_false_iff_ne.2 (by omega)
    rw [hd]
    clear hd hx2 hy2
    go_enter Tryz.func201, Tryz.ntmps201
    go_wp2
    go_ret
    exact ⟨rfl, rfl⟩
end Go.Proofs.YtfkcobdkgjhfaaaGreatDoor

/- Plain: a row of words shifted by a part of a word. -/
set_option linter.unusedVariables false
set_option linter.unusedSimpArgs false
namespace Go.Proofs.YtfkcobdkgjhfaaaGreatDoor

/-- What a word hands to the next one. -/
theorem sh_carry {x s c : Nat} (hs : s ≤ 64) (hc : c < 2 ^ s) : (x * 2 ^ s + c) / 18446744073709551616 = x / 2 ^ (64 - s) := by
  have e : (18446744073709551616 : Nat) = 2 ^ s * 2 ^ (64 - s) := by rw [← Nat.pow_add, show s + (64 - s) = 64 by omega]
  rw [e, ← Nat.div_div_eq_div_mul, Nat.add_comm, Nat.add_mul_div_right _ _ (Nat.two_pow_pos s), Nat.div_eq_of_lt hc, Nat.zero_add]
theorem sh_carry_lt {x s : Nat} (hs : s ≤ 64) (hx : x < 18446744073709551616) : x / 2 ^ (64 - s) < 2 ^ s := by
  rw [Nat.div_lt_iff_lt_mul (Nat.two_pow_pos _), ← Nat.pow_add, show s + (64 - s) = 64 by omega]
  exact hx

/-- The shifted row: times 2 to the s. -/
def shv (s : Nat) (xs : List Nat) : List Nat := (amul 18446744073709551616 (2 ^ s) (List.replicate xs.length 0) xs 0).1
def shc (s : Nat) (xs : List Nat) : Nat := (amul 18446744073709551616 (2 ^ s) (List.replicate xs.length 0) xs 0).2

theorem amul_sh {s : Nat} (hs : s ≤ 64) : ∀ (xs : List Nat) (a : Nat), a < 2 ^ s → Dig 18446744073709551616 xs →
    (∀ i, i < xs.length → (amul 18446744073709551616 (2 ^ s) (List.replicate xs.length 0) xs a).1.getD i 0 = (xs.getD i 0 * 2 ^ s + (if i = 0 then a else xs.getD (i - 1) 0 / 2 ^ (64 - s))) % 18446744073709551616) ∧
      (amul 18446744073709551616 (2 ^ s) (List.replicate xs.length 0) xs a).2 = (if xs.length = 0 then a else xs.getD (xs.length - 1) 0 / 2 ^ (64 - s))
  | [], a, ha, _ => ⟨fun i h => by simp at h, by simp [amul]⟩
  | x :: r, a, ha, hd => by
    have hx := hd x (by simp)
    have hc := sh_carry (x := x) hs ha
    obtain ⟨h1, h2⟩ := amul_sh hs r (x / 2 ^ (64 - s)) (sh_carry_lt hs hx) (fun d h => hd d (by simp [h]))
    simp only [List.length_cons, List.replicate_succ, amul, Nat.zero_add, hc]
    refine ⟨fun i hi => ?_, ?_⟩
    · cases i with
      | zero => simp
      | succ i =>
        have := h1 i (by omega)
        cases i with
        | zero => simpa using this
        | succ i => simpa using this
    · rw [h2]
      cases r with
      | nil => simp
      | cons y t => simp
end Go.Proofs.YtfkcobdkgjhfaaaGreatDoor
