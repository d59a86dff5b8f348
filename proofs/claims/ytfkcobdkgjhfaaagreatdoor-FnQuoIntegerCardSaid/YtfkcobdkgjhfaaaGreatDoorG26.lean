/- Parts of the proofs: DivIn, NdMath. -/
import Derived.Test.YtfkcobdkgjhfaaaGreatDoorG1
import Derived.Test.YtfkcobdkgjhfaaaGreatDoorG5
import Derived.Test.YtfkcobdkgjhfaaaGreatDoorG25
/- Walks: a row of words divided by a word in its own place: divWVW, nat.divW. -/
set_option linter.unusedVariables false
set_option linter.unusedSimpArgs false
namespace Go.Proofs.YtfkcobdkgjhfaaaGreatDoor
open Go.RowKit

/-- What a round holds: the cells below k are x's, those from k on the quotient's. -/
structure DivIt (w : World) (g n cap k y : Nat) (xs : List Nat) (r : Nat) (W : World) : Prop where
  rest : r = (divD y (xs.drop k)).2
  blk : ∃ cur, Blk W g 145 cur ∧ cur.size = cap ∧ cur.toList.take n = wv (xs.take k ++ (divD y (xs.drop k)).1)
  fr : Fr w W (fun k => k = g)

theorem DivIt.cell {w W : World} {g n cap k y : Nat} {xs : List Nat} {r : Nat} (h : DivIt w g n cap k y xs r W) (hn : n = xs.length) {j : Nat} (hj : j < k) (hk : k ≤ n) : W.cell? ⟨g, j, none⟩ = some (.int .u64 (xs.getD j 0 : Nat)) := by
  obtain ⟨cur, hB, hs, hd⟩ := h.blk
  have hl : (xs.take k ++ (divD y (xs.drop k)).1).length = n := by simp [divD_length]; omega
  have := words_of_take (cur := cur) (xs := xs.take k ++ (divD y (xs.drop k)).1) (by rw [hl]; exact hd) j (by omega)
  rw [hB.cell j, this]
  congr 3
  rw [List.getD_eq_getElem?_getD, List.getElem?_append_left (by simp; omega), List.getElem?_take, if_pos hj, ← List.getD_eq_getElem?_getD]

theorem DivIt.step {w W W1 : World} {g n cap k y : Nat} {xs : List Nat} {r q r' : Nat} (h : DivIt w g n cap (k + 1) y xs r W) (hn : n = xs.length) (hk : k < n) (hc : n ≤ cap)
    (hq : q = (r * 18446744073709551616 + xs.getD k 0) / y ∧ r' = (r * 18446744073709551616 + xs.getD k 0) % y) (hbel : Below W.heap.size W W1) :
    (∃ u, W1.cell? ⟨g, k, none⟩ = some u) ∧ W1.frozen? ⟨g, k, none⟩ = false ∧ DivIt w g n cap k y xs r' (W1.setCell ⟨g, k, none⟩ (.int .u64 (q : Int))) := by
  obtain ⟨cur, hB, hs, hd⟩ := h.blk
  have b1 := hB.below hbel
  have hdrop : xs.drop k = xs.getD k 0 :: xs.drop (k + 1) := by
    rw [getD_at (by omega)]
    exact List.drop_eq_getElem_cons (by omega)
  have e1 : divD y (xs.drop k) = (q :: (divD y (xs.drop (k + 1))).1, r') := by
    rw [hdrop, divD, ← h.rest, hq.1, hq.2]
  refine ⟨⟨_, (b1.cell k).trans (Array.getElem?_eq_getElem (by omega))⟩, b1.frozen k, ⟨by rw [e1], ⟨_, b1.set k _, by simpa using hs, ?_⟩, ?_⟩⟩
  · rw [e1]
    simp only [Array.toList_setIfInBounds]
    rw [List.take_set, hd, List.take_succ_eq_append_getElem (by omega), List.append_assoc, wv_append, wv_append, List.set_append_right _ _ (by simp [wv_length]; omega), wv_length, List.length_take, Nat.min_eq_left (by omega), Nat.sub_self]
    simp [wv]
  · exact (Fr.step h.fr (Fr.of_below hbel (fun _ => False)) (fun _ _ h => h.elim)).setCell (p := ⟨g, k, none⟩) (fun _ => rfl) _

set_option maxHeartbeats 1000000 in
theorem divWVWi_one (base g cap x y : Nat) (cur : Array Value) (w : World) (hg : base ≤ g) (hb : Blk w g 145 cur) (hc : 1 ≤ cap) (hm : cap ≤ maxLen) (hs : cur.size = cap)
    (hx : w.cell? ⟨g, 0, none⟩ = some (.int .u64 (x : Int))) (hy0 : 0 < y) (hy : y < 18446744073709551616) (hxl : x < 18446744073709551616) :
    Calls Tryz.prog 165 #[.slice (some ⟨g, 0, none⟩) 1 cap, .int .u64 0, .slice (some ⟨g, 0, none⟩) 1 cap, .int .u64 (y : Int)] w (DivRowP w base g 1 cap y [x]) := by
  have hr : RdW w (.slice (some ⟨g, 0, none⟩) 1 cap) [x] := .inr ⟨g, 0, cap, rfl, hc, hm, fun i hi => by
    obtain rfl : i = 0 := by simpa using hi
    simpa using hx⟩
  exact divWVW_one base g cap x y _ cap cur w hg hb hc hm hs hr hy0 hy hxl

set_option maxHeartbeats 2000000 in
theorem divWVWi_many (base g n cap y : Nat) (cur : Array Value) (xs : List Nat) (w : World) (hg : base ≤ g) (hb : Blk w g 145 cur) (hn : n = xs.length) (hn2 : 2 ≤ n) (hnb : n ≤ 1099511627776) (hc : n ≤ cap) (hm : cap ≤ maxLen) (hs : cur.size = cap)
    (hx : cur.toList.take n = wv xs) (hy0 : 0 < y) (hy : y < 18446744073709551616) (hd : Dig 18446744073709551616 xs) :
    Calls Tryz.prog 165 #[.slice (some ⟨g, 0, none⟩) n cap, .int .u64 0, .slice (some ⟨g, 0, none⟩) n cap, .int .u64 (y : Int)] w (DivRowP w base g n cap y xs) := by
  have n1 : ((n : Int) == 1) = false := beq_eq_false_iff_ne.2 (by omega)
  have hst : DivIt w g n cap n y xs 0 w := ⟨by rw [hn, List.drop_length]; rfl, ⟨cur, hb, hs, by rw [hx, hn, List.drop_length, List.take_length]; simp [divD]⟩, Fr.refl _ _⟩
  have Con := hide (recip_any y w hy0 hy)
  have HS := hide hst
  have HD := hide hd
  have HN := hide hn
  clear hst hx hb hs hd hn
  go_enter Tryz.func165, Tryz.ntmps165
  go_wp2_with fail
  refine (Con.out).mono ?_
  rintro e w0 ⟨m, rfl, hmr, hbel⟩
  have HS0 : Hid (DivIt w g n cap n y xs 0 w0) := by
    obtain ⟨h1, ⟨cu, h2, h3, h4⟩, h5⟩ := HS.out
    exact ⟨h1, ⟨cu, h2.below hbel, h3, h4⟩, Fr.step h5 (Fr.of_below hbel (fun _ => False)) (fun _ _ h => h.elim)⟩
  clear HS hbel Con
  go_wp2
  go_loopw [8, 12] (fun vr vi wr => ∃ (k r : Nat), k ≤ n ∧ vi = .int .i64 ((k : Int) - 1) ∧ vr = .int .u64 (r : Int) ∧ Hid (DivIt w g n cap k y xs r wr)) (fun _ vi _ => (intOf vi + 1).toNat)
  case atStart => exact ⟨n, 0, Nat.le_refl _, by go_num, rfl, HS0⟩
  case round =>
    obtain ⟨k, r, hk, rfl, rfl, HR⟩ := hrel
    rcases Nat.eq_zero_or_pos k with rfl | hp
    · have HF : Hid (DivRowP w base g n cap y xs (.returned (.int .u64 (r : Int))) wr) := by
        obtain ⟨h1, ⟨cu, h2, h3, h4⟩, h5⟩ := HR.out
        rw [List.drop_zero] at h1 h4
        rw [List.take_zero, List.nil_append] at h4
        have hl : (divD y xs).1.length = n := by rw [divD_length, HN.out]
        refine ⟨r, rfl, h1, ?_, h5⟩
        have := Own.mk (xs := (divD y xs).1) hg h2 (by omega) hm h3 (by rw [hl]; exact h4)
        rwa [hl] at this
      clear HS0 HR
      go_wp2
      go_ret
      exact HF.out
    · obtain ⟨j, rfl⟩ : ∃ j, k = j + 1 := ⟨k - 1, by omega⟩
      have hcw : wr.cell? ⟨g, j, none⟩ = some (.int .u64 (xs.getD j 0 : Nat)) := HR.out.cell HN.out (by omega) hk
      have hxl : xs.getD j 0 < 18446744073709551616 := HD.out _ (by rw [getD_at (by have := HN.out; omega)]; exact List.getElem_mem _)
      have e1 : ((j + 1 : Nat) : Int) - 1 = (j : Int) := by omega
      have hrl : r < y := by rw [HR.out.rest]; exact divD_rest hy0 _
      have step := fun (q r' : Nat) W1 h1 h2 => HR.out.step (W1 := W1) (q := q) (r' := r') HN.out (by omega) hc h1 h2
      have Step := hide step
      have Con2 := hide (divWW_any r (xs.getD j 0) y m wr hy hxl hrl hmr.out)
      clear step HR HS0 hxl hrl
      generalize xs.getD j 0 = x at hcw Step Con2
      go_wp2_with fail
      refine (Con2.out).mono ?_
      rintro e w3 ⟨q, r', rfl, h1, h2⟩
      obtain ⟨⟨u, k1⟩, k2, HT⟩ := Step.out q r' w3 h1.out h2
      have HT2 := hide HT
      clear h1 h2 HT Con2 Step
      go_wp2
      go_roundw
      case rel => exact ⟨j, r', by omega, by go_num, rfl, HT2⟩
      case measure => simp [intOf]

theorem divWVWi_any (base g n cap y : Nat) (xs : List Nat) (w : World) (hx : Own w base (.slice (some ⟨g, 0, none⟩) n cap) xs) (hn : n = xs.length) (hn1 : 1 ≤ n) (hnb : n ≤ 1099511627776) (hy0 : 0 < y) (hy : y < 18446744073709551616) (hd : Dig 18446744073709551616 xs) :
    Calls Tryz.prog 165 #[.slice (some ⟨g, 0, none⟩) n cap, .int .u64 0, .slice (some ⟨g, 0, none⟩) n cap, .int .u64 (y : Int)] w (DivRowP w base g n cap y xs) := by
  have hw := hx.words
  rcases hx.form with ⟨h1, _⟩ | ⟨g', cap', cur, he, hg, hh, a, b, c, d⟩
  · injection h1 with h1; cases h1
  · injection he with e1 e2 e3
    injection e1 with e1
    injection e1 with e1
    subst e1 e3
    by_cases h : n = 1
    · subst h
      obtain ⟨x, rfl⟩ := List.length_eq_one_iff.1 hn.symm
      exact divWVWi_one base g cap x y cur w hg hh a b c (by have := hw 0 (by simp); simpa using this) hy0 hy (hd x (by simp))
    · rw [← hn] at a d
      exact divWVWi_many base g n cap y cur xs w hg hh hn (by omega) hnb a b c d hy0 hy hd

theorem make_in (A : Option Addr) (m n cap : Nat) (w : World) (hc : n ≤ cap) (hm : cap ≤ maxLen) :
    Calls Tryz.prog 134 #[.slice A m cap, .int .i64 (n : Int)] w fun e w' => e = .returned (.slice A n cap) ∧ w = w' := by
  unfold maxLen at hm
  go_enter Tryz.func134, Tryz.ntmps134
  go_wp2
  go_ret
  exact ⟨rfl, rfl⟩

/-- Behind 'x.divW(x, y)': the quotient in x's block, and what is left. -/
def DivIP (w : World) (base g cap y v : Nat) (e : Ending) (w' : World) : Prop :=
  e = .returned (.tuple #[.slice (some ⟨g, 0, none⟩) (digs 18446744073709551616 (v / y)).length cap, .int .u64 ((v % y : Nat) : Int)]) ∧ Own w' base (.slice (some ⟨g, 0, none⟩) (digs 18446744073709551616 (v / y)).length cap) (digs 18446744073709551616 (v / y)) ∧ Fr w w' (fun k => k = g)

set_option maxHeartbeats 2000000 in
set_option maxRecDepth 20000 in
theorem divWi_any (base g n cap y : Nat) (xs : List Nat) (w : World) (hx : Own w base (.slice (some ⟨g, 0, none⟩) n cap) xs) (hn1 : 1 ≤ n) (hnb : n ≤ 1099511627776) (hy1 : 1 < y) (hy : y < 18446744073709551616) (hd : Dig 18446744073709551616 xs) :
    Calls Tryz.prog 141 #[.slice (some ⟨g, 0, none⟩) n cap, .slice (some ⟨g, 0, none⟩) n cap, .int .u64 (y : Int)] w (DivIP w base g cap y (dval 18446744073709551616 xs)) := by
  have y0 : ((y : Int) == 0) = false := beq_eq_false_iff_ne.2 (by omega)
  have y1 : ((y : Int) == 1) = false := beq_eq_false_iff_ne.2 (by omega)
  have n0 : ((n : Int) == 0) = false := beq_eq_false_iff_ne.2 (by omega)
  obtain ⟨hn, hc1, hc2⟩ := own_caps hx
  have Con := hide (make_in (some ⟨g, 0, none⟩) n n cap w hc1 hc2)
  have Con2 := hide (divWVWi_any base g n cap y xs w hx hn hn1 hnb (by omega) hy hd)
  have HX := hide (And.intro hn (And.intro hd (And.intro hc1 hc2)))
  clear hx hd hn hc1 hc2
  go_enter Tryz.func141, Tryz.ntmps141
  go_wp2_with fail
  refine (Con.out).mono ?_
  rintro e w1 ⟨rfl, rfl⟩
  clear Con
  go_wp2_with fail
  refine (Con2.out).mono ?_
  rintro e w2 ⟨rr, rfl, hrr, hown, hfr⟩
  have hl : (divD y xs).1.length = n := by rw [divD_length, HX.out.1]
  have con3 := norm_at g 0 cap (divD y xs).1 w2 hown.words (by rw [hl]; exact HX.out.2.2.1) HX.out.2.2.2
  rw [hl] at con3
  have ht : trimz (divD y xs).1 = digs 18446744073709551616 (dval 18446744073709551616 xs / y) := by
    rw [← (divD_quo (by omega) xs).1, digs_dval_trim (by omega) (divD_dig (by omega) xs HX.out.2.1)]
  have hown3 := own_trim hown
  rw [ht] at con3 hown3
  have hrv : rr = dval 18446744073709551616 xs % y := by rw [hrr.out]; exact (divD_quo (by omega) xs).2
  have fin : DivIP w base g cap y (dval 18446744073709551616 xs) (.returned (.tuple #[.slice (some ⟨g, 0, none⟩) (digs 18446744073709551616 (dval 18446744073709551616 xs / y)).length cap, .int .u64 (rr : Int)])) w2 := by
    refine ⟨by rw [hrv], hown3, hfr⟩
  have Fin := hide fin
  have Con3 := hide con3
  clear fin hown3 hrr hrv con3 ht hown hfr Con2 HX
  generalize (digs 18446744073709551616 (dval 18446744073709551616 xs / y)).length = q at Fin Con3
  go_wp2_with fail
  refine (Con3.out).mono ?_
  rintro e w3 ⟨rfl, rfl⟩
  clear Con3
  go_wp2
  go_ret2
  exact Fin.out
end Go.Proofs.YtfkcobdkgjhfaaaGreatDoor

/- Plain: how many figures a number has; its figures as a row of bytes. -/
set_option linter.unusedVariables false
set_option linter.unusedSimpArgs false
namespace Go.Proofs.YtfkcobdkgjhfaaaGreatDoor

/-- How many figures a number has; 0 has one. -/
def figs (n : Nat) : Nat := if n = 0 then 1 else (digs 10 n).length

theorem digs_length_mono {b m n : Nat} (hb : 1 < b) (h : m ≤ n) : (digs b m).length ≤ (digs b n).length :=
  digs_length_le hb (Nat.lt_of_le_of_lt h (lt_of_digs_length hb (Nat.le_refl _)))

theorem digs_length_of {b n k : Nat} (hb : 1 < b) (h1 : b ^ k ≤ n) (h2 : n < b ^ (k + 1)) : (digs b n).length = k + 1 := by
  have a := digs_length_le hb h2
  rcases Nat.lt_or_ge k (digs b n).length with h | h
  · omega
  · have := lt_of_digs_length hb h; omega

/-- How many figures 2^(b-1) has. -/
def dl (b : Nat) : Nat := (digs 10 (2 ^ (b - 1))).length

theorem nd_same {b n : Nat} (h1 : 2 ^ (b - 1) ≤ n) (h2 : n < 2 ^ b) (he : dl (b + 1) = dl b) : (digs 10 n).length = dl b := by
  have a := digs_length_mono (b := 10) (by omega) h1
  have c := digs_length_mono (b := 10) (by omega) (Nat.le_of_lt h2)
  unfold dl at *; rw [Nat.add_sub_cancel] at he; omega

theorem nd_lo {b n : Nat} (h1 : 2 ^ (b - 1) ≤ n) (h : n < 10 ^ dl b) : (digs 10 n).length = dl b := by
  have a := digs_length_mono (b := 10) (by omega) h1
  have c := digs_length_le (b := 10) (by omega) h
  unfold dl at *; omega

theorem nd_hi {b n : Nat} (hb : 1 ≤ b) (h2 : n < 2 ^ b) (h : 10 ^ dl b ≤ n) : (digs 10 n).length = dl b + 1 := by
  refine digs_length_of (by omega) h ?_
  have h3 : 2 ^ (b - 1) < 10 ^ dl b := lt_of_digs_length (by omega) (Nat.le_refl _)
  obtain ⟨c, rfl⟩ : ∃ c, b = c + 1 := ⟨b - 1, by omega⟩
  rw [Nat.add_sub_cancel] at h3
  rw [Nat.pow_succ] at h2 ⊢
  omega

theorem getD_digs {b n : Nat} (hb : 1 < b) (p : Nat) : (digs b n).getD p 0 = n / b ^ p % b := by
  induction p generalizing n with
  | zero =>
    rcases Nat.eq_zero_or_pos n with rfl | hn
    · rw [digs_zero]; simp
    · rw [digs_pos hb hn]; simp
  | succ p ih =>
    rcases Nat.eq_zero_or_pos n with rfl | hn
    · rw [digs_zero]; simp
    · rw [digs_pos hb hn, List.getD_cons_succ, ih, Nat.div_div_eq_div_mul, Nat.pow_succ, Nat.mul_comm]

/-- The figures of a number as bytes, the highest first. -/
def decB (n : Nat) : List Nat := if n = 0 then [48] else ((digs 10 n).map (48 + ·)).reverse

theorem decB_length (n : Nat) : (decB n).length = figs n := by
  unfold decB figs; split <;> simp

/-- The figures in a row of l places, noughts ahead of them. -/
def itRow (l n : Nat) : List Nat := (List.range l).map fun i => 48 + n / 10 ^ (l - 1 - i) % 10

theorem itRow_length (l n : Nat) : (itRow l n).length = l := by simp [itRow]
theorem itRow_at {l n i : Nat} (h : i < l) : (itRow l n).getD i 0 = 48 + n / 10 ^ (l - 1 - i) % 10 := by
  rw [List.getD_eq_getElem?_getD, List.getElem?_eq_getElem (by simpa [itRow] using h)]; simp [itRow]

theorem itRow_split {l n : Nat} (hn : 0 < n) (h : n < 10 ^ l) : itRow l n = List.replicate (l - (digs 10 n).length) 48 ++ decB n := by
  have hl := digs_length_le (b := 10) (by omega) h
  apply List.ext_getElem
  · rw [itRow_length, List.length_append, List.length_replicate, decB_length, figs, if_neg (by omega)]; omega
  · intro i h1 h2
    rw [itRow_length] at h1
    have e1 : (itRow l n)[i] = 48 + n / 10 ^ (l - 1 - i) % 10 := by simp [itRow]
    rw [e1, ← getD_digs (by omega), List.getElem_append]
    split
    · rename_i h3
      rw [List.length_replicate] at h3
      rw [List.getElem_replicate, List.getD_eq_getElem?_getD, List.getElem?_eq_none (by omega)]; rfl
    · rename_i h3
      rw [List.length_replicate] at h3
      unfold decB
      simp only [if_neg (show n ≠ 0 by omega)]
      rw [List.getElem_reverse, List.getElem_map, List.getD_eq_getElem?_getD, List.getElem?_eq_getElem (by omega)]
      simp only [List.length_map, Option.getD_some, List.length_replicate]
      congr 2
      omega

/-- Where the figures begin. -/
theorem itRow_zero {l n i : Nat} (hn : 0 < n) (h : n < 10 ^ l) (hi : i < l - (digs 10 n).length) : (itRow l n).getD i 0 = 48 := by
  rw [itRow_at (by omega), ← getD_digs (by omega), List.getD_eq_getElem?_getD, List.getElem?_eq_none (by omega)]; rfl
theorem itRow_first {l n : Nat} (hn : 0 < n) (h : n < 10 ^ l) : (itRow l n).getD (l - (digs 10 n).length) 0 ≠ 48 ∧ l - (digs 10 n).length < l ∧ (itRow l n).drop (l - (digs 10 n).length) = decB n := by
  have hl := digs_length_le (b := 10) (by omega) h
  have hp : 0 < (digs 10 n).length := List.length_pos_iff.2 (digs_ne_nil (by omega) hn)
  refine ⟨?_, by omega, ?_⟩
  · rw [itRow_at (by omega), ← getD_digs (by omega), show l - 1 - (l - (digs 10 n).length) = (digs 10 n).length - 1 by omega, getD_at (by omega)]
    have hc := canon_digs (b := 10) (by omega) n
    unfold Canon at hc
    rw [List.getLast?_eq_getElem?, List.getElem?_eq_getElem (by omega)] at hc
    intro e
    apply hc
    congr 1
    omega
  · rw [itRow_split hn h, List.drop_append_of_le_length (by simp), List.drop_of_length_le (by simp), List.nil_append]

/-- One figure more, from the low end: t are written, then the next. -/
theorem fig_step (n t j : Nat) (hj : j < 19) : n / 10 ^ t % 10 ^ 19 / 10 ^ j % 10 = n / 10 ^ (t + j) % 10 := by
  have e : (10 : Nat) ^ 19 = 10 ^ j * 10 ^ (19 - j) := by rw [← Nat.pow_add]; congr 1; omega
  rw [e, Nat.mod_mul_right_div_self, Nat.div_div_eq_div_mul, ← Nat.pow_add, Nat.mod_mod_of_dvd]
  exact ⟨10 ^ (19 - j - 1), by rw [← Nat.pow_succ']; congr 1; omega⟩
end Go.Proofs.YtfkcobdkgjhfaaaGreatDoor
