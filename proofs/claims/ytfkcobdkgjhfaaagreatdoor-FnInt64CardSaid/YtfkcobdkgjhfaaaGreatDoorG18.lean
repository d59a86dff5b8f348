/- Parts of the proofs: DivV, DivIn. -/
import Derived.Test.YtfkcobdkgjhfaaaGreatDoorG4
import Derived.Test.YtfkcobdkgjhfaaaGreatDoorG10
import Derived.Test.YtfkcobdkgjhfaaaGreatDoorG17
/- Walks: divWVW. -/
set_option linter.unusedVariables false
set_option linter.unusedSimpArgs false
namespace Go.Proofs.YtfkcobdkgjhfaaaGreatDoor
open Go.RowKit

/-- A row divided by a word. -/
def DivRowP (w : World) (base g n cap y : Nat) (xs : List Nat) (e : Ending) (w' : World) : Prop :=
  ∃ rr : Nat, e = .returned (.int .u64 (rr : Int)) ∧ Hid (rr = (divD y xs).2) ∧ Own w' base (.slice (some ⟨g, 0, none⟩) n cap) (divD y xs).1 ∧ Fr w w' (fun k => k = g)

set_option maxHeartbeats 1000000 in
theorem divWVW_one (base g cap x y : Nat) (A : Option Addr) (c : Nat) (cur : Array Value) (w : World) (hg : base ≤ g) (hb : Blk w g 145 cur) (hc : 1 ≤ cap) (hm : cap ≤ maxLen) (hs : cur.size = cap)
    (hx : RdW w (.slice A 1 c) [x]) (hy0 : 0 < y) (hy : y < 18446744073709551616) (hxl : x < 18446744073709551616) :
    Calls Tryz.prog 165 #[.slice (some ⟨g, 0, none⟩) 1 cap, .int .u64 0, .slice A 1 c, .int .u64 (y : Int)] w (DivRowP w base g 1 cap y [x]) := by
  obtain ⟨gx, o, rfl, _, hcell⟩ := RdG.at_ (k := .u64) (xs := [x]) hx 0 (by simp)
  have x0 : w.cell? ⟨gx, o, none⟩ = some (.int .u64 (x : Int)) := by simpa using hcell
  have Con := hide (bitsDiv_any 0 x y w hy hxl hy0)
  have fin : ∀ (q r : Nat) (w1 : World), q = (0 * 18446744073709551616 + x) / y ∧ r = (0 * 18446744073709551616 + x) % y → Below w.heap.size w w1 →
      (∃ u, w1.cell? ⟨g, 0, none⟩ = some u) ∧ w1.frozen? ⟨g, 0, none⟩ = false ∧ Hid (DivRowP w base g 1 cap y [x] (.returned (.int .u64 (r : Int))) (w1.setCell ⟨g, 0, none⟩ (.int .u64 (q : Int)))) := by
    intro q r w1 hqr hbel
    have b1 := hb.below hbel
    refine ⟨⟨_, (b1.cell 0).trans (Array.getElem?_eq_getElem (by omega))⟩, b1.frozen 0, r, rfl, ?_, ?_, ?_⟩
    · show r = _
      rw [hqr.2]; simp [divD]
    · have e1 : (divD y [x]).1 = [q] := by rw [hqr.1]; simp [divD]
      rw [e1]
      refine Own.mk (xs := [q]) hg (b1.set 0 _) hc hm (by simpa using hs) ?_
      obtain ⟨l⟩ := cur
      cases l with
      | nil => simp at hs; omega
      | cons a l => simp [wv]
    · exact (Fr.of_below hbel (fun k => k = g)).setCell (p := ⟨g, 0, none⟩) (fun _ => rfl) _
  have Fin := hide fin
  clear hx hcell fin hb hs
  go_enter Tryz.func165, Tryz.ntmps165
  go_wp2_with fail
  refine (Con.out).mono ?_
  rintro e w1 ⟨q, r, rfl, h1, h2⟩
  obtain ⟨⟨u, k1⟩, k2, HF⟩ := Fin.out q r w1 h1.out h2
  clear h1 h2 Con Fin
  go_wp2
  go_ret
  exact HF.out

/-- What a round holds: z's cells from k on are the quotient's. -/
structure DivSt (w : World) (g n cap k y : Nat) (xs : List Nat) (r : Nat) (W : World) : Prop where
  rest : r = (divD y (xs.drop k)).2
  blk : ∃ cur, Blk W g 145 cur ∧ cur.size = cap ∧ (cur.toList.take n).drop k = wv (divD y (xs.drop k)).1
  fr : Fr w W (fun k => k = g)

theorem DivSt.step {w W W1 : World} {g n cap k y : Nat} {xs : List Nat} {r q r' : Nat} (h : DivSt w g n cap (k + 1) y xs r W) (hn : n = xs.length) (hk : k < n) (hc : n ≤ cap)
    (hq : q = (r * 18446744073709551616 + xs.getD k 0) / y ∧ r' = (r * 18446744073709551616 + xs.getD k 0) % y) (hbel : Below W.heap.size W W1) :
    (∃ u, W1.cell? ⟨g, k, none⟩ = some u) ∧ W1.frozen? ⟨g, k, none⟩ = false ∧ DivSt w g n cap k y xs r' (W1.setCell ⟨g, k, none⟩ (.int .u64 (q : Int))) := by
  obtain ⟨cur, hB, hs, hd⟩ := h.blk
  have b1 := hB.below hbel
  have hdrop : xs.drop k = xs.getD k 0 :: xs.drop (k + 1) := by
    rw [getD_at (by omega)]
    exact List.drop_eq_getElem_cons (by omega)
  have e1 : divD y (xs.drop k) = (q :: (divD y (xs.drop (k + 1))).1, r') := by
    rw [hdrop, divD, ← h.rest, hq.1, hq.2]
  refine ⟨⟨_, (b1.cell k).trans (Array.getElem?_eq_getElem (by omega))⟩, b1.frozen k, ⟨by rw [e1], ⟨_, b1.set k _, by simpa using hs, ?_⟩, ?_⟩⟩
  · rw [e1]
    simp only [Array.toList_setIfInBounds]
    have hl : k < (cur.toList.take n).length := by simp; omega
    rw [List.take_set, List.drop_eq_getElem_cons (by simpa using hl), List.getElem_set_self, List.drop_set_of_lt (by omega), hd]
    rfl
  · exact (Fr.step h.fr (Fr.of_below hbel (fun _ => False)) (fun _ _ h => h.elim)).setCell (p := ⟨g, k, none⟩) (fun _ => rfl) _

set_option maxHeartbeats 2000000 in
theorem divWVW_many (base g n cap y : Nat) (A : Option Addr) (c : Nat) (cur : Array Value) (xs : List Nat) (w : World) (hg : base ≤ g) (hb : Blk w g 145 cur) (hn : n = xs.length) (hn2 : 2 ≤ n) (hnb : n ≤ 1099511627776) (hc : n ≤ cap) (hm : cap ≤ maxLen) (hs : cur.size = cap)
    (hx : RdW w (.slice A n c) xs) (hxb : ∀ k, (Value.slice A n c).ownBlock = some k → k ≠ g) (hy0 : 0 < y) (hy : y < 18446744073709551616) (hd : Dig 18446744073709551616 xs) :
    Calls Tryz.prog 165 #[.slice (some ⟨g, 0, none⟩) n cap, .int .u64 0, .slice A n c, .int .u64 (y : Int)] w (DivRowP w base g n cap y xs) := by
  have n1 : ((n : Int) == 1) = false := beq_eq_false_iff_ne.2 (by omega)
  have hx2 : ∀ i, i < n → ∃ gx o, A = some ⟨gx, o, none⟩ ∧ gx ≠ g ∧ w.cell? ⟨gx, o + i, none⟩ = some (.int .u64 (xs.getD i 0 : Nat)) := by
    intro i hi
    obtain ⟨gx, o, e1, _, e2⟩ := RdG.at_ (k := .u64) hx i (by omega)
    exact ⟨gx, o, e1, hxb gx (by rw [e1]; rfl), e2⟩
  have hst : DivSt w g n cap n y xs 0 w := ⟨by rw [hn, List.drop_length]; rfl, ⟨cur, hb, hs, by rw [hn, List.drop_length]; simp [divD, wv]⟩, Fr.refl _ _⟩
  have Con := hide (recip_any y w hy0 hy)
  have HS := hide hst
  have HX := hide hx2
  have HD := hide hd
  have HN := hide hn
  clear hst hx2 hx hxb hb hs hd hn
  go_enter Tryz.func165, Tryz.ntmps165
  go_wp2_with fail
  refine (Con.out).mono ?_
  rintro e w0 ⟨m, rfl, hmr, hbel⟩
  have HS0 : Hid (DivSt w g n cap n y xs 0 w0) := by
    obtain ⟨h1, ⟨cu, h2, h3, h4⟩, h5⟩ := HS.out
    exact ⟨h1, ⟨cu, h2.below hbel, h3, h4⟩, Fr.step h5 (Fr.of_below hbel (fun _ => False)) (fun _ _ h => h.elim)⟩
  clear HS hbel Con
  go_wp2
  go_loopw [8, 12] (fun vr vi wr => ∃ (k r : Nat), k ≤ n ∧ vi = .int .i64 ((k : Int) - 1) ∧ vr = .int .u64 (r : Int) ∧ Hid (DivSt w g n cap k y xs r wr)) (fun _ vi _ => (intOf vi + 1).toNat)
  case atStart => exact ⟨n, 0, Nat.le_refl _, by go_num, rfl, HS0⟩
  case round =>
    obtain ⟨k, r, hk, rfl, rfl, HR⟩ := hrel
    rcases Nat.eq_zero_or_pos k with rfl | hp
    · have HF : Hid (DivRowP w base g n cap y xs (.returned (.int .u64 (r : Int))) wr) := by
        obtain ⟨h1, ⟨cu, h2, h3, h4⟩, h5⟩ := HR.out
        rw [List.drop_zero] at h1 h4
        rw [List.drop_zero] at h4
        have hl : (divD y xs).1.length = n := by rw [divD_length, HN.out]
        refine ⟨r, rfl, h1, ?_, h5⟩
        have := Own.mk (xs := (divD y xs).1) hg h2 (by omega) hm h3 (by rw [hl]; exact h4)
        rwa [hl] at this
      clear HS0 HR
      go_wp2
      go_ret
      exact HF.out
    · obtain ⟨j, rfl⟩ : ∃ j, k = j + 1 := ⟨k - 1, by omega⟩
      obtain ⟨gx, o, rfl, hgx, hcell⟩ := HX.out j (by omega)
      have hcw : wr.cell? ⟨gx, o + j, none⟩ = some (.int .u64 (xs.getD j 0 : Nat)) := HR.out.fr.cell hcell hgx
      have hxl : xs.getD j 0 < 18446744073709551616 := HD.out _ (by rw [getD_at (by have := HN.out; omega)]; exact List.getElem_mem _)
      have e1 : ((j + 1 : Nat) : Int) - 1 = (j : Int) := by omega
      have hrl : r < y := by rw [HR.out.rest]; exact divD_rest hy0 _
      have step := fun (q r' : Nat) W1 h1 h2 => HR.out.step (W1 := W1) (q := q) (r' := r') HN.out (by omega) hc h1 h2
      have Step := hide step
      have Con2 := hide (divWW_any r (xs.getD j 0) y m wr hy hxl hrl hmr.out)
      clear hcell step HR HS0 hxl hrl
      generalize xs.getD j 0 = x at hcw Step Con2
      go_wp2_with fail
      refine (Con2.out).mono ?_
      rintro e w3 ⟨q, r', rfl, h1, h2⟩
      obtain ⟨⟨u, k1⟩, k2, HT⟩ := Step.out q r' w3 h1.out h2
      have HT2 := hide HT
      clear h1 h2 HT Con2 Step
      go_wp2
      go_roundw
      case rel => exact ⟨j, r', by omega, by go_num, rfl, HT2⟩
      case measure => simp [intOf]

theorem divWVW_any (base g n cap y : Nat) (A : Option Addr) (c : Nat) (cur : Array Value) (xs : List Nat) (w : World) (hg : base ≤ g) (hb : Blk w g 145 cur) (hn : n = xs.length) (hn1 : 1 ≤ n) (hnb : n ≤ 1099511627776) (hc : n ≤ cap) (hm : cap ≤ maxLen) (hs : cur.size = cap)
    (hx : RdW w (.slice A n c) xs) (hxb : ∀ k, (Value.slice A n c).ownBlock = some k → k ≠ g) (hy0 : 0 < y) (hy : y < 18446744073709551616) (hd : Dig 18446744073709551616 xs) :
    Calls Tryz.prog 165 #[.slice (some ⟨g, 0, none⟩) n cap, .int .u64 0, .slice A n c, .int .u64 (y : Int)] w (DivRowP w base g n cap y xs) := by
  by_cases h : n = 1
  · subst h
    obtain ⟨x, rfl⟩ := List.length_eq_one_iff.1 hn.symm
    exact divWVW_one base g cap x y A c cur w hg hb hc hm hs hx hy0 hy (hd x (by simp))
  · exact divWVW_many base g n cap y A c cur xs w hg hb hn (by omega) hnb hc hm hs hx hxb hy0 hy hd

/-- Behind 'divW': the quotient in z's block or in a new one, and what is left. -/
def DivWP (w : World) (base : Nat) (z : Value) (y : Nat) (xs : List Nat) (e : Ending) (w' : World) : Prop :=
  ∃ (A : Option Addr) (c rr : Nat), e = .returned (.tuple #[.slice A (trimz (divD y xs).1).length c, .int .u64 (rr : Int)]) ∧ Hid (rr = (divD y xs).2) ∧ Own w' base (.slice A (trimz (divD y xs).1).length c) (trimz (divD y xs).1) ∧
    ((Value.slice A (trimz (divD y xs).1).length c).ownBlock = z.ownBlock ∨ ∃ k, (Value.slice A (trimz (divD y xs).1).length c).ownBlock = some k ∧ w.heap.size ≤ k) ∧ Fr w w' (fun k => z.ownBlock = some k)

set_option maxHeartbeats 2000000 in
set_option maxRecDepth 20000 in
theorem divW_any (base n : Nat) (z : Value) (m y : Nat) (A : Option Addr) (c : Nat) (xs : List Nat) (w : World) (hz : Room w base z m) (hb : base ≤ w.heap.size) (hn : n = xs.length) (hnb : n ≤ 1099511627776) (hn1 : 1 ≤ n)
    (hx : RdW w (.slice A n c) xs) (hxb : ∀ k, (Value.slice A n c).ownBlock = some k → z.ownBlock ≠ some k) (hy1 : 1 < y) (hy : y < 18446744073709551616) (hd : Dig 18446744073709551616 xs) :
    Calls Tryz.prog 141 #[z, .slice A n c, .int .u64 (y : Int)] w (DivWP w base z y xs) := by
  have y0 : ((y : Int) == 0) = false := beq_eq_false_iff_ne.2 (by omega)
  have y1 : ((y : Int) == 1) = false := beq_eq_false_iff_ne.2 (by omega)
  have n0 : ((n : Int) == 0) = false := beq_eq_false_iff_ne.2 (by omega)
  have Con := hide (make_any base z m n w hz hb (by omega) (by omega))
  have HX := hide (And.intro hx (And.intro hxb hd))
  clear hx hxb hd hz
  have HN := hide hn
  clear hn
  go_enter Tryz.func141, Tryz.ntmps141
  go_wp2_with fail
  refine (Con.out).mono ?_
  rintro e w1 ⟨r, rfl, hr, hrb, hbel⟩
  rw [Int.toNat_natCast] at hr
  rcases hr.form with ⟨_, h1⟩ | ⟨g, cap, cur, rfl, hg, hh, ha, hcap, hs⟩
  · omega
  have hx1 : RdW w1 (.slice A n c) xs := RdG.below (k := .u64) HX.out.1 hbel
  have hxg : ∀ k, (Value.slice A n c).ownBlock = some k → k ≠ g := by
    intro k hk
    rcases hrb with h | h
    · rintro rfl; exact HX.out.2.1 k hk h.symm
    · simp [Value.ownBlock] at h
      rcases A with _ | ⟨gx, ox, sx⟩
      · cases hk
      · obtain ⟨gx', o', e1, e2, _⟩ := RdG.at_ (k := .u64) HX.out.1 0 (by have := HN.out; omega)
        injection e1 with e1
        injection e1 with e1
        simp [Value.ownBlock] at hk
        omega
  have Con2 := hide (divWVW_any base g n cap y A c cur xs w1 hg hh HN.out hn1 hnb ha hcap hs hx1 hxg (by omega) hy HX.out.2.2)
  have HB := hide (And.intro hrb hbel)
  clear hr hrb hbel hh hs hx1 hxg Con
  go_wp2_with fail
  refine (Con2.out).mono ?_
  rintro e w2 ⟨rr, rfl, hrr, hown, hfr⟩
  have hl : (divD y xs).1.length = n := by rw [divD_length, HN.out]
  have Con3 := hide (norm_own base (.slice (some ⟨g, 0, none⟩) n cap) (divD y xs).1 w2 hown)
  have HF := hide hfr
  clear hown hfr Con2
  go_wp2_with fail
  refine (Con3.out).mono ?_
  rintro e w3 ⟨A3, c3, rfl, hown3, hblk, rfl⟩
  have fin : DivWP w base z y xs (.returned (.tuple #[.slice A3 (trimz (divD y xs).1).length c3, .int .u64 (rr : Int)])) w2 := by
    refine ⟨A3, c3, rr, rfl, hrr, hown3, ?_, ?_⟩
    · rw [hblk]
      exact HB.out.1.imp id (fun h => ⟨_, h, Nat.le_refl _⟩)
    · refine Fr.step (Fr.of_below HB.out.2 _) HF.out (fun i hi h => ?_)
      rcases HB.out.1 with h2 | h2
      · rw [← h2, h]; rfl
      · simp [Value.ownBlock] at h2; omega
  have Fin := hide fin
  clear fin hown3 hblk hrr HB HF Con3
  go_wp2
  go_ret2
  exact Fin.out
end Go.Proofs.YtfkcobdkgjhfaaaGreatDoor

/- Walks: a row of words divided by a word in its own place: divWVW, nat.divW. -/
set_option linter.unusedVariables false
set_option linter.unusedSimpArgs false
namespace Go.Proofs.YtfkcobdkgjhfaaaGreatDoor
open Go.RowKit

/-- What a round holds: the cells below k are x's, those from k on the quotient's. -/
structure DivIt (w : World) (g n cap k y : Nat) (xs : List Nat) (r : Nat) (W : World) : Prop where
  rest : r = (divD y (xs.drop k)).2
  blk : ∃ cur, Blk W g 145 cur ∧ cur.size = cap ∧ cur.toList.take n = wv (xs.take k ++ (divD y (xs.drop k)).1)
  fr : Fr w W (fun k => k = g)

theorem DivIt.cell {w W : World} {g n cap k y : Nat} {xs : List Nat} {r : Nat} (h : DivIt w g n cap k y xs r W) (hn : n = xs.length) {j : Nat} (hj : j < k) (hk : k ≤ n) : W.cell? ⟨g, j, none⟩ = some (.int .u64 (xs.getD j 0 : Nat)) := by
  obtain ⟨cur, hB, hs, hd⟩ := h.blk
  have hl : (xs.take k ++ (divD y (xs.drop k)).1).length = n := by simp [divD_length]; omega
  have := words_of_take (cur := cur) (xs := xs.take k ++ (divD y (xs.drop k)).1) (by rw [hl]; exact hd) j (by omega)
  rw [hB.cell j, this]
  congr 3
  rw [List.getD_eq_getElem?_getD, List.getElem?_append_left (by simp; omega), List.getElem?_take, if_pos hj, ← List.getD_eq_getElem?_getD]

theorem DivIt.step {w W W1 : World} {g n cap k y : Nat} {xs : List Nat} {r q r' : Nat} (h : DivIt w g n cap (k + 1) y xs r W) (hn : n = xs.length) (hk : k < n) (hc : n ≤ cap)
    (hq : q = (r * 18446744073709551616 + xs.getD k 0) / y ∧ r' = (r * 18446744073709551616 + xs.getD k 0) % y) (hbel : Below W.heap.size W W1) :
    (∃ u, W1.cell? ⟨g, k, none⟩ = some u) ∧ W1.frozen? ⟨g, k, none⟩ = false ∧ DivIt w g n cap k y xs r' (W1.setCell ⟨g, k, none⟩ (.int .u64 (q : Int))) := by
  obtain ⟨cur, hB, hs, hd⟩ := h.blk
  have b1 := hB.below hbel
  have hdrop : xs.drop k = xs.getD k 0 :: xs.drop (k + 1) := by
    rw [getD_at (by omega)]
    exact List.drop_eq_getElem_cons (by omega)
  have e1 : divD y (xs.drop k) = (q :: (divD y (xs.drop (k + 1))).1, r') := by
    rw [hdrop, divD, ← h.rest, hq.1, hq.2]
  refine ⟨⟨_, (b1.cell k).trans (Array.getElem?_eq_getElem (by omega))⟩, b1.frozen k, ⟨by rw [e1], ⟨_, b1.set k _, by simpa using hs, ?_⟩, ?_⟩⟩
  · rw [e1]
    simp only [Array.toList_setIfInBounds]
    rw [List.take_set, hd, List.take_succ_eq_append_getElem (by omega), List.append_assoc, wv_append, wv_append, List.set_append_right _ _ (by simp [wv_length]; omega), wv_length, List.length_take, Nat.min_eq_left (by omega), Nat.sub_self]
    simp [wv]
  · exact (Fr.step h.fr (Fr.of_below hbel (fun _ => False)) (fun _ _ h => h.elim)).setCell (p := ⟨g, k, none⟩) (fun _ => rfl) _

set_option maxHeartbeats 1000000 in
theorem divWVWi_one (base g cap x y : Nat) (cur : Array Value) (w : World) (hg : base ≤ g) (hb : Blk w g 145 cur) (hc : 1 ≤ cap) (hm : cap ≤ maxLen) (hs : cur.size = cap)
    (hx : w.cell? ⟨g, 0, none⟩ = some (.int .u64 (x : Int))) (hy0 : 0 < y) (hy : y < 18446744073709551616) (hxl : x < 18446744073709551616) :
    Calls Tryz.prog 165 #[.slice (some ⟨g, 0, none⟩) 1 cap, .int .u64 0, .slice (some ⟨g, 0, none⟩) 1 cap, .int .u64 (y : Int)] w (DivRowP w base g 1 cap y [x]) := by
  have hr : RdW w (.slice (some ⟨g, 0, none⟩) 1 cap) [x] := .inr ⟨g, 0, cap, rfl, hc, hm, fun i hi => by
    obtain rfl : i = 0 := by simpa using hi
    simpa using hx⟩
  exact divWVW_one base g cap x y _ cap cur w hg hb hc hm hs hr hy0 hy hxl

set_option maxHeartbeats 2000000 in
theorem divWVWi_many (base g n cap y : Nat) (cur : Array Value) (xs : List Nat) (w : World) (hg : base ≤ g) (hb : Blk w g 145 cur) (hn : n = xs.length) (hn2 : 2 ≤ n) (hnb : n ≤ 1099511627776) (hc : n ≤ cap) (hm : cap ≤ maxLen) (hs : cur.size = cap)
    (hx : cur.toList.take n = wv xs) (hy0 : 0 < y) (hy : y < 18446744073709551616) (hd : Dig 18446744073709551616 xs) :
    Calls Tryz.prog 165 #[.slice (some ⟨g, 0, none⟩) n cap, .int .u64 0, .slice (some ⟨g, 0, none⟩) n cap, .int .u64 (y : Int)] w (DivRowP w base g n cap y xs) := by
  have n1 : ((n : Int) == 1) = false := beq_eq_false_iff_ne.2 (by omega)
  have hst : DivIt w g n cap n y xs 0 w := ⟨by rw [hn, List.drop_length]; rfl, ⟨cur, hb, hs, by rw [hx, hn, List.drop_length, List.take_length]; simp [divD]⟩, Fr.refl _ _⟩
  have Con := hide (recip_any y w hy0 hy)
  have HS := hide hst
  have HD := hide hd
  have HN := hide hn
  clear hst hx hb hs hd hn
  go_enter Tryz.func165, Tryz.ntmps165
  go_wp2_with fail
  refine (Con.out).mono ?_
  rintro e w0 ⟨m, rfl, hmr, hbel⟩
  have HS0 : Hid (DivIt w g n cap n y xs 0 w0) := by
    obtain ⟨h1, ⟨cu, h2, h3, h4⟩, h5⟩ := HS.out
    exact ⟨h1, ⟨cu, h2.below hbel, h3, h4⟩, Fr.step h5 (Fr.of_below hbel (fun _ => False)) (fun _ _ h => h.elim)⟩
  clear HS hbel Con
  go_wp2
  go_loopw [8, 12] (fun vr vi wr => ∃ (k r : Nat), k ≤ n ∧ vi = .int .i64 ((k : Int) - 1) ∧ vr = .int .u64 (r : Int) ∧ Hid (DivIt w g n cap k y xs r wr)) (fun _ vi _ => (intOf vi + 1).toNat)
  case atStart => exact ⟨n, 0, Nat.le_refl _, by go_num, rfl, HS0⟩
  case round =>
    obtain ⟨k, r, hk, rfl, rfl, HR⟩ := hrel
    rcases Nat.eq_zero_or_pos k with rfl | hp
    · have HF : Hid (DivRowP w base g n cap y xs (.returned (.int .u64 (r : Int))) wr) := by
        obtain ⟨h1, ⟨cu, h2, h3, h4⟩, h5⟩ := HR.out
        rw [List.drop_zero] at h1 h4
        rw [List.take_zero, List.nil_append] at h4
        have hl : (divD y xs).1.length = n := by rw [divD_length, HN.out]
        refine ⟨r, rfl, h1, ?_, h5⟩
        have := Own.mk (xs := (divD y xs).1) hg h2 (by omega) hm h3 (by rw [hl]; exact h4)
        rwa [hl] at this
      clear HS0 HR
      go_wp2
      go_ret
      exact HF.out
    · obtain ⟨j, rfl⟩ : ∃ j, k = j + 1 := ⟨k - 1, by omega⟩
      have hcw : wr.cell? ⟨g, j, none⟩ = some (.int .u64 (xs.getD j 0 : Nat)) := HR.out.cell HN.out (by omega) hk
      have hxl : xs.getD j 0 < 18446744073709551616 := HD.out _ (by rw [getD_at (by have := HN.out; omega)]; exact List.getElem_mem _)
      have e1 : ((j + 1 : Nat) : Int) - 1 = (j : Int) := by omega
      have hrl : r < y := by rw [HR.out.rest]; exact divD_rest hy0 _
      have step := fun (q r' : Nat) W1 h1 h2 => HR.out.step (W1 := W1) (q := q) (r' := r') HN.out (by omega) hc h1 h2
      have Step := hide step
      have Con2 := hide (divWW_any r (xs.getD j 0) y m wr hy hxl hrl hmr.out)
      clear step HR HS0 hxl hrl
      generalize xs.getD j 0 = x at hcw Step Con2
      go_wp2_with fail
      refine (Con2.out).mono ?_
      rintro e w3 ⟨q, r', rfl, h1, h2⟩
      obtain ⟨⟨u, k1⟩, k2, HT⟩ := Step.out q r' w3 h1.out h2
      have HT2 := hide HT
      clear h1 h2 HT Con2 Step
      go_wp2
      go_roundw
      case rel => exact ⟨j, r', by omega, by go_num, rfl, HT2⟩
      case measure => simp [intOf]

theorem divWVWi_any (base g n cap y : Nat) (xs : List Nat) (w : World) (hx : Own w base (.slice (some ⟨g, 0, none⟩) n cap) xs) (hn : n = xs.length) (hn1 : 1 ≤ n) (hnb : n ≤ 1099511627776) (hy0 : 0 < y) (hy : y < 18446744073709551616) (hd : Dig 18446744073709551616 xs) :
    Calls Tryz.prog 165 #[.slice (some ⟨g, 0, none⟩) n cap, .int .u64 0, .slice (some ⟨g, 0, none⟩) n cap, .int .u64 (y : Int)] w (DivRowP w base g n cap y xs) := by
  have hw := hx.words
  rcases hx.form with ⟨h1, _⟩ | ⟨g', cap', cur, he, hg, hh, a, b, c, d⟩
  · injection h1 with h1; cases h1
  · injection he with e1 e2 e3
    injection e1 with e1
    injection e1 with e1
    subst e1 e3
    by_cases h : n = 1
    · subst h
      obtain ⟨x, rfl⟩ := List.length_eq_one_iff.1 hn.symm
      exact divWVWi_one base g cap x y cur w hg hh a b c (by have := hw 0 (by simp); simpa using this) hy0 hy (hd x (by simp))
    · rw [← hn] at a d
      exact divWVWi_many base g n cap y cur xs w hg hh hn (by omega) hnb a b c d hy0 hy hd

theorem make_in (A : Option Addr) (m n cap : Nat) (w : World) (hc : n ≤ cap) (hm : cap ≤ maxLen) :
    Calls Tryz.prog 134 #[.slice A m cap, .int .i64 (n : Int)] w fun e w' => e = .returned (.slice A n cap) ∧ w = w' := by
  unfold maxLen at hm
  go_enter Tryz.func134, Tryz.ntmps134
  go_wp2
  go_ret
  exact ⟨rfl, rfl⟩

/-- Behind 'x.divW(x, y)': the quotient in x's block, and what is left. -/
def DivIP (w : World) (base g cap y v : Nat) (e : Ending) (w' : World) : Prop :=
  e = .returned (.tuple #[.slice (some ⟨g, 0, none⟩) (digs 18446744073709551616 (v / y)).length cap, .int .u64 ((v % y : Nat) : Int)]) ∧ Own w' base (.slice (some ⟨g, 0, none⟩) (digs 18446744073709551616 (v / y)).length cap) (digs 18446744073709551616 (v / y)) ∧ Fr w w' (fun k => k = g)

set_option maxHeartbeats 2000000 in
set_option maxRecDepth 20000 in
theorem divWi_any (base g n cap y : Nat) (xs : List Nat) (w : World) (hx : Own w base (.slice (some ⟨g, 0, none⟩) n cap) xs) (hn1 : 1 ≤ n) (hnb : n ≤ 1099511627776) (hy1 : 1 < y) (hy : y < 18446744073709551616) (hd : Dig 18446744073709551616 xs) :
    Calls Tryz.prog 141 #[.slice (some ⟨g, 0, none⟩) n cap, .slice (some ⟨g, 0, none⟩) n cap, .int .u64 (y : Int)] w (DivIP w base g cap y (dval 18446744073709551616 xs)) := by
  have y0 : ((y : Int) == 0) = false := beq_eq_false_iff_ne.2 (by omega)
  have y1 : ((y : Int) == 1) = false := beq_eq_false_iff_ne.2 (by omega)
  have n0 : ((n : Int) == 0) = false := beq_eq_false_iff_ne.2 (by omega)
  obtain ⟨hn, hc1, hc2⟩ := own_caps hx
  have Con := hide (make_in (some ⟨g, 0, none⟩) n n cap w hc1 hc2)
  have Con2 := hide (divWVWi_any base g n cap y xs w hx hn hn1 hnb (by omega) hy hd)
  have HX := hide (And.intro hn (And.intro hd (And.intro hc1 hc2)))
  clear hx hd hn hc1 hc2
  go_enter Tryz.func141, Tryz.ntmps141
  go_wp2_with fail
  refine (Con.out).mono ?_
  rintro e w1 ⟨rfl, rfl⟩
  clear Con
  go_wp2_with fail
  refine (Con2.out).mono ?_
  rintro e w2 ⟨rr, rfl, hrr, hown, hfr⟩
  have hl : (divD y xs).1.length = n := by rw [divD_length, HX.out.1]
  have con3 := norm_at g 0 cap (divD y xs).1 w2 hown.words (by rw [hl]; exact HX.out.2.2.1) HX.out.2.2.2
  rw [hl] at con3
  have ht : trimz (divD y xs).1 = digs 18446744073709551616 (dval 18446744073709551616 xs / y) := by
    rw [← (divD_quo (by omega) xs).1, digs_dval_trim (by omega) (divD_dig (by omega) xs HX.out.2.1)]
  have hown3 := own_trim hown
  rw [ht] at con3 hown3
  have hrv : rr = dval 18446744073709551616 xs % y := by rw [hrr.out]; exact (divD_quo (by omega) xs).2
  have fin : DivIP w base g cap y (dval 18446744073709551616 xs) (.returned (.tuple #[.slice (some ⟨g, 0, none⟩) (digs 18446744073709551616 (dval 18446744073709551616 xs / y)).length cap, .int .u64 (rr : Int)])) w2 := by
    refine ⟨by rw [hrv], hown3, hfr⟩
  have Fin := hide fin
  have Con3 := hide con3
  clear fin hown3 hrr hrv con3 ht hown hfr Con2 HX
  generalize (digs 18446744073709551616 (dval 18446744073709551616 xs / y)).length = q at Fin Con3
  go_wp2_with fail
  refine (Con3.out).mono ?_
  rintro e w3 ⟨rfl, rfl⟩
  clear Con3
  go_wp2
  go_ret2
  exact Fin.out
end Go.Proofs.YtfkcobdkgjhfaaaGreatDoor
