/- Walks: divWVW. -/
import Derived.Test.YtjacmmcmjnkikaaGreatDoorBits4
import Derived.Test.YtjacmmcmjnkikaaGreatDoorDivD
import Derived.Test.YtjacmmcmjnkikaaGreatDoorNat1
set_option linter.unusedVariables false
set_option linter.unusedSimpArgs false
namespace Go.Proofs.YtjacmmcmjnkikaaGreatDoor
open Go.RowKit

/-- A row divided by a word. -/
def DivRowP (w : World) (base g n cap y : Nat) (xs : List Nat) (e : Ending) (w' : World) : Prop :=
  ∃ rr : Nat, e = .returned (.int .u64 (rr : Int)) ∧ Hid (rr = (divD y xs).2) ∧ Own w' base (.slice (some ⟨g, 0, none⟩) n cap) (divD y xs).1 ∧ Fr w w' (fun k => k = g)

set_option maxHeartbeats 1000000 in
theorem divWVW_one (base g cap x y : Nat) (A : Option Addr) (c : Nat) (cur : Array Value) (w : World) (hg : base ≤ g) (hb : Blk w g 43 cur) (hc : 1 ≤ cap) (hm : cap ≤ maxLen) (hs : cur.size = cap)
    (hx : RdW w (.slice A 1 c) [x]) (hy0 : 0 < y) (hy : y < 18446744073709551616) (hxl : x < 18446744073709551616) :
    Calls Tryz.prog 54 #[.slice (some ⟨g, 0, none⟩) 1 cap, .int .u64 0, .slice A 1 c, .int .u64 (y : Int)] w (DivRowP w base g 1 cap y [x]) := by
  obtain ⟨gx, o, rfl, _, hcell⟩ := RdG.at_ (k := .u64) (xs := [x]) hx 0 (by simp)
  have x0 : w.cell? ⟨gx, o, none⟩ = some (.int .u64 (x : Int)) := by simpa using hcell
  have Con := hide (bitsDiv_any 0 x y w hy hxl hy0)
  have fin : ∀ (q r : Nat) (w1 : World), q = (0 * 18446744073709551616 + x) / y ∧ r = (0 * 18446744073709551616 + x) % y → Below w.heap.size w w1 →
      (∃ u, w1.cell? ⟨g, 0, none⟩ = some u) ∧ w1.frozen? ⟨g, 0, none⟩ = false ∧ Hid (DivRowP w base g 1 cap y [x] (.returned (.int .u64 (r : Int))) (w1.setCell ⟨g, 0, none⟩ (.int .u64 (q : Int)))) := by
    intro q r w1 hqr hbel
    have b1 := hb.below hbel
    refine ⟨⟨_, (b1.cell 0).trans (Array.getElem?_eq_getElem (by omega))⟩, b1.frozen 0, r, rfl, ?_, ?_, ?_⟩
    · show r = _
      rw [hqr.2]; simp [divD]
    · have e1 : (divD y [x]).1 = [q] := by rw [hqr.1]; simp [divD]
      rw [e1]
      refine Own.mk (xs := [q]) hg (b1.set 0 _) hc hm (by simpa using hs) ?_
      obtain ⟨l⟩ := cur
      cases l with
      | nil => simp at hs; omega
      | cons a l => simp [wv]
    · exact (Fr.of_below hbel (fun k => k = g)).setCell (p := ⟨g, 0, none⟩) (fun _ => rfl) _
  have Fin := hide fin
  clear hx hcell fin hb hs
  go_enter Tryz.func54, Tryz.ntmps54
  go_wp2_with fail
  refine (Con.out).mono ?_
  rintro e w1 ⟨q, r, rfl, h1, h2⟩
  obtain ⟨⟨u, k1⟩, k2, HF⟩ := Fin.out q r w1 h1.out h2
  clear h1 h2 Con Fin
  go_wp2
  go_ret
  exact HF.out

/-- What a round holds: z's cells from k on are the quotient's. -/
structure DivSt (w : World) (g n cap k y : Nat) (xs : List Nat) (r : Nat) (W : World) : Prop where
  rest : r = (divD y (xs.drop k)).2
  blk : ∃ cur, Blk W g 43 cur ∧ cur.size = cap ∧ (cur.toList.take n).drop k = wv (divD y (xs.drop k)).1
  fr : Fr w W (fun k => k = g)

theorem DivSt.step {w W W1 : World} {g n cap k y : Nat} {xs : List Nat} {r q r' : Nat} (h : DivSt w g n cap (k + 1) y xs r W) (hn : n = xs.length) (hk : k < n) (hc : n ≤ cap)
    (hq : q = (r * 18446744073709551616 + xs.getD k 0) / y ∧ r' = (r * 18446744073709551616 + xs.getD k 0) % y) (hbel : Below W.heap.size W W1) :
    (∃ u, W1.cell? ⟨g, k, none⟩ = some u) ∧ W1.frozen? ⟨g, k, none⟩ = false ∧ DivSt w g n cap k y xs r' (W1.setCell ⟨g, k, none⟩ (.int .u64 (q : Int))) := by
  obtain ⟨cur, hB, hs, hd⟩ := h.blk
  have b1 := hB.below hbel
  have hdrop : xs.drop k = xs.getD k 0 :: xs.drop (k + 1) := by
    rw [getD_at (by omega)]
    exact List.drop_eq_getElem_cons (by omega)
  have e1 : divD y (xs.drop k) = (q :: (divD y (xs.drop (k + 1))).1, r') := by
    rw [hdrop, divD, ← h.rest, hq.1, hq.2]
  refine ⟨⟨_, (b1.cell k).trans (Array.getElem?_eq_getElem (by omega))⟩, b1.frozen k, ⟨by rw [e1], ⟨_, b1.set k _, by simpa using hs, ?_⟩, ?_⟩⟩
  · rw [e1]
    simp only [Array.toList_setIfInBounds]
    have hl : k < (cur.toList.take n).length := by simp; omega
    rw [List.take_set, List.drop_eq_getElem_cons (by simpa using hl), List.getElem_set_self, List.drop_set_of_lt (by omega), hd]
    rfl
  · exact (Fr.step h.fr (Fr.of_below hbel (fun _ => False)) (fun _ _ h => h.elim)).setCell (p := ⟨g, k, none⟩) (fun _ => rfl) _

set_option maxHeartbeats 2000000 in
theorem divWVW_many (base g n cap y : Nat) (A : Option Addr) (c : Nat) (cur : Array Value) (xs : List Nat) (w : World) (hg : base ≤ g) (hb : Blk w g 43 cur) (hn : n = xs.length) (hn2 : 2 ≤ n) (hnb : n ≤ 1099511627776) (hc : n ≤ cap) (hm : cap ≤ maxLen) (hs : cur.size = cap)
    (hx : RdW w (.slice A n c) xs) (hxb : ∀ k, (Value.slice A n c).ownBlock = some k → k ≠ g) (hy0 : 0 < y) (hy : y < 18446744073709551616) (hd : Dig 18446744073709551616 xs) :
    Calls Tryz.prog 54 #[.slice (some ⟨g, 0, none⟩) n cap, .int .u64 0, .slice A n c, .int .u64 (y : Int)] w (DivRowP w base g n cap y xs) := by
  have n1 : ((n : Int) == 1) = false := beq_eq_false_iff_ne.2 (by omega)
  have hx2 : ∀ i, i < n → ∃ gx o, A = some ⟨gx, o, none⟩ ∧ gx ≠ g ∧ w.cell? ⟨gx, o + i, none⟩ = some (.int .u64 (xs.getD i 0 : Nat)) := by
    intro i hi
    obtain ⟨gx, o, e1, _, e2⟩ := RdG.at_ (k := .u64) hx i (by omega)
    exact ⟨gx, o, e1, hxb gx (by rw [e1]; rfl), e2⟩
  have hst : DivSt w g n cap n y xs 0 w := ⟨by rw [hn, List.drop_length]; rfl, ⟨cur, hb, hs, by rw [hn, List.drop_length]; simp [divD, wv]⟩, Fr.refl _ _⟩
  have Con := hide (recip_any y w hy0 hy)
  have HS := hide hst
  have HX := hide hx2
  have HD := hide hd
  have HN := hide hn
  clear hst hx2 hx hxb hb hs hd hn
  go_enter Tryz.func54, Tryz.ntmps54
  go_wp2_with fail
  refine (Con.out).mono ?_
  rintro e w0 ⟨m, rfl, hmr, hbel⟩
  have HS0 : Hid (DivSt w g n cap n y xs 0 w0) := by
    obtain ⟨h1, ⟨cu, h2, h3, h4⟩, h5⟩ := HS.out
    exact ⟨h1, ⟨cu, h2.below hbel, h3, h4⟩, Fr.step h5 (Fr.of_below hbel (fun _ => False)) (fun _ _ h => h.elim)⟩
  clear HS hbel Con
  go_wp2
  go_loopw [8, 12] (fun vr vi wr => ∃ (k r : Nat), k ≤ n ∧ vi = .int .i64 ((k : Int) - 1) ∧ vr = .int .u64 (r : Int) ∧ Hid (DivSt w g n cap k y xs r wr)) (fun _ vi _ => (intOf vi + 1).toNat)
  case atStart => exact ⟨n, 0, Nat.le_refl _, by go_num, rfl, HS0⟩
  case round =>
    obtain ⟨k, r, hk, rfl, rfl, HR⟩ := hrel
    rcases Nat.eq_zero_or_pos k with rfl | hp
    · have HF : Hid (DivRowP w base g n cap y xs (.returned (.int .u64 (r : Int))) wr) := by
        obtain ⟨h1, ⟨cu, h2, h3, h4⟩, h5⟩ := HR.out
        rw [List.drop_zero] at h1 h4
        rw [List.drop_zero] at h4
        have hl : (divD y xs).1.length = n := by rw [divD_length, HN.out]
        refine ⟨r, rfl, h1, ?_, h5⟩
        have := Own.mk (xs := (divD y xs).1) hg h2 (by omega) hm h3 (by rw [hl]; exact h4)
        rwa [hl] at this
      clear HS0 HR
      go_wp2
      go_ret
      exact HF.out
    · obtain ⟨j, rfl⟩ : ∃ j, k = j + 1 := ⟨k - 1, by omega⟩
      obtain ⟨gx, o, rfl, hgx, hcell⟩ := HX.out j (by omega)
      have hcw : wr.cell? ⟨gx, o + j, none⟩ = some (.int .u64 (xs.getD j 0 : Nat)) := HR.out.fr.cell hcell hgx
      have hxl : xs.getD j 0 < 18446744073709551616 := HD.out _ (by rw [getD_at (by have := HN.out; omega)]; exact List.getElem_mem _)
      have e1 : ((j + 1 : Nat) : Int) - 1 = (j : Int) := by omega
      have hrl : r < y := by rw [HR.out.rest]; exact divD_rest hy0 _
      have step := fun (q r' : Nat) W1 h1 h2 => HR.out.step (W1 := W1) (q := q) (r' := r') HN.out (by omega) hc h1 h2
      have Step := hide step
      have Con2 := hide (divWW_any r (xs.getD j 0) y m wr hy hxl hrl hmr.out)
      clear hcell step HR HS0 hxl hrl
      generalize xs.getD j 0 = x at hcw Step Con2
      go_wp2_with fail
      refine (Con2.out).mono ?_
      rintro e w3 ⟨q, r', rfl, h1, h2⟩
      obtain ⟨⟨u, k1⟩, k2, HT⟩ := Step.out q r' w3 h1.out h2
      have HT2 := hide HT
      clear h1 h2 HT Con2 Step
      go_wp2
      go_roundw
      case rel => exact ⟨j, r', by omega, by go_num, rfl, HT2⟩
      case measure => simp [intOf]

theorem divWVW_any (base g n cap y : Nat) (A : Option Addr) (c : Nat) (cur : Array Value) (xs : List Nat) (w : World) (hg : base ≤ g) (hb : Blk w g 43 cur) (hn : n = xs.length) (hn1 : 1 ≤ n) (hnb : n ≤ 1099511627776) (hc : n ≤ cap) (hm : cap ≤ maxLen) (hs : cur.size = cap)
    (hx : RdW w (.slice A n c) xs) (hxb : ∀ k, (Value.slice A n c).ownBlock = some k → k ≠ g) (hy0 : 0 < y) (hy : y < 18446744073709551616) (hd : Dig 18446744073709551616 xs) :
    Calls Tryz.prog 54 #[.slice (some ⟨g, 0, none⟩) n cap, .int .u64 0, .slice A n c, .int .u64 (y : Int)] w (DivRowP w base g n cap y xs) := by
  by_cases h : n = 1
  · subst h
    obtain ⟨x, rfl⟩ := List.length_eq_one_iff.1 hn.symm
    exact divWVW_one base g cap x y A c cur w hg hb hc hm hs hx hy0 hy (hd x (by simp))
  · exact divWVW_many base g n cap y A c cur xs w hg hb hn (by omega) hnb hc hm hs hx hxb hy0 hy hd

/-- Behind 'divW': the quotient in z's block or in a new one, and what is left. -/
def DivWP (w : World) (base : Nat) (z : Value) (y : Nat) (xs : List Nat) (e : Ending) (w' : World) : Prop :=
  ∃ (A : Option Addr) (c rr : Nat), e = .returned (.tuple #[.slice A (trimz (divD y xs).1).length c, .int .u64 (rr : Int)]) ∧ Hid (rr = (divD y xs).2) ∧ Own w' base (.slice A (trimz (divD y xs).1).length c) (trimz (divD y xs).1) ∧
    ((Value.slice A (trimz (divD y xs).1).length c).ownBlock = z.ownBlock ∨ ∃ k, (Value.slice A (trimz (divD y xs).1).length c).ownBlock = some k ∧ w.heap.size ≤ k) ∧ Fr w w' (fun k => z.ownBlock = some k)

set_option maxHeartbeats 2000000 in
set_option maxRecDepth 20000 in
theorem divW_any (base n : Nat) (z : Value) (m y : Nat) (A : Option Addr) (c : Nat) (xs : List Nat) (w : World) (hz : Room w base z m) (hb : base ≤ w.heap.size) (hn : n = xs.length) (hnb : n ≤ 1099511627776) (hn1 : 1 ≤ n)
    (hx : RdW w (.slice A n c) xs) (hxb : ∀ k, (Value.slice A n c).ownBlock = some k → z.ownBlock ≠ some k) (hy1 : 1 < y) (hy : y < 18446744073709551616) (hd : Dig 18446744073709551616 xs) :
    Calls Tryz.prog 45 #[z, .slice A n c, .int .u64 (y : Int)] w (DivWP w base z y xs) := by
  have y0 : ((y : Int) == 0) = false := beq_eq_false_iff_ne.2 (by omega)
  have y1 : ((y : Int) == 1) = false := beq_eq_false_iff_ne.2 (by omega)
  have n0 : ((n : Int) == 0) = false := beq_eq_false_iff_ne.2 (by omega)
  have Con := hide (make_any base z m n w hz hb (by omega) (by omega))
  have HX := hide (And.intro hx (And.intro hxb hd))
  clear hx hxb hd hz
  have HN := hide hn
  clear hn
  go_enter Tryz.func45, Tryz.ntmps45
  go_wp2_with fail
  refine (Con.out).mono ?_
  rintro e w1 ⟨r, rfl, hr, hrb, hbel⟩
  rw [Int.toNat_natCast] at hr
  rcases hr.form with ⟨_, h1⟩ | ⟨g, cap, cur, rfl, hg, hh, ha, hcap, hs⟩
  · omega
  have hx1 : RdW w1 (.slice A n c) xs := RdG.below (k := .u64) HX.out.1 hbel
  have hxg : ∀ k, (Value.slice A n c).ownBlock = some k → k ≠ g := by
    intro k hk
    rcases hrb with h | h
    · rintro rfl; exact HX.out.2.1 k hk h.symm
    · simp [Value.ownBlock] at h
      rcases A with _ | ⟨gx, ox, sx⟩
      · cases hk
      · obtain ⟨gx', o', e1, e2, _⟩ := RdG.at_ (k := .u64) HX.out.1 0 (by have := HN.out; omega)
        injection e1 with e1
        injection e1 with e1
        simp [Value.ownBlock] at hk
        omega
  have Con2 := hide (divWVW_any base g n cap y A c cur xs w1 hg hh HN.out hn1 hnb ha hcap hs hx1 hxg (by omega) hy HX.out.2.2)
  have HB := hide (And.intro hrb hbel)
  clear hr hrb hbel hh hs hx1 hxg Con
  go_wp2_with fail
  refine (Con2.out).mono ?_
  rintro e w2 ⟨rr, rfl, hrr, hown, hfr⟩
  have hl : (divD y xs).1.length = n := by rw [divD_length, HN.out]
  have Con3 := hide (norm_own base (.slice (some ⟨g, 0, none⟩) n cap) (divD y xs).1 w2 hown)
  have HF := hide hfr
  clear hown hfr Con2
  go_wp2_with fail
  refine (Con3.out).mono ?_
  rintro e w3 ⟨A3, c3, rfl, hown3, hblk, rfl⟩
  have fin : DivWP w base z y xs (.returned (.tuple #[.slice A3 (trimz (divD y xs).1).length c3, .int .u64 (rr : Int)])) w2 := by
    refine ⟨A3, c3, rr, rfl, hrr, hown3, ?_, ?_⟩
    · rw [hblk]
      exact HB.out.1.imp id (fun h => ⟨_, h, Nat.le_refl _⟩)
    · refine Fr.step (Fr.of_below HB.out.2 _) HF.out (fun i hi h => ?_)
      rcases HB.out.1 with h2 | h2
      · rw [← h2, h]; rfl
      · simp [Value.ownBlock] at h2; omega
  have Fin := hide fin
  clear fin hown3 hblk hrr HB HF Con3
  go_wp2
  go_ret2
  exact Fin.out
end Go.Proofs.YtjacmmcmjnkikaaGreatDoor
