/- Parts of the proofs: Nat1, DivV. -/
import Derived.Deep.RegionWith
import Derived.Deep.DeepFit
import Derived.BigQuiet
import Derived.Laws.CopyOwn
import Derived.Test.YtfkcobdkgjhfaaaGreatDoorG1
import Derived.Test.YtfkcobdkgjhfaaaGreatDoorG4
/- Walks: nat's make, norm, set, setWord, setUint64. -/
set_option linter.unusedVariables false
set_option linter.unusedSimpArgs false
namespace Go.Proofs.YtfkcobdkgjhfaaaGreatDoor
open Go.RowKit

theorem infoWord : (Tryz.prog.info? 145).map (fun i => (i.zero, i.size, i.bytes)) = some (some (.int .u64 0), 1, 8) := by kernel_rfl
theorem sizeWord : (Tryz.prog.info? 145).map (·.size) = some 1 := by kernel_rfl

/-- What 'make' comes to: a row in z's block or in a new one; no old block turns. -/
def MadeP (w : World) (base : Nat) (z : Value) (n : Nat) (e : Ending) (w' : World) : Prop :=
  ∃ r, e = .returned r ∧ Room w' base r n ∧ (r.ownBlock = z.ownBlock ∨ r.ownBlock = some w.heap.size) ∧ Below w.heap.size w w'

theorem mk_row (n c : Nat) (hnc : n ≤ c) (hc : c ≤ 2199023255552) (w : World) :
    (Instr.makeSlice 65 (.int .i64 (n : Int)) (.int .i64 (c : Int))).run Tryz.prog w = .ok (.slice (some ⟨w.heap.size, 0, none⟩) n c) (w.alloc (.cells (madeCells #[.int .u64 0] c) 145)) := by
  obtain ⟨i0, hi, hz0, hz1, hz2⟩ := info_parts infoWord
  have := run_make (P := Tryz.prog) w 65 145 i0 (.int .u64 0) Tryz.underlying65 hi hz0 .i64 .i64 n c (by omega) (by omega) (by rw [hz2]; omega) (by omega)
  rw [hz1, Nat.mul_one] at this
  exact this

theorem room_made (w : World) (base : Nat) (hb : base ≤ w.heap.size) (n c : Nat) (hnc : n ≤ c) (hc : c ≤ 2199023255552) :
    Room (w.alloc (.cells (madeCells #[.int .u64 0] c) 145)) base (.slice (some ⟨w.heap.size, 0, none⟩) n c) n :=
  Room.mk hb (Blk.new w _ _) hnc (by simp only [maxLen]; omega) (size_madeCells _ _)

theorem room_cut {w : World} {base m : Nat} {A : Option Addr} {cap : Nat} (h : Room w base (.slice A m cap) m) {n : Nat} (hn : n ≤ cap) : Room w base (.slice A n cap) n := by
  rcases h.form with ⟨h1, h2⟩ | ⟨g, cap', cur, hv, hg, hh, h1, h2, h3⟩
  · injection h1 with a b c
    subst a; subst b; subst c
    obtain rfl : n = 0 := by omega
    exact (Own.nil w base).room
  · injection hv with a b c
    subst a; subst c
    exact Room.mk hg hh hn h2 h3

set_option maxHeartbeats 400000 in
theorem make_any (base : Nat) (z : Value) (m : Nat) (n : Int) (w : World) (hz : Room w base z m) (hb : base ≤ w.heap.size) (h0 : 0 ≤ n) (hn : n ≤ 1099511627776) :
    Calls Tryz.prog 134 #[z, .int .i64 n] w (MadeP w base z n.toNat) := by
  obtain ⟨A, cap, rfl⟩ := hz.slice
  obtain ⟨n, rfl⟩ := Int.eq_ofNat_of_zero_le h0
  by_cases hc : n ≤ cap
  · have hr := room_cut hz hc
    have H : MadeP w base (.slice A m cap) n (.returned (.slice A n cap)) w := ⟨_, rfl, hr, .inl (by cases A <;> rfl), Below.refl _ _⟩
    have HH := hide H
    clear H hr hz
    go_enter Tryz.func134, Tryz.ntmps134
    go_wp2
    go_ret
    exact HH.out
  · by_cases h1 : n = 1
    · subst h1
      have H : MadeP w base (.slice A m cap) 1 (.returned (.slice (some ⟨w.heap.size, 0, none⟩) 1 1)) (w.alloc (.cells (madeCells #[.int .u64 0] 1) 145)) := ⟨_, rfl, room_made w base hb 1 1 (Nat.le_refl _) (by omega), .inr rfl, (Below.refl _ _).alloc (Nat.le_refl _) _⟩
      have HH := hide H
      have hm : ∀ W : World, (Instr.makeSlice 65 (.int .i64 1) (.int .i64 1)).run Tryz.prog W = .ok (.slice (some ⟨W.heap.size, 0, none⟩) 1 1) (W.alloc (.cells (madeCells #[.int .u64 0] 1) 145)) := fun W => mk_row 1 1 (by omega) (by omega) W
      clear H hz
      go_enter Tryz.func134, Tryz.ntmps134
      go_wp2
      go_ret
      exact HH.out
    · have H : MadeP w base (.slice A m cap) n (.returned (.slice (some ⟨w.heap.size, 0, none⟩) n (n+4))) (w.alloc (.cells (madeCells #[.int .u64 0] (n+4)) 145)) := ⟨_, rfl, room_made w base hb n (n+4) (by omega) (by omega), .inr rfl, (Below.refl _ _).alloc (Nat.le_refl _) _⟩
      have HH := hide H
      have hm : ∀ W : World, (Instr.makeSlice 65 (.int .i64 (n : Int)) (.int .i64 ((n : Int) + 4))).run Tryz.prog W = .ok (.slice (some ⟨W.heap.size, 0, none⟩) n (n+4)) (W.alloc (.cells (madeCells #[.int .u64 0] (n+4)) 145)) := fun W => mk_row n (n+4) (by omega) (by omega) W
      clear H hz
      go_enter Tryz.func134, Tryz.ntmps134
      go_wp2
      go_ret
      exact HH.out

theorem Room.empty {w : World} {base c : Nat} {A : Option Addr} (h : Room w base (.slice A 0 c) 0) : Own w base (.slice A 0 c) [] := by
  rcases h.form with ⟨h1, _⟩ | ⟨g, cap, cur, h1, hg, hh, a, b, c⟩
  · rw [h1]; exact Own.nil _ _
  · rw [h1]; exact Own.mk (xs := []) hg hh (Nat.zero_le _) b c rfl

set_option maxHeartbeats 400000 in
theorem norm_at (g o c : Nat) (xs : List Nat) (w : World) (hx : WordsAt w g o xs) (hl : xs.length ≤ c) (hc : c ≤ maxLen) :
    Calls Tryz.prog 117 #[.slice (some ⟨g, o, none⟩) xs.length c] w fun e w' => e = .returned (.slice (some ⟨g, o, none⟩) (trimz xs).length c) ∧ w = w' := by
  unfold maxLen at hc
  have Hx := hide hx
  clear hx
  go_enter Tryz.func117, Tryz.ntmps117
  go_wp2
  go_loop [3] (fun i => ∃ k : Nat, k ≤ xs.length ∧ i = .int .i64 k ∧ Hid (trimz (xs.take k) = trimz xs)) (fun i => (intOf i).toNat)
  case atStart => exact ⟨xs.length, Nat.le_refl _, rfl, by rw [List.take_of_length_le (Nat.le_refl _)]; rfl⟩
  case round =>
    obtain ⟨k, hk, rfl, ht⟩ := hrel
    rcases Nat.eq_zero_or_pos k with rfl | hp
    · have H : (trimz xs).length = 0 := by rw [← ht.out]; rfl
      have HH := hide H
      clear H
      go_wp2
      go_ret
      rw [HH.out]
      exact ⟨rfl, rfl⟩
    · obtain ⟨k, rfl⟩ : ∃ m, k = m + 1 := ⟨k - 1, by omega⟩
      have hcell : w.cell? ⟨g, o + k, none⟩ = some (.int .u64 (xs.getD k 0 : Nat)) := Hx.out k (by omega)
      have e1 : ((k + 1 : Nat) : Int) - 1 = (k : Int) := by omega
      by_cases h0 : xs.getD k 0 = 0
      · rw [h0] at hcell
        have HT : Hid (trimz (xs.take k) = trimz xs) := by
          have := ht.out
          rw [trimz_take_zero (by omega) h0] at this
          exact this
        go_wp2
        go_round
        case rel => exact ⟨k, by omega, by go_num, HT⟩
        case measure => simp [intOf]
      · have H : (trimz xs).length = k + 1 := by rw [← ht.out, trimz_take_ne (by omega) h0, List.length_take]; omega
        have HH := hide H
        clear H ht
        generalize xs.getD k 0 = d at hcell h0
        have hd : ((d : Int) == 0) = false := by simpa using h0
        clear h0
        go_wp2
        go_ret
        rw [HH.out]
        exact ⟨rfl, rfl⟩

theorem norm_nil (w : World) :
    Calls Tryz.prog 117 #[.slice none 0 0] w fun e w' => e = .returned (.slice none 0 0) ∧ w = w' := by
  go_enter Tryz.func117, Tryz.ntmps117
  go_wp2
  refine wp_loop_rounds 1 ?_
  rw [rounds_succ]
  go_wp2
  go_ret
  exact ⟨rfl, rfl⟩

/-- 'norm' of a row of the call's own. -/
theorem norm_own (base : Nat) (v : Value) (xs : List Nat) (w : World) (hv : Own w base v xs) :
    Calls Tryz.prog 117 #[v] w fun e w' => ∃ A c, e = .returned (.slice A (trimz xs).length c) ∧ Own w base (.slice A (trimz xs).length c) (trimz xs) ∧ (Value.slice A (trimz xs).length c).ownBlock = v.ownBlock ∧ w = w' := by
  rcases hv.form with ⟨rfl, rfl⟩ | ⟨g, cap, cur, rfl, hg, hh, a, b, c, d⟩
  · exact (norm_nil w).mono fun e w' ⟨he, hw⟩ => ⟨none, 0, he, Own.nil w base, rfl, hw⟩
  · refine (norm_at g 0 cap xs w hv.words a b).mono fun e w' ⟨he, hw⟩ => ⟨_, _, he, ?_, rfl, hw⟩
    have hl := trimz_length_le xs
    refine Own.mk hg hh (by omega) b c ?_
    have e1 : cur.toList.take (trimz xs).length = (cur.toList.take xs.length).take (trimz xs).length := by rw [List.take_take]; congr 1; omega
    rw [e1, d]
    have e2 : (wv xs).take (trimz xs).length = wv (xs.take (trimz xs).length) := by simp [wv]
    rw [e2, take_trimz]

/-- The world behind 'set', 'add' and their kin: a row of the call's own that holds xs, in z's block or in a new one; of the old blocks z's alone may have turned. -/
def SetP (w : World) (base : Nat) (z : Value) (xs : List Nat) (e : Ending) (w' : World) : Prop :=
  ∃ A c, e = .returned (.slice A xs.length c) ∧ Own w' base (.slice A xs.length c) xs ∧ ((Value.slice A xs.length c).ownBlock = z.ownBlock ∨ ∃ k, (Value.slice A xs.length c).ownBlock = some k ∧ w.heap.size ≤ k) ∧ Fr w w' (fun k => z.ownBlock = some k)

set_option maxHeartbeats 400000 in
theorem set_any (base : Nat) (z : Value) (m : Nat) (v : Value) (xs : List Nat) (w : World) (hz : Room w base z m) (hx : RdW w v xs) (hb : base ≤ w.heap.size) (hn : xs.length ≤ 1099511627776) :
    Calls Tryz.prog 116 #[z, v] w (SetP w base z xs) := by
  rcases hx with ⟨Ax, cx, rfl, rfl, -⟩ | ⟨g, o, c, rfl, hl, hc, hx⟩
  · go_enter Tryz.func116, Tryz.ntmps116
    go_wp2_with fail
    refine (make_any base z m 0 w hz hb (by omega) (by omega)).mono ?_
    rintro e w1 ⟨r, rfl, hr, hrb, hbel⟩
    rw [Int.toNat_zero] at hr
    obtain ⟨A, c, rfl⟩ := hr.slice
    have H : SetP w base z [] (.returned (.slice A 0 c)) w1 := ⟨_, _, rfl, hr.empty, hrb.imp id (fun h => ⟨_, h, Nat.le_refl _⟩), Fr.of_below hbel _⟩
    have HH := hide H
    clear H hr hrb hbel hz
    go_wp2_with (refine wpList_copy_nothing rfl (.tmp 9) (.tmp 10) 65 65 rfl 145 Tryz.underlying65 sizeWord _ _ _ _ _ _ rfl rfl ?_ ?_; exact Nat.min_eq_left (Nat.zero_le _))
    go_ret
    exact HH.out
  · go_enter Tryz.func116, Tryz.ntmps116
    go_wp2_with fail
    refine (make_any base z m _ w hz hb (by omega) (by omega)).mono ?_
    rintro e w1 ⟨r, rfl, hr, hrb, hbel⟩
    rw [Int.toNat_natCast] at hr
    have hx1 : WordsAt w1 g o xs := hx.fr (Fr.of_below hbel (fun _ => False)) (fun h => h)
    clear hx
    rcases Nat.eq_zero_or_pos xs.length with h0 | hp
    · obtain rfl : xs = [] := List.eq_nil_of_length_eq_zero h0
      clear h0
      obtain ⟨A, c', rfl⟩ := hr.slice
      have H : SetP w base z [] (.returned (.slice A 0 c')) w1 := ⟨_, _, rfl, Room.empty hr, hrb.imp id (fun h => ⟨_, h, Nat.le_refl _⟩), Fr.of_below hbel _⟩
      have HH := hide H
      clear H hr hrb hbel hz hx1
      go_wp2_with (refine wpList_copy_nothing rfl (.tmp 9) (.tmp 10) 65 65 rfl 145 Tryz.underlying65 sizeWord _ _ _ _ _ _ rfl rfl ?_ ?_; exact Nat.min_eq_left (Nat.zero_le _))
      go_ret
      exact HH.out
    · rcases hr.form with ⟨_, h1⟩ | ⟨g', cap, cur, rfl, hg, hh, ha, hcap, hs⟩
      · omega
      · have hlt : xs.length ≤ cur.toList.length := by simp; omega
        have H : SetP w base z xs (.returned (.slice (some ⟨g', 0, none⟩) xs.length cap)) (w1.setRow g' (wv xs ++ cur.toList.drop (wv xs).length).toArray) := by
          refine ⟨_, _, rfl, Own.mk hg (hh.setRow _) ha hcap ?_ ?_, hrb.imp id (fun h => ⟨_, h, Nat.le_refl _⟩), (Fr.of_below hbel _).setRow (fun hlt' => ?_) _⟩
          · simp [wv_length]; simp at hlt; omega
          · simp [← wv_length]
          · rcases hrb with h | h
            · exact h.symm
            · simp [Value.ownBlock] at h; omega
        have HH := hide H
        have HB : Hid (w1.heap[g']? = some (.cells cur 145 (0, 0))) := hh
        have HX := hide hx1
        have hfit : (wv xs).length ≤ cur.size := by rw [wv_length]; omega
        clear H hr hrb hbel hz hh hx1 hlt hs
        go_wp2_with (refine wpList_copy_own rfl (.tmp 9) (.tmp 10) 65 65 rfl 145 Tryz.underlying65 sizeWord g' 0 _ _ ⟨g, o, none⟩ _ _ rfl rfl cur _ HB.out (wv xs) ?_ ?_ ?_ wv_one ?_; exact (wv_length xs).trans (Nat.min_self _).symm; (intro j v hv; rw [wv_at] at hv; obtain ⟨d, hd, rfl⟩ := Option.map_eq_some_iff.1 hv; have hj := (List.getElem?_eq_some_iff.1 hd).1; have := HX.out j hj; rw [getD_at hj, (List.getElem?_eq_some_iff.1 hd).2] at this; exact (by unfold Addr.add; split <;> simp_all)); (rw [Nat.zero_add]; exact hfit))
        go_ret
        exact HH.out
end Go.Proofs.YtfkcobdkgjhfaaaGreatDoor

/- Walks: divWVW. -/
set_option linter.unusedVariables false
set_option linter.unusedSimpArgs false
namespace Go.Proofs.YtfkcobdkgjhfaaaGreatDoor
open Go.RowKit

/-- A row divided by a word. -/
def DivRowP (w : World) (base g n cap y : Nat) (xs : List Nat) (e : Ending) (w' : World) : Prop :=
  ∃ rr : Nat, e = .returned (.int .u64 (rr : Int)) ∧ Hid (rr = (divD y xs).2) ∧ Own w' base (.slice (some ⟨g, 0, none⟩) n cap) (divD y xs).1 ∧ Fr w w' (fun k => k = g)

set_option maxHeartbeats 1000000 in
theorem divWVW_one (base g cap x y : Nat) (A : Option Addr) (c : Nat) (cur : Array Value) (w : World) (hg : base ≤ g) (hb : Blk w g 145 cur) (hc : 1 ≤ cap) (hm : cap ≤ maxLen) (hs : cur.size = cap)
    (hx : RdW w (.slice A 1 c) [x]) (hy0 : 0 < y) (hy : y < 18446744073709551616) (hxl : x < 18446744073709551616) :
    Calls Tryz.prog 165 #[.slice (some ⟨g, 0, none⟩) 1 cap, .int .u64 0, .slice A 1 c, .int .u64 (y : Int)] w (DivRowP w base g 1 cap y [x]) := by
  obtain ⟨gx, o, rfl, _, hcell⟩ := RdG.at_ (k := .u64) (xs := [x]) hx 0 (by simp)
  have x0 : w.cell? ⟨gx, o, none⟩ = some (.int .u64 (x : Int)) := by simpa using hcell
  have Con := hide (bitsDiv_any 0 x y w hy hxl hy0)
  have fin : ∀ (q r : Nat) (w1 : World), q = (0 * 18446744073709551616 + x) / y ∧ r = (0 * 18446744073709551616 + x) % y → Below w.heap.size w w1 →
      (∃ u, w1.cell? ⟨g, 0, none⟩ = some u) ∧ w1.frozen? ⟨g, 0, none⟩ = false ∧ Hid (DivRowP w base g 1 cap y [x] (.returned (.int .u64 (r : Int))) (w1.setCell ⟨g, 0, none⟩ (.int .u64 (q : Int)))) := by
    intro q r w1 hqr hbel
    have b1 := hb.below hbel
    refine ⟨⟨_, (b1.cell 0).trans (Array.getElem?_eq_getElem (by omega))⟩, b1.frozen 0, r, rfl, ?_, ?_, ?_⟩
    · show r = _
      rw [hqr.2]; simp [divD]
    · have e1 : (divD y [x]).1 = [q] := by rw [hqr.1]; simp [divD]
      rw [e1]
      refine Own.mk (xs := [q]) hg (b1.set 0 _) hc hm (by simpa using hs) ?_
      obtain ⟨l⟩ := cur
      cases l with
      | nil => simp at hs; omega
      | cons a l => simp [wv]
    · exact (Fr.of_below hbel (fun k => k = g)).setCell (p := ⟨g, 0, none⟩) (fun _ => rfl) _
  have Fin := hide fin
  clear hx hcell fin hb hs
  go_enter Tryz.func165, Tryz.ntmps165
  go_wp2_with fail
  refine (Con.out).mono ?_
  rintro e w1 ⟨q, r, rfl, h1, h2⟩
  obtain ⟨⟨u, k1⟩, k2, HF⟩ := Fin.out q r w1 h1.out h2
  clear h1 h2 Con Fin
  go_wp2
  go_ret
  exact HF.out

/-- What a round holds: z's cells from k on are the quotient's. -/
structure DivSt (w : World) (g n cap k y : Nat) (xs : List Nat) (r : Nat) (W : World) : Prop where
  rest : r = (divD y (xs.drop k)).2
  blk : ∃ cur, Blk W g 145 cur ∧ cur.size = cap ∧ (cur.toList.take n).drop k = wv (divD y (xs.drop k)).1
  fr : Fr w W (fun k => k = g)

theorem DivSt.step {w W W1 : World} {g n cap k y : Nat} {xs : List Nat} {r q r' : Nat} (h : DivSt w g n cap (k + 1) y xs r W) (hn : n = xs.length) (hk : k < n) (hc : n ≤ cap)
    (hq : q = (r * 18446744073709551616 + xs.getD k 0) / y ∧ r' = (r * 18446744073709551616 + xs.getD k 0) % y) (hbel : Below W.heap.size W W1) :
    (∃ u, W1.cell? ⟨g, k, none⟩ = some u) ∧ W1.frozen? ⟨g, k, none⟩ = false ∧ DivSt w g n cap k y xs r' (W1.setCell ⟨g, k, none⟩ (.int .u64 (q : Int))) := by
  obtain ⟨cur, hB, hs, hd⟩ := h.blk
  have b1 := hB.below hbel
  have hdrop : xs.drop k = xs.getD k 0 :: xs.drop (k + 1) := by
    rw [getD_at (by omega)]
    exact List.drop_eq_getElem_cons (by omega)
  have e1 : divD y (xs.drop k) = (q :: (divD y (xs.drop (k + 1))).1, r') := by
    rw [hdrop, divD, ← h.rest, hq.1, hq.2]
  refine ⟨⟨_, (b1.cell k).trans (Array.getElem?_eq_getElem (by omega))⟩, b1.frozen k, ⟨by rw [e1], ⟨_, b1.set k _, by simpa using hs, ?_⟩, ?_⟩⟩
  · rw [e1]
    simp only [Array.toList_setIfInBounds]
    have hl : k < (cur.toList.take n).length := by simp; omega
    rw [List.take_set, List.drop_eq_getElem_cons (by simpa using hl), List.getElem_set_self, List.drop_set_of_lt (by omega), hd]
    rfl
  · exact (Fr.step h.fr (Fr.of_below hbel (fun _ => False)) (fun _ _ h => h.elim)).setCell (p := ⟨g, k, none⟩) (fun _ => rfl) _

set_option maxHeartbeats 2000000 in
theorem divWVW_many (base g n cap y : Nat) (A : Option Addr) (c : Nat) (cur : Array Value) (xs : List Nat) (w : World) (hg : base ≤ g) (hb : Blk w g 145 cur) (hn : n = xs.length) (hn2 : 2 ≤ n) (hnb : n ≤ 1099511627776) (hc : n ≤ cap) (hm : cap ≤ maxLen) (hs : cur.size = cap)
    (hx : RdW w (.slice A n c) xs) (hxb : ∀ k, (Value.slice A n c).ownBlock = some k → k ≠ g) (hy0 : 0 < y) (hy : y < 18446744073709551616) (hd : Dig 18446744073709551616 xs) :
    Calls Tryz.prog 165 #[.slice (some ⟨g, 0, none⟩) n cap, .int .u64 0, .slice A n c, .int .u64 (y : Int)] w (DivRowP w base g n cap y xs) := by
  have n1 : ((n : Int) == 1) = false := beq_eq_false_iff_ne.2 (by omega)
  have hx2 : ∀ i, i < n → ∃ gx o, A = some ⟨gx, o, none⟩ ∧ gx ≠ g ∧ w.cell? ⟨gx, o + i, none⟩ = some (.int .u64 (xs.getD i 0 : Nat)) := by
    intro i hi
    obtain ⟨gx, o, e1, _, e2⟩ := RdG.at_ (k := .u64) hx i (by omega)
    exact ⟨gx, o, e1, hxb gx (by rw [e1]; rfl), e2⟩
  have hst : DivSt w g n cap n y xs 0 w := ⟨by rw [hn, List.drop_length]; rfl, ⟨cur, hb, hs, by rw [hn, List.drop_length]; simp [divD, wv]⟩, Fr.refl _ _⟩
  have Con := hide (recip_any y w hy0 hy)
  have HS := hide hst
  have HX := hide hx2
  have HD := hide hd
  have HN := hide hn
  clear hst hx2 hx hxb hb hs hd hn
  go_enter Tryz.func165, Tryz.ntmps165
  go_wp2_with fail
  refine (Con.out).mono ?_
  rintro e w0 ⟨m, rfl, hmr, hbel⟩
  have HS0 : Hid (DivSt w g n cap n y xs 0 w0) := by
    obtain ⟨h1, ⟨cu, h2, h3, h4⟩, h5⟩ := HS.out
    exact ⟨h1, ⟨cu, h2.below hbel, h3, h4⟩, Fr.step h5 (Fr.of_below hbel (fun _ => False)) (fun _ _ h => h.elim)⟩
  clear HS hbel Con
  go_wp2
  go_loopw [8, 12] (fun vr vi wr => ∃ (k r : Nat), k ≤ n ∧ vi = .int .i64 ((k : Int) - 1) ∧ vr = .int .u64 (r : Int) ∧ Hid (DivSt w g n cap k y xs r wr)) (fun _ vi _ => (intOf vi + 1).toNat)
  case atStart => exact ⟨n, 0, Nat.le_refl _, by go_num, rfl, HS0⟩
  case round =>
    obtain ⟨k, r, hk, rfl, rfl, HR⟩ := hrel
    rcases Nat.eq_zero_or_pos k with rfl | hp
    · have HF : Hid (DivRowP w base g n cap y xs (.returned (.int .u64 (r : Int))) wr) := by
        obtain ⟨h1, ⟨cu, h2, h3, h4⟩, h5⟩ := HR.out
        rw [List.drop_zero] at h1 h4
        rw [List.drop_zero] at h4
        have hl : (divD y xs).1.length = n := by rw [divD_length, HN.out]
        refine ⟨r, rfl, h1, ?_, h5⟩
        have := Own.mk (xs := (divD y xs).1) hg h2 (by omega) hm h3 (by rw [hl]; exact h4)
        rwa [hl] at this
      clear HS0 HR
      go_wp2
      go_ret
      exact HF.out
    · obtain ⟨j, rfl⟩ : ∃ j, k = j + 1 := ⟨k - 1, by omega⟩
      obtain ⟨gx, o, rfl, hgx, hcell⟩ := HX.out j (by omega)
      have hcw : wr.cell? ⟨gx, o + j, none⟩ = some (.int .u64 (xs.getD j 0 : Nat)) := HR.out.fr.cell hcell hgx
      have hxl : xs.getD j 0 < 18446744073709551616 := HD.out _ (by rw [getD_at (by have := HN.out; omega)]; exact List.getElem_mem _)
      have e1 : ((j + 1 : Nat) : Int) - 1 = (j : Int) := by omega
      have hrl : r < y := by rw [HR.out.rest]; exact divD_rest hy0 _
      have step := fun (q r' : Nat) W1 h1 h2 => HR.out.step (W1 := W1) (q := q) (r' := r') HN.out (by omega) hc h1 h2
      have Step := hide step
      have Con2 := hide (divWW_any r (xs.getD j 0) y m wr hy hxl hrl hmr.out)
      clear hcell step HR HS0 hxl hrl
      generalize xs.getD j 0 = x at hcw Step Con2
      go_wp2_with fail
      refine (Con2.out).mono ?_
      rintro e w3 ⟨q, r', rfl, h1, h2⟩
      obtain ⟨⟨u, k1⟩, k2, HT⟩ := Step.out q r' w3 h1.out h2
      have HT2 := hide HT
      clear h1 h2 HT Con2 Step
      go_wp2
      go_roundw
      case rel => exact ⟨j, r', by omega, by go_num, rfl, HT2⟩
      case measure => simp [intOf]

theorem divWVW_any (base g n cap y : Nat) (A : Option Addr) (c : Nat) (cur : Array Value) (xs : List Nat) (w : World) (hg : base ≤ g) (hb : Blk w g 145 cur) (hn : n = xs.length) (hn1 : 1 ≤ n) (hnb : n ≤ 1099511627776) (hc : n ≤ cap) (hm : cap ≤ maxLen) (hs : cur.size = cap)
    (hx : RdW w (.slice A n c) xs) (hxb : ∀ k, (Value.slice A n c).ownBlock = some k → k ≠ g) (hy0 : 0 < y) (hy : y < 18446744073709551616) (hd : Dig 18446744073709551616 xs) :
    Calls Tryz.prog 165 #[.slice (some ⟨g, 0, none⟩) n cap, .int .u64 0, .slice A n c, .int .u64 (y : Int)] w (DivRowP w base g n cap y xs) := by
  by_cases h : n = 1
  · subst h
    obtain ⟨x, rfl⟩ := List.length_eq_one_iff.1 hn.symm
    exact divWVW_one base g cap x y A c cur w hg hb hc hm hs hx hy0 hy (hd x (by simp))
  · exact divWVW_many base g n cap y A c cur xs w hg hb hn (by omega) hnb hc hm hs hx hxb hy0 hy hd

/-- Behind 'divW': the quotient in z's block or in a new one, and what is left. -/
def DivWP (w : World) (base : Nat) (z : Value) (y : Nat) (xs : List Nat) (e : Ending) (w' : World) : Prop :=
  ∃ (A : Option Addr) (c rr : Nat), e = .returned (.tuple #[.slice A (trimz (divD y xs).1).length c, .int .u64 (rr : Int)]) ∧ Hid (rr = (divD y xs).2) ∧ Own w' base (.slice A (trimz (divD y xs).1).length c) (trimz (divD y xs).1) ∧
    ((Value.slice A (trimz (divD y xs).1).length c).ownBlock = z.ownBlock ∨ ∃ k, (Value.slice A (trimz (divD y xs).1).length c).ownBlock = some k ∧ w.heap.size ≤ k) ∧ Fr w w' (fun k => z.ownBlock = some k)

set_option maxHeartbeats 2000000 in
set_option maxRecDepth 20000 in
theorem divW_any (base n : Nat) (z : Value) (m y : Nat) (A : Option Addr) (c : Nat) (xs : List Nat) (w : World) (hz : Room w base z m) (hb : base ≤ w.heap.size) (hn : n = xs.length) (hnb : n ≤ 1099511627776) (hn1 : 1 ≤ n)
    (hx : RdW w (.slice A n c) xs) (hxb : ∀ k, (Value.slice A n c).ownBlock = some k → z.ownBlock ≠ some k) (hy1 : 1 < y) (hy : y < 18446744073709551616) (hd : Dig 18446744073709551616 xs) :
    Calls Tryz.prog 141 #[z, .slice A n c, .int .u64 (y : Int)] w (DivWP w base z y xs) := by
  have y0 : ((y : Int) == 0) = false := beq_eq_false_iff_ne.2 (by omega)
  have y1 : ((y : Int) == 1) = false := beq_eq_false_iff_ne.2 (by omega)
  have n0 : ((n : Int) == 0) = false := beq_eq_false_iff_ne.2 (by omega)
  have Con := hide (make_any base z m n w hz hb (by omega) (by omega))
  have HX := hide (And.intro hx (And.intro hxb hd))
  clear hx hxb hd hz
  have HN := hide hn
  clear hn
  go_enter Tryz.func141, Tryz.ntmps141
  go_wp2_with fail
  refine (Con.out).mono ?_
  rintro e w1 ⟨r, rfl, hr, hrb, hbel⟩
  rw [Int.toNat_natCast] at hr
  rcases hr.form with ⟨_, h1⟩ | ⟨g, cap, cur, rfl, hg, hh, ha, hcap, hs⟩
  · omega
  have hx1 : RdW w1 (.slice A n c) xs := RdG.below (k := .u64) HX.out.1 hbel
  have hxg : ∀ k, (Value.slice A n c).ownBlock = some k → k ≠ g := by
    intro k hk
    rcases hrb with h | h
    · rintro rfl; exact HX.out.2.1 k hk h.symm
    · simp [Value.ownBlock] at h
      rcases A with _ | ⟨gx, ox, sx⟩
      · cases hk
      · obtain ⟨gx', o', e1, e2, _⟩ := RdG.at_ (k := .u64) HX.out.1 0 (by have := HN.out; omega)
        injection e1 with e1
        injection e1 with e1
        simp [Value.ownBlock] at hk
        omega
  have Con2 := hide (divWVW_any base g n cap y A c cur xs w1 hg hh HN.out hn1 hnb ha hcap hs hx1 hxg (by omega) hy HX.out.2.2)
  have HB := hide (And.intro hrb hbel)
  clear hr hrb hbel hh hs hx1 hxg Con
  go_wp2_with fail
  refine (Con2.out).mono ?_
  rintro e w2 ⟨rr, rfl, hrr, hown, hfr⟩
  have hl : (divD y xs).1.length = n := by rw [divD_length, HN.out]
  have Con3 := hide (norm_own base (.slice (some ⟨g, 0, none⟩) n cap) (divD y xs).1 w2 hown)
  have HF := hide hfr
  clear hown hfr Con2
  go_wp2_with fail
  refine (Con3.out).mono ?_
  rintro e w3 ⟨A3, c3, rfl, hown3, hblk, rfl⟩
  have fin : DivWP w base z y xs (.returned (.tuple #[.slice A3 (trimz (divD y xs).1).length c3, .int .u64 (rr : Int)])) w2 := by
    refine ⟨A3, c3, rr, rfl, hrr, hown3, ?_, ?_⟩
    · rw [hblk]
      exact HB.out.1.imp id (fun h => ⟨_, h, Nat.le_refl _⟩)
    · refine Fr.step (Fr.of_below HB.out.2 _) HF.out (fun i hi h => ?_)
      rcases HB.out.1 with h2 | h2
      · rw [← h2, h]; rfl
      · simp [Value.ownBlock] at h2; omega
  have Fin := hide fin
  clear fin hown3 hblk hrr HB HF Con3
  go_wp2
  go_ret2
  exact Fin.out
end Go.Proofs.YtfkcobdkgjhfaaaGreatDoor
