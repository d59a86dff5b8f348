/- Parts of the proof of 'laws.FnNumDigits': Nat1, MulV. -/
import Derived.Deep.RegionWith
import Derived.Deep.DeepFit
import Derived.BigQuiet
import Derived.Laws.CopyOwn
import Derived.Deep.RegionHeld3
import Derived.Test.YtlaepcfooopbmaaGreatDoorFnNumDigitsJ1
import Derived.Test.YtlaepcfooopbmaaGreatDoorFnNumDigitsJ2
/- Walks: nat's make, norm, set, setWord, setUint64. -/
set_option linter.unusedVariables false
set_option linter.unusedSimpArgs false
namespace Go.Proofs.YtlaepcfooopbmaaGreatDoor
open Go.RowKit

theorem infoWord : (Tryz.prog.info? 84).map (fun i => (i.zero, i.size, i.bytes)) = some (some (.int .u64 0), 1, 8) := by kernel_rfl
theorem sizeWord : (Tryz.prog.info? 84).map (·.size) = some 1 := by kernel_rfl

/-- What 'make' comes to: a row in z's block or in a new one; no old block turns. -/
def MadeP (w : World) (base : Nat) (z : Value) (n : Nat) (e : Ending) (w' : World) : Prop :=
  ∃ r, e = .returned r ∧ Room w' base r n ∧ (r.ownBlock = z.ownBlock ∨ r.ownBlock = some w.heap.size) ∧ Below w.heap.size w w'

theorem mk_row (n c : Nat) (hnc : n ≤ c) (hc : c ≤ 2199023255552) (w : World) :
    (Instr.makeSlice 73 (.int .i64 (n : Int)) (.int .i64 (c : Int))).run Tryz.prog w = .ok (.slice (some ⟨w.heap.size, 0, none⟩) n c) (w.alloc (.cells (madeCells #[.int .u64 0] c) 84)) := by
  obtain ⟨i0, hi, hz0, hz1, hz2⟩ := info_parts infoWord
  have := run_make (P := Tryz.prog) w 73 84 i0 (.int .u64 0) Tryz.underlying73 hi hz0 .i64 .i64 n c (by omega) (by omega) (by rw [hz2]; omega) (by omega)
  rw [hz1, Nat.mul_one] at this
  exact this

theorem room_made (w : World) (base : Nat) (hb : base ≤ w.heap.size) (n c : Nat) (hnc : n ≤ c) (hc : c ≤ 2199023255552) :
    Room (w.alloc (.cells (madeCells #[.int .u64 0] c) 84)) base (.slice (some ⟨w.heap.size, 0, none⟩) n c) n :=
  Room.mk hb (Blk.new w _ _) hnc (by simp only [maxLen]; omega) (size_madeCells _ _)

theorem room_cut {w : World} {base m : Nat} {A : Option Addr} {cap : Nat} (h : Room w base (.slice A m cap) m) {n : Nat} (hn : n ≤ cap) : Room w base (.slice A n cap) n := by
  rcases h.form with ⟨h1, h2⟩ | ⟨g, cap', cur, hv, hg, hh, h1, h2, h3⟩
  · injection h1 with a b c
    subst a; subst b; subst c
    obtain rfl : n = 0 := by omega
    exact (Own.nil w base).room
  · injection hv with a b c
    subst a; subst c
    exact Room.mk hg hh hn h2 h3

set_option maxHeartbeats 400000 in
theorem make_any (base : Nat) (z : Value) (m : Nat) (n : Int) (w : World) (hz : Room w base z m) (hb : base ≤ w.heap.size) (h0 : 0 ≤ n) (hn : n ≤ 1099511627776) :
    Calls Tryz.prog 96 #[z, .int .i64 n] w (MadeP w base z n.toNat) := by
  obtain ⟨A, cap, rfl⟩ := hz.slice
  obtain ⟨n, rfl⟩ := Int.eq_ofNat_of_zero_le h0
  by_cases hc : n ≤ cap
  · have hr := room_cut hz hc
    have H : MadeP w base (.slice A m cap) n (.returned (.slice A n cap)) w := ⟨_, rfl, hr, .inl (by cases A <;> rfl), Below.refl _ _⟩
    have HH := hide H
    clear H hr hz
    go_enter Tryz.func96, Tryz.ntmps96
    go_wp2
    go_ret
    exact HH.out
  · by_cases h1 : n = 1
    · subst h1
      have H : MadeP w base (.slice A m cap) 1 (.returned (.slice (some ⟨w.heap.size, 0, none⟩) 1 1)) (w.alloc (.cells (madeCells #[.int .u64 0] 1) 84)) := ⟨_, rfl, room_made w base hb 1 1 (Nat.le_refl _) (by omega), .inr rfl, (Below.refl _ _).alloc (Nat.le_refl _) _⟩
      have HH := hide H
      have hm : ∀ W : World, (Instr.makeSlice 73 (.int .i64 1) (.int .i64 1)).run Tryz.prog W = .ok (.slice (some ⟨W.heap.size, 0, none⟩) 1 1) (W.alloc (.cells (madeCells #[.int .u64 0] 1) 84)) := fun W => mk_row 1 1 (by omega) (by omega) W
      clear H hz
      go_enter Tryz.func96, Tryz.ntmps96
      go_wp2
      go_ret
      exact HH.out
    · have H : MadeP w base (.slice A m cap) n (.returned (.slice (some ⟨w.heap.size, 0, none⟩) n (n+4))) (w.alloc (.cells (madeCells #[.int .u64 0] (n+4)) 84)) := ⟨_, rfl, room_made w base hb n (n+4) (by omega) (by omega), .inr rfl, (Below.refl _ _).alloc (Nat.le_refl _) _⟩
      have HH := hide H
      have hm : ∀ W : World, (Instr.makeSlice 73 (.int .i64 (n : Int)) (.int .i64 ((n : Int) + 4))).run Tryz.prog W = .ok (.slice (some ⟨W.heap.size, 0, none⟩) n (n+4)) (W.alloc (.cells (madeCells #[.int .u64 0] (n+4)) 84)) := fun W => mk_row n (n+4) (by omega) (by omega) W
      clear H hz
      go_enter Tryz.func96, Tryz.ntmps96
      go_wp2
      go_ret
      exact HH.out

theorem Room.empty {w : World} {base c : Nat} {A : Option Addr} (h : Room w base (.slice A 0 c) 0) : Own w base (.slice A 0 c) [] := by
  rcases h.form with ⟨h1, _⟩ | ⟨g, cap, cur, h1, hg, hh, a, b, c⟩
  · rw [h1]; exact Own.nil _ _
  · rw [h1]; exact Own.mk (xs := []) hg hh (Nat.zero_le _) b c rfl

set_option maxHeartbeats 400000 in
theorem norm_at (g o c : Nat) (xs : List Nat) (w : World) (hx : WordsAt w g o xs) (hl : xs.length ≤ c) (hc : c ≤ maxLen) :
    Calls Tryz.prog 72 #[.slice (some ⟨g, o, none⟩) xs.length c] w fun e w' => e = .returned (.slice (some ⟨g, o, none⟩) (trimz xs).length c) ∧ w = w' := by
  unfold maxLen at hc
  have Hx := hide hx
  clear hx
  go_enter Tryz.func72, Tryz.ntmps72
  go_wp2
  go_loop [3] (fun i => ∃ k : Nat, k ≤ xs.length ∧ i = .int .i64 k ∧ Hid (trimz (xs.take k) = trimz xs)) (fun i => (intOf i).toNat)
  case atStart => exact ⟨xs.length, Nat.le_refl _, rfl, by rw [List.take_of_length_le (Nat.le_refl _)]; rfl⟩
  case round =>
    obtain ⟨k, hk, rfl, ht⟩ := hrel
    rcases Nat.eq_zero_or_pos k with rfl | hp
    · have H : (trimz xs).length = 0 := by rw [← ht.out]; rfl
      have HH := hide H
      clear H
      go_wp2
      go_ret
      rw [HH.out]
      exact ⟨rfl, rfl⟩
    · obtain ⟨k, rfl⟩ : ∃ m, k = m + 1 := ⟨k - 1, by omega⟩
      have hcell : w.cell? ⟨g, o + k, none⟩ = some (.int .u64 (xs.getD k 0 : Nat)) := Hx.out k (by omega)
      have e1 : ((k + 1 : Nat) : Int) - 1 = (k : Int) := by omega
      by_cases h0 : xs.getD k 0 = 0
      · rw [h0] at hcell
        have HT : Hid (trimz (xs.take k) = trimz xs) := by
          have := ht.out
          rw [trimz_take_zero (by omega) h0] at this
          exact this
        go_wp2
        go_round
        case rel => exact ⟨k, by omega, by go_num, HT⟩
        case measure => simp [intOf]
      · have H : (trimz xs).length = k + 1 := by rw [← ht.out, trimz_take_ne (by omega) h0, List.length_take]; omega
        have HH := hide H
        clear H ht
        generalize xs.getD k 0 = d at hcell h0
        have hd : ((d : Int) == 0) = false := by simpa using h0
        clear h0
        go_wp2
        go_ret
        rw [HH.out]
        exact ⟨rfl, rfl⟩

theorem norm_nil (w : World) :
    Calls Tryz.prog 72 #[.slice none 0 0] w fun e w' => e = .returned (.slice none 0 0) ∧ w = w' := by
  go_enter Tryz.func72, Tryz.ntmps72
  go_wp2
  refine wp_loop_rounds 1 ?_
  rw [rounds_succ]
  go_wp2
  go_ret
  exact ⟨rfl, rfl⟩

/-- 'norm' of a row of the call's own. -/
theorem norm_own (base : Nat) (v : Value) (xs : List Nat) (w : World) (hv : Own w base v xs) :
    Calls Tryz.prog 72 #[v] w fun e w' => ∃ A c, e = .returned (.slice A (trimz xs).length c) ∧ Own w base (.slice A (trimz xs).length c) (trimz xs) ∧ (Value.slice A (trimz xs).length c).ownBlock = v.ownBlock ∧ w = w' := by
  rcases hv.form with ⟨rfl, rfl⟩ | ⟨g, cap, cur, rfl, hg, hh, a, b, c, d⟩
  · exact (norm_nil w).mono fun e w' ⟨he, hw⟩ => ⟨none, 0, he, Own.nil w base, rfl, hw⟩
  · refine (norm_at g 0 cap xs w hv.words a b).mono fun e w' ⟨he, hw⟩ => ⟨_, _, he, ?_, rfl, hw⟩
    have hl := trimz_length_le xs
    refine Own.mk hg hh (by omega) b c ?_
    have e1 : cur.toList.take (trimz xs).length = (cur.toList.take xs.length).take (trimz xs).length := by rw [List.take_take]; congr 1; omega
    rw [e1, d]
    have e2 : (wv xs).take (trimz xs).length = wv (xs.take (trimz xs).length) := by simp [wv]
    rw [e2, take_trimz]

/-- The world behind 'set', 'add' and their kin: a row of the call's own that holds xs, in z's block or in a new one; of the old blocks z's alone may have turned. -/
def SetP (w : World) (base : Nat) (z : Value) (xs : List Nat) (e : Ending) (w' : World) : Prop :=
  ∃ A c, e = .returned (.slice A xs.length c) ∧ Own w' base (.slice A xs.length c) xs ∧ ((Value.slice A xs.length c).ownBlock = z.ownBlock ∨ ∃ k, (Value.slice A xs.length c).ownBlock = some k ∧ w.heap.size ≤ k) ∧ Fr w w' (fun k => z.ownBlock = some k)

set_option maxHeartbeats 400000 in
theorem set_any (base : Nat) (z : Value) (m : Nat) (v : Value) (xs : List Nat) (w : World) (hz : Room w base z m) (hx : RdW w v xs) (hb : base ≤ w.heap.size) (hn : xs.length ≤ 1099511627776) :
    Calls Tryz.prog 87 #[z, v] w (SetP w base z xs) := by
  rcases hx with ⟨Ax, cx, rfl, rfl, -⟩ | ⟨g, o, c, rfl, hl, hc, hx⟩
  · go_enter Tryz.func87, Tryz.ntmps87
    go_wp2_with fail
    refine (make_any base z m 0 w hz hb (by omega) (by omega)).mono ?_
    rintro e w1 ⟨r, rfl, hr, hrb, hbel⟩
    rw [Int.toNat_zero] at hr
    obtain ⟨A, c, rfl⟩ := hr.slice
    have H : SetP w base z [] (.returned (.slice A 0 c)) w1 := ⟨_, _, rfl, hr.empty, hrb.imp id (fun h => ⟨_, h, Nat.le_refl _⟩), Fr.of_below hbel _⟩
    have HH := hide H
    clear H hr hrb hbel hz
    go_wp2_with (refine wpList_copy_nothing rfl (.tmp 9) (.tmp 10) 73 73 rfl 84 Tryz.underlying73 sizeWord _ _ _ _ _ _ rfl rfl ?_ ?_; exact Nat.min_eq_left (Nat.zero_le _))
    go_ret
    exact HH.out
  · go_enter Tryz.func87, Tryz.ntmps87
    go_wp2_with fail
    refine (make_any base z m _ w hz hb (by omega) (by omega)).mono ?_
    rintro e w1 ⟨r, rfl, hr, hrb, hbel⟩
    rw [Int.toNat_natCast] at hr
    have hx1 : WordsAt w1 g o xs := hx.fr (Fr.of_below hbel (fun _ => False)) (fun h => h)
    clear hx
    rcases Nat.eq_zero_or_pos xs.length with h0 | hp
    · obtain rfl : xs = [] := List.eq_nil_of_length_eq_zero h0
      clear h0
      obtain ⟨A, c', rfl⟩ := hr.slice
      have H : SetP w base z [] (.returned (.slice A 0 c')) w1 := ⟨_, _, rfl, Room.empty hr, hrb.imp id (fun h => ⟨_, h, Nat.le_refl _⟩), Fr.of_below hbel _⟩
      have HH := hide H
      clear H hr hrb hbel hz hx1
      go_wp2_with (refine wpList_copy_nothing rfl (.tmp 9) (.tmp 10) 73 73 rfl 84 Tryz.underlying73 sizeWord _ _ _ _ _ _ rfl rfl ?_ ?_; exact Nat.min_eq_left (Nat.zero_le _))
      go_ret
      exact HH.out
    · rcases hr.form with ⟨_, h1⟩ | ⟨g', cap, cur, rfl, hg, hh, ha, hcap, hs⟩
      · omega
      · have hlt : xs.length ≤ cur.toList.length := by simp; omega
        have H : SetP w base z xs (.returned (.slice (some ⟨g', 0, none⟩) xs.length cap)) (w1.setRow g' (wv xs ++ cur.toList.drop (wv xs).length).toArray) := by
          refine ⟨_, _, rfl, Own.mk hg (hh.setRow _) ha hcap ?_ ?_, hrb.imp id (fun h => ⟨_, h, Nat.le_refl _⟩), (Fr.of_below hbel _).setRow (fun hlt' => ?_) _⟩
          · simp [wv_length]; simp at hlt; omega
          · simp [← wv_length]
          · rcases hrb with h | h
            · exact h.symm
            · simp [Value.ownBlock] at h; omega
        have HH := hide H
        have HB : Hid (w1.heap[g']? = some (.cells cur 84 (0, 0))) := hh
        have HX := hide hx1
        have hfit : (wv xs).length ≤ cur.size := by rw [wv_length]; omega
        clear H hr hrb hbel hz hh hx1 hlt hs
        go_wp2_with (refine wpList_copy_own rfl (.tmp 9) (.tmp 10) 73 73 rfl 84 Tryz.underlying73 sizeWord g' 0 _ _ ⟨g, o, none⟩ _ _ rfl rfl cur _ HB.out (wv xs) ?_ ?_ ?_ wv_one ?_; exact (wv_length xs).trans (Nat.min_self _).symm; (intro j v hv; rw [wv_at] at hv; obtain ⟨d, hd, rfl⟩ := Option.map_eq_some_iff.1 hv; have hj := (List.getElem?_eq_some_iff.1 hd).1; have := HX.out j hj; rw [getD_at hj, (List.getElem?_eq_some_iff.1 hd).2] at this; exact (by unfold Addr.add; split <;> simp_all)); (rw [Nat.zero_add]; exact hfit))
        go_ret
        exact HH.out
end Go.Proofs.YtlaepcfooopbmaaGreatDoor

/- Walks: a row of words times a word: mulWW, mulAddWWW, mulAddVWW, addMulVVWW. -/
set_option linter.unusedVariables false
set_option linter.unusedSimpArgs false
namespace Go.Proofs.YtlaepcfooopbmaaGreatDoor
open Go.RowKit

set_option maxRecDepth 20000 in
theorem mulWW_any (x y : Nat) (hx : x < 18446744073709551616) (hy : y < 18446744073709551616) (w : World) :
    Calls Tryz.prog 118 #[.int .u64 (x : Int), .int .u64 (y : Int)] w (PairP (fun h l => h = x * y / 18446744073709551616 ∧ l = x * y % 18446744073709551616) w) := by
  have Con := hide (mul_any x y hx hy w)
  go_enter Tryz.func118, Tryz.ntmps118
  go_wp2_with fail
  refine (Con.out).mono ?_
  rintro e w1 ⟨h, l, rfl, hp, rfl⟩
  clear Con
  go_wp2
  go_ret2
  exact ⟨h, l, rfl, hp, rfl⟩

set_option maxRecDepth 20000 in
theorem maww_any (x y c : Nat) (hx : x < 18446744073709551616) (hy : y < 18446744073709551616) (hc : c < 18446744073709551616) (w : World) :
    Calls Tryz.prog 205 #[.int .u64 (x : Int), .int .u64 (y : Int), .int .u64 (c : Int)] w (PairP (fun h l => h = (x * y + c) / 18446744073709551616 ∧ l = (x * y + c) % 18446744073709551616) w) := by
  have Con := hide (mul_any x y hx hy w)
  have HB := hide (mul_word_bound hx hy hc)
  go_enter Tryz.func205, Tryz.ntmps205
  go_wp2_with fail
  refine (Con.out).mono ?_
  rintro e w1 ⟨h, l, rfl, hp, rfl⟩
  have Con2 := hide (add_any l c 0 (by omega) w1)
  clear Con
  go_wp2_with fail
  refine (Con2.out).mono ?_
  rintro e w2 ⟨s, k, rfl, hq, rfl⟩
  have hlt : h + k < 18446744073709551616 ∧ s = (x * y + c) % 18446744073709551616 ∧ h + k = (x * y + c) / 18446744073709551616 := by
    obtain ⟨rfl, rfl⟩ := hp.out
    obtain ⟨rfl, rfl⟩ := hq.out
    obtain ⟨b1, b2, b3⟩ := HB.out
    exact ⟨by rw [Nat.add_zero]; exact b1, by rw [Nat.add_zero]; exact b2, by rw [Nat.add_zero]; exact b3⟩
  obtain ⟨h1, h2, h3⟩ := hlt
  obtain ⟨m, hm⟩ : ∃ m, m = h + k := ⟨_, rfl⟩
  have Fin : Hid (m = (x * y + c) / 18446744073709551616 ∧ s = (x * y + c) % 18446744073709551616) := ⟨hm.trans h3, h2⟩
  have e1 : IntKind.u64.wrap ((h : Int) + (k : Int)) = (m : Int) := by simp [IntKind.wrap, IntKind.signed, IntKind.bits]; omega
  clear h1 h2 h3 hm hp hq HB Con2 hx hy hc
  go_wp2
  go_ret2
  exact ⟨m, s, rfl, Fin.out, rfl⟩

/-- A block in three parts. -/
theorem Blk.part {w : World} {g : Nat} {t : TypeId} {P S : List Value} {a : Value} {i : Nat} (h : Blk w g t (P ++ a :: S).toArray) (hi : i = P.length) : w.cell? ⟨g, i, none⟩ = some a ∧ w.frozen? ⟨g, i, none⟩ = false ∧ ∀ v, Blk (w.setCell ⟨g, i, none⟩ v) g t (P ++ v :: S).toArray := by
  subst hi
  refine ⟨?_, h.frozen _, fun v => ?_⟩
  · rw [h.cell]; simp
  · have := h.set P.length v
    rw [List.setIfInBounds_toArray, set_window] at this
    exact this

/-- What a round of addMulVVWW holds. -/
structure AmS (w : World) (g a d k : Nat) (P S us : List Value) (zs xs : List Nat) (c : Nat) (W : World) : Prop where
  carry : c = (amul 18446744073709551616 d (zs.take k) (xs.take k) a).2
  blk : Blk W g 84 (P ++ wv (amul 18446744073709551616 d (zs.take k) (xs.take k) a).1 ++ us.drop k ++ S).toArray
  fr : Fr w W (fun k => k = g)

theorem wv_append (xs ys : List Nat) : wv (xs ++ ys) = wv xs ++ wv ys := by simp [wv]
theorem wv_cons (x : Nat) (ys : List Nat) : wv (x :: ys) = Value.int .u64 (x : Int) :: wv ys := rfl
theorem take_snoc_getD {xs : List Nat} {k : Nat} (h : k < xs.length) : xs.take (k + 1) = xs.take k ++ [xs.getD k 0] := by
  rw [List.take_succ_eq_append_getElem h, getD_at h]
theorem drop_getD {xs : List Nat} {k : Nat} (h : k < xs.length) : xs.drop k = xs.getD k 0 :: xs.drop (k + 1) := by
  rw [getD_at h]; exact List.drop_eq_getElem_cons h

theorem AmS.drew {w : World} {g a d k : Nat} {P S us : List Value} {zs xs : List Nat} {c : Nat} {W : World} (h : AmS w g a d k P S us zs xs c W) : AmS w g a d k P S us zs xs c W.drew := ⟨h.carry, h.blk, h.fr.drew⟩
theorem AmS.step {w : World} {g a d k o : Nat} {P S us : List Value} {zs xs : List Nat} {c : Nat} {W : World} (h : AmS w g a d k P S us zs xs c W) (ho : o = P.length) (hu : us.length = xs.length) (hz : zs.length = xs.length) (hk : k < xs.length) :
    (∃ u, us[k]? = some u ∧ W.cell? ⟨g, o + k, none⟩ = some u) ∧ W.frozen? ⟨g, o + k, none⟩ = false ∧
      ∀ v c', v = (zs.getD k 0 + xs.getD k 0 * d + c) % 18446744073709551616 ∧ c' = (zs.getD k 0 + xs.getD k 0 * d + c) / 18446744073709551616 → AmS w g a d (k + 1) P S us zs xs c' (W.setCell ⟨g, o + k, none⟩ (.int .u64 (v : Int))) := by
  have hl : (zs.take k).length = (xs.take k).length := by simp [List.length_take, hz]
  have hB := h.blk
  have hk2 : k < us.length := by omega
  rw [List.drop_eq_getElem_cons hk2, List.append_assoc, List.cons_append] at hB
  have hpl : o + k = (P ++ wv (amul 18446744073709551616 d (zs.take k) (xs.take k) a).1).length := by
    rw [List.length_append, wv_length, amul_length _ _ _ hl, List.length_take, ho]; omega
  obtain ⟨h1, h2, h3⟩ := hB.part hpl
  refine ⟨⟨_, List.getElem?_eq_getElem hk2, h1⟩, h2, fun v c' hvc => ?_⟩
  obtain ⟨rfl, rfl⟩ := hvc
  have e := amul_snoc 18446744073709551616 d (zs.getD k 0) (xs.getD k 0) (zs := zs.take k) (xs := xs.take k) a hl
  rw [← h.carry] at e
  refine ⟨?_, ?_, h.fr.setCell (p := ⟨g, o + k, none⟩) (fun _ => rfl) _⟩
  · rw [take_snoc_getD hk, take_snoc_getD (by omega : k < zs.length), e]
  · rw [take_snoc_getD hk, take_snoc_getD (by omega : k < zs.length), e]
    have := h3 (.int .u64 (((zs.getD k 0 + xs.getD k 0 * d + c) % 18446744073709551616 : Nat) : Int))
    rw [wv_append, ← List.append_assoc]
    simpa [wv, List.append_assoc] using this

/-- Behind addMulVVWW. -/
def AmP (w : World) (g a d : Nat) (P S : List Value) (zs xs : List Nat) (e : Ending) (w' : World) : Prop :=
  ∃ q : Nat, e = .returned (.int .u64 (q : Int)) ∧ Hid (q = (amul 18446744073709551616 d zs xs a).2) ∧ Blk w' g 84 (P ++ wv (amul 18446744073709551616 d zs xs a).1 ++ S).toArray ∧ Fr w w' (fun k => k = g)

set_option maxHeartbeats 1000000 in
set_option maxRecDepth 20000 in
/-- z may be x itself. -/
theorem mavg_any (g o n c1 a d : Nat) (P S us : List Value) (A : Option Addr) (c : Nat) (xs : List Nat) (w : World) (hb : Blk w g 84 (P ++ us ++ S).toArray) (ho : o = P.length) (hu : us.length = xs.length) (hn : n = xs.length) (hnb : n ≤ 1099511627776) (hc1 : n ≤ c1)
    (hx : (RdW w (.slice A n c) xs ∧ ∀ k, (Value.slice A n c).ownBlock = some k → k ≠ g) ∨ (A = some ⟨g, o, none⟩ ∧ us = wv xs)) (ha : a < 18446744073709551616) (hd : d < 18446744073709551616) (hdx : Dig 18446744073709551616 xs) :
    Calls Tryz.prog 180 #[.slice (some ⟨g, o, none⟩) n c1, .slice A n c, .int .u64 (d : Int), .int .u64 (a : Int)] w (AmP w g a d P S (List.replicate n 0) xs) := by
  have HS0 : Hid (AmS w g a d 0 P S us (List.replicate n 0) xs a w) := ⟨rfl, by simpa [amul, wv] using hb, Fr.refl _ _⟩
  have hx2 : ∀ k q W, k < n → AmS w g a d k P S us (List.replicate n 0) xs q W → ∃ gx o', A = some ⟨gx, o', none⟩ ∧ W.cell? ⟨gx, o' + k, none⟩ = some (.int .u64 (xs.getD k 0 : Nat)) := by
    intro k q W hk hS
    rcases hx with ⟨h1, h2⟩ | ⟨h1, h2⟩
    · obtain ⟨gx, o', e1, _, e2⟩ := RdG.at_ (k := .u64) h1 k (by omega)
      exact ⟨gx, o', e1, hS.fr.cell e2 (h2 gx (by rw [e1]; rfl))⟩
    · subst h2
      obtain ⟨⟨u, hu1, hu2⟩, _⟩ := hS.step ho (wv_length xs) (by simp [hn]) (by omega)
      rw [wv_at, List.getElem?_eq_getElem (by omega), Option.map_some] at hu1
      obtain rfl := Option.some.inj hu1
      rw [← getD_at (by omega)] at hu2
      exact ⟨g, o, h1, hu2⟩
  have HX := hide hx2
  have HZ := hide (And.intro ho (And.intro hu (And.intro hn hdx)))
  have fin : ∀ (q : Nat) (W : World), AmS w g a d n P S us (List.replicate n 0) xs q W → AmP w g a d P S (List.replicate n 0) xs (.returned (.int .u64 (q : Int))) W := by
    intro q W h
    have e1 : (List.replicate n 0).take n = List.replicate n 0 := List.take_of_length_le (by simp)
    have e2 : xs.take n = xs := List.take_of_length_le (by omega)
    have e3 : us.drop n = [] := List.drop_of_length_le (by omega)
    have h1 := h.carry
    have h2 := h.blk
    rw [e1, e2] at h1 h2
    rw [e3] at h2
    exact ⟨q, rfl, h1, by simpa [wv] using h2, h.fr⟩
  have Fin := hide fin
  clear hb hx hx2 fin ho hu hn hdx
  go_enter Tryz.func180, Tryz.ntmps180
  go_wp2
  go_loopw [8, 19] (fun vc vi wr => ∃ (k q : Nat), k ≤ n ∧ vi = .int .i64 (k : Int) ∧ vc = .int .u64 (q : Int) ∧ q < 18446744073709551616 ∧ Hid (AmS w g a d k P S us (List.replicate n 0) xs q wr)) (fun _ vi _ => n - (intOf vi).toNat)
  case atStart => exact ⟨0, a, Nat.zero_le _, by go_num, rfl, ha, HS0⟩
  case round =>
    obtain ⟨k, q, hk, rfl, rfl, hq, HR⟩ := hrel
    by_cases hlt : k < n
    · obtain ⟨gx, ox, rfl, hcx⟩ := HX.out k q wr hlt HR.out
      obtain ⟨⟨u, _, hcz⟩, hfz, hst⟩ := HR.out.step HZ.out.1 HZ.out.2.1 (by simp [HZ.out.2.2.1]) (by rw [← HZ.out.2.2.1]; exact hlt)
      have hxl : xs.getD k 0 < 18446744073709551616 := HZ.out.2.2.2 _ (by rw [getD_at (by have := HZ.out.2.2.1; omega)]; exact List.getElem_mem _)
      have hz0 : (List.replicate n 0).getD k 0 = 0 := by simp [List.getD_eq_getElem?_getD, hlt]
      have HST := hide hst
      rw [hz0] at HST
      clear hst hz0
      generalize xs.getD k 0 = x at hcx hxl HST
      have Con := hide (maww_any x d q hxl hd hq wr)
      clear HS0 Fin HR HX
      go_wp2_with fail
      refine (Con.out).mono ?_
      rintro e w3 ⟨h, l, rfl, hp, rfl⟩
      have hp2 : l = (0 + x * d + q) % 18446744073709551616 ∧ h = (0 + x * d + q) / 18446744073709551616 := by rw [Nat.zero_add]; exact ⟨hp.out.2, hp.out.1⟩
      have HN := hide (HST.out l h hp2)
      have hml : h < 18446744073709551616 := by rw [hp.out.1]; have := mul_word_bound hxl hd hq; omega
      clear hp hp2 HST Con hxl
      go_wp2
      go_roundw
      case rel => exact ⟨k + 1, h, by omega, by go_num, rfl, hml, HN⟩
      case measure => simp [intOf]; omega
    · obtain rfl : k = n := by omega
      have HF := hide (Fin.out q wr HR.out)
      clear HS0 HR Fin HX
      go_wp2
      go_ret
      exact HF.out
theorem mav_any (g o n c1 a d : Nat) (P S us : List Value) (A : Option Addr) (c : Nat) (xs : List Nat) (w : World) (hb : Blk w g 84 (P ++ us ++ S).toArray) (ho : o = P.length) (hu : us.length = xs.length) (hn : n = xs.length) (hnb : n ≤ 1099511627776) (hc1 : n ≤ c1)
    (hx : (RdW w (.slice A n c) xs ∧ ∀ k, (Value.slice A n c).ownBlock = some k → k ≠ g) ∨ (A = some ⟨g, o, none⟩ ∧ us = wv xs)) (ha : a < 18446744073709551616) (hd : d < 18446744073709551616) (hdx : Dig 18446744073709551616 xs) :
    Calls Tryz.prog 148 #[.slice (some ⟨g, o, none⟩) n c1, .slice A n c, .int .u64 (d : Int), .int .u64 (a : Int)] w (AmP w g a d P S (List.replicate n 0) xs) := by
  have Con := hide (mavg_any g o n c1 a d P S us A c xs w hb ho hu hn hnb hc1 hx ha hd hdx)
  clear hb ho hu hn hx hdx
  go_enter Tryz.func148, Tryz.ntmps148
  go_wp2_with fail
  refine (Con.out).mono ?_
  rintro e w1 ⟨q, rfl, h⟩
  have Fin : Hid (AmP w g a d P S (List.replicate n 0) xs (.returned (.int .u64 (q : Int))) w1) := ⟨q, rfl, h⟩
  clear h Con
  go_wp2
  go_ret
  exact Fin.out

set_option maxHeartbeats 1000000 in
set_option maxRecDepth 20000 in
theorem amvg_any (g o n c1 c2 a d : Nat) (P S : List Value) (A : Option Addr) (c : Nat) (zs xs : List Nat) (w : World) (hb : Blk w g 84 (P ++ wv zs ++ S).toArray) (ho : o = P.length) (hz : zs.length = xs.length) (hn : n = xs.length) (hnb : n ≤ 1099511627776) (hc1 : n ≤ c1) (hc2 : n ≤ c2)
    (hx : RdW w (.slice A n c) xs) (hxb : ∀ k, (Value.slice A n c).ownBlock = some k → k ≠ g) (ha : a < 18446744073709551616) (hd : d < 18446744073709551616) (hdz : Dig 18446744073709551616 zs) (hdx : Dig 18446744073709551616 xs) :
    Calls Tryz.prog 187 #[.slice (some ⟨g, o, none⟩) n c1, .slice (some ⟨g, o, none⟩) n c2, .slice A n c, .int .u64 (d : Int), .int .u64 (a : Int)] w (AmP w g a d P S zs xs) := by
  have HS0 : Hid (AmS w g a d 0 P S (wv zs) zs xs a w) := ⟨rfl, by simpa [amul, wv] using hb, Fr.refl _ _⟩
  have hx2 : ∀ i, i < n → ∃ gx q, A = some ⟨gx, q, none⟩ ∧ gx ≠ g ∧ w.cell? ⟨gx, q + i, none⟩ = some (.int .u64 (xs.getD i 0 : Nat)) := by
    intro i hi
    obtain ⟨gx, q, e1, _, e2⟩ := RdG.at_ (k := .u64) hx i (by omega)
    exact ⟨gx, q, e1, hxb gx (by rw [e1]; rfl), e2⟩
  have HX := hide hx2
  have HZ := hide (And.intro ho (And.intro hz (And.intro hn (And.intro hdz hdx))))
  have fin : ∀ (q : Nat) (W : World), AmS w g a d n P S (wv zs) zs xs q W → AmP w g a d P S zs xs (.returned (.int .u64 (q : Int))) W := by
    intro q W h
    have e1 : zs.take n = zs := List.take_of_length_le (by omega)
    have e2 : xs.take n = xs := List.take_of_length_le (by omega)
    have e3 : (wv zs).drop n = [] := List.drop_of_length_le (by rw [wv_length]; omega)
    have h1 := h.carry
    have h2 := h.blk
    rw [e1, e2] at h1 h2
    rw [e3] at h2
    exact ⟨q, rfl, h1, by simpa [wv] using h2, h.fr⟩
  have Fin := hide fin
  clear hb hx hxb hx2 fin ho hz hn hdz hdx
  go_enter Tryz.func187, Tryz.ntmps187
  go_wp2
  go_loopw [10, 32] (fun vc vi wr => ∃ (k q : Nat), k ≤ n ∧ vi = .int .i64 (k : Int) ∧ vc = .int .u64 (q : Int) ∧ q < 18446744073709551616 ∧ Hid (AmS w g a d k P S (wv zs) zs xs q wr)) (fun _ vi _ => n - (intOf vi).toNat)
  case atStart => exact ⟨0, a, Nat.zero_le _, by go_num, rfl, ha, HS0⟩
  case round =>
    obtain ⟨k, q, hk, rfl, rfl, hq, HR⟩ := hrel
    by_cases hlt : k < n
    · obtain ⟨gx, ox, rfl, hgx, hcell⟩ := HX.out k hlt
      have hcx : wr.cell? ⟨gx, ox + k, none⟩ = some (.int .u64 (xs.getD k 0 : Nat)) := HR.out.fr.cell hcell hgx
      obtain ⟨⟨u, hu, hcz⟩, hfz, hst⟩ := HR.out.drew.step HZ.out.1 (by rw [wv_length]; exact HZ.out.2.1) HZ.out.2.1 (by rw [← HZ.out.2.2.1]; exact hlt)
      have hzk : k < zs.length := by have := HZ.out.2.1; have := HZ.out.2.2.1; omega
      rw [wv_at, List.getElem?_eq_getElem hzk, Option.map_some] at hu
      obtain rfl := Option.some.inj hu
      rw [← getD_at hzk] at hcz
      have hxl : xs.getD k 0 < 18446744073709551616 := HZ.out.2.2.2.2 _ (by rw [getD_at (by have := HZ.out.2.2.1; omega)]; exact List.getElem_mem _)
      have hzl : zs.getD k 0 < 18446744073709551616 := HZ.out.2.2.2.1 _ (by rw [getD_at (by have := HZ.out.2.1; have := HZ.out.2.2.1; omega)]; exact List.getElem_mem _)
      have HST := hide hst
      clear hst hcell hu hzk
      generalize xs.getD k 0 = x at hcx hxl HST
      generalize zs.getD k 0 = z at hcz hzl HST
      have Con := hide (fun W => maww_any x d z hxl hd hzl W)
      have HQ := hide (And.intro hxl (And.intro hd (And.intro hzl hq)))
      clear HS0 Fin HR
      go_wp2_with fail
      go_region_held3 (fun W => W.cell? ⟨gx, ox + k, none⟩ = some (.int .u64 (x : Int)) ∧ W.cell? ⟨g, o + k, none⟩ = some (.int .u64 (z : Int))) (first | exact ⟨hcx, hcz⟩ | go_keep)
        (first | (go_at_call 205; go_loud (refine (Con.out _).mono ?_; rintro e w3 ⟨h, l, rfl, hp, rfl⟩)))
      have Con2 := hide (add_any l q 0 (by omega) wr.drew)
      clear Con
      go_wp2_with fail
      refine (Con2.out).mono ?_
      rintro e w4 ⟨s, t, rfl, hq2, rfl⟩
      obtain ⟨j1, j2, j3⟩ := am_join HQ.out.1 HQ.out.2.1 HQ.out.2.2.1 HQ.out.2.2.2 hp.out hq2.out
      obtain ⟨m, hm⟩ : ∃ m, m = t + h := ⟨_, rfl⟩
      have e1 : IntKind.u64.wrap ((t : Int) + (h : Int)) = (m : Int) := by simp [IntKind.wrap, IntKind.signed, IntKind.bits]; omega
      have HN := hide (HST.out s m ⟨j1, hm.trans j2⟩)
      have hml : m < 18446744073709551616 := by omega
      clear j1 j2 j3 hm HST hp hq2 Con2 HQ hxl hzl hq
      go_wp2
      go_roundw
      case rel => exact ⟨k + 1, m, by omega, by go_num, rfl, hml, HN⟩
      case measure => simp [intOf]; omega
    · obtain rfl : k = n := by omega
      have HF := hide (Fin.out q wr HR.out)
      clear HS0 HR Fin
      go_wp2
      go_ret
      exact HF.out
theorem amv_any (g o n c1 c2 a d : Nat) (P S : List Value) (A : Option Addr) (c : Nat) (zs xs : List Nat) (w : World) (hb : Blk w g 84 (P ++ wv zs ++ S).toArray) (ho : o = P.length) (hz : zs.length = xs.length) (hn : n = xs.length) (hnb : n ≤ 1099511627776) (hc1 : n ≤ c1) (hc2 : n ≤ c2)
    (hx : RdW w (.slice A n c) xs) (hxb : ∀ k, (Value.slice A n c).ownBlock = some k → k ≠ g) (ha : a < 18446744073709551616) (hd : d < 18446744073709551616) (hdz : Dig 18446744073709551616 zs) (hdx : Dig 18446744073709551616 xs) :
    Calls Tryz.prog 155 #[.slice (some ⟨g, o, none⟩) n c1, .slice (some ⟨g, o, none⟩) n c2, .slice A n c, .int .u64 (d : Int), .int .u64 (a : Int)] w (AmP w g a d P S zs xs) := by
  have Con := hide (amvg_any g o n c1 c2 a d P S A c zs xs w hb ho hz hn hnb hc1 hc2 hx hxb ha hd hdz hdx)
  clear hb ho hz hn hx hxb hdz hdx
  go_enter Tryz.func155, Tryz.ntmps155
  go_wp2_with fail
  refine (Con.out).mono ?_
  rintro e w1 ⟨q, rfl, h⟩
  have Fin : Hid (AmP w g a d P S zs xs (.returned (.int .u64 (q : Int))) w1) := ⟨q, rfl, h⟩
  clear h Con
  go_wp2
  go_ret
  exact Fin.out
end Go.Proofs.YtlaepcfooopbmaaGreatDoor
