/- Parts of the proofs: Nat1. -/
import Derived.Deep.RegionWith
import Derived.Deep.DeepFit
import Derived.BigQuiet
import Derived.Laws.CopyOwn
import Derived.Test.YtfkcobdkgjhfaaaGreatDoorG1
/- Walks: nat's make, norm, set, setWord, setUint64. -/
set_option linter.unusedVariables false
set_option linter.unusedSimpArgs false
namespace Go.Proofs.YtfkcobdkgjhfaaaGreatDoor
open Go.RowKit

theorem infoWord : (Tryz.prog.info? 145).map (fun i => (i.zero, i.size, i.bytes)) = some (some (.int .u64 0), 1, 8) := by kernel_rfl
theorem sizeWord : (Tryz.prog.info? 145).map (·.size) = some 1 := by kernel_rfl

/-- What 'make' comes to: a row in z's block or in a new one; no old block turns. -/
def MadeP (w : World) (base : Nat) (z : Value) (n : Nat) (e : Ending) (w' : World) : Prop :=
  ∃ r, e = .returned r ∧ Room w' base r n ∧ (r.ownBlock = z.ownBlock ∨ r.ownBlock = some w.heap.size) ∧ Below w.heap.size w w'

theorem mk_row (n c : Nat) (hnc : n ≤ c) (hc : c ≤ 2199023255552) (w : World) :
    (Instr.makeSlice 65 (.int .i64 (n : Int)) (.int .i64 (c : Int))).run Tryz.prog w = .ok (.slice (some ⟨w.heap.size, 0, none⟩) n c) (w.alloc (.cells (madeCells #[.int .u64 0] c) 145)) := by
  obtain ⟨i0, hi, hz0, hz1, hz2⟩ := info_parts infoWord
  have := run_make (P := Tryz.prog) w 65 145 i0 (.int .u64 0) Tryz.underlying65 hi hz0 .i64 .i64 n c (by omega) (by omega) (by rw [hz2]; omega) (by omega)
  rw [hz1, Nat.mul_one] at this
  exact this

theorem room_made (w : World) (base : Nat) (hb : base ≤ w.heap.size) (n c : Nat) (hnc : n ≤ c) (hc : c ≤ 2199023255552) :
    Room (w.alloc (.cells (madeCells #[.int .u64 0] c) 145)) base (.slice (some ⟨w.heap.size, 0, none⟩) n c) n :=
  Room.mk hb (Blk.new w _ _) hnc (by simp only [maxLen]; omega) (size_madeCells _ _)

theorem room_cut {w : World} {base m : Nat} {A : Option Addr} {cap : Nat} (h : Room w base (.slice A m cap) m) {n : Nat} (hn : n ≤ cap) : Room w base (.slice A n cap) n := by
  rcases h.form with ⟨h1, h2⟩ | ⟨g, cap', cur, hv, hg, hh, h1, h2, h3⟩
  · injection h1 with a b c
    subst a; subst b; subst c
    obtain rfl : n = 0 := by omega
    exact (Own.nil w base).room
  · injection hv with a b c
    subst a; subst c
    exact Room.mk hg hh hn h2 h3

set_option maxHeartbeats 400000 in
theorem make_any (base : Nat) (z : Value) (m : Nat) (n : Int) (w : World) (hz : Room w base z m) (hb : base ≤ w.heap.size) (h0 : 0 ≤ n) (hn : n ≤ 1099511627776) :
    Calls Tryz.prog 134 #[z, .int .i64 n] w (MadeP w base z n.toNat) := by
  obtain ⟨A, cap, rfl⟩ := hz.slice
  obtain ⟨n, rfl⟩ := Int.eq_ofNat_of_zero_le h0
  by_cases hc : n ≤ cap
  · have hr := room_cut hz hc
    have H : MadeP w base (.slice A m cap) n (.returned (.slice A n cap)) w := ⟨_, rfl, hr, .inl (by cases A <;> rfl), Below.refl _ _⟩
    have HH := hide H
    clear H hr hz
    go_enter Tryz.func134, Tryz.ntmps134
    go_wp2
    go_ret
    exact HH.out
  · by_cases h1 : n = 1
    · subst h1
      have H : MadeP w base (.slice A m cap) 1 (.returned (.slice (some ⟨w.heap.size, 0, none⟩) 1 1)) (w.alloc (.cells (madeCells #[.int .u64 0] 1) 145)) := ⟨_, rfl, room_made w base hb 1 1 (Nat.le_refl _) (by omega), .inr rfl, (Below.refl _ _).alloc (Nat.le_refl _) _⟩
      have HH := hide H
      have hm : ∀ W : World, (Instr.makeSlice 65 (.int .i64 1) (.int .i64 1)).run Tryz.prog W = .ok (.slice (some ⟨W.heap.size, 0, none⟩) 1 1) (W.alloc (.cells (madeCells #[.int .u64 0] 1) 145)) := fun W => mk_row 1 1 (by omega) (by omega) W
      clear H hz
      go_enter Tryz.func134, Tryz.ntmps134
      go_wp2
      go_ret
      exact HH.out
    · have H : MadeP w base (.slice A m cap) n (.returned (.slice (some ⟨w.heap.size, 0, none⟩) n (n+4))) (w.alloc (.cells (madeCells #[.int .u64 0] (n+4)) 145)) := ⟨_, rfl, room_made w base hb n (n+4) (by omega) (by omega), .inr rfl, (Below.refl _ _).alloc (Nat.le_refl _) _⟩
      have HH := hide H
      have hm : ∀ W : World, (Instr.makeSlice 65 (.int .i64 (n : Int)) (.int .i64 ((n : Int) + 4))).run Tryz.prog W = .ok (.slice (some ⟨W.heap.size, 0, none⟩) n (n+4)) (W.alloc (.cells (madeCells #[.int .u64 0] (n+4)) 145)) := fun W => mk_row n (n+4) (by omega) (by omega) W
      clear H hz
      go_enter Tryz.func134, Tryz.ntmps134
      go_wp2
      go_ret
      exact HH.out

theorem Room.empty {w : World} {base c : Nat} {A : Option Addr} (h : Room w base (.slice A 0 c) 0) : Own w base (.slice A 0 c) [] := by
  rcases h.form with ⟨h1, _⟩ | ⟨g, cap, cur, h1, hg, hh, a, b, c⟩
  · rw [h1]; exact Own.nil _ _
  · rw [h1]; exact Own.mk (xs := []) hg hh (Nat.zero_le _) b c rfl

set_option maxHeartbeats 400000 in
theorem norm_at (g o c : Nat) (xs : List Nat) (w : World) (hx : WordsAt w g o xs) (hl : xs.length ≤ c) (hc : c ≤ maxLen) :
    Calls Tryz.prog 117 #[.slice (some ⟨g, o, none⟩) xs.length c] w fun e w' => e = .returned (.slice (some ⟨g, o, none⟩) (trimz xs).length c) ∧ w = w' := by
  unfold maxLen at hc
  have Hx := hide hx
  clear hx
  go_enter Tryz.func117, Tryz.ntmps117
  go_wp2
  go_loop [3] (fun i => ∃ k : Nat, k ≤ xs.length ∧ i = .int .i64 k ∧ Hid (trimz (xs.take k) = trimz xs)) (fun i => (intOf i).toNat)
  case atStart => exact ⟨xs.length, Nat.le_refl _, rfl, by rw [List.take_of_length_le (Nat.le_refl _)]; rfl⟩
  case round =>
    obtain ⟨k, hk, rfl, ht⟩ := hrel
    rcases Nat.eq_zero_or_pos k with rfl | hp
    · have H : (trimz xs).length = 0 := by rw [← ht.out]; rfl
      have HH := hide H
      clear H
      go_wp2
      go_ret
      rw [HH.out]
      exact ⟨rfl, rfl⟩
    · obtain ⟨k, rfl⟩ : ∃ m, k = m + 1 := ⟨k - 1, by omega⟩
      have hcell : w.cell? ⟨g, o + k, none⟩ = some (.int .u64 (xs.getD k 0 : Nat)) := Hx.out k (by omega)
      have e1 : ((k + 1 : Nat) : Int) - 1 = (k : Int) := by omega
      by_cases h0 : xs.getD k 0 = 0
      · rw [h0] at hcell
        have HT : Hid (trimz (xs.take k) = trimz xs) := by
          have := ht.out
          rw [trimz_take_zero (by omega) h0] at this
          exact this
        go_wp2
        go_round
        case rel => exact ⟨k, by omega, by go_num, HT⟩
        case measure => simp [intOf]
      · have H : (trimz xs).length = k + 1 := by rw [← ht.out, trimz_take_ne (by omega) h0, List.length_take]; omega
        have HH := hide H
        clear H ht
        generalize xs.getD k 0 = d at hcell h0
        have hd : ((d : Int) == 0) = false := by simpa using h0
        clear h0
        go_wp2
        go_ret
        rw [HH.out]
        exact ⟨rfl, rfl⟩

theorem norm_nil (w : World) :
    Calls Tryz.prog 117 #[.slice none 0 0] w fun e w' => e = .returned (.slice none 0 0) ∧ w = w' := by
  go_enter Tryz.func117, Tryz.ntmps117
  go_wp2
  refine wp_loop_rounds 1 ?_
  rw [rounds_succ]
  go_wp2
  go_ret
  exact ⟨rfl, rfl⟩

/-- 'norm' of a row of the call's own. -/
theorem norm_own (base : Nat) (v : Value) (xs : List Nat) (w : World) (hv : Own w base v xs) :
    Calls Tryz.prog 117 #[v] w fun e w' => ∃ A c, e = .returned (.slice A (trimz xs).length c) ∧ Own w base (.slice A (trimz xs).length c) (trimz xs) ∧ (Value.slice A (trimz xs).length c).ownBlock = v.ownBlock ∧ w = w' := by
  rcases hv.form with ⟨rfl, rfl⟩ | ⟨g, cap, cur, rfl, hg, hh, a, b, c, d⟩
  · exact (norm_nil w).mono fun e w' ⟨he, hw⟩ => ⟨none, 0, he, Own.nil w base, rfl, hw⟩
  · refine (norm_at g 0 cap xs w hv.words a b).mono fun e w' ⟨he, hw⟩ => ⟨_, _, he, ?_, rfl, hw⟩
    have hl := trimz_length_le xs
    refine Own.mk hg hh (by omega) b c ?_
    have e1 : cur.toList.take (trimz xs).length = (cur.toList.take xs.length).take (trimz xs).length := by rw [List.take_take]; congr 1; omega
    rw [e1, d]
    have e2 : (wv xs).take (trimz xs).length = wv (xs.take (trimz xs).length) := by simp [wv]
    rw [e2, take_trimz]

/-- The world behind 'set', 'add' and their kin: a row of the call's own that holds xs, in z's block or in a new one; of the old blocks z's alone may have turned. -/
def SetP (w : World) (base : Nat) (z : Value) (xs : List Nat) (e : Ending) (w' : World) : Prop :=
  ∃ A c, e = .returned (.slice A xs.length c) ∧ Own w' base (.slice A xs.length c) xs ∧ ((Value.slice A xs.length c).ownBlock = z.ownBlock ∨ ∃ k, (Value.slice A xs.length c).ownBlock = some k ∧ w.heap.size ≤ k) ∧ Fr w w' (fun k => z.ownBlock = some k)

set_option maxHeartbeats 400000 in
theorem set_any (base : Nat) (z : Value) (m : Nat) (v : Value) (xs : List Nat) (w : World) (hz : Room w base z m) (hx : RdW w v xs) (hb : base ≤ w.heap.size) (hn : xs.length ≤ 1099511627776) :
    Calls Tryz.prog 116 #[z, v] w (SetP w base z xs) := by
  rcases hx with ⟨Ax, cx, rfl, rfl, -⟩ | ⟨g, o, c, rfl, hl, hc, hx⟩
  · go_enter Tryz.func116, Tryz.ntmps116
    go_wp2_with fail
    refine (make_any base z m 0 w hz hb (by omega) (by omega)).mono ?_
    rintro e w1 ⟨r, rfl, hr, hrb, hbel⟩
    rw [Int.toNat_zero] at hr
    obtain ⟨A, c, rfl⟩ := hr.slice
    have H : SetP w base z [] (.returned (.slice A 0 c)) w1 := ⟨_, _, rfl, hr.empty, hrb.imp id (fun h => ⟨_, h, Nat.le_refl _⟩), Fr.of_below hbel _⟩
    have HH := hide H
    clear H hr hrb hbel hz
    go_wp2_with (refine wpList_copy_nothing rfl (.tmp 9) (.tmp 10) 65 65 rfl 145 Tryz.underlying65 sizeWord _ _ _ _ _ _ rfl rfl ?_ ?_; exact Nat.min_eq_left (Nat.zero_le _))
    go_ret
    exact HH.out
  · go_enter Tryz.func116, Tryz.ntmps116
    go_wp2_with fail
    refine (make_any base z m _ w hz hb (by omega) (by omega)).mono ?_
    rintro e w1 ⟨r, rfl, hr, hrb, hbel⟩
    rw [Int.toNat_natCast] at hr
    have hx1 : WordsAt w1 g o xs := hx.fr (Fr.of_below hbel (fun _ => False)) (fun h => h)
    clear hx
    rcases Nat.eq_zero_or_pos xs.length with h0 | hp
    · obtain rfl : xs = [] := List.eq_nil_of_length_eq_zero h0
      clear h0
      obtain ⟨A, c', rfl⟩ := hr.slice
      have H : SetP w base z [] (.returned (.slice A 0 c')) w1 := ⟨_, _, rfl, Room.empty hr, hrb.imp id (fun h => ⟨_, h, Nat.le_refl _⟩), Fr.of_below hbel _⟩
      have HH := hide H
      clear H hr hrb hbel hz hx1
      go_wp2_with (refine wpList_copy_nothing rfl (.tmp 9) (.tmp 10) 65 65 rfl 145 Tryz.underlying65 sizeWord _ _ _ _ _ _ rfl rfl ?_ ?_; exact Nat.min_eq_left (Nat.zero_le _))
      go_ret
      exact HH.out
    · rcases hr.form with ⟨_, h1⟩ | ⟨g', cap, cur, rfl, hg, hh, ha, hcap, hs⟩
      · omega
      · have hlt : xs.length ≤ cur.toList.length := by simp; omega
        have H : SetP w base z xs (.returned (.slice (some ⟨g', 0, none⟩) xs.length cap)) (w1.setRow g' (wv xs ++ cur.toList.drop (wv xs).length).toArray) := by
          refine ⟨_, _, rfl, Own.mk hg (hh.setRow _) ha hcap ?_ ?_, hrb.imp id (fun h => ⟨_, h, Nat.le_refl _⟩), (Fr.of_below hbel _).setRow (fun hlt' => ?_) _⟩
          · simp [wv_length]; simp at hlt; omega
          · simp [← wv_length]
          · rcases hrb with h | h
            · exact h.symm
            · simp [Value.ownBlock] at h; omega
        have HH := hide H
        have HB : Hid (w1.heap[g']? = some (.cells cur 145 (0, 0))) := hh
        have HX := hide hx1
        have hfit : (wv xs).length ≤ cur.size := by rw [wv_length]; omega
        clear H hr hrb hbel hz hh hx1 hlt hs
        go_wp2_with (refine wpList_copy_own rfl (.tmp 9) (.tmp 10) 65 65 rfl 145 Tryz.underlying65 sizeWord g' 0 _ _ ⟨g, o, none⟩ _ _ rfl rfl cur _ HB.out (wv xs) ?_ ?_ ?_ wv_one ?_; exact (wv_length xs).trans (Nat.min_self _).symm; (intro j v hv; rw [wv_at] at hv; obtain ⟨d, hd, rfl⟩ := Option.map_eq_some_iff.1 hv; have hj := (List.getElem?_eq_some_iff.1 hd).1; have := HX.out j hj; rw [getD_at hj, (List.getElem?_eq_some_iff.1 hd).2] at this; exact (by unfold Addr.add; split <;> simp_all)); (rw [Nat.zero_add]; exact hfit))
        go_ret
        exact HH.out
end Go.Proofs.YtfkcobdkgjhfaaaGreatDoor
