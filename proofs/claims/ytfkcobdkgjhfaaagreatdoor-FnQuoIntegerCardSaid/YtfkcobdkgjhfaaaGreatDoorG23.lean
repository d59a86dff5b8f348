/- Parts of the proofs: Spec1, Spec2, Spec3. -/
import Derived.BigRegion
import Derived.Test.YtfkcobdkgjhfaaaGreatDoorG2
/- Walks: spec's trim, Of. -/
set_option linter.unusedVariables false
set_option linter.unusedSimpArgs false
namespace Go.Proofs.YtfkcobdkgjhfaaaGreatDoor
open Go.RowKit

abbrev OwnI (w : World) (base : Nat) (v : Value) (xs : List Nat) : Prop := OwnG 3 .i64 w base v xs
theorem infoI : (Tryz.prog.info? 3).map (fun i => (i.zero, i.size, i.bytes)) = some (some (.int .i64 0), 1, 8) := by kernel_rfl

set_option maxHeartbeats 400000 in
theorem trim_any (A : Option Addr) (c : Nat) (xs : List Nat) (w : World) (hx : RdG .i64 w (.slice A xs.length c) xs) :
    Calls Tryz.prog 57 #[.slice A xs.length c] w fun e w' => e = .returned (.slice A (trimz xs).length c) ∧ w = w' := by
  obtain ⟨hl, hc⟩ : xs.length ≤ c ∧ c ≤ maxLen := by
    obtain ⟨B, d, he, h1, h2⟩ := hx.slice
    injection he with _ _ e3
    subst e3
    exact ⟨h1, h2⟩
  unfold maxLen at hc
  have Hx := hide hx.at_
  clear hx
  go_enter Tryz.func57, Tryz.ntmps57
  go_wp2
  go_loop [0] (fun v => ∃ k : Nat, k ≤ xs.length ∧ v = .slice A k c ∧ Hid (trimz (xs.take k) = trimz xs)) (fun v => match v with | .slice _ k _ => k | _ => 0)
  case atStart => exact ⟨xs.length, Nat.le_refl _, rfl, by rw [List.take_of_length_le (Nat.le_refl _)]; rfl⟩
  case round =>
    obtain ⟨k, hk, rfl, ht⟩ := hrel
    rcases Nat.eq_zero_or_pos k with rfl | hp
    · have H : (trimz xs).length = 0 := by rw [← ht.out]; rfl
      have HH := hide H
      clear H
      go_wp2
      go_ret
      rw [HH.out]
      exact ⟨rfl, rfl⟩
    · obtain ⟨k, rfl⟩ : ∃ m, k = m + 1 := ⟨k - 1, by omega⟩
      obtain ⟨g, o, rfl, _, hcell⟩ := Hx.out k (by omega)
      have e1 : ((k + 1 : Nat) : Int) - 1 = (k : Int) := by omega
      by_cases h0 : xs.getD k 0 = 0
      · rw [h0] at hcell
        have HT : Hid (trimz (xs.take k) = trimz xs) := by
          have := ht.out
          rw [trimz_take_zero (by omega) h0] at this
          exact this
        go_wp2
        go_round
        case rel => exact ⟨k, by omega, rfl, HT⟩
        case measure => simp
      · have H : (trimz xs).length = k + 1 := by rw [← ht.out, trimz_take_ne (by omega) h0, List.length_take]; omega
        have HH := hide H
        clear H ht
        generalize xs.getD k 0 = d at hcell h0
        have hd : ((d : Int) == 0) = false := by simpa using h0
        clear h0
        go_wp2
        go_ret
        rw [HH.out]
        exact ⟨rfl, rfl⟩

/-- The four digits of a word. -/
def quad (d : Nat) : List Nat := [d % 65536, d / 65536 % 65536, d / 4294967296 % 65536, d / 281474976710656 % 65536]
def quads (xs : List Nat) : List Nat := (xs.map quad).flatten
theorem quads_snoc (xs : List Nat) (d : Nat) : quads (xs ++ [d]) = quads xs ++ quad d := by simp [quads]
theorem quads_length (xs : List Nat) : (quads xs).length = 4 * xs.length := by
  induction xs with
  | nil => rfl
  | cons d r ih => simp only [quads, List.map_cons, List.flatten_cons, List.length_append, List.length_cons] at ih ⊢; rw [ih]; simp [quad]; omega
theorem dval_quads (xs : List Nat) (h : Dig 18446744073709551616 xs) : dval 65536 (quads xs) = dval 18446744073709551616 xs := by
  induction xs with
  | nil => rfl
  | cons d r ih =>
    have e : quads (d :: r) = quad d ++ quads r := by simp [quads]
    rw [e, dval_append, ih (fun x hx => h x (by simp [hx])), dval_cons]
    have hd := h d (by simp)
    simp only [quad, dval_cons, dval_nil, List.length_cons, List.length_nil]
    omega
theorem dig_quads (xs : List Nat) : Dig 65536 (quads xs) := by
  intro d hd
  simp only [quads, List.mem_flatten, List.mem_map] at hd
  obtain ⟨l, ⟨a, _, rfl⟩, hd⟩ := hd
  simp only [quad, List.mem_cons, List.not_mem_nil, or_false] at hd
  omega
theorem trimz_quads (xs : List Nat) (h : Dig 18446744073709551616 xs) : trimz (quads xs) = digs 65536 (dval 18446744073709551616 xs) := by
  rw [← dval_quads xs h, digs_dval_trim (by omega) (dig_quads xs)]
end Go.Proofs.YtfkcobdkgjhfaaaGreatDoor

/- Walks: spec's Of. -/
set_option linter.unusedVariables false
set_option linter.unusedSimpArgs false
namespace Go.Proofs.YtfkcobdkgjhfaaaGreatDoor
open Go.RowKit

/-- The number of words. (No abbreviation: the walk leaves it.) -/
def numW (xs : List Nat) : Nat := dval 18446744073709551616 xs

/-- A new natural number of the reference. -/
def NewI (w : World) (xs : List Nat) (e : Ending) (w' : World) : Prop :=
  ∃ A c, e = .returned (.slice A xs.length c) ∧ OwnI w' w.heap.size (.slice A xs.length c) xs ∧ Below w.heap.size w w'

theorem quad_take_succ (d j : Nat) (hj : j < 4) : (quad d).take (j + 1) = (quad d).take j ++ [(quad d).getD j 0] := by
  rw [List.take_succ_eq_append_getElem (by simpa [quad] using hj), getD_at (by simpa [quad] using hj)]

theorem and_mask16 (x : Nat) (hx : x < 18446744073709551616) : bits .and .u64 (x : Int) 65535 = ((x % 65536 : Nat) : Int) := by
  rw [show (65535 : Int) = ((65535 : Nat) : Int) from rfl, u64_and_nat x 65535 hx (by omega), nat_mask16]
theorem wrap64_nat (x : Nat) (hx : x < 9223372036854775808) : wrap64 (x : Int) = x := by unfold wrap64; omega
theorem piece (d s : Nat) (hd : d < 18446744073709551616) : wrap64 (bits .and .u64 ((d / s : Nat) : Int) 65535) = ((d / s % 65536 : Nat) : Int) := by
  rw [and_mask16 _ (Nat.lt_of_le_of_lt (Nat.div_le_self _ _) hd), wrap64_nat _ (by omega)]
theorem piece0 (d : Nat) (hd : d < 18446744073709551616) : wrap64 (bits .and .u64 (d : Int) 65535) = (((quad d).getD 0 0 : Nat) : Int) := by
  rw [and_mask16 _ hd, wrap64_nat _ (by omega)]; rfl
theorem piece1 (d : Nat) (hd : d < 18446744073709551616) : wrap64 (bits .and .u64 ((d : Int) / 65536) 65535) = (((quad d).getD 1 0 : Nat) : Int) := piece d 65536 hd
theorem piece2 (d : Nat) (hd : d < 18446744073709551616) : wrap64 (bits .and .u64 ((d : Int) / 4294967296) 65535) = (((quad d).getD 2 0 : Nat) : Int) := piece d 4294967296 hd
theorem piece3 (d : Nat) (hd : d < 18446744073709551616) : wrap64 (bits .and .u64 ((d : Int) / 281474976710656) 65535) = (((quad d).getD 3 0 : Nat) : Int) := piece d 281474976710656 hd

theorem of_push {w1 : World} {base k : Nat} {v' : Value} {qs : List Nat} (d n : Nat) (hn : n < 4) (hq : qs.length = 4 * k) (e : Int) (he : e = (((quad d).getD n 0 : Nat) : Int))
    (h : w1.ownsRow base 3 1 v' ((qs ++ (quad d).take n).length + 1) (gv .i64 (qs ++ (quad d).take n) ++ [.int .i64 e])) :
    ∃ B c, v' = .slice B (4 * k + (n + 1)) c ∧ Hid (OwnI w1 base (.slice B (4 * k + (n + 1)) c) (qs ++ (quad d).take (n + 1))) := by
  subst he
  have hl : (qs ++ (quad d).take n).length = 4 * k + n := by rw [List.length_append, hq, List.length_take]; simp [quad]; omega
  rw [hl] at h
  obtain ⟨B, c, e1, e2⟩ := OwnG.grown hl h
  refine ⟨B, c, e1, ?_⟩
  rw [quad_take_succ d n hn, ← List.append_assoc]
  exact e2
theorem four_way {n : Nat} (hn : n ≤ 4) : n = 0 ∨ n = 1 ∨ n = 2 ∨ n = 3 ∨ n = 4 := by omega

set_option maxHeartbeats 2000000 in
theorem of_any (v : Value) (xs : List Nat) (w : World) (hv : RdG .u64 w v xs) (hn : xs.length ≤ 1048576) (hd : Dig 18446744073709551616 xs) :
    Calls Tryz.prog 31 #[v] w (NewI w (digs 65536 (numW xs))) := by
  obtain ⟨i0, hi, hz0, hz1, hz2⟩ := info_parts infoI
  obtain ⟨A, c, rfl, _, _⟩ := hv.slice
  have HR := hide hv.at_
  have HI := hide (And.intro hi (And.intro hz0 (And.intro hz1 hz2)))
  have HD := hide hd
  clear hv hi hz0 hz1 hz2 hd
  go_enter Tryz.func31, Tryz.ntmps31
  go_wp2
  go_loopw [3, 10] (fun l i wr => ∃ (k : Nat) (B : Option Addr) (cl : Nat), k ≤ xs.length ∧ i = .int .i64 k ∧ l = .slice B (4 * k) cl ∧ Hid (OwnI wr w.heap.size (.slice B (4 * k) cl) (quads (xs.take k))) ∧ Hid (Below w.heap.size w wr)) (fun _ i _ => xs.length - (intOf i).toNat)
  case atStart => exact ⟨0, some ⟨w.heap.size, 0, none⟩, 0, Nat.zero_le _, rfl, rfl, OwnG.mk (xs := []) (cur := #[]) (Nat.le_refl _) (Blk.new w _ _) (Nat.le_refl _) (Nat.zero_le _) rfl rfl, (Below.refl _ _).alloc (Nat.le_refl _) _⟩
  case round =>
    obtain ⟨k, B, cl, hk, rfl, rfl, hown, hbel⟩ := hrel
    by_cases hlt : k < xs.length
    · obtain ⟨g, o, rfl, hg, hc⟩ := HR.out k hlt
      have hcell : wr.cell? ⟨g, o + k, none⟩ = some (.int .u64 (xs.getD k 0 : Nat)) := (hbel.out.cell hg).trans hc
      have hl : (quads (xs.take k)).length = 4 * k := by rw [quads_length, List.length_take]; omega
      have hsn : quads (xs.take (k + 1)) = quads (xs.take k) ++ quad (xs.getD k 0) := by
        rw [List.take_succ_eq_append_getElem hlt, quads_snoc, getD_at hlt]
      have hdd : xs.getD k 0 < 18446744073709551616 := HD.out _ (by rw [getD_at hlt]; exact List.getElem_mem hlt)
      have HT := hide (And.intro hl hsn)
      have HDD := hide hdd
      clear hl hsn hc hdd
      generalize xs.getD k 0 = d at hcell HT HDD
      obtain ⟨wo, rfl⟩ : ∃ wo : World, wo = wr := ⟨_, rfl⟩
      go_wp2
      go_loopw [3, 6] (fun l j wi => ∃ (n : Nat) (B : Option Addr) (cl : Nat), n ≤ 4 ∧ j = .int .i64 n ∧ l = .slice B (4 * k + n) cl ∧ Hid (OwnI wi w.heap.size (.slice B (4 * k + n) cl) (quads (xs.take k) ++ (quad d).take n)) ∧ Hid (Below w.heap.size w wi)) (fun _ j _ => 4 - (intOf j).toNat)
      case atStart => exact ⟨0, B, cl, Nat.zero_le _, rfl, rfl, by rw [List.take_zero, List.append_nil]; exact hown, hbel⟩
      case round =>
        obtain ⟨n, B2, cl2, hn4, rfl, rfl, hown2, hbel2⟩ := hrel
        have hl2 : (quads (xs.take k) ++ (quad d).take n).length ≤ 4194308 := by rw [List.length_append, HT.out.1, List.length_take]; simp [quad]; omega
        have HL2 := hide hl2
        clear hl2 hown hbel HR hcell
        rcases four_way hn4 with rfl | rfl | rfl | rfl | rfl
        case inr.inr.inr.inr =>
          have hown3 : Hid (OwnI wr w.heap.size (.slice B2 (4 * (k + 1)) cl2) (quads (xs.take (k + 1)))) := by
            have := hown2.out
            rw [show (quad d).take 4 = quad d from rfl, ← HT.out.2] at this
            exact this
          clear hown2 HT HDD
          go_wp2
          go_roundw
          case rel => exact ⟨k + 1, B2, cl2, by omega, by go_num, rfl, hown3, hbel2⟩
          case measure => simp [intOf]; omega
        case inl =>
          go_wp2_with (at_builtin; refine wpList_append_own _ rfl (.tmp 18) (.tmp 25) 27 rfl w.heap.size 3 i0 (.int .i64 0) 1 8 Tryz.underlying27 HI.out.1 HI.out.2.1 HI.out.2.2.1 HI.out.2.2.2 rfl (by decide) _ _ _ rfl (hown2.out.alloc _) ⟨wr.heap.size, 0, none⟩ 1 1 [.int .i64 (wrap64 (bits .and .u64 (d : Int) 65535))] rfl rfl ?c1 ?c2 ?c3 ?c4 ?c5 ?_)
          case c1 => exact cell_one_new _ _ _
          case c2 => intro u hu; rw [List.mem_singleton.1 hu]; rfl
          case c3 => have := HL2.out; simp only [maxLen]; omega
          case c4 => have := HL2.out; omega
          case c5 => have := hbel2.out.size; simp; omega
          intro v' w1 hown' hgrow _
          obtain ⟨B', cl', rfl, hown1⟩ := of_push d 0 (by omega) HT.out.1 _ (piece0 d HDD.out) (by simpa using hown')
          have hb1 := hide (below_app hbel2.out hbel2.out.size _ hgrow (fun j hj => (hown2.out.lt hj).1))
          clear hown' hgrow hown2 hbel2
          go_wp2
          go_roundw
          case rel => exact ⟨1, B', cl', by omega, by go_num, rfl, hown1, hb1⟩
          case measure => simp [intOf]
        case inr.inl =>
          go_wp2_with (at_builtin; refine wpList_append_own _ rfl (.tmp 18) (.tmp 25) 27 rfl w.heap.size 3 i0 (.int .i64 0) 1 8 Tryz.underlying27 HI.out.1 HI.out.2.1 HI.out.2.2.1 HI.out.2.2.2 rfl (by decide) _ _ _ rfl (hown2.out.alloc _) ⟨wr.heap.size, 0, none⟩ 1 1 [.int .i64 (wrap64 (bits .and .u64 ((d : Int) / 65536) 65535))] rfl rfl ?c1 ?c2 ?c3 ?c4 ?c5 ?_)
          case c1 => exact cell_one_new _ _ _
          case c2 => intro u hu; rw [List.mem_singleton.1 hu]; rfl
          case c3 => have := HL2.out; simp only [maxLen]; omega
          case c4 => have := HL2.out; omega
          case c5 => have := hbel2.out.size; simp; omega
          intro v' w1 hown' hgrow _
          obtain ⟨B', cl', rfl, hown1⟩ := of_push d 1 (by omega) HT.out.1 _ (piece1 d HDD.out) (by simpa using hown')
          have hb1 := hide (below_app hbel2.out hbel2.out.size _ hgrow (fun j hj => (hown2.out.lt hj).1))
          clear hown' hgrow hown2 hbel2
          go_wp2
          go_roundw
          case rel => exact ⟨2, B', cl', by omega, by go_num, rfl, hown1, hb1⟩
          case measure => simp [intOf]
        case inr.inr.inl =>
          go_wp2_with (at_builtin; refine wpList_append_own _ rfl (.tmp 18) (.tmp 25) 27 rfl w.heap.size 3 i0 (.int .i64 0) 1 8 Tryz.underlying27 HI.out.1 HI.out.2.1 HI.out.2.2.1 HI.out.2.2.2 rfl (by decide) _ _ _ rfl (hown2.out.alloc _) ⟨wr.heap.size, 0, none⟩ 1 1 [.int .i64 (wrap64 (bits .and .u64 ((d : Int) / 4294967296) 65535))] rfl rfl ?c1 ?c2 ?c3 ?c4 ?c5 ?_)
          case c1 => exact cell_one_new _ _ _
          case c2 => intro u hu; rw [List.mem_singleton.1 hu]; rfl
          case c3 => have := HL2.out; simp only [maxLen]; omega
          case c4 => have := HL2.out; omega
          case c5 => have := hbel2.out.size; simp; omega
          intro v' w1 hown' hgrow _
          obtain ⟨B', cl', rfl, hown1⟩ := of_push d 2 (by omega) HT.out.1 _ (piece2 d HDD.out) (by simpa using hown')
          have hb1 := hide (below_app hbel2.out hbel2.out.size _ hgrow (fun j hj => (hown2.out.lt hj).1))
          clear hown' hgrow hown2 hbel2
          go_wp2
          go_roundw
          case rel => exact ⟨3, B', cl', by omega, by go_num, rfl, hown1, hb1⟩
          case measure => simp [intOf]
        case inr.inr.inr.inl =>
          go_wp2_with (at_builtin; refine wpList_append_own _ rfl (.tmp 18) (.tmp 25) 27 rfl w.heap.size 3 i0 (.int .i64 0) 1 8 Tryz.underlying27 HI.out.1 HI.out.2.1 HI.out.2.2.1 HI.out.2.2.2 rfl (by decide) _ _ _ rfl (hown2.out.alloc _) ⟨wr.heap.size, 0, none⟩ 1 1 [.int .i64 (wrap64 (bits .and .u64 ((d : Int) / 281474976710656) 65535))] rfl rfl ?c1 ?c2 ?c3 ?c4 ?c5 ?_)
          case c1 => exact cell_one_new _ _ _
          case c2 => intro u hu; rw [List.mem_singleton.1 hu]; rfl
          case c3 => have := HL2.out; simp only [maxLen]; omega
          case c4 => have := HL2.out; omega
          case c5 => have := hbel2.out.size; simp; omega
          intro v' w1 hown' hgrow _
          obtain ⟨B', cl', rfl, hown1⟩ := of_push d 3 (by omega) HT.out.1 _ (piece3 d HDD.out) (by simpa using hown')
          have hb1 := hide (below_app hbel2.out hbel2.out.size _ hgrow (fun j hj => (hown2.out.lt hj).1))
          clear hown' hgrow hown2 hbel2
          go_wp2
          go_roundw
          case rel => exact ⟨4, B', cl', by omega, by go_num, rfl, hown1, hb1⟩
          case measure => simp [intOf]
    · obtain rfl : k = xs.length := by omega
      have hk' : xs.take xs.length = xs := List.take_of_length_le (Nat.le_refl _)
      rw [hk'] at hown
      have hl := quads_length xs
      have hq : trimz (quads xs) = digs 65536 (numW xs) := trimz_quads xs HD.out
      obtain ⟨ql, hql⟩ : ∃ ql, ql = quads xs := ⟨_, rfl⟩
      rw [← hql] at hown hl hq
      have hown2 : Hid (OwnI wr w.heap.size (.slice B ql.length cl) ql) := by rw [hl]; exact hown
      rw [← hl]
      have HQ := hide hq
      clear hq hk' hown hl hql HR HI HD
      go_wp2_with fail
      refine (trim_any B cl ql wr hown2.out.rd).mono ?_
      rintro e w1 ⟨rfl, rfl⟩
      have fin : NewI w (digs 65536 (numW xs)) (.returned (.slice B (trimz ql).length cl)) wr := by
        rw [← HQ.out]
        have := hown2.out.take (trimz ql).length (trimz_length_le ql)
        rw [take_trimz] at this
        exact ⟨B, cl, rfl, this, hbel.out⟩
      have Fin := hide fin
      clear fin hown2 hbel HQ
      go_wp2
      go_ret
      exact Fin.out
end Go.Proofs.YtfkcobdkgjhfaaaGreatDoor

/- Walks: spec's Words, HasWords. -/
set_option linter.unusedVariables false
set_option linter.unusedSimpArgs false
namespace Go.Proofs.YtfkcobdkgjhfaaaGreatDoor
open Go.RowKit

/-- Four digits to a word. -/
def pk : List Nat → List Nat
  | [] => []
  | a :: t => dval 65536 ((a :: t).take 4) :: pk (t.drop 3)
  termination_by xs => xs.length
  decreasing_by simp; omega

theorem pk_nil : pk [] = [] := by unfold pk; rfl
theorem pk_cons (a : Nat) (t : List Nat) : pk (a :: t) = dval 65536 ((a :: t).take 4) :: pk (t.drop 3) := by rw [pk]
theorem pk_short {xs : List Nat} (h : xs ≠ []) (hl : xs.length ≤ 4) : pk xs = [dval 65536 xs] := by
  cases xs with
  | nil => exact absurd rfl h
  | cons a t =>
    rw [pk_cons, List.take_of_length_le hl, List.drop_of_length_le (by simp at hl; omega), pk_nil]
theorem pk_append4 {xs : List Nat} (hl : xs.length = 4) (ys : List Nat) : pk (xs ++ ys) = dval 65536 xs :: pk ys := by
  cases xs with
  | nil => simp at hl
  | cons a t =>
    simp only [List.length_cons] at hl
    rw [List.cons_append, pk_cons]
    congr 1
    · rw [← List.cons_append, List.take_append_of_le_length (by simp; omega), List.take_of_length_le (by simp; omega)]
    · rw [List.drop_append, List.drop_of_length_le (by omega)]
      simp [show 3 - t.length = 0 by omega]
theorem dval_pk (xs : List Nat) : dval 18446744073709551616 (pk xs) = dval 65536 xs := by
  induction h : xs.length using Nat.strongRecOn generalizing xs with
  | _ n ih =>
    rcases Nat.lt_or_ge 4 xs.length with h4 | h4
    · have e : xs = xs.take 4 ++ xs.drop 4 := (List.take_append_drop 4 xs).symm
      rw [e, pk_append4 (by rw [List.length_take]; omega), dval_cons, ih (xs.drop 4).length (by rw [List.length_drop]; omega) _ rfl, dval_append, List.length_take, Nat.min_eq_left (by omega)]
    · by_cases h0 : xs = []
      · subst h0; rw [pk_nil]; rfl
      · rw [pk_short h0 h4, dval_cons, dval_nil]; omega
theorem pk_length (xs : List Nat) : (pk xs).length = (xs.length + 3) / 4 := by
  induction h : xs.length using Nat.strongRecOn generalizing xs with
  | _ n ih =>
    rcases Nat.lt_or_ge 4 xs.length with h4 | h4
    · have e : xs = xs.take 4 ++ xs.drop 4 := (List.take_append_drop 4 xs).symm
      rw [e, pk_append4 (by rw [List.length_take]; omega), List.length_cons, ih (xs.drop 4).length (by rw [List.length_drop]; omega) _ rfl, List.length_drop]
      omega
    · by_cases h0 : xs = []
      · subst h0; rw [pk_nil]; simp at h; subst h; rfl
      · have : 0 < xs.length := List.length_pos_iff.2 h0
        rw [pk_short h0 h4]; simp; omega
theorem pk_dig {xs : List Nat} (hd : Dig 65536 xs) : Dig 18446744073709551616 (pk xs) := by
  induction h : xs.length using Nat.strongRecOn generalizing xs with
  | _ n ih =>
    have small : ∀ ys : List Nat, Dig 65536 ys → ys.length ≤ 4 → dval 65536 ys < 18446744073709551616 := fun ys hy hl => by
      have h1 := dval_lt (b := 65536) (by omega) hy
      have h2 : 65536 ^ ys.length ≤ 65536 ^ 4 := Nat.pow_le_pow_right (by omega) hl
      omega
    rcases Nat.lt_or_ge 4 xs.length with h4 | h4
    · have e : xs = xs.take 4 ++ xs.drop 4 := (List.take_append_drop 4 xs).symm
      rw [e, pk_append4 (by rw [List.length_take]; omega)]
      intro d hd'
      rcases List.mem_cons.1 hd' with rfl | hd'
      · exact small _ (fun x hx => hd x (List.mem_of_mem_take hx)) (by rw [List.length_take]; omega)
      · exact ih (xs.drop 4).length (by rw [List.length_drop]; omega) (fun x hx => hd x (List.mem_of_mem_drop hx)) rfl d hd'
    · by_cases h0 : xs = []
      · subst h0; rw [pk_nil]; intro d hd'; cases hd'
      · rw [pk_short h0 h4]
        intro d hd'
        rw [List.mem_singleton.1 hd']
        exact small _ hd h4
theorem pk_canon {xs : List Nat} (hd : Canon xs) : Canon (pk xs) := by
  induction h : xs.length using Nat.strongRecOn generalizing xs with
  | _ n ih =>
    rcases Nat.lt_or_ge 4 xs.length with h4 | h4
    · have e : xs = xs.take 4 ++ xs.drop 4 := (List.take_append_drop 4 xs).symm
      have hne : xs.drop 4 ≠ [] := by intro h0; have := congrArg List.length h0; simp at this; omega
      have hc : Canon (xs.drop 4) := by
        unfold Canon at hd ⊢
        rw [e, List.getLast?_append] at hd
        cases hx : (xs.drop 4).getLast? with
        | none => simp
        | some z => rw [hx] at hd; simpa using hd
      have := ih (xs.drop 4).length (by rw [List.length_drop]; omega) hc rfl
      rw [e, pk_append4 (by rw [List.length_take]; omega)]
      have hne2 : pk (xs.drop 4) ≠ [] := by
        intro h0
        have := congrArg List.length h0
        rw [pk_length, List.length_drop] at this
        simp at this; omega
      unfold Canon at this ⊢
      rw [List.getLast?_cons]
      cases hx : (pk (xs.drop 4)).getLast? with
      | none => exact absurd (List.getLast?_eq_none_iff.1 hx) hne2
      | some z => simp; intro ez; subst ez; exact this hx
    · by_cases h0 : xs = []
      · subst h0; rw [pk_nil]; exact canon_nil
      · rw [pk_short h0 h4]
        have := dval_pos (b := 65536) (by omega) hd h0
        unfold Canon; simp; omega
/-- The words of a number out of its digits. -/
theorem pk_digs (n : Nat) : pk (digs 65536 n) = digs 18446744073709551616 n := by
  have h := digs_dval (b := 18446744073709551616) (by omega) (pk_dig (dig_digs (b := 65536) (by omega) n)) (pk_canon (canon_digs (by omega) n))
  rw [dval_pk, dval_digs (by omega)] at h
  exact h.symm

theorem pk_snoc0 {xs : List Nat} (h : xs.length % 4 = 0) (d : Nat) : pk (xs ++ [d]) = pk xs ++ [d] := by
  induction hl : xs.length using Nat.strongRecOn generalizing xs with
  | _ n ih =>
    rcases Nat.lt_or_ge 3 xs.length with h4 | h4
    · have e : xs = xs.take 4 ++ xs.drop 4 := (List.take_append_drop 4 xs).symm
      have e4 : (xs.take 4).length = 4 := by rw [List.length_take]; omega
      have h1 := ih (xs.drop 4).length (by rw [List.length_drop]; omega) (xs := xs.drop 4) (by rw [List.length_drop]; omega) rfl
      rw [e, List.append_assoc, pk_append4 e4, pk_append4 e4, h1]; rfl
    · obtain rfl : xs = [] := List.eq_nil_of_length_eq_zero (by omega)
      rw [pk_nil, List.nil_append, pk_short (by simp) (by simp)]
      simp [dval_cons, dval_nil]
theorem pk_snoc {xs : List Nat} (h : xs.length % 4 ≠ 0) (d : Nat) : pk (xs ++ [d]) = (pk xs).set (xs.length / 4) ((pk xs).getD (xs.length / 4) 0 + 65536 ^ (xs.length % 4) * d) := by
  induction hl : xs.length using Nat.strongRecOn generalizing xs with
  | _ n ih =>
    rcases Nat.lt_or_ge 3 xs.length with h4 | h4
    · have e : xs = xs.take 4 ++ xs.drop 4 := (List.take_append_drop 4 xs).symm
      have e4 : (xs.take 4).length = 4 := by rw [List.length_take]; omega
      have hdl : (xs.drop 4).length = xs.length - 4 := List.length_drop
      have h1 := ih (xs.drop 4).length (by omega) (xs := xs.drop 4) (by omega) rfl
      have q1 : n / 4 = (xs.drop 4).length / 4 + 1 := by omega
      have q2 : n % 4 = (xs.drop 4).length % 4 := by omega
      have e5 : pk xs = dval 65536 (xs.take 4) :: pk (xs.drop 4) := by
        conv => lhs; rw [e]
        exact pk_append4 e4 _
      rw [q1, q2, e5, List.set_cons_succ, List.getD_cons_succ]
      conv => lhs; rw [e, List.append_assoc, pk_append4 e4, h1]
    · have h0 : xs ≠ [] := by rintro rfl; simp at h
      rw [pk_short h0 (by omega), pk_short (by simp) (by simp; omega), ← hl, show xs.length / 4 = 0 by omega, show xs.length % 4 = xs.length by omega, dval_append]
      simp [dval_cons, dval_nil]
theorem pk_last {xs : List Nat} (hd : Dig 65536 xs) : (pk xs).getD (xs.length / 4) 0 < 65536 ^ (xs.length % 4) := by
  induction hl : xs.length using Nat.strongRecOn generalizing xs with
  | _ n ih =>
    rcases Nat.lt_or_ge 3 xs.length with h4 | h4
    · have e : xs = xs.take 4 ++ xs.drop 4 := (List.take_append_drop 4 xs).symm
      have e4 : (xs.take 4).length = 4 := by rw [List.length_take]; omega
      have hdl : (xs.drop 4).length = xs.length - 4 := List.length_drop
      have h1 := ih (xs.drop 4).length (by omega) (xs := xs.drop 4) (fun x hx => hd x (List.mem_of_mem_drop hx)) rfl
      have q1 : n / 4 = (xs.drop 4).length / 4 + 1 := by omega
      have q2 : n % 4 = (xs.drop 4).length % 4 := by omega
      rw [q1, q2, e, pk_append4 e4, List.getD_cons_succ]
      simpa using h1
    · by_cases h0 : xs = []
      · subst h0; simp at hl; subst hl; rw [pk_nil]; simp
      · rw [pk_short h0 (by omega), ← hl, show xs.length / 4 = 0 by omega, show xs.length % 4 = xs.length by omega]
        exact dval_lt (by omega) hd
end Go.Proofs.YtfkcobdkgjhfaaaGreatDoor
