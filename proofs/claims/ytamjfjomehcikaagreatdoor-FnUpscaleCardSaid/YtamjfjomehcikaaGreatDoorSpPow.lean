/- Walks: the reference's Small and Power. -/
import Derived.Test.YtamjfjomehcikaaGreatDoorSpMul
set_option linter.unusedVariables false
set_option linter.unusedSimpArgs false
namespace Go.Proofs.YtamjfjomehcikaaGreatDoor
open Go.RowKit

theorem small_push {w1 : World} {base m : Nat} {v' : Value} {qs : List Nat} (d : Nat) (hm : qs.length = m) (e : Int) (he : e = (d : Int)) (h : w1.ownsRow base 3 1 v' (qs.length + 1) (gv .i64 qs ++ [.int .i64 e])) :
    ∃ B c, v' = .slice B (m + 1) c ∧ Hid (OwnI w1 base (.slice B (m + 1) c) (qs ++ [d])) := by
  subst he
  rw [hm] at h
  obtain ⟨B, c, e1, e2⟩ := OwnG.grown hm h
  exact ⟨B, c, e1, e2⟩

set_option maxHeartbeats 1000000 in
theorem small_any (n : Nat) (w : World) (hn : n < 9223372036854775808) : Calls Tryz.prog 23 #[.int .i64 (n : Int)] w (NewI w (digs 65536 n)) := by
  obtain ⟨i0, hi, hz0, hz1, hz2⟩ := info_parts infoI
  have HI := hide (And.intro hi (And.intro hz0 (And.intro hz1 hz2)))
  clear hi hz0 hz1 hz2
  have hl4 : ∀ ds m, digs 65536 n = ds ++ digs 65536 m → ds.length ≤ 4 := by
    intro ds m h
    have h1 : (digs 65536 n).length ≤ 4 := digs_length_le (by omega) (by omega)
    rw [h, List.length_append] at h1
    omega
  have HL := hide hl4
  clear hl4
  obtain ⟨d0, hd0⟩ : ∃ d0, d0 = digs 65536 n := ⟨_, rfl⟩
  have HN := hide hd0
  rw [← hd0] at HL ⊢
  clear hd0
  go_enter Tryz.func23, Tryz.ntmps23
  go_wp2
  go_loopw [0, 3] (fun vm l wr => ∃ (m k : Nat) (ds : List Nat) (B : Option Addr) (cl : Nat), m < 9223372036854775808 ∧ vm = .int .i64 (m : Int) ∧ l = .slice B k cl ∧ Hid (k = ds.length ∧ d0 = ds ++ digs 65536 m) ∧ Hid (OwnI wr w.heap.size (.slice B k cl) ds) ∧ Hid (Below w.heap.size w wr)) (fun vm _ _ => (intOf vm).toNat)
  case atStart => exact ⟨n, 0, [], some ⟨w.heap.size, 0, none⟩, 0, hn, rfl, rfl, ⟨rfl, HN.out⟩, OwnG.mk (xs := []) (cur := #[]) (Nat.le_refl _) (Blk.new w _ _) (Nat.le_refl _) (Nat.zero_le _) rfl rfl, (Below.refl _ _).alloc (Nat.le_refl _) _⟩
  case round =>
    obtain ⟨m, k, ds, B, cl, hm, rfl, rfl, hD, hown, hbel⟩ := hrel
    by_cases h0 : 0 < m
    · have hk4 : k ≤ 4 := by rw [hD.out.1]; exact HL.out ds m (by rw [← hD.out.2])
      have HK := hide hk4
      have hnext : d0 = (ds ++ [m % 65536]) ++ digs 65536 (m / 65536) := by
        rw [hD.out.2, digs_pos (by omega) h0, List.append_assoc]; rfl
      have HD2 := hide hnext
      have hdiv : m / 65536 < m := Nat.div_lt_self h0 (by omega)
      have hown2 : Hid (OwnI wr w.heap.size (.slice B ds.length cl) ds) := by rw [← hD.out.1]; exact hown
      have Hk := hide hD.out.1
      clear HL HN hnext hk4 hD hown
      go_wp2_with (at_builtin; refine wpList_append_own _ rfl (.tmp 9) (.tmp 12) 27 rfl w.heap.size 3 i0 (.int .i64 0) 1 8 Tryz.underlying27 HI.out.1 HI.out.2.1 HI.out.2.2.1 HI.out.2.2.2 rfl (by decide) _ _ _ rfl ((show OwnI wr w.heap.size (.slice B k cl) ds from by rw [Hk.out]; exact hown2.out).alloc _) ⟨wr.heap.size, 0, none⟩ 1 1 [.int .i64 ((m : Int) % 65536)] rfl rfl ?c1 ?c2 ?c3 ?c4 ?c5 ?_)
      case c1 => exact cell_one_new _ _ _
      case c2 => intro u hu; rw [List.mem_singleton.1 hu]; rfl
      case c3 => have := HK.out; have := Hk.out; simp only [maxLen]; simp; omega
      case c4 => have := HK.out; have := Hk.out; simp; omega
      case c5 => have := hbel.out.size; simp; omega
      intro v' w1 hown' hgrow _
      obtain ⟨B', cl', rfl, hown1⟩ := small_push (m % 65536) Hk.out.symm ((m : Int) % 65536) (by omega) (by simpa using hown')
      have hb1 := hide (below_app hbel.out hbel.out.size _ hgrow (fun j hj => (hown2.out.lt (by rw [← Hk.out]; exact hj)).1))
      have Hk1 : Hid (k + 1 = (ds ++ [m % 65536]).length) := by rw [Hk.out]; show _ = _; simp
      clear hown' hgrow hown2 hbel Hk HK
      go_wp2
      go_roundw
      case rel => exact ⟨m / 65536, k + 1, ds ++ [m % 65536], B', cl', by omega, by rw [Int.natCast_ediv]; rfl, rfl, ⟨Hk1.out, HD2.out⟩, hown1, hb1⟩
      case measure => simp [intOf]; omega
    · obtain rfl : m = 0 := by omega
      have e : d0 = ds := by have := hD.out.2; rw [digs_zero, List.append_nil] at this; exact this
      have Fin : Hid (NewI w d0 (.returned (.slice B k cl)) wr) := by
        rw [e, hD.out.1]
        refine ⟨B, cl, rfl, ?_, hbel.out⟩
        rw [← hD.out.1]; exact hown.out
      clear hD hown hbel HL HN e
      go_wp2
      go_ret
      exact Fin.out

theorem digs_len_mono {b : Nat} (hb : 1 < b) {m n : Nat} (h : m ≤ n) : (digs b m).length ≤ (digs b n).length :=
  digs_length_le hb (Nat.lt_of_le_of_lt h (lt_of_digs_length hb (Nat.le_refl _)))

set_option maxHeartbeats 1000000 in
theorem spower_any (b n : Nat) (w : World) (hb : 1 ≤ b) (hbl : b < 9223372036854775808) (hn : n < 9223372036854775808) (hl : (digs 65536 (b ^ n)).length ≤ 1048576) : Calls Tryz.prog 9 #[.int .i64 (b : Int), .int .i64 (n : Int)] w (NewI w (digs 65536 (b ^ n))) := by
  have Con : Hid (Calls Tryz.prog 23 #[.int .i64 1] w (NewI w (digs 65536 1))) := small_any 1 w (by omega)
  have ConB : Hid (∀ W, Calls Tryz.prog 23 #[.int .i64 (b : Int)] W (NewI W (digs 65536 b))) := fun W => small_any b W hbl
  have hb4 : (digs 65536 b).length ≤ 4 := digs_length_le (by omega) (by omega)
  have hlj : ∀ j, j ≤ n → (digs 65536 (b ^ j)).length ≤ 1048576 := fun j hj => Nat.le_trans (digs_len_mono (by omega) (Nat.pow_le_pow_right hb hj)) hl
  have HL := hide (And.intro hlj hb4)
  clear hl hlj hb4
  obtain ⟨bi, hbi⟩ : ∃ bi : Int, bi = (b : Int) := ⟨_, rfl⟩
  rw [← hbi] at ConB ⊢
  clear hbi
  go_enter Tryz.func9, Tryz.ntmps9
  go_wp2_with fail
  refine (Con.out).mono ?_
  rintro e w1 ⟨A, c, rfl, hown, hbel⟩
  have HO : Hid (OwnI w1 w.heap.size (.slice A (digs 65536 1).length c) (digs 65536 (b ^ 0))) := hown
  have HB := hide hbel
  clear hown hbel Con
  generalize (digs 65536 1).length = q at HO ⊢
  go_wp2
  go_loopw [1, 5] (fun vm l wr => ∃ (j k : Nat) (B : Option Addr) (cl : Nat), j ≤ n ∧ vm = .int .i64 ((n - j : Nat) : Int) ∧ l = .slice B k cl ∧ Hid (OwnI wr w.heap.size (.slice B k cl) (digs 65536 (b ^ j))) ∧ Hid (Below w.heap.size w wr)) (fun vm _ _ => (intOf vm).toNat)
  case atStart => exact ⟨0, q, A, c, Nat.zero_le _, rfl, rfl, HO, HB⟩
  case round =>
    obtain ⟨j, k, B, cl, hj, rfl, rfl, hown, hbel⟩ := hrel
    by_cases hlt : j < n
    · obtain ⟨r, hr⟩ : ∃ r, n - j = r + 1 := ⟨n - j - 1, by omega⟩
      have hr2 : n - (j + 1) = r := by omega
      rw [hr]
      have e1 : ((r + 1 : Nat) : Int) - 1 = (r : Int) := by omega
      have hrl : r < 9223372036854775808 := by omega
      clear hr HO HB
      go_wp2_with fail
      refine (ConB.out wr).mono ?_
      rintro e w2 ⟨A2, c2, rfl, hown2, hbel2⟩
      have con3 := smul_any B A2 k (digs 65536 b).length cl c2 (digs 65536 (b ^ j)) (digs 65536 b) w2 (hown.out.below hbel2).rd hown2.rd (RdG.len (k := .i64) hown.out.rd) rfl (by rw [RdG.len (k := .i64) hown.out.rd]; exact HL.out.1 j (by omega)) (by have := HL.out.2; omega) (dig_digs (by omega) _) (dig_digs (by omega) _)
      rw [dval_digs (by omega), dval_digs (by omega), ← Nat.pow_succ] at con3
      have Con3 := hide con3
      have HB2 := hide (below_next hbel.out hbel2)
      clear con3 hown hown2 hbel hbel2
      generalize (digs 65536 b).length = q2 at Con3 ⊢
      go_wp2_with fail
      refine (Con3.out).mono ?_
      rintro e w3 ⟨A3, c3, rfl, hown3, hbel3⟩
      have HO3 := hide (hown3.lower HB2.out.size)
      have HB3 := hide (below_next HB2.out hbel3)
      clear hown3 hbel3 HB2 Con3
      generalize (digs 65536 (b ^ (j + 1))).length = q3 at HO3 ⊢
      go_wp2
      go_roundw
      case rel => exact ⟨j + 1, q3, A3, c3, by omega, by rw [hr2], rfl, HO3, HB3⟩
      case measure => simp [intOf]
    · obtain rfl : j = n := by omega
      rw [Nat.sub_self]
      have Fin : Hid (NewI w (digs 65536 (b ^ j)) (.returned (.slice B k cl)) wr) := by
        have hk := RdG.len (k := .i64) hown.out.rd
        subst hk
        exact ⟨B, cl, rfl, hown.out, hbel.out⟩
      clear hown hbel HO HB HL
      go_wp2
      go_ret
      exact Fin.out
end Go.Proofs.YtamjfjomehcikaaGreatDoor
