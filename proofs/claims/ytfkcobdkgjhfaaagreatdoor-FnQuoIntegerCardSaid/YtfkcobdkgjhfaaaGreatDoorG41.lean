/- Parts of the proofs: SpPow, SpDmM. -/
import Derived.Test.YtfkcobdkgjhfaaaGreatDoorG33
import Derived.Test.YtfkcobdkgjhfaaaGreatDoorG40
/- Walks: the reference's Small and Power. -/
set_option linter.unusedVariables false
set_option linter.unusedSimpArgs false
namespace Go.Proofs.YtfkcobdkgjhfaaaGreatDoor
open Go.RowKit

theorem small_push {w1 : World} {base m : Nat} {v' : Value} {qs : List Nat} (d : Nat) (hm : qs.length = m) (e : Int) (he : e = (d : Int)) (h : w1.ownsRow base 3 1 v' (qs.length + 1) (gv .i64 qs ++ [.int .i64 e])) :
    ∃ B c, v' = .slice B (m + 1) c ∧ Hid (OwnI w1 base (.slice B (m + 1) c) (qs ++ [d])) := by
  subst he
  rw [hm] at h
  obtain ⟨B, c, e1, e2⟩ := OwnG.grown hm h
  exact ⟨B, c, e1, e2⟩

set_option maxHeartbeats 1000000 in
theorem small_any (n : Nat) (w : World) (hn : n < 9223372036854775808) : Calls Tryz.prog 75 #[.int .i64 (n : Int)] w (NewI w (digs 65536 n)) := by
  obtain ⟨i0, hi, hz0, hz1, hz2⟩ := info_parts infoI
  have HI := hide (And.intro hi (And.intro hz0 (And.intro hz1 hz2)))
  clear hi hz0 hz1 hz2
  have hl4 : ∀ ds m, digs 65536 n = ds ++ digs 65536 m → ds.length ≤ 4 := by
    intro ds m h
    have h1 : (digs 65536 n).length ≤ 4 := digs_length_le (by omega) (by omega)
    rw [h, List.length_append] at h1
    omega
  have HL := hide hl4
  clear hl4
  obtain ⟨d0, hd0⟩ : ∃ d0, d0 = digs 65536 n := ⟨_, rfl⟩
  have HN := hide hd0
  rw [← hd0] at HL ⊢
  clear hd0
  go_enter Tryz.func75, Tryz.ntmps75
  go_wp2
  go_loopw [0, 3] (fun vm l wr => ∃ (m k : Nat) (ds : List Nat) (B : Option Addr) (cl : Nat), m < 9223372036854775808 ∧ vm = .int .i64 (m : Int) ∧ l = .slice B k cl ∧ Hid (k = ds.length ∧ d0 = ds ++ digs 65536 m) ∧ Hid (OwnI wr w.heap.size (.slice B k cl) ds) ∧ Hid (Below w.heap.size w wr)) (fun vm _ _ => (intOf vm).toNat)
  case atStart => exact ⟨n, 0, [], some ⟨w.heap.size, 0, none⟩, 0, hn, rfl, rfl, ⟨rfl, HN.out⟩, OwnG.mk (xs := []) (cur := #[]) (Nat.le_refl _) (Blk.new w _ _) (Nat.le_refl _) (Nat.zero_le _) rfl rfl, (Below.refl _ _).alloc (Nat.le_refl _) _⟩
  case round =>
    obtain ⟨m, k, ds, B, cl, hm, rfl, rfl, hD, hown, hbel⟩ := hrel
    by_cases h0 : 0 < m
    · have hk4 : k ≤ 4 := by rw [hD.out.1]; exact HL.out ds m (by rw [← hD.out.2])
      have HK := hide hk4
      have hnext : d0 = (ds ++ [m % 65536]) ++ digs 65536 (m / 65536) := by
        rw [hD.out.2, digs_pos (by omega) h0, List.append_assoc]; rfl
      have HD2 := hide hnext
      have hdiv : m / 65536 < m := Nat.div_lt_self h0 (by omega)
      have hown2 : Hid (OwnI wr w.heap.size (.slice B ds.length cl) ds) := by rw [← hD.out.1]; exact hown
      have Hk := hide hD.out.1
      clear HL HN hnext hk4 hD hown
      go_wp2_with (at_builtin; refine wpList_append_own _ rfl (.tmp 9) (.tmp 12) 27 rfl w.heap.size 3 i0 (.int .i64 0) 1 8 Tryz.underlying27 HI.out.1 HI.out.2.1 HI.out.2.2.1 HI.out.2.2.2 rfl (by decide) _ _ _ rfl ((show OwnI wr w.heap.size (.slice B k cl) ds from by rw [Hk.out]; exact hown2.out).alloc _) ⟨wr.heap.size, 0, none⟩ 1 1 [.int .i64 ((m : Int) % 65536)] rfl rfl ?c1 ?c2 ?c3 ?c4 ?c5 ?_)
      case c1 => exact cell_one_new _ _ _
      case c2 => intro u hu; rw [List.mem_singleton.1 hu]; rfl
      case c3 => have := HK.out; have := Hk.out; simp only [maxLen]; simp; omega
      case c4 => have := HK.out; have := Hk.out; simp; omega
      case c5 => have := hbel.out.size; simp; omega
      intro v' w1 hown' hgrow _
      obtain ⟨B', cl', rfl, hown1⟩ := small_push (m % 65536) Hk.out.symm ((m : Int) % 65536) (by omega) (by simpa using hown')
      have hb1 := hide (below_app hbel.out hbel.out.size _ hgrow (fun j hj => (hown2.out.lt (by rw [← Hk.out]; exact hj)).1))
      have Hk1 : Hid (k + 1 = (ds ++ [m % 65536]).length) := by rw [Hk.out]; show _ = _; simp
      clear hown' hgrow hown2 hbel Hk HK
      go_wp2
      go_roundw
      case rel => exact ⟨m / 65536, k + 1, ds ++ [m % 65536], B', cl', by omega, by rw [Int.natCast_ediv]; rfl, rfl, ⟨Hk1.out, HD2.out⟩, hown1, hb1⟩
      case measure => simp [intOf]; omega
    · obtain rfl : m = 0 := by omega
      have e : d0 = ds := by have := hD.out.2; rw [digs_zero, List.append_nil] at this; exact this
      have Fin : Hid (NewI w d0 (.returned (.slice B k cl)) wr) := by
        rw [e, hD.out.1]
        refine ⟨B, cl, rfl, ?_, hbel.out⟩
        rw [← hD.out.1]; exact hown.out
      clear hD hown hbel HL HN e
      go_wp2
      go_ret
      exact Fin.out

theorem digs_len_mono {b : Nat} (hb : 1 < b) {m n : Nat} (h : m ≤ n) : (digs b m).length ≤ (digs b n).length :=
  digs_length_le hb (Nat.lt_of_le_of_lt h (lt_of_digs_length hb (Nat.le_refl _)))

set_option maxHeartbeats 1000000 in
theorem spower_any (b n : Nat) (w : World) (hb : 1 ≤ b) (hbl : b < 9223372036854775808) (hn : n < 9223372036854775808) (hl : (digs 65536 (b ^ n)).length ≤ 1048576) : Calls Tryz.prog 60 #[.int .i64 (b : Int), .int .i64 (n : Int)] w (NewI w (digs 65536 (b ^ n))) := by
  have Con : Hid (Calls Tryz.prog 75 #[.int .i64 1] w (NewI w (digs 65536 1))) := small_any 1 w (by omega)
  have ConB : Hid (∀ W, Calls Tryz.prog 75 #[.int .i64 (b : Int)] W (NewI W (digs 65536 b))) := fun W => small_any b W hbl
  have hb4 : (digs 65536 b).length ≤ 4 := digs_length_le (by omega) (by omega)
  have hlj : ∀ j, j ≤ n → (digs 65536 (b ^ j)).length ≤ 1048576 := fun j hj => Nat.le_trans (digs_len_mono (by omega) (Nat.pow_le_pow_right hb hj)) hl
  have HL := hide (And.intro hlj hb4)
  clear hl hlj hb4
  obtain ⟨bi, hbi⟩ : ∃ bi : Int, bi = (b : Int) := ⟨_, rfl⟩
  rw [← hbi] at ConB ⊢
  clear hbi
  go_enter Tryz.func60, Tryz.ntmps60
  go_wp2_with fail
  refine (Con.out).mono ?_
  rintro e w1 ⟨A, c, rfl, hown, hbel⟩
  have HO : Hid (OwnI w1 w.heap.size (.slice A (digs 65536 1).length c) (digs 65536 (b ^ 0))) := hown
  have HB := hide hbel
  clear hown hbel Con
  generalize (digs 65536 1).length = q at HO ⊢
  go_wp2
  go_loopw [1, 5] (fun vm l wr => ∃ (j k : Nat) (B : Option Addr) (cl : Nat), j ≤ n ∧ vm = .int .i64 ((n - j : Nat) : Int) ∧ l = .slice B k cl ∧ Hid (OwnI wr w.heap.size (.slice B k cl) (digs 65536 (b ^ j))) ∧ Hid (Below w.heap.size w wr)) (fun vm _ _ => (intOf vm).toNat)
  case atStart => exact ⟨0, q, A, c, Nat.zero_le _, rfl, rfl, HO, HB⟩
  case round =>
    obtain ⟨j, k, B, cl, hj, rfl, rfl, hown, hbel⟩ := hrel
    by_cases hlt : j < n
    · obtain ⟨r, hr⟩ : ∃ r, n - j = r + 1 := ⟨n - j - 1, by omega⟩
      have hr2 : n - (j + 1) = r := by omega
      rw [hr]
      have e1 : ((r + 1 : Nat) : Int) - 1 = (r : Int) := by omega
      have hrl : r < 9223372036854775808 := by omega
      clear hr HO HB
      go_wp2_with fail
      refine (ConB.out wr).mono ?_
      rintro e w2 ⟨A2, c2, rfl, hown2, hbel2⟩
      have con3 := smul_any B A2 k (digs 65536 b).length cl c2 (digs 65536 (b ^ j)) (digs 65536 b) w2 (hown.out.below hbel2).rd hown2.rd (RdG.len (k := .i64) hown.out.rd) rfl (by rw [RdG.len (k := .i64) hown.out.rd]; exact HL.out.1 j (by omega)) (by have := HL.out.2; omega) (dig_digs (by omega) _) (dig_digs (by omega) _)
      rw [dval_digs (by omega), dval_digs (by omega), ← Nat.pow_succ] at con3
      have Con3 := hide con3
      have HB2 := hide (below_next hbel.out hbel2)
      clear con3 hown hown2 hbel hbel2
      generalize (digs 65536 b).length = q2 at Con3 ⊢
      go_wp2_with fail
      refine (Con3.out).mono ?_
      rintro e w3 ⟨A3, c3, rfl, hown3, hbel3⟩
      have HO3 := hide (hown3.lower HB2.out.size)
      have HB3 := hide (below_next HB2.out hbel3)
      clear hown3 hbel3 HB2 Con3
      generalize (digs 65536 (b ^ (j + 1))).length = q3 at HO3 ⊢
      go_wp2
      go_roundw
      case rel => exact ⟨j + 1, q3, A3, c3, by omega, by rw [hr2], rfl, HO3, HB3⟩
      case measure => simp [intOf]
    · obtain rfl : j = n := by omega
      rw [Nat.sub_self]
      have Fin : Hid (NewI w (digs 65536 (b ^ j)) (.returned (.slice B k cl)) wr) := by
        have hk := RdG.len (k := .i64) hown.out.rd
        subst hk
        exact ⟨B, cl, rfl, hown.out, hbel.out⟩
      clear hown hbel HO HB HL
      go_wp2
      go_ret
      exact Fin.out
end Go.Proofs.YtfkcobdkgjhfaaaGreatDoor

/- Plain: bits of a number in digits of 16 bits; a shift; the division by shifts and subtractions. No program in sight. -/
set_option linter.unusedVariables false
set_option linter.unusedSimpArgs false
namespace Go.Proofs.YtfkcobdkgjhfaaaGreatDoor
open Go.RowKit

theorem blen_half {t : Nat} (h : 0 < t) : blen (t / 2) + 1 = blen t := by
  have h1 := blen_lo h
  have h2 := blen_hi t
  obtain ⟨k, hk⟩ : ∃ k, blen t = k + 1 := ⟨blen t - 1, by rw [blen_pos h]; omega⟩
  rw [hk] at h1 h2 ⊢
  rw [Nat.add_sub_cancel] at h1
  cases k with
  | zero =>
    have : t = 1 := by simp at h1 h2; omega
    subst this; rfl
  | succ j =>
    rw [blen_of (k := j) (n := t / 2)]
    · rw [Nat.pow_succ] at h1; omega
    · rw [Nat.pow_succ] at h2; omega
theorem blen_digs {m n1 : Nat} (hl : (digs 65536 m).length = n1 + 1) : blen m = 16 * n1 + blen ((digs 65536 m).getD n1 0) ∧ 0 < (digs 65536 m).getD n1 0 ∧ (digs 65536 m).getD n1 0 < 65536 := by
  have hd := dig_digs (b := 65536) (by omega) m
  have hc := canon_digs (b := 65536) (by omega) m
  have e := dval_digs (b := 65536) (by omega) m
  generalize digs 65536 m = xs at *
  obtain ⟨t, ht⟩ : ∃ t, t = xs.getD n1 0 := ⟨_, rfl⟩
  have ht0 : 0 < t := by
    rcases Nat.eq_zero_or_pos t with h | h
    · exfalso
      unfold Canon at hc
      rw [List.getLast?_eq_getElem?, hl, Nat.add_sub_cancel, List.getElem?_eq_getElem (by omega), ← getD_at (by omega), ← ht, h] at hc
      exact hc rfl
    · exact h
  have htl : t < 65536 := by rw [ht, getD_at (by omega)]; exact hd _ (List.getElem_mem _)
  have hm : m = dval 65536 (xs.take n1) + 65536 ^ n1 * t := by
    have hs := dval_append 65536 (xs.take n1) [t]
    rw [List.length_take, hl, Nat.min_eq_left (by omega), dval_cons, dval_nil, Nat.mul_zero, Nat.add_zero] at hs
    rw [← hs, ← e, ht, getD_at (by omega), ← List.take_succ_eq_append_getElem (by omega), List.take_of_length_le (by omega)]
  have hlo := dval_lt (b := 65536) (xs := xs.take n1) (by omega) (fun e he => hd e (List.mem_of_mem_take he))
  rw [List.length_take, hl, Nat.min_eq_left (by omega)] at hlo
  rw [← ht]
  refine ⟨?_, ht0, htl⟩
  have h1 := blen_lo ht0
  have h2 := blen_hi t
  obtain ⟨k, hk⟩ : ∃ k, blen t = k + 1 := ⟨blen t - 1, by rw [blen_pos ht0]; omega⟩
  rw [hk] at h1 h2 ⊢
  rw [Nat.add_sub_cancel] at h1
  have e16 : (65536 : Nat) ^ n1 = 2 ^ (16 * n1) := by rw [Nat.pow_mul]
  rw [e16] at hm hlo
  have h3 : 2 ^ (16 * n1) * 2 ^ k ≤ 2 ^ (16 * n1) * t := Nat.mul_le_mul_left _ h1
  have h4 : 2 ^ (16 * n1) * (t + 1) ≤ 2 ^ (16 * n1) * 2 ^ (k + 1) := Nat.mul_le_mul_left _ (by omega)
  rw [Nat.mul_add, Nat.mul_one] at h4
  rw [← Nat.pow_add] at h3 h4
  rw [blen_of (k := 16 * n1 + k) (n := m)]
  · omega
  · omega
  · rw [show 16 * n1 + k + 1 = 16 * n1 + (k + 1) by omega]; omega

/-- A digit shifted: what it leaves in place and what it carries. -/
theorem shl16 {s c x : Nat} (hs : s ≤ 15) (hc : c < 2 ^ s) (hx : x < 65536) :
    c + x * 2 ^ s % 65536 = (0 + x * 2 ^ s + c) % 65536 ∧ x * 2 ^ s / 65536 = (0 + x * 2 ^ s + c) / 65536 ∧ x * 2 ^ s / 65536 < 2 ^ s := by
  have hp : 0 < 2 ^ s := Nat.two_pow_pos s
  have e : (65536 : Nat) = 2 ^ (16 - s) * 2 ^ s := by rw [← Nat.pow_add, show 16 - s + s = 16 by omega]
  have hm : x * 2 ^ s % 65536 = x % 2 ^ (16 - s) * 2 ^ s := by
    conv => lhs; rw [e]
    rw [Nat.mul_mod_mul_right]
  have hlt : (x % 2 ^ (16 - s) + 1) * 2 ^ s ≤ 2 ^ (16 - s) * 2 ^ s := Nat.mul_le_mul_right _ (Nat.mod_lt _ (Nat.two_pow_pos _))
  rw [← e, Nat.add_mul, Nat.one_mul, ← hm] at hlt
  have hd := Nat.div_add_mod (x * 2 ^ s) 65536
  refine ⟨?_, ?_, ?_⟩
  · omega
  · omega
  · have h1 : x * 2 ^ s < 65536 * 2 ^ s := Nat.mul_lt_mul_of_pos_right hx hp
    exact Nat.div_lt_of_lt_mul h1

/-- What the division by shifts holds: the quotient's bits from k on, and what is left. -/
structure DmS (a b k q r : Nat) : Prop where
  val : q * b + r = a
  lt : r < b * 2 ^ k
theorem DmS.start {a b : Nat} (h : 0 < b) : DmS a b (blen a + 1 - blen b) 0 a := by
  refine ⟨by omega, ?_⟩
  have h1 := blen_hi a
  have h2 := blen_lo h
  rcases Nat.lt_or_ge (blen a) (blen b) with hl | hl
  · have h3 : 2 ^ blen a ≤ 2 ^ (blen b - 1) := Nat.pow_le_pow_right (by omega) (by omega)
    rw [show blen a + 1 - blen b = 0 by omega, Nat.pow_zero, Nat.mul_one]
    omega
  · have hb1 : 1 ≤ blen b := by rw [blen_pos h]; omega
    have h3 : 2 ^ (blen b - 1) * 2 ^ (blen a + 1 - blen b) ≤ b * 2 ^ (blen a + 1 - blen b) := Nat.mul_le_mul_right _ h2
    rw [← Nat.pow_add, show blen b - 1 + (blen a + 1 - blen b) = blen a by omega] at h3
    omega
theorem DmS.yes {a b j q r : Nat} (h : DmS a b (j + 1) q r) (hle : b * 2 ^ j ≤ r) : DmS a b j (q + 2 ^ j) (r - b * 2 ^ j) := by
  obtain ⟨h1, h2⟩ := h
  rw [Nat.pow_succ, ← Nat.mul_assoc] at h2
  refine ⟨?_, by omega⟩
  rw [Nat.add_mul, Nat.mul_comm (2 ^ j) b]
  omega
theorem DmS.no {a b j q r : Nat} (h : DmS a b (j + 1) q r) (hlt : r < b * 2 ^ j) : DmS a b j q r := ⟨h.val, hlt⟩
theorem DmS.end_ {a b q r : Nat} (h : DmS a b 0 q r) : q = a / b ∧ r = a % b := by
  obtain ⟨h1, h2⟩ := h
  rw [Nat.pow_zero, Nat.mul_one] at h2
  have hb : 0 < b := by omega
  refine ⟨?_, ?_⟩
  · rw [← h1, Nat.mul_comm, Nat.mul_add_div hb, Nat.div_eq_of_lt h2, Nat.add_zero]
  · rw [← h1, Nat.mul_comm, Nat.mul_add_mod, Nat.mod_eq_of_lt h2]
theorem DmS.le {a b k q r : Nat} (hb : 0 < b) (h : DmS a b k q r) : q ≤ a ∧ r ≤ a := by
  have h1 := h.val
  have h2 : q * 1 ≤ q * b := Nat.mul_le_mul_left _ hb
  omega
theorem digs_pow2 (i : Nat) : digs 65536 (2 ^ i) = List.replicate (i / 16) 0 ++ [2 ^ (i % 16)] := by
  have h16 : 2 ^ (i % 16) < 2 ^ 16 := Nat.pow_lt_pow_right (by omega) (Nat.mod_lt _ (by omega))
  have hp : 0 < 2 ^ (i % 16) := Nat.two_pow_pos _
  have hd : Dig 65536 (List.replicate (i / 16) 0 ++ [2 ^ (i % 16)]) := fun e he => by
    rcases List.mem_append.1 he with h | h
    · rw [List.eq_of_mem_replicate h]; omega
    · rw [List.mem_singleton.1 h]; exact h16
  have hc : Canon (List.replicate (i / 16) 0 ++ [2 ^ (i % 16)]) := canon_snoc (by omega)
  have hv : dval 65536 (List.replicate (i / 16) 0 ++ [2 ^ (i % 16)]) = 2 ^ i := by
    rw [dval_append, dval_replicate_zero, List.length_replicate, dval_cons, dval_nil, Nat.mul_zero, Nat.add_zero, Nat.zero_add, show (65536 : Nat) = 2 ^ 16 from rfl, ← Nat.pow_mul, ← Nat.pow_add, Nat.div_add_mod]
  rw [← hv, digs_dval_trim (by omega) hd, trimz_of_canon hc]
end Go.Proofs.YtfkcobdkgjhfaaaGreatDoor
