/- Parts of the proofs: SpDmM, SpLen, SpDm, SpCut, SpI64, SpI64b. -/
import Derived.Deep.RegionHeld3
import Derived.Deep.DeepCutAuto
import Derived.Test.YtfkcobdkgjhfaaaGreatDoorG20
import Derived.Test.YtfkcobdkgjhfaaaGreatDoorG26
import Derived.Test.YtfkcobdkgjhfaaaGreatDoorG28
import Derived.Test.YtfkcobdkgjhfaaaGreatDoorG29
import Derived.Test.YtfkcobdkgjhfaaaGreatDoorG31
import Derived.Test.YtfkcobdkgjhfaaaGreatDoorG32
import Derived.Test.YtfkcobdkgjhfaaaGreatDoorG65
import Derived.Test.YtfkcobdkgjhfaaaGreatDoorG66
/- Plain: bits of a number in digits of 16 bits; a shift; the division by shifts and subtractions. No program in sight. -/
set_option linter.unusedVariables false
set_option linter.unusedSimpArgs false
namespace Go.Proofs.YtfkcobdkgjhfaaaGreatDoor
open Go.RowKit

theorem blen_half {t : Nat} (h : 0 < t) : blen (t / 2) + 1 = blen t := by
  have h1 := blen_lo h
  have h2 := blen_hi t
  obtain ⟨k, hk⟩ : ∃ k, blen t = k + 1 := ⟨blen t - 1, by rw [blen_pos h]; omega⟩
  rw [hk] at h1 h2 ⊢
  rw [Nat.add_sub_cancel] at h1
  cases k with
  | zero =>
    have : t = 1 := by simp at h1 h2; omega
    subst this; rfl
  | succ j =>
    rw [blen_of (k := j) (n := t / 2)]
    · rw [Nat.pow_succ] at h1; omega
    · rw [Nat.pow_succ] at h2; omega
theorem blen_digs {m n1 : Nat} (hl : (digs 65536 m).length = n1 + 1) : blen m = 16 * n1 + blen ((digs 65536 m).getD n1 0) ∧ 0 < (digs 65536 m).getD n1 0 ∧ (digs 65536 m).getD n1 0 < 65536 := by
  have hd := dig_digs (b := 65536) (by omega) m
  have hc := canon_digs (b := 65536) (by omega) m
  have e := dval_digs (b := 65536) (by omega) m
  generalize digs 65536 m = xs at *
  obtain ⟨t, ht⟩ : ∃ t, t = xs.getD n1 0 := ⟨_, rfl⟩
  have ht0 : 0 < t := by
    rcases Nat.eq_zero_or_pos t with h | h
    · exfalso
      unfold Canon at hc
      rw [List.getLast?_eq_getElem?, hl, Nat.add_sub_cancel, List.getElem?_eq_getElem (by omega), ← getD_at (by omega), ← ht, h] at hc
      exact hc rfl
    · exact h
  have htl : t < 65536 := by rw [ht, getD_at (by omega)]; exact hd _ (List.getElem_mem _)
  have hm : m = dval 65536 (xs.take n1) + 65536 ^ n1 * t := by
    have hs := dval_append 65536 (xs.take n1) [t]
    rw [List.length_take, hl, Nat.min_eq_left (by omega), dval_cons, dval_nil, Nat.mul_zero, Nat.add_zero] at hs
    rw [← hs, ← e, ht, getD_at (by omega), ← List.take_succ_eq_append_getElem (by omega), List.take_of_length_le (by omega)]
  have hlo := dval_lt (b := 65536) (xs := xs.take n1) (by omega) (fun e he => hd e (List.mem_of_mem_take he))
  rw [List.length_take, hl, Nat.min_eq_left (by omega)] at hlo
  rw [← ht]
  refine ⟨?_, ht0, htl⟩
  have h1 := blen_lo ht0
  have h2 := blen_hi t
  obtain ⟨k, hk⟩ : ∃ k, blen t = k + 1 := ⟨blen t - 1, by rw [blen_pos ht0]; omega⟩
  rw [hk] at h1 h2 ⊢
  rw [Nat.add_sub_cancel] at h1
  have e16 : (65536 : Nat) ^ n1 = 2 ^ (16 * n1) := by rw [Nat.pow_mul]
  rw [e16] at hm hlo
  have h3 : 2 ^ (16 * n1) * 2 ^ k ≤ 2 ^ (16 * n1) * t := Nat.mul_le_mul_left _ h1
  have h4 : 2 ^ (16 * n1) * (t + 1) ≤ 2 ^ (16 * n1) * 2 ^ (k + 1) := Nat.mul_le_mul_left _ (by omega)
  rw [Nat.mul_add, Nat.mul_one] at h4
  rw [← Nat.pow_add] at h3 h4
  rw [blen_of (k := 16 * n1 + k) (n := m)]
  · omega
  · omega
  · rw [show 16 * n1 + k + 1 = 16 * n1 + (k + 1) by omega]; omega

/-- A digit shifted: what it leaves in place and what it carries. -/
theorem shl16 {s c x : Nat} (hs : s ≤ 15) (hc : c < 2 ^ s) (hx : x < 65536) :
    c + x * 2 ^ s % 65536 = (0 + x * 2 ^ s + c) % 65536 ∧ x * 2 ^ s / 65536 = (0 + x * 2 ^ s + c) / 65536 ∧ x * 2 ^ s / 65536 < 2 ^ s := by
  have hp : 0 < 2 ^ s := Nat.two_pow_pos s
  have e : (65536 : Nat) = 2 ^ (16 - s) * 2 ^ s := by rw [← Nat.pow_add, show 16 - s + s = 16 by omega]
  have hm : x * 2 ^ s % 65536 = x % 2 ^ (16 - s) * 2 ^ s := by
    conv => lhs; rw [e]
    rw [Nat.mul_mod_mul_right]
  have hlt : (x % 2 ^ (16 - s) + 1) * 2 ^ s ≤ 2 ^ (16 - s) * 2 ^ s := Nat.mul_le_mul_right _ (Nat.mod_lt _ (Nat.two_pow_pos _))
  rw [← e, Nat.add_mul, Nat.one_mul, ← hm] at hlt
  have hd := Nat.div_add_mod (x * 2 ^ s) 65536
  refine ⟨?_, ?_, ?_⟩
  · omega
  · omega
  · have h1 : x * 2 ^ s < 65536 * 2 ^ s := Nat.mul_lt_mul_of_pos_right hx hp
    exact Nat.div_lt_of_lt_mul h1

/-- What the division by shifts holds: the quotient's bits from k on, and what is left. -/
structure DmS (a b k q r : Nat) : Prop where
  val : q * b + r = a
  lt : r < b * 2 ^ k
theorem DmS.start {a b : Nat} (h : 0 < b) : DmS a b (blen a + 1 - blen b) 0 a := by
  refine ⟨by omega, ?_⟩
  have h1 := blen_hi a
  have h2 := blen_lo h
  rcases Nat.lt_or_ge (blen a) (blen b) with hl | hl
  · have h3 : 2 ^ blen a ≤ 2 ^ (blen b - 1) := Nat.pow_le_pow_right (by omega) (by omega)
    rw [show blen a + 1 - blen b = 0 by omega, Nat.pow_zero, Nat.mul_one]
    omega
  · have hb1 : 1 ≤ blen b := by rw [blen_pos h]; omega
    have h3 : 2 ^ (blen b - 1) * 2 ^ (blen a + 1 - blen b) ≤ b * 2 ^ (blen a + 1 - blen b) := Nat.mul_le_mul_right _ h2
    rw [← Nat.pow_add, show blen b - 1 + (blen a + 1 - blen b) = blen a by omega] at h3
    omega
theorem DmS.yes {a b j q r : Nat} (h : DmS a b (j + 1) q r) (hle : b * 2 ^ j ≤ r) : DmS a b j (q + 2 ^ j) (r - b * 2 ^ j) := by
  obtain ⟨h1, h2⟩ := h
  rw [Nat.pow_succ, ← Nat.mul_assoc] at h2
  refine ⟨?_, by omega⟩
  rw [Nat.add_mul, Nat.mul_comm (2 ^ j) b]
  omega
theorem DmS.no {a b j q r : Nat} (h : DmS a b (j + 1) q r) (hlt : r < b * 2 ^ j) : DmS a b j q r := ⟨h.val, hlt⟩
theorem DmS.end_ {a b q r : Nat} (h : DmS a b 0 q r) : q = a / b ∧ r = a % b := by
  obtain ⟨h1, h2⟩ := h
  rw [Nat.pow_zero, Nat.mul_one] at h2
  have hb : 0 < b := by omega
  refine ⟨?_, ?_⟩
  · rw [← h1, Nat.mul_comm, Nat.mul_add_div hb, Nat.div_eq_of_lt h2, Nat.add_zero]
  · rw [← h1, Nat.mul_comm, Nat.mul_add_mod, Nat.mod_eq_of_lt h2]
theorem DmS.le {a b k q r : Nat} (hb : 0 < b) (h : DmS a b k q r) : q ≤ a ∧ r ≤ a := by
  have h1 := h.val
  have h2 : q * 1 ≤ q * b := Nat.mul_le_mul_left _ hb
  omega
theorem digs_pow2 (i : Nat) : digs 65536 (2 ^ i) = List.replicate (i / 16) 0 ++ [2 ^ (i % 16)] := by
  have h16 : 2 ^ (i % 16) < 2 ^ 16 := Nat.pow_lt_pow_right (by omega) (Nat.mod_lt _ (by omega))
  have hp : 0 < 2 ^ (i % 16) := Nat.two_pow_pos _
  have hd : Dig 65536 (List.replicate (i / 16) 0 ++ [2 ^ (i % 16)]) := fun e he => by
    rcases List.mem_append.1 he with h | h
    · rw [List.eq_of_mem_replicate h]; omega
    · rw [List.mem_singleton.1 h]; exact h16
  have hc : Canon (List.replicate (i / 16) 0 ++ [2 ^ (i % 16)]) := canon_snoc (by omega)
  have hv : dval 65536 (List.replicate (i / 16) 0 ++ [2 ^ (i % 16)]) = 2 ^ i := by
    rw [dval_append, dval_replicate_zero, List.length_replicate, dval_cons, dval_nil, Nat.mul_zero, Nat.add_zero, Nat.zero_add, show (65536 : Nat) = 2 ^ 16 from rfl, ← Nat.pow_mul, ← Nat.pow_add, Nat.div_add_mod]
  rw [← hv, digs_dval_trim (by omega) hd, trimz_of_canon hc]
end Go.Proofs.YtfkcobdkgjhfaaaGreatDoor

/- Walks: the reference's Len, Bit, Shl. -/
set_option linter.unusedVariables false
set_option linter.unusedSimpArgs false
namespace Go.Proofs.YtfkcobdkgjhfaaaGreatDoor
open Go.RowKit

set_option maxRecDepth 20000 in
theorem slen_any (A : Option Addr) (l c m : Nat) (w : World) (hr : RdG .i64 w (.slice A l c) (digs 65536 m)) (hl : l ≤ 100000) :
    Calls Tryz.prog 76 #[.slice A l c] w fun e w' => e = .returned (.int .i64 (blen m : Int)) ∧ w = w' := by
  have hlen := RdG.len hr
  rcases Nat.eq_zero_or_pos l with h0 | h0
  · have hm : m = 0 := by
      rcases Nat.eq_zero_or_pos m with h | h
      · exact h
      · exact absurd (List.eq_nil_of_length_eq_zero (by omega)) (digs_ne_nil (b := 65536) (by omega) h)
    subst h0 hm
    clear hr hlen
    go_enter Tryz.func76, Tryz.ntmps76
    go_wp2
    go_ret
    exact ⟨rfl, rfl⟩
  · obtain ⟨n1, hn1⟩ : ∃ i, l = i + 1 := ⟨l - 1, by omega⟩
    obtain ⟨g, o, rfl, -, hc⟩ := RdG.at_ (k := .i64) hr n1 (by omega)
    obtain ⟨hb, ht0, htl⟩ := blen_digs (m := m) (n1 := n1) (by omega)
    obtain ⟨B, hB⟩ : ∃ B, B = blen m := ⟨_, rfl⟩
    rw [← hB] at hb ⊢
    generalize (digs 65536 m).getD n1 0 = top at hc hb ht0 htl
    have i1 : (l : Int) - 1 = (n1 : Int) := by omega
    have b0 : ((l : Int) == 0) = false := beq_eq_false_iff_ne.2 (by omega)
    have j1 : n1 < l := by omega
    have j2 : n1 ≤ 100000 := by omega
    have HB : Hid (16 * n1 + blen top = B) := hb.symm
    clear hr hlen hb hB hn1 ht0 h0
    obtain ⟨k0, hk0⟩ : ∃ k, k = 16 * n1 := ⟨_, rfl⟩
    have i2 : (16 : Int) * (n1 : Int) = (k0 : Int) := by omega
    have j3 : k0 ≤ 1600000 := by omega
    rw [← hk0] at HB
    clear hk0
    go_enter Tryz.func76, Tryz.ntmps76
    go_wp2
    go_loopw [3, 4] (fun vn vt wr => ∃ t k : Nat, vn = .int .i64 (k : Int) ∧ vt = .int .i64 (t : Int) ∧ t < 65536 ∧ k ≤ 1700000 - t ∧ Hid (k + blen t = B ∧ wr = w)) (fun _ vt _ => (intOf vt).toNat)
    case atStart => exact ⟨top, k0, rfl, rfl, htl, by omega, HB.out, rfl⟩
    case round =>
      obtain ⟨t, k, rfl, rfl, ht, hk, HR⟩ := hrel
      rcases Nat.eq_zero_or_pos t with h | h
      · subst h
        have e1 : k = B := HR.out.1
        have e2 : wr = w := HR.out.2
        subst e1 e2
        clear HR HB hc
        go_wp2
        go_ret
        exact ⟨rfl, rfl⟩
      · have HN : Hid (k + 1 + blen (t / 2) = B ∧ wr = w) := ⟨by have := blen_half h; have := HR.out.1; omega, HR.out.2⟩
        have h2 : t / 2 < t := Nat.div_lt_self h (by omega)
        clear HR HB hc
        go_wp2
        go_roundw
        case rel => exact ⟨t / 2, k + 1, by go_num, by rw [Int.natCast_ediv]; rfl, by omega, by omega, HN⟩
        case measure => simp [intOf]; omega
set_option maxHeartbeats 400000 in
set_option maxRecDepth 20000 in
theorem sbit_any (i : Nat) (w : World) (hi : i ≤ 1000000) : Calls Tryz.prog 78 #[.int .i64 (i : Int)] w (NewI w (digs 65536 (2 ^ i))) := by
  obtain ⟨q, hq⟩ : ∃ q, q = i / 16 := ⟨_, rfl⟩
  obtain ⟨r, hr⟩ : ∃ r, r = i % 16 := ⟨_, rfl⟩
  have e1 : (i : Int) / 16 = (q : Int) := by omega
  have e2 : (i : Int) % 16 = (r : Int) := by omega
  have hr15 : r ≤ 15 := by omega
  have hq2 : q ≤ 100000 := by omega
  have hmk : ∀ W : World, (Instr.makeSlice 27 (.int .i64 ((q : Int) + 1)) (.int .i64 ((q : Int) + 1))).run Tryz.prog W = .ok (.slice (some ⟨W.heap.size, 0, none⟩) (q + 1) (q + 1)) (W.alloc (.cells (madeCells #[.int .i64 0] (q + 1)) 3)) := fun W => mk_nat (q + 1) (by omega) W
  obtain ⟨p, hp⟩ : ∃ p, p = 2 ^ r := ⟨_, rfl⟩
  have hpl : p ≤ 32768 := by rw [hp]; exact Nat.pow_le_pow_right (by omega) hr15
  have e3 : (1 : Int) * 2 ^ r = (p : Int) := by rw [hp]; simp
  have e3' : (2 : Int) ^ r = (p : Int) := by rw [hp]; simp
  have hd : digs 65536 (2 ^ i) = List.replicate q 0 ++ [p] := by rw [digs_pow2, ← hq, ← hr, ← hp]
  have em : madeCells #[Value.int .i64 0] (q + 1) = (gv .i64 (List.replicate q 0) ++ Value.int .i64 0 :: []).toArray := by
    apply Array.ext'
    rw [toList_madeCells_one, List.replicate_succ']
    simp [gv]
  have em2 : (madeCells #[Value.int .i64 0] (q + 1)).setIfInBounds q (.int .i64 (p : Int)) = (gv .i64 (List.replicate q 0 ++ [p])).toArray := by
    have hw := set_window (gv .i64 (List.replicate q 0)) [] (Value.int .i64 0) (.int .i64 (p : Int))
    rw [gv_length, List.length_replicate] at hw
    rw [em, List.setIfInBounds_toArray, hw]
    simp [gv]
  have HP : Hid (NewI w (digs 65536 (2 ^ i)) (.returned (.slice (some ⟨w.heap.size, 0, none⟩) (q + 1) (q + 1))) (w.alloc (.cells ((madeCells #[.int .i64 0] (q + 1)).setIfInBounds q (.int .i64 (p : Int))) 3))) := by
    have hl : (List.replicate q 0 ++ [p]).length = q + 1 := by simp
    rw [em2, hd]
    have h := OwnG.mk (k := .i64) (xs := List.replicate q 0 ++ [p]) (cap := q + 1) (Nat.le_refl _) (Blk.new w 3 (gv .i64 (List.replicate q 0 ++ [p])).toArray) (by omega) (by unfold maxLen; omega) (by rw [List.size_toArray, gv_length]; exact hl) (List.take_of_length_le (by rw [gv_length]; exact Nat.le_refl _))
    rw [hl] at h
    exact ⟨some ⟨w.heap.size, 0, none⟩, q + 1, by rw [hl], by rw [hl]; exact h, below_al (Below.refl _ _) _⟩
  have hB := Blk.new w 3 (madeCells #[Value.int .i64 0] (q + 1))
  have c2 := hB.frozen q
  have c1 : (w.alloc (.cells (madeCells #[.int .i64 0] (q + 1)) 3)).cell? ⟨w.heap.size, q, none⟩ = some (.int .i64 0) := by
    rw [hB.cell, em]
    have h := getElem?_window (gv .i64 (List.replicate q 0)) [] (Value.int .i64 0)
    rw [gv_length, List.length_replicate] at h
    simpa using h
  clear hd em em2 hp hq hr hi hB
  obtain ⟨ii, hii⟩ : ∃ ii : Int, ii = (i : Int) := ⟨_, rfl⟩
  rw [← hii] at e1 e2 ⊢
  clear hii
  go_enter Tryz.func78, Tryz.ntmps78
  go_wp2
  go_ret
  exact HP.out
/-- What a round of Shl holds: the digits up to i are shifted. -/
structure ShlS (w : World) (g t s i lx : Nat) (xs : List Nat) (W : World) : Prop where
  blk : Blk W g 3 (gv .i64 (List.replicate t 0 ++ (amul 65536 (2 ^ s) (List.replicate i 0) (xs.take i) 0).1) ++ Value.int .i64 (((amul 65536 (2 ^ s) (List.replicate i 0) (xs.take i) 0).2 : Nat) : Int) :: gv .i64 (List.replicate (lx - i) 0)).toArray
  lt : (amul 65536 (2 ^ s) (List.replicate i 0) (xs.take i) 0).2 < 2 ^ s
  bel : Below w.heap.size w W

theorem ShlS.step {w W : World} {g t s i lx x : Nat} {xs : List Nat} (h : ShlS w g t s i lx xs W) (hg : w.heap.size ≤ g) (hlx : lx = xs.length) (hi : i < lx) (hs : s ≤ 15) (hx : xs.getD i 0 = x) (hxl : x < 65536) :
    ∃ c : Nat, c < 2 ^ s ∧ W.cell? ⟨g, t + i, none⟩ = some (.int .i64 (c : Int)) ∧ W.frozen? ⟨g, t + i, none⟩ = false ∧ ∀ v c', v = c + x * 2 ^ s % 65536 → c' = x * 2 ^ s / 65536 →
      (W.setCell ⟨g, t + i, none⟩ (.int .i64 (v : Int))).cell? ⟨g, t + i + 1, none⟩ = some (.int .i64 0) ∧ (W.setCell ⟨g, t + i, none⟩ (.int .i64 (v : Int))).frozen? ⟨g, t + i + 1, none⟩ = false ∧ ShlS w g t s (i + 1) lx xs ((W.setCell ⟨g, t + i, none⟩ (.int .i64 (v : Int))).setCell ⟨g, t + i + 1, none⟩ (.int .i64 (c' : Int))) := by
  have hl : (List.replicate i 0).length = (xs.take i).length := by simp; omega
  have hc := h.lt
  obtain ⟨s1, s2, s3⟩ := shl16 hs hc hxl
  have hsn := amul_snoc 65536 (2 ^ s) 0 x (zs := List.replicate i 0) (xs := xs.take i) 0 hl
  have hR : (amul 65536 (2 ^ s) (List.replicate i 0) (xs.take i) 0).1.length = i := by rw [amul_length _ _ _ hl, List.length_take]; omega
  have hB := h.blk
  rw [show lx - i = (lx - (i + 1)) + 1 by omega, List.replicate_succ, gv_cons] at hB
  obtain ⟨p1, p2, p3⟩ := hB.partI (i := t + i) (by rw [gv_length, List.length_append, hR]; simp)
  refine ⟨_, hc, p1, p2, fun v c' hv hc' => ?_⟩
  have hB2 := p3 (.int .i64 (v : Int))
  rw [List.append_cons] at hB2
  obtain ⟨q1, q2, q3⟩ := hB2.partI (i := t + i + 1) (by rw [List.length_append, gv_length, List.length_append, hR]; simp)
  refine ⟨q1, q2, ?_, ?_, ?_⟩
  · have e : List.replicate (i + 1) 0 = List.replicate i 0 ++ [0] := List.replicate_succ'
    rw [e, take_snocI (by omega : i < xs.length), hx, hsn, ← s1, ← s2, ← hv, ← hc']
    have := q3 (.int .i64 (c' : Int))
    simpa [gv, List.append_assoc] using this
  · have e : List.replicate (i + 1) 0 = List.replicate i 0 ++ [0] := List.replicate_succ'
    rw [e, take_snocI (by omega : i < xs.length), hx, hsn, ← s2]
    exact s3
  · have fr := ((Fr.refl W (fun k => k = g)).setCell (p := ⟨g, t + i, none⟩) (fun _ => rfl) (.int .i64 (v : Int))).setCell (p := ⟨g, t + i + 1, none⟩) (fun _ => rfl) (.int .i64 (c' : Int))
    exact ((Fr.of_below h.bel (fun k => w.heap.size ≤ k)).step fr (fun k _ hk => by have hk : k = g := hk; omega)).below (Nat.le_refl _) (fun _ h => h)
theorem ShlS.start (w : World) (t s lx : Nat) (xs : List Nat) : ShlS w w.heap.size t s 0 lx xs (w.alloc (.cells (madeCells #[.int .i64 0] (t + lx + 1)) 3)) := by
  refine ⟨?_, Nat.two_pow_pos s, below_al (Below.refl _ _) _⟩
  have em : madeCells #[Value.int .i64 0] (t + lx + 1) = (gv .i64 (List.replicate t 0 ++ (amul 65536 (2 ^ s) (List.replicate 0 0) (xs.take 0) 0).1) ++ Value.int .i64 (((amul 65536 (2 ^ s) (List.replicate 0 0) (xs.take 0) 0).2 : Nat) : Int) :: gv .i64 (List.replicate (lx - 0) 0)).toArray := by
    apply Array.ext'
    rw [toList_madeCells_one]
    have e0 : amul 65536 (2 ^ s) (List.replicate 0 0) (xs.take 0) 0 = ([], 0) := rfl
    rw [e0, List.append_nil, ← gv_cons, ← List.replicate_succ, ← gv_append, List.replicate_append_replicate]
    simp [gv, Nat.add_assoc]
  rw [← em]
  exact Blk.new w _ _
theorem ShlS.end_ {w W : World} {g t s lx n a : Nat} {xs : List Nat} (h : ShlS w g t s lx lx xs W) (hg : w.heap.size ≤ g) (hlx : lx = xs.length) (hs : s ≤ 15) (hn : n = 16 * t + s) (ha : xs = digs 65536 a) (hb : t + lx ≤ 1000000) :
    ∃ L : List Nat, L.length = t + lx + 1 ∧ OwnI W w.heap.size (.slice (some ⟨g, 0, none⟩) (t + lx + 1) (t + lx + 1)) L ∧ trimz L = digs 65536 (a * 2 ^ n) := by
  have hB := h.blk
  have hc := h.lt
  rw [Nat.sub_self, List.replicate_zero, List.take_of_length_le (by omega)] at hB
  rw [List.take_of_length_le (by omega)] at hc
  have hl : (List.replicate lx 0).length = xs.length := by simp [hlx]
  have hR : (amul 65536 (2 ^ s) (List.replicate lx 0) xs 0).1.length = lx := by rw [amul_length _ _ _ hl, hlx]
  have hv := amul_val 65536 (2 ^ s) (zs := List.replicate lx 0) (xs := xs) 0 hl
  have hd := amul_dig (b := 65536) (d := 2 ^ s) (by omega) (zs := List.replicate lx 0) (xs := xs) 0
  have hp : (2 : Nat) ^ s ≤ 2 ^ 15 := Nat.pow_le_pow_right (by omega) hs
  generalize (amul 65536 (2 ^ s) (List.replicate lx 0) xs 0).1 = R at *
  generalize (amul 65536 (2 ^ s) (List.replicate lx 0) xs 0).2 = c at *
  rw [dval_replicate_zero, ← hlx] at hv
  have hlen : (List.replicate t 0 ++ R ++ [c]).length = t + lx + 1 := by simp [hR]; omega
  refine ⟨List.replicate t 0 ++ R ++ [c], hlen, ?_, ?_⟩
  · have hg2 : gv .i64 (List.replicate t 0 ++ R) ++ Value.int .i64 (c : Int) :: gv .i64 [] = gv .i64 (List.replicate t 0 ++ R ++ [c]) := by simp [gv]
    rw [hg2] at hB
    have h1 := OwnG.mk (k := .i64) (xs := List.replicate t 0 ++ R ++ [c]) (cap := t + lx + 1) hg hB (by omega) (by unfold maxLen; omega) (by rw [List.size_toArray, gv_length]; exact hlen) (List.take_of_length_le (by rw [gv_length]; exact Nat.le_refl _))
    rwa [hlen] at h1
  · have hD : Dig 65536 (List.replicate t 0 ++ R ++ [c]) := fun e he => by
      rcases List.mem_append.1 he with h | h
      · rcases List.mem_append.1 h with h | h
        · rw [List.eq_of_mem_replicate h]; omega
        · exact hd e h
      · rw [List.mem_singleton.1 h]; omega
    rw [← digs_dval_trim (by omega) hD]
    congr 1
    rw [List.append_assoc, dval_append, dval_replicate_zero, List.length_replicate, dval_append, hR, dval_cons, dval_nil, Nat.mul_zero, Nat.add_zero, Nat.zero_add, hv, ha, dval_digs (by omega), Nat.zero_add, Nat.add_zero, hn, show (65536 : Nat) = 2 ^ 16 from rfl, ← Nat.pow_mul, Nat.pow_add]
    rw [Nat.mul_left_comm]

set_option maxHeartbeats 1000000 in
set_option maxRecDepth 20000 in
theorem sshl_any (A : Option Addr) (l c a n : Nat) (w : World) (hr : RdG .i64 w (.slice A l c) (digs 65536 a)) (ha : 0 < a) (hl : l ≤ 100000) (hn : n ≤ 1000000) :
    Calls Tryz.prog 77 #[.slice A l c, .int .i64 (n : Int)] w (NewI w (digs 65536 (a * 2 ^ n))) := by
  have hlen := RdG.len hr
  have hl1 : 1 ≤ l := by
    rcases Nat.eq_zero_or_pos l with h | h
    · exact absurd (List.eq_nil_of_length_eq_zero (by omega)) (digs_ne_nil (b := 65536) (by omega) ha)
    · exact h
  obtain ⟨t, ht⟩ : ∃ t, t = n / 16 := ⟨_, rfl⟩
  obtain ⟨s, hs⟩ : ∃ s, s = n % 16 := ⟨_, rfl⟩
  have e1 : (n : Int) / 16 = (t : Int) := by omega
  have e2 : (n : Int) % 16 = (s : Int) := by omega
  have hs15 : s ≤ 15 := by omega
  have ht2 : t ≤ 62500 := by omega
  have hnt : n = 16 * t + s := by omega
  have hmk : ∀ W : World, (Instr.makeSlice 27 (.int .i64 ((t : Int) + (l : Int) + 1)) (.int .i64 ((t : Int) + (l : Int) + 1))).run Tryz.prog W = .ok (.slice (some ⟨W.heap.size, 0, none⟩) (t + l + 1) (t + l + 1)) (W.alloc (.cells (madeCells #[.int .i64 0] (t + l + 1)) 3)) := fun W => mk_nat (t + l + 1) (by omega) W
  have hd := dig_digs (b := 65536) (by omega) a
  obtain ⟨xs, hxs⟩ : ∃ xs, xs = digs 65536 a := ⟨_, rfl⟩
  rw [← hxs] at hlen hd hr
  have HS := hide (ShlS.start w t s l xs)
  have HX := hide hr.at_
  have HN := hide (And.intro hlen (And.intro hd (And.intro hnt hxs)))
  have b0 : ((l : Int) == 0) = false := beq_eq_false_iff_ne.2 (by omega)
  clear hr hlen hd hnt hxs ht hs hn ha
  obtain ⟨ni, hni⟩ : ∃ ni : Int, ni = (n : Int) := ⟨_, rfl⟩
  rw [← hni] at e1 e2 ⊢
  clear hni
  go_enter Tryz.func77, Tryz.ntmps77
  go_wp2
  go_loopw [21] (fun vi wr => ∃ i : Nat, i ≤ l ∧ vi = .int .i64 (i : Int) ∧ Hid (ShlS w w.heap.size t s i l xs wr)) (fun vi _ => l - (intOf vi).toNat)
  case atStart => exact ⟨0, Nat.zero_le _, by go_num, HS⟩
  case round =>
    obtain ⟨i, hi, rfl, HR⟩ := hrel
    by_cases hlt : i < l
    · obtain ⟨gx, ox, rfl, hgx, hcell⟩ := HX.out i (by have := HN.out.1; omega)
      have hcx : wr.cell? ⟨gx, ox + i, none⟩ = some (.int .i64 (xs.getD i 0 : Nat)) := (HR.out.bel.cell hgx).trans hcell
      have hxl : xs.getD i 0 < 65536 := HN.out.2.1 _ (by rw [getD_at (by have := HN.out.1; omega)]; exact List.getElem_mem _)
      obtain ⟨c0, hc0, k1, k2, hst⟩ := HR.out.step (x := xs.getD i 0) (Nat.le_refl _) HN.out.1 hlt hs15 rfl hxl
      have HT := hide hst
      clear hst HS hcell
      generalize xs.getD i 0 = x at *
      obtain ⟨p, hp⟩ : ∃ p, p = x * 2 ^ s := ⟨_, rfl⟩
      have h2 : (2 : Nat) ^ s ≤ 2 ^ 15 := Nat.pow_le_pow_right (by omega) hs15
      have hpl : p ≤ 65536 * 32768 := by rw [hp]; exact Nat.mul_le_mul (by omega) h2
      have hxp : (x : Int) * 2 ^ s = (p : Int) := by rw [hp, Int.natCast_mul, Int.natCast_pow]; rfl
      rw [← hp] at HT
      obtain ⟨q1, q2, HN2⟩ := HT.out (c0 + p % 65536) (p / 65536) rfl rfl
      have HN3 := hide HN2
      have hcb : c0 < 65536 := by omega
      have ev : ((c0 + p % 65536 : Nat) : Int) = (c0 : Int) + (p : Int) % 65536 := by omega
      have ec : ((p / 65536 : Nat) : Int) = (p : Int) / 65536 := by omega
      rw [ev] at q1 q2 HN3
      rw [ec] at HN3
      clear HT HN2 hp h2 ev ec HR hc0
      go_wp2
      go_roundw
      case rel => exact ⟨i + 1, by omega, by go_num, HN3⟩
      case measure => simp [intOf]; omega
    · obtain rfl : i = l := by omega
      obtain ⟨L, hL, hO, hT⟩ := HR.out.end_ (n := n) (a := a) (Nat.le_refl _) HN.out.1 hs15 HN.out.2.2.1 HN.out.2.2.2 (by omega)
      have con := trim_any (some ⟨w.heap.size, 0, none⟩) (t + i + 1) L wr (by rw [hL]; exact hO.rd)
      rw [hL] at con
      have Con := hide con
      have HF : Hid (NewI w (digs 65536 (a * 2 ^ n)) (.returned (.slice (some ⟨w.heap.size, 0, none⟩) (trimz L).length (t + i + 1))) wr) := by
        rw [← hT]
        refine ⟨_, _, rfl, ?_, HR.out.bel⟩
        have h := hO.take (trimz L).length (by have := trimz_length_le L; omega)
        rw [take_trimz] at h
        exact h
      clear con hL hO hT HR HX HN HS
      generalize (trimz L).length = lt at *
      go_wp2_with fail
      refine (Con.out).mono ?_
      rintro e w1 ⟨rfl, rfl⟩
      clear Con
      go_wp2
      go_ret
      exact HF.out
end Go.Proofs.YtfkcobdkgjhfaaaGreatDoor

/- Walk: the reference's DivMod. -/
set_option linter.unusedVariables false
set_option linter.unusedSimpArgs false
namespace Go.Proofs.YtfkcobdkgjhfaaaGreatDoor
open Go.RowKit

theorem blen_len {m l : Nat} (h : l = (digs 65536 m).length) : blen m ≤ 16 * l := by
  refine blen_le ?_
  rw [Nat.pow_mul]
  exact lt_of_digs_length (b := 65536) (by omega) (by omega)
theorem shl_len {b j la lb : Nat} (h : lb = (digs 65536 b).length) (hj : j ≤ 16 * la + 16) : (digs 65536 (b * 2 ^ j)).length ≤ lb + (la + 1) := by
  have h1 := lt_of_digs_length (b := 65536) (k := lb) (by omega) (show (digs 65536 b).length ≤ lb by omega)
  have h2 : 2 ^ j ≤ 2 ^ (16 * (la + 1)) := Nat.pow_le_pow_right (by omega) (by omega)
  rw [Nat.pow_mul] at h2
  refine digs_length_le (by omega) ?_
  rw [Nat.pow_add]
  exact Nat.lt_of_lt_of_le (Nat.mul_lt_mul_of_pos_right h1 (Nat.two_pow_pos _)) (Nat.mul_le_mul_left _ h2)

/-- Behind DivMod. -/
def DmP (w : World) (a b : Nat) (e : Ending) (w' : World) : Prop :=
  ∃ (Q R : Option Addr) (lq lr cq cr : Nat), e = .returned (.tuple #[.slice Q lq cq, .slice R lr cr]) ∧ OwnI w' w.heap.size (.slice Q lq cq) (digs 65536 (a / b)) ∧ RdG .i64 w' (.slice R lr cr) (digs 65536 (a % b)) ∧ Below w.heap.size w w'

set_option maxHeartbeats 1000000 in
theorem sdm_one (A B : Option Addr) (la ca cb a b : Nat) (w : World) (ha : RdG .i64 w (.slice A la ca) (digs 65536 a)) (hb : RdG .i64 w (.slice B 1 cb) (digs 65536 b)) (hla : la ≤ 100) :
    Calls Tryz.prog 43 #[.slice A la ca, .slice B 1 cb] w (DmP w a b) := by
  have hlen := RdG.len ha
  have hlb := RdG.len hb
  have hb0 : 0 < b := by
    rcases Nat.eq_zero_or_pos b with h | h
    · subst h; rw [digs_zero] at hlb; simp at hlb
    · exact h
  have hbl : b < 65536 := by
    have := lt_of_digs_length (b := 65536) (k := 1) (by omega) (show (digs 65536 b).length ≤ 1 by omega)
    omega
  obtain ⟨gb, ob, rfl, -, hc⟩ := RdG.at_ (k := .i64) hb 0 (by omega)
  have hd : digs 65536 b = [b] := by rw [digs_pos (by omega) hb0, Nat.div_eq_of_lt hbl, digs_zero, Nat.mod_eq_of_lt hbl]
  rw [hd] at hc
  have hc' : w.cell? ⟨gb, ob, none⟩ = some (.int .i64 (b : Int)) := hc
  have con1 := byDigit_any A la ca b (digs 65536 a) w ha hlen (by omega) hb0 hbl (dig_digs (by omega) _)
  unfold ByP at con1
  rw [dval_digs (by omega)] at con1
  have Con1 := hide con1
  obtain ⟨r, hr⟩ : ∃ r, r = a % b := ⟨_, rfl⟩
  have hrl : r < 65536 := by rw [hr]; have := Nat.mod_lt a hb0; omega
  have Con2 : Hid (∀ W, Calls Tryz.prog 75 #[.int .i64 (r : Int)] W (NewI W (digs 65536 r))) := fun W => small_any r W (by omega)
  unfold DmP
  rw [← hr] at Con1 ⊢
  clear ha hb hlen hlb hd con1 hc hr hb0 hbl
  generalize digs 65536 (a / b) = dq at *
  go_enter Tryz.func43, Tryz.ntmps43
  go_wp2_with fail
  refine (Con1.out).mono ?_
  rintro e w1 ⟨Q, cq, rfl, ho1, hb1⟩
  have H1 := hide (And.intro ho1 hb1)
  clear Con1 ho1 hb1
  generalize hlq : dq.length = lq at *
  have HLQ := hide hlq
  clear hlq
  go_wp2_with fail
  refine (Con2.out w1).mono ?_
  rintro e w2 ⟨R, cr, rfl, ho2, hb2⟩
  have hrd1 : OwnI w2 w.heap.size (.slice Q lq cq) dq := H1.out.1.below hb2
  have HF : Hid (∃ (Q' R' : Option Addr) (lq' lr' cq' cr' : Nat), Ending.returned (.tuple #[.slice Q lq cq, .slice R (digs 65536 r).length cr]) = .returned (.tuple #[.slice Q' lq' cq', .slice R' lr' cr']) ∧ OwnI w2 w.heap.size (.slice Q' lq' cq') dq ∧ RdG .i64 w2 (.slice R' lr' cr') (digs 65536 r) ∧ Below w.heap.size w w2) :=
    ⟨Q, R, _, _, cq, cr, rfl, hrd1, ho2.rd, below_next H1.out.2 hb2⟩
  clear ho2 hb2 hrd1 H1 HLQ Con2
  generalize (digs 65536 r).length = lr at *
  go_wp2
  go_ret2
  exact HF.out

/-- What the rounds hold. -/
structure DmL (w : World) (a b k q r : Nat) (Q R : Option Addr) (lq lr cq cr : Nat) (W : World) : Prop where
  num : DmS a b k q r
  rq : OwnI W w.heap.size (.slice Q lq cq) (digs 65536 q)
  rr : RdG .i64 W (.slice R lr cr) (digs 65536 r)
  bel : Below w.heap.size w W

set_option maxHeartbeats 2000000 in
set_option maxRecDepth 20000 in
theorem sdm_many (A B : Option Addr) (la lb ca cb a b : Nat) (w : World) (ha : RdG .i64 w (.slice A la ca) (digs 65536 a)) (hb : RdG .i64 w (.slice B lb cb) (digs 65536 b)) (hla : la ≤ 100) (hlb2 : 2 ≤ lb) (hlb : lb ≤ 100) :
    Calls Tryz.prog 43 #[.slice A la ca, .slice B lb cb] w (DmP w a b) := by
  have hlen := RdG.len ha
  have hlenb := RdG.len hb
  have hb0 : 0 < b := by
    rcases Nat.eq_zero_or_pos b with h | h
    · subst h; rw [digs_zero] at hlenb; simp at hlenb; omega
    · exact h
  have hba := blen_len hlen
  have hbb := blen_len hlenb
  obtain ⟨W1, hW1⟩ : ∃ W, W = w.alloc (.cells #[] 3) := ⟨_, rfl⟩
  have hbel : Below w.heap.size w W1 := by rw [hW1]; exact below_al (Below.refl _ _) _
  have ConA := hide (slen_any A la ca a W1 (ha.below hbel) (by omega))
  have ConB := hide (slen_any B lb cb b W1 (hb.below hbel) (by omega))
  have hst : DmL w a b (blen a + 1 - blen b) 0 a (some ⟨w.heap.size, 0, none⟩) A 0 la 0 ca W1 := by
    refine ⟨DmS.start hb0, ?_, ha.below hbel, hbel⟩
    rw [digs_zero]
    have h : OwnI W1 w.heap.size (.slice (some ⟨w.heap.size, 0, none⟩) 0 0) [] := by rw [hW1]; exact OwnG.mk (xs := []) (cur := #[]) (Nat.le_refl _) (Blk.new w _ _) (Nat.le_refl _) (Nat.zero_le _) rfl rfl
    exact h
  have hbl2 : ((lb : Int) == 1) = false := beq_eq_false_iff_ne.2 (by omega)
  have HS := hide hst
  have HB := hide (And.intro hb (And.intro hlenb (And.intro hlen hb0)))
  obtain ⟨xa, hxa⟩ : ∃ x, x = blen a := ⟨_, rfl⟩
  obtain ⟨xb, hxb⟩ : ∃ x, x = blen b := ⟨_, rfl⟩
  rw [← hxa] at ConA HS hba
  rw [← hxb] at ConB HS hbb
  have j1 : xa ≤ 1600 := by omega
  have j2 : xb ≤ 1600 := by omega
  have HJ : Hid (xa ≤ 16 * la) := hba
  clear ha hb hlen hlenb hb0 hbel hst hxa hxb hba hbb hlb2
  go_enter Tryz.func43, Tryz.ntmps43
  go_wp2_with fail
  rw [← hW1]
  clear hW1
  refine (ConA.out).mono ?_
  rintro e w1 ⟨rfl, rfl⟩
  clear ConA
  go_wp2_with fail
  refine (ConB.out).mono ?_
  rintro e w1 ⟨rfl, rfl⟩
  clear ConB
  go_wp2
  go_loopw [0, 8, 9] (fun va vq vi wr => ∃ (k q r lq lr cq cr : Nat) (Q R : Option Addr) (i : Int), va = .slice R lr cr ∧ vq = .slice Q lq cq ∧ vi = .int .i64 i ∧ ((k : Int) = i + 1 ∨ (k = 0 ∧ i < 0)) ∧ -2000 ≤ i ∧ k ≤ xa + 1 ∧ Hid (DmL w a b k q r Q R lq lr cq cr wr)) (fun _ _ vi _ => (intOf vi + 1).toNat)
  case atStart => exact ⟨xa + 1 - xb, 0, a, 0, la, 0, ca, _, A, (xa : Int) - (xb : Int), rfl, rfl, by go_num, by omega, by omega, by omega, HS⟩
  case round =>
    obtain ⟨k, q, r, lq, lr, cq, cr, Q, R, i, rfl, rfl, rfl, hki, hi0, hk, HR⟩ := hrel
    by_cases hp : 0 ≤ i
    · obtain ⟨j, hj⟩ : ∃ j : Nat, i = (j : Int) := ⟨i.toNat, by omega⟩
      subst hj
      have hkj : k = j + 1 := by omega
      subst hkj
      have hj16 : j ≤ 16 * la + 16 := by have := HJ.out; omega
      have hsl := shl_len (b := b) (j := j) (la := la) HB.out.2.1 hj16
      have hrl := RdG.len HR.out.rr
      have hql := RdG.len (OwnG.rd HR.out.rq)
      have hle := HR.out.num.le HB.out.2.2.2
      have hrm : (digs 65536 r).length ≤ la := by rw [HB.out.2.2.1]; exact digs_len_mono (by omega) hle.2
      have hqm : (digs 65536 q).length ≤ la := by rw [HB.out.2.2.1]; exact digs_len_mono (by omega) hle.1
      have Con1 := hide (sshl_any B lb cb b j wr (HB.out.1.below HR.out.bel) HB.out.2.2.2 (by omega) (by omega))
      have hp2 : (digs 65536 (2 ^ j)).length ≤ 200 := by rw [digs_pow2]; simp; omega
      have HZ := hide (And.intro hrl (And.intro hql (And.intro hrm (And.intro hqm (And.intro hsl hp2)))))
      clear hrl hql hrm hqm hsl hp2 hle HS hj16
      go_wp2_with fail
      refine (Con1.out).mono ?_
      rintro e w1 ⟨D, cd, rfl, hoD, hbD⟩
      have con2 := cmp_any D R cd cr (b * 2 ^ j) r w1 hoD.rd (by have h := HR.out.rr.below hbD; rwa [HZ.out.1] at h) (by have := HZ.out.2.2.2.2.1; omega) (by have := HZ.out.2.2.1; omega)
      unfold CmpP at con2
      rw [← HZ.out.1] at con2
      obtain ⟨ci, hci⟩ : ∃ i, i = cmpI (b * 2 ^ j) r := ⟨_, rfl⟩
      rw [← hci] at con2
      have Con2 := hide con2
      have HO := hide (And.intro hoD hbD)
      have HC := hide hci
      clear con2 hoD hbD hci Con1
      obtain ⟨ld, hld⟩ : ∃ l, l = (digs 65536 (b * 2 ^ j)).length := ⟨_, rfl⟩
      rw [← hld] at Con2 HO ⊢
      have HLD := hide hld
      clear hld
      go_wp2_with fail
      refine (Con2.out).mono ?_
      rintro e w2 ⟨rfl, hb2⟩
      have hbw := below_next HR.out.bel (below_next HO.out.2 hb2)
      have hrR := (HR.out.rr.below HO.out.2).below hb2
      have hrQ := (HR.out.rq.below HO.out.2).below hb2
      have hrD := (OwnG.rd HO.out.1).below hb2
      by_cases hcle : ci ≤ 0
      · have hle : b * 2 ^ j ≤ r := by
          have h := HC.out
          unfold cmpI at h
          rcases Nat.lt_or_ge r (b * 2 ^ j) with h1 | h1
          · rw [if_neg (by omega), if_pos h1] at h; omega
          · exact h1
        have con3 := ssub_any R D lr ld cr cd r (b * 2 ^ j) w2 hrR hrD HZ.out.1 HLD.out (by have := HZ.out.1; have := HZ.out.2.2.1; omega) (by have := HLD.out; have := HZ.out.2.2.2.2.1; omega) hle
        have Con3 := hide con3
        have Con4 := hide (fun W => sbit_any j W (by omega))
        have H2 := hide (And.intro hbw (And.intro hrQ hle))
        clear con3 hbw hrR hrQ hrD hb2 hle Con2 HC HO
        go_wp2_with fail
        refine (Con3.out).mono ?_
        rintro e w3 ⟨R3, c3, rfl, ho3, hb3⟩
        have H3 := hide (And.intro ho3 hb3)
        clear ho3 hb3 Con3
        obtain ⟨l3, hl3⟩ : ∃ l, l = (digs 65536 (r - b * 2 ^ j)).length := ⟨_, rfl⟩
        rw [← hl3] at H3 ⊢
        clear hl3
        go_wp2_with fail
        refine (Con4.out w3).mono ?_
        rintro e w4 ⟨R4, c4, rfl, ho4, hb4⟩
        have con5 := sadd_any Q R4 lq _ cq c4 (digs 65536 q) (digs 65536 (2 ^ j)) w4 (OwnG.rd ((H2.out.2.1.below H3.out.2).below hb4)) ho4.rd HZ.out.2.1 rfl (by have := HZ.out.2.1; have := HZ.out.2.2.2.1; omega) (by have := HZ.out.2.2.2.2.2; omega) (dig_digs (by omega) _) (dig_digs (by omega) _)
        rw [dval_digs (by omega), dval_digs (by omega)] at con5
        have Con5 := hide con5
        have H4 := hide hb4
        clear con5 ho4 hb4 Con4
        generalize (digs 65536 (2 ^ j)).length = l4 at Con5 ⊢
        go_wp2_with fail
        refine (Con5.out).mono ?_
        rintro e w5 ⟨R5, c5, rfl, ho5, hb5⟩
        have HN : Hid (DmL w a b j (q + 2 ^ j) (r - b * 2 ^ j) R5 R3 (digs 65536 (q + 2 ^ j)).length l3 c5 c3 w5) :=
          ⟨HR.out.num.yes H2.out.2.2, ho5.lower (below_next (below_next H2.out.1 H3.out.2) H4.out).size, ((OwnG.rd H3.out.1).below H4.out).below hb5, below_next (below_next (below_next H2.out.1 H3.out.2) H4.out) hb5⟩
        clear ho5 hb5 Con5 H2 H3 H4 HR HZ HB
        generalize (digs 65536 (q + 2 ^ j)).length = l5 at *
        go_wp2
        go_roundw
        case rel => exact ⟨j, _, _, l5, l3, c5, c3, R5, R3, (j : Int) - 1, rfl, rfl, by go_num, by omega, by omega, by omega, HN⟩
        case measure => simp [intOf]
      · have hlt : r < b * 2 ^ j := by
          have h := HC.out
          unfold cmpI at h
          rcases Nat.lt_or_ge r (b * 2 ^ j) with h1 | h1
          · exact h1
          · exfalso
            rcases Nat.eq_or_lt_of_le h1 with h2 | h2
            · rw [if_neg (by omega), if_neg (by omega)] at h; omega
            · rw [if_pos h2] at h; omega
        have HN : Hid (DmL w a b j q r Q R lq lr cq cr w2) := ⟨HR.out.num.no hlt, hrQ, hrR, hbw⟩
        clear hbw hrR hrQ hrD hb2 hlt Con2 HC HO HR HZ HB
        go_wp2
        go_roundw
        case rel => exact ⟨j, _, _, lq, lr, cq, cr, Q, R, (j : Int) - 1, rfl, rfl, by go_num, by omega, by omega, by omega, HN⟩
        case measure => simp [intOf]
    · have hk0 : k = 0 := by omega
      subst hk0
      obtain ⟨e1, e2⟩ := HR.out.num.end_
      subst e1 e2
      have HF : Hid (DmP w a b (.returned (.tuple #[.slice Q lq cq, .slice R lr cr])) wr) := ⟨Q, R, lq, lr, cq, cr, rfl, HR.out.rq, HR.out.rr, HR.out.bel⟩
      clear HR HS HB
      go_wp2
      go_ret2
      exact HF.out

theorem sdivmod_any (A B : Option Addr) (la lb ca cb a b : Nat) (w : World) (ha : RdG .i64 w (.slice A la ca) (digs 65536 a)) (hb : RdG .i64 w (.slice B lb cb) (digs 65536 b)) (hla : la ≤ 100) (hb0 : 0 < b) (hlb : lb ≤ 100) :
    Calls Tryz.prog 43 #[.slice A la ca, .slice B lb cb] w (DmP w a b) := by
  have hlenb := RdG.len hb
  have h1 : 1 ≤ lb := by rw [hlenb]; exact List.length_pos_iff.2 (digs_ne_nil (by omega) hb0)
  rcases Nat.eq_or_lt_of_le h1 with h | h
  · subst h; exact sdm_one A B la ca cb a b w ha hb hla
  · exact sdm_many A B la lb ca cb a b w ha hb hla h hlb
end Go.Proofs.YtfkcobdkgjhfaaaGreatDoor

/- Walks: the reference's Cut (towards 0) and Whole. -/
set_option linter.unusedVariables false
set_option linter.unusedSimpArgs false
namespace Go.Proofs.YtfkcobdkgjhfaaaGreatDoor
open Go.RowKit

theorem pow10_len {k : Nat} (hk : k ≤ 100) : (digs 65536 (10 ^ k)).length ≤ 21 :=
  digs_length_le (by omega) (Nat.lt_of_le_of_lt (Nat.pow_le_pow_right (by omega) hk) (by decide))

theorem away0_any (neg : Bool) (half last : Int) (w : World) :
    Calls Tryz.prog 114 #[.bool neg, .int .i64 last, .int .i64 half, .int .i64 0] w fun e w' => e = .returned (.bool false) ∧ w = w' := by
  go_enter Tryz.func114, Tryz.ntmps114
  go_wp2
  go_ret
  exact ⟨rfl, rfl⟩
theorem cut_result (n : Nat) (b : Bool) (tmps : Array Value) (h : tmps.getD 6 undef = .pointer (some ⟨n, 0, none⟩)) (h7 : tmps.getD 7 undef = .bool b) (W : World) (x y z : Value) (c0 : W.cell? ⟨n, 0, none⟩ = some x) (c1 : W.cell? ⟨n, 1, none⟩ = some y) (c2 : W.cell? ⟨n, 2, none⟩ = some z) :
    (results Tryz.f85 tmps).run Tryz.prog W = .ok (.tuple #[.agg #[x, y, z], .bool b]) W := by
  have h2 : tmps[6]?.getD undef = .pointer (some ⟨n, 0, none⟩) := by simpa using h
  have h3 : tmps[7]?.getD undef = .bool b := by simpa using h7
  simp [results, Tryz.results85, go_sem, h2, h3, c0, c1, c2]
/-- Behind Cut. -/
def CutP (w : World) (n : Bool) (a k : Nat) (x : Int) (e : Ending) (w' : World) : Prop :=
  ∃ (Q : Option Addr) (lq cq : Nat), e = .returned (.tuple #[.agg #[.bool n, .slice Q lq cq, .int .i64 x], .bool (decide (a % 10 ^ k ≠ 0))]) ∧ OwnI w' w.heap.size (.slice Q lq cq) (digs 65536 (a / 10 ^ k)) ∧ Below w.heap.size w w'

/-- What Cut holds. -/
structure CutL (w : World) (g1 g2 : Nat) (n : Bool) (B : Option Addr) (l c a k : Nat) (x : Int) (v0 v1 v2 : Value) (W : World) : Prop where
  bel : Below w.heap.size w W
  b1 : Blk W g1 29 #[.bool n, .slice B l c, .int .i64 x]
  b2 : Blk W g2 29 #[v0, v1, v2]
  r1 : RdG .i64 W (.slice B l c) (digs 65536 a)
theorem CutL.below {w : World} {g1 g2 : Nat} {n : Bool} {B : Option Addr} {l c a k : Nat} {x : Int} {v0 v1 v2 : Value} {W W' : World} (h : CutL w g1 g2 n B l c a k x v0 v1 v2 W) (hb : Below W.heap.size W W') : CutL w g1 g2 n B l c a k x v0 v1 v2 W' :=
  ⟨below_next h.bel hb, h.b1.below hb, h.b2.below hb, h.r1.below hb⟩
theorem CutL.fin {w : World} {g1 g2 : Nat} {n : Bool} {B : Option Addr} {l c a k : Nat} {x : Int} {v0 v1 v2 : Value} {W Wq : World} (h : CutL w g1 g2 n B l c a k x v0 v1 v2 W) (h2 : w.heap.size ≤ g2) (y : Int) (ix : Bool) (hix : ix = decide (a % 10 ^ k ≠ 0)) (Q : Option Addr) (lq cq : Nat) (hg2 : g2 < Wq.heap.size) (hwq : w.heap.size ≤ Wq.heap.size) (ho : OwnI W Wq.heap.size (.slice Q lq cq) (digs 65536 (a / 10 ^ k))) :
    CutP w n a k y (.returned (.tuple #[.agg #[.bool n, .slice Q lq cq, .int .i64 y], .bool ix])) (((W.setCell ⟨g2, 0, none⟩ (.bool n)).setCell ⟨g2, 1, none⟩ (.slice Q lq cq)).setCell ⟨g2, 2, none⟩ (.int .i64 y)) ∧
      Blk (((W.setCell ⟨g2, 0, none⟩ (.bool n)).setCell ⟨g2, 1, none⟩ (.slice Q lq cq)).setCell ⟨g2, 2, none⟩ (.int .i64 y)) g2 29 #[.bool n, .slice Q lq cq, .int .i64 y] := by
  have fr := (((Fr.refl W (fun k => k = g2)).setCell (p := ⟨g2, 0, none⟩) (fun _ => rfl) (.bool n)).setCell (p := ⟨g2, 1, none⟩) (fun _ => rfl) (.slice Q lq cq)).setCell (p := ⟨g2, 2, none⟩) (fun _ => rfl) (.int .i64 y)
  refine ⟨⟨Q, lq, cq, by rw [hix], (ho.fr fr (fun j hj e => ?_)).lower hwq, (Fr.step (Fr.of_below h.bel (fun k => w.heap.size ≤ k)) fr (fun i _ hi => by have hi : i = g2 := hi; omega)).below (Nat.le_refl _) (fun _ h => h)⟩, ((h.b2.set 0 _).set 1 _).set 2 _⟩
  have h5 := (ho.lt hj).1
  have e : j = g2 := e
  omega

set_option maxHeartbeats 2000000 in
set_option maxRecDepth 20000 in
theorem scut_any (n : Bool) (B : Option Addr) (l c a k : Nat) (x y : Int) (w : World) (hr : RdG .i64 w (.slice B l c) (digs 65536 a)) (hl : l ≤ 100) (hk : k ≤ 100) (hx : -1000 ≤ x ∧ x ≤ 1000) (hy : x + (k : Int) = y) :
    Calls Tryz.prog 85 #[.agg #[.bool n, .slice B l c, .int .i64 x], .int .i64 (k : Int), .int .i64 0] w (CutP w n a k y) := by
  have hlen := RdG.len hr
  obtain ⟨g1, hg1⟩ : ∃ g, g = w.heap.size := ⟨_, rfl⟩
  obtain ⟨g2, hg2⟩ : ∃ g, g = w.heap.size + 1 := ⟨_, rfl⟩
  obtain ⟨W0, hW0⟩ : ∃ W, W = (w.alloc (.cells #[.bool n, .slice B l c, .int .i64 x] 29)).alloc (.cells #[.bool false, .slice none 0 0, .int .i64 0] 29) := ⟨_, rfl⟩
  have hb : Below w.heap.size w W0 := by rw [hW0]; exact below_al (below_al (Below.refl _ _) _) _
  have hL : CutL w g1 g2 n B l c a k x (.bool false) (.slice none 0 0) (.int .i64 0) W0 := by
    refine ⟨hb, ?_, ?_, hr.below hb⟩
    · rw [hW0, hg1]; exact (Blk.new w _ _).alloc _
    · rw [hW0, hg2]
      have := Blk.new (w.alloc (.cells #[.bool n, .slice B l c, .int .i64 x] 29)) 29 #[.bool false, .slice none 0 0, .int .i64 0]
      simpa using this
  have HL := hide hL
  have hp10 := pow10_len hk
  have hpos : 0 < 10 ^ k := Nat.pow_pos (by omega)
  have con1 := spower_any 10 k W0 (by omega) (by omega) (by omega) (by omega)
  obtain ⟨pw, hpw⟩ : ∃ p, p = 10 ^ k := ⟨_, rfl⟩
  rw [← hpw] at con1 hp10 hpos
  have Con1 := hide con1
  have HZ := hide (And.intro hlen (And.intro hp10 (And.intro hpos (And.intro hpw (show w.heap.size ≤ g2 by omega)))))
  have b1 : -1000000 ≤ y ∧ y ≤ 1000000 := by omega
  have k1 : IntKind.i64.wrap (x + (k : Int)) = y := by rw [IntKind.wrap_i64]; omega
  have k2 : wrap64 (x + (k : Int)) = y := by unfold wrap64; omega
  clear hr hlen hb hL hp10 hpos hpw con1 hx b1 hk
  obtain ⟨kI, hkI⟩ : ∃ z : Int, z = (k : Int) := ⟨_, rfl⟩
  rw [← hkI] at Con1 k1 k2 hy ⊢
  clear hkI hy
  go_enter Tryz.func85, Tryz.ntmps85
  go_wp2_with fail
  rw [← hW0, ← hg2, ← hg1]
  clear hW0 hg1 hg2
  refine (Con1.out).mono ?_
  rintro e1 w1 ⟨Pw, cp, rfl, hop, hb1⟩
  have HL1 := hide (HL.out.below hb1)
  have con2 := sdivmod_any B Pw l _ c cp a pw w1 HL1.out.r1 hop.rd (by omega) HZ.out.2.2.1 (by have := HZ.out.2.1; omega)
  unfold DmP at con2
  have Con2 := hide con2
  have H1 := hide hop.rd
  have c1 := HL1.out.b1.cell 1
  clear con2 hop hb1 HL Con1
  obtain ⟨lp, hlp⟩ : ∃ l, l = (digs 65536 pw).length := ⟨_, rfl⟩
  rw [← hlp] at Con2 H1 ⊢
  have HLP := hide hlp
  clear hlp
  have c1' : w1.cell? ⟨g1, 1, none⟩ = some (.slice B l c) := c1
  clear c1
  go_wp2_with fail
  refine (Con2.out).mono ?_
  rintro e2 w2 ⟨Q, R, lq, lr, cq, cr, rfl, hoq, hrr, hb2⟩
  have HL2 := hide (HL1.out.below hb2)
  have H2 := hide (And.intro hoq (And.intro hrr (H1.out.below hb2)))
  have hlr := RdG.len hrr
  have hg2l : g2 < w1.heap.size := HL1.out.b2.lt
  have HG := hide (And.intro hg2l HL1.out.bel.size)
  clear hoq hrr hb2 Con2 c1' HL1 H1 hg2l
  rcases Nat.eq_zero_or_pos lr with h0 | h0
  · have hix : false = decide (a % 10 ^ k ≠ 0) := by
      rw [h0] at hlr
      rcases Nat.eq_zero_or_pos (a % pw) with h | h
      · rw [← HZ.out.2.2.2.1, h]; rfl
      · exact absurd (List.eq_nil_of_length_eq_zero hlr.symm) (digs_ne_nil (by omega) h)
    have hq10 : OwnI w2 w1.heap.size (.slice Q lq cq) (digs 65536 (a / 10 ^ k)) := by rw [← HZ.out.2.2.2.1]; exact H2.out.1
    obtain ⟨hfin, hBf⟩ := HL2.out.fin HZ.out.2.2.2.2 y false hix Q lq cq HG.out.1 HG.out.2 hq10
    have HF := hide (And.intro hfin hBf.val3)
    have y0 := HL2.out.b1.val3
    have d0 := HL2.out.b2.val3
    have f0 := HL2.out.b2.frozen 0
    have f1 := HL2.out.b2.frozen 1
    have f2 := HL2.out.b2.frozen 2
    have d1 : ((lr : Int) == 0) = true := by rw [h0]; rfl
    clear hix hq10 hfin hBf H2 HL2 HZ HG hlr h0 HLP
    go_wp2
    exact bodyPost_ret (cut_result g2 false _ rfl rfl _ (.bool n) (.slice Q lq cq) (.int .i64 y) HF.out.2.1 HF.out.2.2.1 HF.out.2.2.2) rfl HF.out.1
  · have hne : a % 10 ^ k ≠ 0 := fun h => by
      rw [← HZ.out.2.2.2.1] at h
      rw [h, digs_zero] at hlr
      simp at hlr
      omega
    have hix : true = decide (a % 10 ^ k ≠ 0) := by simp [hne]
    have hlq := RdG.len (OwnG.rd H2.out.1)
    have hqa : (digs 65536 (a / pw)).length ≤ l := by rw [HZ.out.1]; exact digs_len_mono (by omega) (Nat.div_le_self _ _)
    have hra : (digs 65536 (a % pw)).length ≤ l := by rw [HZ.out.1]; exact digs_len_mono (by omega) (Nat.mod_le _ _)
    have con3 := byDigit_any Q lq cq 10 (digs 65536 (a / pw)) w2 (OwnG.rd H2.out.1) hlq (by omega) (by omega) (by omega) (dig_digs (by omega) _)
    unfold ByP at con3
    rw [dval_digs (by omega)] at con3
    obtain ⟨la, hla⟩ : ∃ z, z = a / pw % 10 := ⟨_, rfl⟩
    have hla10 : la < 10 := by rw [hla]; exact Nat.mod_lt _ (by omega)
    rw [← hla] at con3
    have Con3 := hide con3
    have d1 : ((lr : Int) == 0) = false := beq_eq_false_iff_ne.2 (by omega)
    have HR := hide (And.intro hix (And.intro hlr (And.intro hra hqa)))
    clear hix hne hlq hqa hra con3 hla hlr h0
    generalize digs 65536 (a / pw / 10) = dq at Con3
    generalize hldq : dq.length = ldq at Con3
    go_wp2_with fail
    refine (Con3.out).mono ?_
    rintro e3 w3 ⟨Q3, c3, rfl, -, hb3⟩
    have HL3 := hide (HL2.out.below hb3)
    have H3 := hide (And.intro (H2.out.1.below hb3) (And.intro (H2.out.2.1.below hb3) (H2.out.2.2.below hb3)))
    clear hb3 Con3 HL2 H2 d1 hldq
    have Con4 : Hid (∀ W, Below w3.heap.size w3 W → Calls Tryz.prog 34 #[.slice R lr cr, .slice R lr cr] W (fun e W' => ∃ S cs, e = .returned (.slice S (digs 65536 (a % pw + a % pw)).length cs) ∧ RdG .i64 W' (.slice S (digs 65536 (a % pw + a % pw)).length cs) (digs 65536 (a % pw + a % pw)) ∧ Below W.heap.size W W')) := fun W hW => by
      have h := sadd_any R R lr lr cr cr (digs 65536 (a % pw)) (digs 65536 (a % pw)) W (H3.out.2.1.below hW) (H3.out.2.1.below hW) HR.out.2.1 HR.out.2.1 (by have := HR.out.2; omega) (by have := HR.out.2; omega) (dig_digs (by omega) _) (dig_digs (by omega) _)
      rw [dval_digs (by omega)] at h
      exact h.mono (fun e W' ⟨S, cs, h1, h2, h3⟩ => ⟨S, cs, h1, OwnG.rd h2, h3⟩)
    have hsum : (digs 65536 (a % pw + a % pw)).length ≤ 200 := by
      have h1 := lt_of_digs_length (b := 65536) (k := l) (by omega) HR.out.2.2.1
      have h2 : a % pw + a % pw < 65536 ^ (l + 1) := by rw [Nat.pow_succ]; omega
      exact digs_length_le (by omega) (Nat.lt_of_lt_of_le h2 (Nat.pow_le_pow_right (by omega) (by omega : l + 1 ≤ 200)))
    obtain ⟨hf, hhf⟩ : ∃ z, z = cmpI (a % pw + a % pw) pw := ⟨_, rfl⟩
    have Con5 : Hid (∀ W S cs, Below w3.heap.size w3 W → RdG .i64 W (.slice S (digs 65536 (a % pw + a % pw)).length cs) (digs 65536 (a % pw + a % pw)) → Calls Tryz.prog 35 #[.slice S (digs 65536 (a % pw + a % pw)).length cs, .slice Pw lp cp] W (fun e W' => e = .returned (.int .i64 hf) ∧ Below W.heap.size W W')) := fun W S cs hW hS => by
      have h := cmp_any S Pw cs cp (a % pw + a % pw) pw W hS (by have h := H3.out.2.2.below hW; rwa [HLP.out] at h) (by omega) (by have := HZ.out.2.1; omega)
      rw [← HLP.out] at h
      unfold CmpP at h
      rw [← hhf] at h
      exact h
    have Con6 : Hid (∀ W, Calls Tryz.prog 114 #[.bool n, .int .i64 (la : Int), .int .i64 hf, .int .i64 0] W (fun e W' => e = .returned (.bool false) ∧ W = W')) := fun W => away0_any n hf (la : Int) W
    clear hsum hhf hla10
    generalize (digs 65536 (a % pw + a % pw)).length = ls at *
    generalize digs 65536 (a % pw + a % pw) = ds at *
    have HKK := hide (And.intro k1 k2)
    clear k1 k2
    go_upto_region 6 with fail
    go_region_held3 (fun W => W.cell? ⟨g1, 0, none⟩ = some (.bool n)) (first | exact HL3.out.b1.val3.1 | go_keep)
      (first
        | (go_at_call 34; go_loud (refine (Con4.out _ ?_).mono ?_; exact Below.mk rfl rfl rfl (Nat.le_refl _) (fun _ _ => rfl); rintro e4 w4 ⟨S4, c4, rfl, ho4, hb4⟩; have HL3 := hide (HL3.out.below (Below.mk (w := w3) hb4.os hb4.tape hb4.output hb4.size hb4.block)); have HBw : Hid (Below w3.heap.size w3 w4) := Below.mk (w := w3) hb4.os hb4.tape hb4.output hb4.size hb4.block; have H4 := hide ho4; clear ho4 hb4))
        | (go_at_call 35; go_loud (refine (Con5.out _ S4 c4 ?_ ?_).mono ?_; exact ⟨HBw.out.os, HBw.out.tape, HBw.out.output, HBw.out.size, HBw.out.block⟩; exact H4.out.below (Below.mk rfl rfl rfl (Nat.le_refl _) (fun _ _ => rfl)); rintro e5 w5 ⟨rfl, hb5⟩; have HL3 := hide (HL3.out.below (Below.mk (w := w4) hb5.os hb5.tape hb5.output hb5.size hb5.block)); have HBw := hide (below_next HBw.out (Below.mk (w := w4) hb5.os hb5.tape hb5.output hb5.size hb5.block)); clear hb5))
        | (go_at_call 114; go_loud (refine (Con6.out _).mono ?_; rintro e6 w6 ⟨rfl, rfl⟩)))
    have k1 := HKK.out.1
    have k2 := HKK.out.2
    have hq10 := H3.out.1.below HBw.out
    rw [HZ.out.2.2.2.1] at hq10
    obtain ⟨hfin, hBf⟩ := HL3.out.fin HZ.out.2.2.2.2 y true HR.out.1 Q lq cq HG.out.1 HG.out.2 hq10
    have HF := hide (And.intro hfin hBf.val3)
    have y0 := HL3.out.b1.val3
    have d0 := HL3.out.b2.val3
    have f0 := HL3.out.b2.frozen 0
    have f1 := HL3.out.b2.frozen 1
    have f2 := HL3.out.b2.frozen 2
    clear hq10 hfin hBf H3 HL3 HZ HG HR HLP Con4 Con5 Con6 H4 HBw
    go_wp2
    exact bodyPost_ret (cut_result g2 true _ rfl rfl _ (.bool n) (.slice Q lq cq) (.int .i64 y) HF.out.2.1 HF.out.2.2.1 HF.out.2.2.2) rfl HF.out.1
theorem whole_result (n : Nat) (b : Bool) (tmps : Array Value) (h : tmps.getD 4 undef = .pointer (some ⟨n, 0, none⟩)) (h7 : tmps.getD 5 undef = .bool b) (W : World) (x y z : Value) (c0 : W.cell? ⟨n, 0, none⟩ = some x) (c1 : W.cell? ⟨n, 1, none⟩ = some y) (c2 : W.cell? ⟨n, 2, none⟩ = some z) :
    (results Tryz.f46 tmps).run Tryz.prog W = .ok (.tuple #[.agg #[x, y, z], .bool b]) W := by
  have h2 : tmps[4]?.getD undef = .pointer (some ⟨n, 0, none⟩) := by simpa using h
  have h3 : tmps[5]?.getD undef = .bool b := by simpa using h7
  simp [results, Tryz.results46, go_sem, h2, h3, c0, c1, c2]
/-- Behind Whole. -/
def WholeP (w : World) (n : Bool) (M : Nat) (y : Int) (ix : Bool) (e : Ending) (w' : World) : Prop :=
  ∃ (Q : Option Addr) (lq cq : Nat), e = .returned (.tuple #[.agg #[.bool n, .slice Q lq cq, .int .i64 y], .bool ix]) ∧ RdG .i64 w' (.slice Q lq cq) (digs 65536 M) ∧ Below w.heap.size w w'

set_option maxHeartbeats 1000000 in
set_option maxRecDepth 20000 in
theorem whole_up (n : Bool) (B : Option Addr) (l c a : Nat) (x : Int) (w : World) (hr : RdG .i64 w (.slice B l c) (digs 65536 a)) (hx : 0 ≤ x) :
    Calls Tryz.prog 46 #[.agg #[.bool n, .slice B l c, .int .i64 x], .int .i64 0] w (WholeP w n a x false) := by
  obtain ⟨g1, hg1⟩ : ∃ g, g = w.heap.size := ⟨_, rfl⟩
  obtain ⟨g2, hg2⟩ : ∃ g, g = w.heap.size + 1 := ⟨_, rfl⟩
  obtain ⟨W0, hW0⟩ : ∃ W, W = (w.alloc (.cells #[.bool n, .slice B l c, .int .i64 x] 29)).alloc (.cells #[.bool false, .slice none 0 0, .int .i64 0] 29) := ⟨_, rfl⟩
  have hb : Below w.heap.size w W0 := by rw [hW0]; exact below_al (below_al (Below.refl _ _) _) _
  have hB1 : Blk W0 g1 29 #[.bool n, .slice B l c, .int .i64 x] := by rw [hW0, hg1]; exact (Blk.new w _ _).alloc _
  have hB2 : Blk W0 g2 29 #[.bool false, .slice none 0 0, .int .i64 0] := by
    rw [hW0, hg2]
    have := Blk.new (w.alloc (.cells #[.bool n, .slice B l c, .int .i64 x] 29)) 29 #[.bool false, .slice none 0 0, .int .i64 0]
    simpa using this
  have y0 := hB1.val3
  have d0 := hB2.val3
  have f0 := hB2.frozen 0
  have f1 := hB2.frozen 1
  have f2 := hB2.frozen 2
  have fr := (((Fr.refl W0 (fun k => k = g2)).setCell (p := ⟨g2, 0, none⟩) (fun _ => rfl) (.bool n)).setCell (p := ⟨g2, 1, none⟩) (fun _ => rfl) (.slice B l c)).setCell (p := ⟨g2, 2, none⟩) (fun _ => rfl) (.int .i64 x)
  have hbf := (Fr.step (Fr.of_below hb (fun k => w.heap.size ≤ k)) fr (fun i _ hi => by have hi : i = g2 := hi; omega)).below (Nat.le_refl _) (fun _ h => h)
  have HF := hide (And.intro (show WholeP w n a x false (.returned (.tuple #[.agg #[.bool n, .slice B l c, .int .i64 x], .bool false])) (((W0.setCell ⟨g2, 0, none⟩ (.bool n)).setCell ⟨g2, 1, none⟩ (.slice B l c)).setCell ⟨g2, 2, none⟩ (.int .i64 x)) from ⟨B, l, c, rfl, hr.below hbf, hbf⟩) (((hB2.set 0 (.bool n)).set 1 (.slice B l c)).set 2 (.int .i64 x)).val3)
  have n12 : g1 ≠ g2 := by omega
  clear hb hB1 hB2 fr hbf hr
  go_enter Tryz.func46, Tryz.ntmps46
  go_upto_region 1 with fail
  rw [← hW0, ← hg2, ← hg1]
  clear hW0 hg1 hg2
  go_wp2
  exact bodyPost_ret (whole_result g2 false _ rfl rfl _ (.bool n) (.slice B l c) (.int .i64 x) HF.out.2.1 HF.out.2.2.1 HF.out.2.2.2) rfl HF.out.1

set_option maxHeartbeats 1000000 in
set_option maxRecDepth 20000 in
theorem whole_down (n : Bool) (B : Option Addr) (l c a k : Nat) (x : Int) (w : World) (hr : RdG .i64 w (.slice B l c) (digs 65536 a)) (hl : l ≤ 100) (hk : k ≤ 100) (hx : x + (k : Int) = 0) (h0 : 1 ≤ k) :
    Calls Tryz.prog 46 #[.agg #[.bool n, .slice B l c, .int .i64 x], .int .i64 0] w (WholeP w n (a / 10 ^ k) 0 (decide (a % 10 ^ k ≠ 0))) := by
  obtain ⟨g1, hg1⟩ : ∃ g, g = w.heap.size := ⟨_, rfl⟩
  obtain ⟨g2, hg2⟩ : ∃ g, g = w.heap.size + 1 := ⟨_, rfl⟩
  obtain ⟨W0, hW0⟩ : ∃ W, W = (w.alloc (.cells #[.bool n, .slice B l c, .int .i64 x] 29)).alloc (.cells #[.bool false, .slice none 0 0, .int .i64 0] 29) := ⟨_, rfl⟩
  have hb : Below w.heap.size w W0 := by rw [hW0]; exact below_al (below_al (Below.refl _ _) _) _
  have hB1 : Blk W0 g1 29 #[.bool n, .slice B l c, .int .i64 x] := by rw [hW0, hg1]; exact (Blk.new w _ _).alloc _
  have hB2 : Blk W0 g2 29 #[.bool false, .slice none 0 0, .int .i64 0] := by
    rw [hW0, hg2]
    have := Blk.new (w.alloc (.cells #[.bool n, .slice B l c, .int .i64 x] 29)) 29 #[.bool false, .slice none 0 0, .int .i64 0]
    simpa using this
  have y0 := hB1.val3
  have con := scut_any n B l c a k x 0 W0 (hr.below hb) hl hk (by omega) hx
  unfold CutP at con
  obtain ⟨M, hM⟩ : ∃ M, M = a / 10 ^ k := ⟨_, rfl⟩
  obtain ⟨ix, hix⟩ : ∃ b, b = decide (a % 10 ^ k ≠ 0) := ⟨_, rfl⟩
  rw [← hM, ← hix] at con
  rw [← hM, ← hix]
  have Con := hide con
  have H := hide (And.intro hb (And.intro hB2 (show w.heap.size ≤ g2 by omega)))
  have e1 : -x = (k : Int) := by omega
  have hx0 : ¬ 0 ≤ x := by omega
  clear con hb hB1 hB2 hr hM hix hx hl h0
  have hkI : -1000000 ≤ (k : Int) ∧ (k : Int) ≤ 1000000 := by omega
  have k1 : IntKind.i64.wrap (-x) = (k : Int) := by rw [IntKind.wrap_i64]; omega
  have k2 : wrap64 (-x) = (k : Int) := by unfold wrap64; omega
  clear e1 hkI hk
  go_enter Tryz.func46, Tryz.ntmps46
  go_upto_region 1 with fail
  rw [← hW0, ← hg2, ← hg1]
  clear hW0 hg1 hg2
  go_wp2_with fail
  refine (Con.out).mono ?_
  rintro e1 w1 ⟨Q, lq, cq, rfl, ho, hb1⟩
  have hB21 := H.out.2.1.below hb1
  have d0 := hB21.val3
  have f0 := hB21.frozen 0
  have f1 := hB21.frozen 1
  have f2 := hB21.frozen 2
  have hg2l := H.out.2.1.lt
  have fr := (((Fr.refl w1 (fun k => k = g2)).setCell (p := ⟨g2, 0, none⟩) (fun _ => rfl) (.bool n)).setCell (p := ⟨g2, 1, none⟩) (fun _ => rfl) (.slice Q lq cq)).setCell (p := ⟨g2, 2, none⟩) (fun _ => rfl) (.int .i64 0)
  have hbf := (Fr.step (Fr.of_below (below_next H.out.1 hb1) (fun k => w.heap.size ≤ k)) fr (fun i _ hi => by have hi : i = g2 := hi; have := H.out.2.2; omega)).below (Nat.le_refl _) (fun _ h => h)
  have HF := hide (And.intro (show WholeP w n M 0 ix (.returned (.tuple #[.agg #[.bool n, .slice Q lq cq, .int .i64 0], .bool ix])) (((w1.setCell ⟨g2, 0, none⟩ (.bool n)).setCell ⟨g2, 1, none⟩ (.slice Q lq cq)).setCell ⟨g2, 2, none⟩ (.int .i64 0)) from ⟨Q, lq, cq, rfl, (OwnG.rd ho).fr fr (fun j hj e => by
      have h5 := (ho.lt hj).1
      have e : j = g2 := e
      omega), hbf⟩) (((hB21.set 0 (.bool n)).set 1 (.slice Q lq cq)).set 2 (.int .i64 0)).val3)
  clear ho hb1 hB21 fr hbf H Con hg2l
  go_wp2
  exact bodyPost_ret (whole_result g2 ix _ rfl rfl _ (.bool n) (.slice Q lq cq) (.int .i64 0) HF.out.2.1 HF.out.2.2.1 HF.out.2.2.2) rfl HF.out.1
end Go.Proofs.YtfkcobdkgjhfaaaGreatDoor

/- Walk: the reference's Int64. -/
set_option linter.unusedVariables false
set_option linter.unusedSimpArgs false
namespace Go.Proofs.YtfkcobdkgjhfaaaGreatDoor
open Go.RowKit

theorem sgZ_scale (n : Bool) (a s : Nat) : sgZ n (a * s) = sgZ n a * (s : Int) := by
  unfold sgZ; cases n
  · simp
  · simp [Int.neg_mul]
theorem ordV_scaleZ (n1 n2 : Bool) (a b k : Nat) : ordV n1 (a * 10 ^ k) n2 (b * 10 ^ k) = ordV n1 a n2 b := by
  have hp : (0 : Int) < ((10 ^ k : Nat) : Int) := by have := Nat.pow_pos (n := k) (show 0 < 10 by omega); omega
  rw [ordV_int, ordV_int, sgZ_scale, sgZ_scale]
  simp only [Int.mul_lt_mul_right hp]
theorem resZ_in (n : Bool) (r : Nat) : -9223372036854775808 ≤ resZ n r ∧ resZ n r < 9223372036854775808 := by rw [resZ_eq]; exact sx_in _

/-- Behind Int64 of the reference. -/
def SI64P (w : World) (v : Int) (ok : Bool) (e : Ending) (w' : World) : Prop := e = .returned (.tuple #[.int .i64 v, .bool ok]) ∧ Below w.heap.size w w'

set_option maxHeartbeats 2000000 in
set_option maxRecDepth 20000 in
theorem sI64_gen (n : Bool) (B : Option Addr) (l c a : Nat) (x : Int) (w : World) (hr : RdG .i64 w (.slice B l c) (digs 65536 a)) (hl : l ≤ 12) (M s R : Nat) (ix ok : Bool) (hs : s ≤ 100) (hM : M * 10 ^ s = R) (hMl : (digs 65536 M).length ≤ 12)
    (conW : ∀ W, RdG .i64 W (.slice B l c) (digs 65536 a) → Calls Tryz.prog 46 #[.agg #[.bool n, .slice B l c, .int .i64 x], .int .i64 0] W (WholeP W n M (s : Int) ix))
    (sa sb : Nat) (m : Int) (h1 : 0 = m + (sa : Int)) (h2 : x = m + (sb : Int)) (hz : sa = 0 ∨ sb = 0) (hsa : sa ≤ 100) (hsb : sb ≤ 100) (hfit : ix = false → (ordV (decide (resZ n R < 0)) ((resZ n R).natAbs * 10 ^ sa) n (a * 10 ^ sb) == 0) = ok) (hok : ix = true → ok = false) :
    Calls Tryz.prog 26 #[.agg #[.bool n, .slice B l c, .int .i64 x]] w (SI64P w (resZ n R) ok) := by
  obtain ⟨g1, hg1⟩ : ∃ g, g = w.heap.size := ⟨_, rfl⟩
  obtain ⟨W0, hW0⟩ : ∃ W, W = w.alloc (.cells #[.bool n, .slice B l c, .int .i64 x] 29) := ⟨_, rfl⟩
  have hb0 : Below w.heap.size w W0 := by rw [hW0]; exact below_al (Below.refl _ _) _
  have hB1 : Blk W0 g1 29 #[.bool n, .slice B l c, .int .i64 x] := by rw [hW0, hg1]; exact Blk.new w _ _
  have Con1 := hide (conW W0 (hr.below hb0))
  have x0 := hB1.val3
  have H0 := hide (And.intro hb0 (And.intro hB1 (hr.below hb0)))
  have HK := hide (And.intro hl (And.intro hs (And.intro hM hMl)))
  have HS2 := hide (And.intro h1 (And.intro h2 (And.intro hz (And.intro hsa (And.intro hsb (And.intro hfit hok))))))
  clear hr hl hs hM hMl conW h1 h2 hz hsa hsb hfit hok hb0 hB1
  rw [hW0] at x0
  go_enter Tryz.func26, Tryz.ntmps26
  go_wp2_with fail
  rw [← hW0, ← hg1]
  clear hW0 hg1 x0
  refine (Con1.out).mono ?_
  rintro e1 w1 ⟨Q, lq, cq, rfl, hrq, hb1⟩
  clear Con1
  obtain ⟨g4, hg4⟩ : ∃ g, g = w1.heap.size := ⟨_, rfl⟩
  obtain ⟨W1, hW1⟩ : ∃ W, W = w1.alloc (.cells #[.bool n, .slice Q lq cq, .int .i64 (s : Int)] 29) := ⟨_, rfl⟩
  have hb11 : Below w1.heap.size w1 W1 := by rw [hW1]; exact below_al (Below.refl _ _) _
  have hB4 : Blk W1 g4 29 #[.bool n, .slice Q lq cq, .int .i64 (s : Int)] := by rw [hW1, hg4]; exact Blk.new w1 _ _
  have con2 := widened_any n Q lq cq M s 0 W1 (hrq.below hb11) (by have := RdG.len hrq; have := HK.out.2.2.2; omega) (by have := HK.out.2.1; omega) (by decide) (by decide)
  rw [HK.out.2.2.1, Int.zero_add] at con2
  have Con2 := hide con2
  have x4 := hB4.val3
  have hb01 := below_next hb1 hb11
  have H1 := hide (And.intro (below_next H0.out.1 hb01) (And.intro (H0.out.2.1.below hb01) (H0.out.2.2.below hb01)))
  clear con2 hb11 hB4 hrq hb1 hb01 H0
  go_upto_region 2 with fail
  rw [← hg4, ← hW1]
  clear hg4 hW1
  go_wp2_with fail
  refine (Con2.out).mono ?_
  rintro e2 w2 ⟨X, cx, rfl, hox, hb2⟩
  have hxl : (digs 65536 R).length ≤ 33 := by rw [← HK.out.2.2.1]; exact wide_100 HK.out.2.2.2 HK.out.2.1
  obtain ⟨xs, hxs⟩ : ∃ xs, xs = digs 65536 R := ⟨_, rfl⟩
  rw [← hxs] at hox hxl ⊢
  have hdx : Dig 65536 xs := by rw [hxs]; exact dig_digs (by omega) _
  have hvx : dval 65536 xs = R := by rw [hxs, dval_digs (by omega)]
  obtain ⟨lx, hlx⟩ : ∃ l, l = xs.length := ⟨_, rfl⟩
  rw [← hlx] at hox hxl ⊢
  have HX := hide (OwnG.rd hox).at_
  have HV := hide (And.intro hdx (And.intro hvx hlx))
  have H2 := hide (And.intro (below_next H1.out.1 hb2) (And.intro (H1.out.2.1.below hb2) (H1.out.2.2.below hb2)))
  clear hox hdx hvx hlx hxs hb2 H1 Con2 x4
  go_wp2
  go_loopw [6, 8] (fun vn vi wr => ∃ (k : Nat) (y : Int), k ≤ lx ∧ vn = .int .i64 y ∧ vi = .int .i64 ((k : Int) - 1) ∧ Hid (y = sx ((dval 65536 (xs.drop k) : Nat) : Int)) ∧ wr = w2) (fun _ vi _ => (intOf vi + 1).toNat)
  case atStart => exact ⟨lx, 0, Nat.le_refl _, rfl, by go_num, by rw [HV.out.2.2, List.drop_length, dval_nil]; exact sx_zero.symm, rfl⟩
  case round =>
    obtain ⟨k, y, hk, rfl, rfl, HY, rfl⟩ := hrel
    rcases Nat.eq_zero_or_pos k with hk0 | hk0
    · subst hk0
      have HY2 : Hid (y = sx (R : Int)) := by have h := HY.out; rw [List.drop_zero, HV.out.2.1] at h; exact h
      clear HX HV HY
      have z0 := H2.out.2.1.cell 0
      cases n with
      | false =>
        have HVV : Hid (y = resZ false R) := HY2.out
        clear HY2
        obtain ⟨bn, hbn⟩ : ∃ b, b = decide (y < 0) := ⟨_, rfl⟩
        have Con6 : Hid (∀ W, Calls Tryz.prog 16 #[.int .i64 y] W (fun e w' => ∃ A l4 c4, e = .returned (.agg #[.bool bn, .slice A l4 c4, .int .i64 0]) ∧ RdG .i64 w' (.slice A l4 c4) (digs 65536 (y).natAbs) ∧ Below W.heap.size W w')) := fun W => by
          have hin := resZ_in false R
          rw [← HVV.out] at hin
          rw [hbn]
          exact (of64_any y W hin.1 hin.2).mono (fun e w' ⟨A, c, h1, h2, h3⟩ => ⟨A, _, c, h1, OwnG.rd h2, h3⟩)
        have Con7 : ix = false → Hid (∀ W A l4 c4, RdG .i64 W (.slice B l c) (digs 65536 a) → RdG .i64 W (.slice A l4 c4) (digs 65536 (y).natAbs) → Calls Tryz.prog 12 #[.agg #[.bool bn, .slice A l4 c4, .int .i64 0], .agg #[.bool false, .slice B l c, .int .i64 x]] W (fun e w' => e = .returned (.bool ok) ∧ Below W.heap.size W w')) := fun hix W A l4 c4 hB hA => by
          have hin := resZ_in false R
          rw [← HVV.out] at hin
          have hl4 : (digs 65536 (y).natAbs).length ≤ 4 := digs_length_le (by omega) (by omega)
          have h := ssame_any bn false A B l4 l c4 c (y).natAbs a sa sb m 0 x W HS2.out.1 HS2.out.2.1 hA hB (by have := RdG.len hA; omega) (by have := HK.out.1; omega) HS2.out.2.2.1 (by have := HS2.out.2.2.2.1; omega) (by have := HS2.out.2.2.2.2.1; omega) (by have := HS2.out.1; have := HS2.out.2.2.2.1; omega) (by have := HS2.out.1; omega)
          have hf := HS2.out.2.2.2.2.2.1 hix
          rw [← HVV.out, ← hbn] at hf
          rw [hf] at h
          exact h
        have HH := hide (And.intro H2.out.1 (And.intro H2.out.2.1 H2.out.2.2))
        have HOK := hide HS2.out.2.2.2.2.2.2
        clear hbn HS2 H2 HK
        rw [← HVV.out]
        cases ix with
        | false =>
          have Con8 := Con7 rfl
          clear Con7 HOK
          go_wp2_with fail
          go_region_held3 (fun W => W.cell? ⟨g1, 0, none⟩ = some (.bool false) ∧ W.cell? ⟨g1, 1, none⟩ = some (.slice B l c) ∧ W.cell? ⟨g1, 2, none⟩ = some (.int .i64 x)) (first | exact HH.out.2.1.val3 | go_keep)
            (first
              | (go_at_call 16; go_loud (refine (Con6.out _).mono ?_; rintro e4 w4 ⟨A4, l4, c4, rfl, hr4, hb4⟩; have HH := hide (And.intro (below_next HH.out.1 (Below.mk (w := wr) hb4.os hb4.tape hb4.output hb4.size hb4.block)) (And.intro (HH.out.2.1.below (Below.mk (w := wr) hb4.os hb4.tape hb4.output hb4.size hb4.block)) (HH.out.2.2.below (Below.mk (w := wr) hb4.os hb4.tape hb4.output hb4.size hb4.block)))); have H4 := hide hr4; clear hr4 hb4))
              | (go_at_call 12; go_loud (refine (Con8.out _ A4 l4 c4 ?_ ?_).mono ?_; exact HH.out.2.2.below (Below.mk rfl rfl rfl (Nat.le_refl _) (fun _ _ => rfl)); exact H4.out.below (Below.mk rfl rfl rfl (Nat.le_refl _) (fun _ _ => rfl)); rintro e5 w5 ⟨rfl, hb5⟩; have HH := hide (And.intro (below_next HH.out.1 (Below.mk (w := w4) hb5.os hb5.tape hb5.output hb5.size hb5.block)) (And.intro (HH.out.2.1.below (Below.mk (w := w4) hb5.os hb5.tape hb5.output hb5.size hb5.block)) (HH.out.2.2.below (Below.mk (w := w4) hb5.os hb5.tape hb5.output hb5.size hb5.block)))); clear hb5)))
          have HF := hide HH.out.1
          clear HH Con6 Con8
          go_wp2
          go_ret2
          exact ⟨(congrArg (fun (z : Int) => Ending.returned (.tuple #[.int .i64 z, .bool ok])) HVV.out), HF.out⟩
        | true =>
          have e0 := HOK.out rfl
          subst e0
          have HF : Hid (∀ W, Below wr.heap.size wr W → Below w.heap.size w W) := fun W hW => below_next HH.out.1 hW
          have z0 := HH.out.2.1.val3
          clear HH Con6 Con7 HOK
          go_wp2_with fail
          go_region
          all_goals go_wp2
          all_goals go_ret2
          all_goals exact ⟨(congrArg (fun (z : Int) => Ending.returned (.tuple #[.int .i64 z, .bool false])) HVV.out), HF.out _ (Below.mk rfl rfl rfl (Nat.le_refl _) (fun _ _ => rfl))⟩
      | true =>
        obtain ⟨v, hv⟩ : ∃ v, v = sx (-y) := ⟨_, rfl⟩
        have HVV : Hid (v = resZ true R) := by rw [hv, HY2.out]; rfl
        have k1 : IntKind.i64.wrap (-y) = v := hv.symm
        have k2 : wrap64 (-y) = v := by rw [sx_w]; exact hv.symm
        clear HY2 hv
        obtain ⟨bn, hbn⟩ : ∃ b, b = decide (v < 0) := ⟨_, rfl⟩
        have Con6 : Hid (∀ W, Calls Tryz.prog 16 #[.int .i64 v] W (fun e w' => ∃ A l4 c4, e = .returned (.agg #[.bool bn, .slice A l4 c4, .int .i64 0]) ∧ RdG .i64 w' (.slice A l4 c4) (digs 65536 (v).natAbs) ∧ Below W.heap.size W w')) := fun W => by
          have hin := resZ_in true R
          rw [← HVV.out] at hin
          rw [hbn]
          exact (of64_any v W hin.1 hin.2).mono (fun e w' ⟨A, c, h1, h2, h3⟩ => ⟨A, _, c, h1, OwnG.rd h2, h3⟩)
        have Con7 : ix = false → Hid (∀ W A l4 c4, RdG .i64 W (.slice B l c) (digs 65536 a) → RdG .i64 W (.slice A l4 c4) (digs 65536 (v).natAbs) → Calls Tryz.prog 12 #[.agg #[.bool bn, .slice A l4 c4, .int .i64 0], .agg #[.bool true, .slice B l c, .int .i64 x]] W (fun e w' => e = .returned (.bool ok) ∧ Below W.heap.size W w')) := fun hix W A l4 c4 hB hA => by
          have hin := resZ_in true R
          rw [← HVV.out] at hin
          have hl4 : (digs 65536 (v).natAbs).length ≤ 4 := digs_length_le (by omega) (by omega)
          have h := ssame_any bn true A B l4 l c4 c (v).natAbs a sa sb m 0 x W HS2.out.1 HS2.out.2.1 hA hB (by have := RdG.len hA; omega) (by have := HK.out.1; omega) HS2.out.2.2.1 (by have := HS2.out.2.2.2.1; omega) (by have := HS2.out.2.2.2.2.1; omega) (by have := HS2.out.1; have := HS2.out.2.2.2.1; omega) (by have := HS2.out.1; omega)
          have hf := HS2.out.2.2.2.2.2.1 hix
          rw [← HVV.out, ← hbn] at hf
          rw [hf] at h
          exact h
        have HH := hide (And.intro H2.out.1 (And.intro H2.out.2.1 H2.out.2.2))
        have HOK := hide HS2.out.2.2.2.2.2.2
        clear hbn HS2 H2 HK
        rw [← HVV.out]
        cases ix with
        | false =>
          have Con8 := Con7 rfl
          clear Con7 HOK
          go_wp2_with fail
          go_region_held3 (fun W => W.cell? ⟨g1, 0, none⟩ = some (.bool true) ∧ W.cell? ⟨g1, 1, none⟩ = some (.slice B l c) ∧ W.cell? ⟨g1, 2, none⟩ = some (.int .i64 x)) (first | exact HH.out.2.1.val3 | go_keep)
            (first
              | (go_at_call 16; go_loud (refine (Con6.out _).mono ?_; rintro e4 w4 ⟨A4, l4, c4, rfl, hr4, hb4⟩; have HH := hide (And.intro (below_next HH.out.1 (Below.mk (w := wr) hb4.os hb4.tape hb4.output hb4.size hb4.block)) (And.intro (HH.out.2.1.below (Below.mk (w := wr) hb4.os hb4.tape hb4.output hb4.size hb4.block)) (HH.out.2.2.below (Below.mk (w := wr) hb4.os hb4.tape hb4.output hb4.size hb4.block)))); have H4 := hide hr4; clear hr4 hb4))
              | (go_at_call 12; go_loud (refine (Con8.out _ A4 l4 c4 ?_ ?_).mono ?_; exact HH.out.2.2.below (Below.mk rfl rfl rfl (Nat.le_refl _) (fun _ _ => rfl)); exact H4.out.below (Below.mk rfl rfl rfl (Nat.le_refl _) (fun _ _ => rfl)); rintro e5 w5 ⟨rfl, hb5⟩; have HH := hide (And.intro (below_next HH.out.1 (Below.mk (w := w4) hb5.os hb5.tape hb5.output hb5.size hb5.block)) (And.intro (HH.out.2.1.below (Below.mk (w := w4) hb5.os hb5.tape hb5.output hb5.size hb5.block)) (HH.out.2.2.below (Below.mk (w := w4) hb5.os hb5.tape hb5.output hb5.size hb5.block)))); clear hb5)))
          have HF := hide HH.out.1
          clear HH Con6 Con8
          go_wp2
          go_ret2
          exact ⟨(congrArg (fun (z : Int) => Ending.returned (.tuple #[.int .i64 z, .bool ok])) HVV.out), HF.out⟩
        | true =>
          have e0 := HOK.out rfl
          subst e0
          have HF : Hid (∀ W, Below wr.heap.size wr W → Below w.heap.size w W) := fun W hW => below_next HH.out.1 hW
          have z0 := HH.out.2.1.val3
          clear HH Con6 Con7 HOK
          go_wp2_with fail
          go_region
          all_goals go_wp2
          all_goals go_ret2
          all_goals exact ⟨(congrArg (fun (z : Int) => Ending.returned (.tuple #[.int .i64 z, .bool false])) HVV.out), HF.out _ (Below.mk rfl rfl rfl (Nat.le_refl _) (fun _ _ => rfl))⟩
    · obtain ⟨j, rfl⟩ : ∃ j, k = j + 1 := ⟨k - 1, by omega⟩
      obtain ⟨gx, o, rfl, hgx, hcell⟩ := HX.out j (by have := HV.out.2.2; omega)
      have hdl : xs.getD j 0 < 65536 := HV.out.1 _ (by rw [getD_at (by have := HV.out.2.2; omega)]; exact List.getElem_mem _)
      have hdr : xs.drop j = xs.getD j 0 :: xs.drop (j + 1) := drop_getI (by have := HV.out.2.2; omega)
      obtain ⟨d, hd⟩ : ∃ d, d = xs.getD j 0 := ⟨_, rfl⟩
      rw [← hd] at hcell hdl hdr
      obtain ⟨z1, hz1⟩ : ∃ z, z = sx (y * 65536) := ⟨_, rfl⟩
      obtain ⟨z2, hz2⟩ : ∃ z, z = sx (z1 + (d : Int)) := ⟨_, rfl⟩
      have HN : Hid (z2 = sx ((dval 65536 (xs.drop j) : Nat) : Int)) := by
        rw [hdr, dval_cons, hz2, hz1, sx_add, HY.out]
        have h := sx_mul ((dval 65536 (xs.drop (j + 1)) : Nat) : Int) 65536
        have h2 : sx (sx ((dval 65536 (xs.drop (j + 1)) : Nat) : Int) * 65536 + (d : Int)) = sx (sx (sx ((dval 65536 (xs.drop (j + 1)) : Nat) : Int) * 65536) + (d : Int)) := (sx_add _ _).symm
        rw [h2, h, sx_add]
        congr 1
        rw [Int.natCast_add, Int.natCast_mul]
        omega
      have e1 : ((j + 1 : Nat) : Int) - 1 = (j : Int) := by omega
      have HE := hide (And.intro hz1 hz2)
      clear hz1 hz2 hd hdr HY
      have k1 : IntKind.i64.wrap (y * 65536) = z1 := HE.out.1.symm
      have k2 : wrap64 (y * 65536) = z1 := by rw [sx_w]; exact HE.out.1.symm
      have k3 : IntKind.i64.wrap (z1 + (d : Int)) = z2 := HE.out.2.symm
      have k4 : wrap64 (z1 + (d : Int)) = z2 := by rw [sx_w]; exact HE.out.2.symm
      have hjl : j < lx := by omega
      go_wp2
      go_roundw
      case rel => exact ⟨j, z2, by omega, rfl, rfl, HN, trivial⟩
      case measure => simp [intOf]
end Go.Proofs.YtfkcobdkgjhfaaaGreatDoor

/- The reference's Int64, by what Modf parts. -/
set_option linter.unusedVariables false
set_option linter.unusedSimpArgs false
namespace Go.Proofs.YtfkcobdkgjhfaaaGreatDoor
open Go.RowKit

theorem fit_same (n : Bool) (R : Nat) : (ordV (decide (resZ n R < 0)) (resZ n R).natAbs n R == 0) = fitZ n 0 R := by
  rw [resZ_eq, same_int]
  unfold fitZ
  simp

theorem sI64_any (n : Bool) (B : Option Addr) (l c a : Nat) (x : Int) (p q : Nat) (ep eq : Int) (w : World) (hr : RdG .i64 w (.slice B l c) (digs 65536 a)) (hl : l ≤ 12) (hN : ModN a x p ep q eq) (hx : -100 ≤ x ∧ x ≤ 100) :
    Calls Tryz.prog 26 #[.agg #[.bool n, .slice B l c, .int .i64 x]] w (SI64P w (resZ n (p * 10 ^ ep.natAbs)) (fitZ n q (p * 10 ^ ep.natAbs))) := by
  have hal : (digs 65536 a).length ≤ 12 := by have := RdG.len hr; omega
  rcases hN with ⟨h, rfl, rfl, rfl, rfl⟩ | ⟨h, rfl, rfl, h1, h2⟩
  · obtain ⟨k, hk⟩ : ∃ k : Nat, ep = (k : Int) := ⟨ep.natAbs, by omega⟩
    subst hk
    exact sI64_gen n B l c p (k : Int) w hr hl p k (p * 10 ^ ((k : Int)).natAbs) false _ (by omega) rfl hal (fun W hW => whole_up n B l c p (k : Int) W hW (by omega)) 0 k 0 (by omega) (by omega) (.inl rfl) (by omega) (by omega) (fun _ => by rw [Nat.pow_zero, Nat.mul_one]; exact fit_same n _) (fun h => by cases h)
  · obtain ⟨k, hk⟩ : ∃ k : Nat, eq = -(k : Int) := ⟨eq.natAbs, by omega⟩
    subst hk
    have e1 : (-(k : Int)).natAbs = k := by omega
    rw [e1] at h1 h2
    have e0 : ((0 : Int)).natAbs = 0 := rfl
    rw [e0, Nat.pow_zero, Nat.mul_one]
    rcases Nat.eq_zero_or_pos k with h0 | h0
    · subst h0
      have hq : q = 0 := by simp at h2; omega
      subst hq
      have hp : p = a := by simp at h1; omega
      subst hp
      exact sI64_gen n B l c p (-((0 : Nat) : Int)) w hr hl p 0 p false _ (by omega) (by simp) hal (fun W hW => whole_up n B l c p (-((0 : Nat) : Int)) W hW (by omega)) 0 0 0 (by omega) (by omega) (.inl rfl) (by omega) (by omega) (fun _ => by rw [Nat.pow_zero, Nat.mul_one, Nat.mul_one]; exact fit_same n _) (fun h => by cases h)
    · have hp10 : 0 < 10 ^ k := Nat.pow_pos (by omega)
      have hpe : a / 10 ^ k = p := by rw [← h1, Nat.mul_comm, Nat.mul_add_div hp10, Nat.div_eq_of_lt h2, Nat.add_zero]
      have hqe : a % 10 ^ k = q := by rw [← h1, Nat.mul_comm, Nat.mul_add_mod, Nat.mod_eq_of_lt h2]
      have hpl : (digs 65536 p).length ≤ 12 := Nat.le_trans (digs_len_mono (by omega) (by rw [← hpe]; exact Nat.div_le_self _ _)) hal
      refine sI64_gen n B l c a (-(k : Int)) w hr hl p 0 p (decide (q ≠ 0)) _ (by omega) (by simp) hpl (fun W hW => ?_) k 0 (-(k : Int)) (by omega) (by omega) (.inr rfl) (by omega) (by omega) (fun hix => ?_) (fun hix => ?_)
      · have h := whole_down n B l c a k (-(k : Int)) W hW (by omega) (by omega) (by omega) h0
        rw [hpe, hqe] at h
        exact h
      · have hq : q = 0 := by simpa using hix
        subst hq
        rw [Nat.pow_zero, Nat.mul_one, ← h1, Nat.add_zero, ordV_scaleZ]
        exact fit_same n _
      · have hq : q ≠ 0 := by simpa using hix
        unfold fitZ
        rw [decide_eq_false hq]; rfl
end Go.Proofs.YtfkcobdkgjhfaaaGreatDoor
