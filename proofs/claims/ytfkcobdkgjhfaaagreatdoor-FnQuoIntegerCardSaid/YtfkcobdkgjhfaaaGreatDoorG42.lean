/- Parts of the proofs: SpLen. -/
import Derived.Test.YtfkcobdkgjhfaaaGreatDoorG41
/- Walks: the reference's Len, Bit, Shl. -/
set_option linter.unusedVariables false
set_option linter.unusedSimpArgs false
namespace Go.Proofs.YtfkcobdkgjhfaaaGreatDoor
open Go.RowKit

set_option maxRecDepth 20000 in
theorem slen_any (A : Option Addr) (l c m : Nat) (w : World) (hr : RdG .i64 w (.slice A l c) (digs 65536 m)) (hl : l ≤ 100000) :
    Calls Tryz.prog 76 #[.slice A l c] w fun e w' => e = .returned (.int .i64 (blen m : Int)) ∧ w = w' := by
  have hlen := RdG.len hr
  rcases Nat.eq_zero_or_pos l with h0 | h0
  · have hm : m = 0 := by
      rcases Nat.eq_zero_or_pos m with h | h
      · exact h
      · exact absurd (List.eq_nil_of_length_eq_zero (by omega)) (digs_ne_nil (b := 65536) (by omega) h)
    subst h0 hm
    clear hr hlen
    go_enter Tryz.func76, Tryz.ntmps76
    go_wp2
    go_ret
    exact ⟨rfl, rfl⟩
  · obtain ⟨n1, hn1⟩ : ∃ i, l = i + 1 := ⟨l - 1, by omega⟩
    obtain ⟨g, o, rfl, -, hc⟩ := RdG.at_ (k := .i64) hr n1 (by omega)
    obtain ⟨hb, ht0, htl⟩ := blen_digs (m := m) (n1 := n1) (by omega)
    obtain ⟨B, hB⟩ : ∃ B, B = blen m := ⟨_, rfl⟩
    rw [← hB] at hb ⊢
    generalize (digs 65536 m).getD n1 0 = top at hc hb ht0 htl
    have i1 : (l : Int) - 1 = (n1 : Int) := by omega
    have b0 : ((l : Int) == 0) = false := beq_eq_false_iff_ne.2 (by omega)
    have j1 : n1 < l := by omega
    have j2 : n1 ≤ 100000 := by omega
    have HB : Hid (16 * n1 + blen top = B) := hb.symm
    clear hr hlen hb hB hn1 ht0 h0
    obtain ⟨k0, hk0⟩ : ∃ k, k = 16 * n1 := ⟨_, rfl⟩
    have i2 : (16 : Int) * (n1 : Int) = (k0 : Int) := by omega
    have j3 : k0 ≤ 1600000 := by omega
    rw [← hk0] at HB
    clear hk0
    go_enter Tryz.func76, Tryz.ntmps76
    go_wp2
    go_loopw [3, 4] (fun vn vt wr => ∃ t k : Nat, vn = .int .i64 (k : Int) ∧ vt = .int .i64 (t : Int) ∧ t < 65536 ∧ k ≤ 1700000 - t ∧ Hid (k + blen t = B ∧ wr = w)) (fun _ vt _ => (intOf vt).toNat)
    case atStart => exact ⟨top, k0, rfl, rfl, htl, by omega, HB.out, rfl⟩
    case round =>
      obtain ⟨t, k, rfl, rfl, ht, hk, HR⟩ := hrel
      rcases Nat.eq_zero_or_pos t with h | h
      · subst h
        have e1 : k = B := HR.out.1
        have e2 : wr = w := HR.out.2
        subst e1 e2
        clear HR HB hc
        go_wp2
        go_ret
        exact ⟨rfl, rfl⟩
      · have HN : Hid (k + 1 + blen (t / 2) = B ∧ wr = w) := ⟨by have := blen_half h; have := HR.out.1; omega, HR.out.2⟩
        have h2 : t / 2 < t := Nat.div_lt_self h (by omega)
        clear HR HB hc
        go_wp2
        go_roundw
        case rel => exact ⟨t / 2, k + 1, by go_num, by rw [Int.natCast_ediv]; rfl, by omega, by omega, HN⟩
        case measure => simp [intOf]; omega
set_option maxHeartbeats 400000 in
set_option maxRecDepth 20000 in
theorem sbit_any (i : Nat) (w : World) (hi : i ≤ 1000000) : Calls Tryz.prog 78 #[.int .i64 (i : Int)] w (NewI w (digs 65536 (2 ^ i))) := by
  obtain ⟨q, hq⟩ : ∃ q, q = i / 16 := ⟨_, rfl⟩
  obtain ⟨r, hr⟩ : ∃ r, r = i % 16 := ⟨_, rfl⟩
  have e1 : (i : Int) / 16 = (q : Int) := by omega
  have e2 : (i : Int) % 16 = (r : Int) := by omega
  have hr15 : r ≤ 15 := by omega
  have hq2 : q ≤ 100000 := by omega
  have hmk : ∀ W : World, (Instr.makeSlice 27 (.int .i64 ((q : Int) + 1)) (.int .i64 ((q : Int) + 1))).run Tryz.prog W = .ok (.slice (some ⟨W.heap.size, 0, none⟩) (q + 1) (q + 1)) (W.alloc (.cells (madeCells #[.int .i64 0] (q + 1)) 3)) := fun W => mk_nat (q + 1) (by omega) W
  obtain ⟨p, hp⟩ : ∃ p, p = 2 ^ r := ⟨_, rfl⟩
  have hpl : p ≤ 32768 := by rw [hp]; exact Nat.pow_le_pow_right (by omega) hr15
  have e3 : (1 : Int) * 2 ^ r = (p : Int) := by rw [hp]; simp
  have e3' : (2 : Int) ^ r = (p : Int) := by rw [hp]; simp
  have hd : digs 65536 (2 ^ i) = List.replicate q 0 ++ [p] := by rw [digs_pow2, ← hq, ← hr, ← hp]
  have em : madeCells #[Value.int .i64 0] (q + 1) = (gv .i64 (List.replicate q 0) ++ Value.int .i64 0 :: []).toArray := by
    apply Array.ext'
    rw [toList_madeCells_one, List.replicate_succ']
    simp [gv]
  have em2 : (madeCells #[Value.int .i64 0] (q + 1)).setIfInBounds q (.int .i64 (p : Int)) = (gv .i64 (List.replicate q 0 ++ [p])).toArray := by
    have hw := set_window (gv .i64 (List.replicate q 0)) [] (Value.int .i64 0) (.int .i64 (p : Int))
    rw [gv_length, List.length_replicate] at hw
    rw [em, List.setIfInBounds_toArray, hw]
    simp [gv]
  have HP : Hid (NewI w (digs 65536 (2 ^ i)) (.returned (.slice (some ⟨w.heap.size, 0, none⟩) (q + 1) (q + 1))) (w.alloc (.cells ((madeCells #[.int .i64 0] (q + 1)).setIfInBounds q (.int .i64 (p : Int))) 3))) := by
    have hl : (List.replicate q 0 ++ [p]).length = q + 1 := by simp
    rw [em2, hd]
    have h := OwnG.mk (k := .i64) (xs := List.replicate q 0 ++ [p]) (cap := q + 1) (Nat.le_refl _) (Blk.new w 3 (gv .i64 (List.replicate q 0 ++ [p])).toArray) (by omega) (by unfold maxLen; omega) (by rw [List.size_toArray, gv_length]; exact hl) (List.take_of_length_le (by rw [gv_length]; exact Nat.le_refl _))
    rw [hl] at h
    exact ⟨some ⟨w.heap.size, 0, none⟩, q + 1, by rw [hl], by rw [hl]; exact h, below_al (Below.refl _ _) _⟩
  have hB := Blk.new w 3 (madeCells #[Value.int .i64 0] (q + 1))
  have c2 := hB.frozen q
  have c1 : (w.alloc (.cells (madeCells #[.int .i64 0] (q + 1)) 3)).cell? ⟨w.heap.size, q, none⟩ = some (.int .i64 0) := by
    rw [hB.cell, em]
    have h := getElem?_window (gv .i64 (List.replicate q 0)) [] (Value.int .i64 0)
    rw [gv_length, List.length_replicate] at h
    simpa using h
  clear hd em em2 hp hq hr hi hB
  obtain ⟨ii, hii⟩ : ∃ ii : Int, ii = (i : Int) := ⟨_, rfl⟩
  rw [← hii] at e1 e2 ⊢
  clear hii
  go_enter Tryz.func78, Tryz.ntmps78
  go_wp2
  go_ret
  exact HP.out
/-- What a round of Shl holds: the digits up to i are shifted. -/
structure ShlS (w : World) (g t s i lx : Nat) (xs : List Nat) (W : World) : Prop where
  blk : Blk W g 3 (gv .i64 (List.replicate t 0 ++ (amul 65536 (2 ^ s) (List.replicate i 0) (xs.take i) 0).1) ++ Value.int .i64 (((amul 65536 (2 ^ s) (List.replicate i 0) (xs.take i) 0).2 : Nat) : Int) :: gv .i64 (List.replicate (lx - i) 0)).toArray
  lt : (amul 65536 (2 ^ s) (List.replicate i 0) (xs.take i) 0).2 < 2 ^ s
  bel : Below w.heap.size w W

theorem ShlS.step {w W : World} {g t s i lx x : Nat} {xs : List Nat} (h : ShlS w g t s i lx xs W) (hg : w.heap.size ≤ g) (hlx : lx = xs.length) (hi : i < lx) (hs : s ≤ 15) (hx : xs.getD i 0 = x) (hxl : x < 65536) :
    ∃ c : Nat, c < 2 ^ s ∧ W.cell? ⟨g, t + i, none⟩ = some (.int .i64 (c : Int)) ∧ W.frozen? ⟨g, t + i, none⟩ = false ∧ ∀ v c', v = c + x * 2 ^ s % 65536 → c' = x * 2 ^ s / 65536 →
      (W.setCell ⟨g, t + i, none⟩ (.int .i64 (v : Int))).cell? ⟨g, t + i + 1, none⟩ = some (.int .i64 0) ∧ (W.setCell ⟨g, t + i, none⟩ (.int .i64 (v : Int))).frozen? ⟨g, t + i + 1, none⟩ = false ∧ ShlS w g t s (i + 1) lx xs ((W.setCell ⟨g, t + i, none⟩ (.int .i64 (v : Int))).setCell ⟨g, t + i + 1, none⟩ (.int .i64 (c' : Int))) := by
  have hl : (List.replicate i 0).length = (xs.take i).length := by simp; omega
  have hc := h.lt
  obtain ⟨s1, s2, s3⟩ := shl16 hs hc hxl
  have hsn := amul_snoc 65536 (2 ^ s) 0 x (zs := List.replicate i 0) (xs := xs.take i) 0 hl
  have hR : (amul 65536 (2 ^ s) (List.replicate i 0) (xs.take i) 0).1.length = i := by rw [amul_length _ _ _ hl, List.length_take]; omega
  have hB := h.blk
  rw [show lx - i = (lx - (i + 1)) + 1 by omega, List.replicate_succ, gv_cons] at hB
  obtain ⟨p1, p2, p3⟩ := hB.partI (i := t + i) (by rw [gv_length, List.length_append, hR]; simp)
  refine ⟨_, hc, p1, p2, fun v c' hv hc' => ?_⟩
  have hB2 := p3 (.int .i64 (v : Int))
  rw [List.append_cons] at hB2
  obtain ⟨q1, q2, q3⟩ := hB2.partI (i := t + i + 1) (by rw [List.length_append, gv_length, List.length_append, hR]; simp)
  refine ⟨q1, q2, ?_, ?_, ?_⟩
  · have e : List.replicate (i + 1) 0 = List.replicate i 0 ++ [0] := List.replicate_succ'
    rw [e, take_snocI (by omega : i < xs.length), hx, hsn, ← s1, ← s2, ← hv, ← hc']
    have := q3 (.int .i64 (c' : Int))
    simpa [gv, List.append_assoc] using this
  · have e : List.replicate (i + 1) 0 = List.replicate i 0 ++ [0] := List.replicate_succ'
    rw [e, take_snocI (by omega : i < xs.length), hx, hsn, ← s2]
    exact s3
  · have fr := ((Fr.refl W (fun k => k = g)).setCell (p := ⟨g, t + i, none⟩) (fun _ => rfl) (.int .i64 (v : Int))).setCell (p := ⟨g, t + i + 1, none⟩) (fun _ => rfl) (.int .i64 (c' : Int))
    exact ((Fr.of_below h.bel (fun k => w.heap.size ≤ k)).step fr (fun k _ hk => by have hk : k = g := hk; omega)).below (Nat.le_refl _) (fun _ h => h)
theorem ShlS.start (w : World) (t s lx : Nat) (xs : List Nat) : ShlS w w.heap.size t s 0 lx xs (w.alloc (.cells (madeCells #[.int .i64 0] (t + lx + 1)) 3)) := by
  refine ⟨?_, Nat.two_pow_pos s, below_al (Below.refl _ _) _⟩
  have em : madeCells #[Value.int .i64 0] (t + lx + 1) = (gv .i64 (List.replicate t 0 ++ (amul 65536 (2 ^ s) (List.replicate 0 0) (xs.take 0) 0).1) ++ Value.int .i64 (((amul 65536 (2 ^ s) (List.replicate 0 0) (xs.take 0) 0).2 : Nat) : Int) :: gv .i64 (List.replicate (lx - 0) 0)).toArray := by
    apply Array.ext'
    rw [toList_madeCells_one]
    have e0 : amul 65536 (2 ^ s) (List.replicate 0 0) (xs.take 0) 0 = ([], 0) := rfl
    rw [e0, List.append_nil, ← gv_cons, ← List.replicate_succ, ← gv_append, List.replicate_append_replicate]
    simp [gv, Nat.add_assoc]
  rw [← em]
  exact Blk.new w _ _
theorem ShlS.end_ {w W : World} {g t s lx n a : Nat} {xs : List Nat} (h : ShlS w g t s lx lx xs W) (hg : w.heap.size ≤ g) (hlx : lx = xs.length) (hs : s ≤ 15) (hn : n = 16 * t + s) (ha : xs = digs 65536 a) (hb : t + lx ≤ 1000000) :
    ∃ L : List Nat, L.length = t + lx + 1 ∧ OwnI W w.heap.size (.slice (some ⟨g, 0, none⟩) (t + lx + 1) (t + lx + 1)) L ∧ trimz L = digs 65536 (a * 2 ^ n) := by
  have hB := h.blk
  have hc := h.lt
  rw [Nat.sub_self, List.replicate_zero, List.take_of_length_le (by omega)] at hB
  rw [List.take_of_length_le (by omega)] at hc
  have hl : (List.replicate lx 0).length = xs.length := by simp [hlx]
  have hR : (amul 65536 (2 ^ s) (List.replicate lx 0) xs 0).1.length = lx := by rw [amul_length _ _ _ hl, hlx]
  have hv := amul_val 65536 (2 ^ s) (zs := List.replicate lx 0) (xs := xs) 0 hl
  have hd := amul_dig (b := 65536) (d := 2 ^ s) (by omega) (zs := List.replicate lx 0) (xs := xs) 0
  have hp : (2 : Nat) ^ s ≤ 2 ^ 15 := Nat.pow_le_pow_right (by omega) hs
  generalize (amul 65536 (2 ^ s) (List.replicate lx 0) xs 0).1 = R at *
  generalize (amul 65536 (2 ^ s) (List.replicate lx 0) xs 0).2 = c at *
  rw [dval_replicate_zero, ← hlx] at hv
  have hlen : (List.replicate t 0 ++ R ++ [c]).length = t + lx + 1 := by simp [hR]; omega
  refine ⟨List.replicate t 0 ++ R ++ [c], hlen, ?_, ?_⟩
  · have hg2 : gv .i64 (List.replicate t 0 ++ R) ++ Value.int .i64 (c : Int) :: gv .i64 [] = gv .i64 (List.replicate t 0 ++ R ++ [c]) := by simp [gv]
    rw [hg2] at hB
    have h1 := OwnG.mk (k := .i64) (xs := List.replicate t 0 ++ R ++ [c]) (cap := t + lx + 1) hg hB (by omega) (by unfold maxLen; omega) (by rw [List.size_toArray, gv_length]; exact hlen) (List.take_of_length_le (by rw [gv_length]; exact Nat.le_refl _))
    rwa [hlen] at h1
  · have hD : Dig 65536 (List.replicate t 0 ++ R ++ [c]) := fun e he => by
      rcases List.mem_append.1 he with h | h
      · rcases List.mem_append.1 h with h | h
        · rw [List.eq_of_mem_replicate h]; omega
        · exact hd e h
      · rw [List.mem_singleton.1 h]; omega
    rw [← digs_dval_trim (by omega) hD]
    congr 1
    rw [List.append_assoc, dval_append, dval_replicate_zero, List.length_replicate, dval_append, hR, dval_cons, dval_nil, Nat.mul_zero, Nat.add_zero, Nat.zero_add, hv, ha, dval_digs (by omega), Nat.zero_add, Nat.add_zero, hn, show (65536 : Nat) = 2 ^ 16 from rfl, ← Nat.pow_mul, Nat.pow_add]
    rw [Nat.mul_left_comm]

set_option maxHeartbeats 1000000 in
set_option maxRecDepth 20000 in
theorem sshl_any (A : Option Addr) (l c a n : Nat) (w : World) (hr : RdG .i64 w (.slice A l c) (digs 65536 a)) (ha : 0 < a) (hl : l ≤ 100000) (hn : n ≤ 1000000) :
    Calls Tryz.prog 77 #[.slice A l c, .int .i64 (n : Int)] w (NewI w (digs 65536 (a * 2 ^ n))) := by
  have hlen := RdG.len hr
  have hl1 : 1 ≤ l := by
    rcases Nat.eq_zero_or_pos l with h | h
    · exact absurd (List.eq_nil_of_length_eq_zero (by omega)) (digs_ne_nil (b := 65536) (by omega) ha)
    · exact h
  obtain ⟨t, ht⟩ : ∃ t, t = n / 16 := ⟨_, rfl⟩
  obtain ⟨s, hs⟩ : ∃ s, s = n % 16 := ⟨_, rfl⟩
  have e1 : (n : Int) / 16 = (t : Int) := by omega
  have e2 : (n : Int) % 16 = (s : Int) := by omega
  have hs15 : s ≤ 15 := by omega
  have ht2 : t ≤ 62500 := by omega
  have hnt : n = 16 * t + s := by omega
  have hmk : ∀ W : World, (Instr.makeSlice 27 (.int .i64 ((t : Int) + (l : Int) + 1)) (.int .i64 ((t : Int) + (l : Int) + 1))).run Tryz.prog W = .ok (.slice (some ⟨W.heap.size, 0, none⟩) (t + l + 1) (t + l + 1)) (W.alloc (.cells (madeCells #[.int .i64 0] (t + l + 1)) 3)) := fun W => mk_nat (t + l + 1) (by omega) W
  have hd := dig_digs (b := 65536) (by omega) a
  obtain ⟨xs, hxs⟩ : ∃ xs, xs = digs 65536 a := ⟨_, rfl⟩
  rw [← hxs] at hlen hd hr
  have HS := hide (ShlS.start w t s l xs)
  have HX := hide hr.at_
  have HN := hide (And.intro hlen (And.intro hd (And.intro hnt hxs)))
  have b0 : ((l : Int) == 0) = false := beq_eq_false_iff_ne.2 (by omega)
  clear hr hlen hd hnt hxs ht hs hn ha
  obtain ⟨ni, hni⟩ : ∃ ni : Int, ni = (n : Int) := ⟨_, rfl⟩
  rw [← hni] at e1 e2 ⊢
  clear hni
  go_enter Tryz.func77, Tryz.ntmps77
  go_wp2
  go_loopw [21] (fun vi wr => ∃ i : Nat, i ≤ l ∧ vi = .int .i64 (i : Int) ∧ Hid (ShlS w w.heap.size t s i l xs wr)) (fun vi _ => l - (intOf vi).toNat)
  case atStart => exact ⟨0, Nat.zero_le _, by go_num, HS⟩
  case round =>
    obtain ⟨i, hi, rfl, HR⟩ := hrel
    by_cases hlt : i < l
    · obtain ⟨gx, ox, rfl, hgx, hcell⟩ := HX.out i (by have := HN.out.1; omega)
      have hcx : wr.cell? ⟨gx, ox + i, none⟩ = some (.int .i64 (xs.getD i 0 : Nat)) := (HR.out.bel.cell hgx).trans hcell
      have hxl : xs.getD i 0 < 65536 := HN.out.2.1 _ (by rw [getD_at (by have := HN.out.1; omega)]; exact List.getElem_mem _)
      obtain ⟨c0, hc0, k1, k2, hst⟩ := HR.out.step (x := xs.getD i 0) (Nat.le_refl _) HN.out.1 hlt hs15 rfl hxl
      have HT := hide hst
      clear hst HS hcell
      generalize xs.getD i 0 = x at *
      obtain ⟨p, hp⟩ : ∃ p, p = x * 2 ^ s := ⟨_, rfl⟩
      have h2 : (2 : Nat) ^ s ≤ 2 ^ 15 := Nat.pow_le_pow_right (by omega) hs15
      have hpl : p ≤ 65536 * 32768 := by rw [hp]; exact Nat.mul_le_mul (by omega) h2
      have hxp : (x : Int) * 2 ^ s = (p : Int) := by rw [hp, Int.natCast_mul, Int.natCast_pow]; rfl
      rw [← hp] at HT
      obtain ⟨q1, q2, HN2⟩ := HT.out (c0 + p % 65536) (p / 65536) rfl rfl
      have HN3 := hide HN2
      have hcb : c0 < 65536 := by omega
      have ev : ((c0 + p % 65536 : Nat) : Int) = (c0 : Int) + (p : Int) % 65536 := by omega
      have ec : ((p / 65536 : Nat) : Int) = (p : Int) / 65536 := by omega
      rw [ev] at q1 q2 HN3
      rw [ec] at HN3
      clear HT HN2 hp h2 ev ec HR hc0
      go_wp2
      go_roundw
      case rel => exact ⟨i + 1, by omega, by go_num, HN3⟩
      case measure => simp [intOf]; omega
    · obtain rfl : i = l := by omega
      obtain ⟨L, hL, hO, hT⟩ := HR.out.end_ (n := n) (a := a) (Nat.le_refl _) HN.out.1 hs15 HN.out.2.2.1 HN.out.2.2.2 (by omega)
      have con := trim_any (some ⟨w.heap.size, 0, none⟩) (t + i + 1) L wr (by rw [hL]; exact hO.rd)
      rw [hL] at con
      have Con := hide con
      have HF : Hid (NewI w (digs 65536 (a * 2 ^ n)) (.returned (.slice (some ⟨w.heap.size, 0, none⟩) (trimz L).length (t + i + 1))) wr) := by
        rw [← hT]
        refine ⟨_, _, rfl, ?_, HR.out.bel⟩
        have h := hO.take (trimz L).length (by have := trimz_length_le L; omega)
        rw [take_trimz] at h
        exact h
      clear con hL hO hT HR HX HN HS
      generalize (trimz L).length = lt at *
      go_wp2_with fail
      refine (Con.out).mono ?_
      rintro e w1 ⟨rfl, rfl⟩
      clear Con
      go_wp2
      go_ret
      exact HF.out
end Go.Proofs.YtfkcobdkgjhfaaaGreatDoor
