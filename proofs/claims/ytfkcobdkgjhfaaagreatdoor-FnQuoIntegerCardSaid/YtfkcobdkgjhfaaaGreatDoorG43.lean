/- Parts of the proofs: SpAdd. -/
import Derived.Test.YtfkcobdkgjhfaaaGreatDoorG26
import Derived.Test.YtfkcobdkgjhfaaaGreatDoorG41
/- Walks: the reference's Add and Sub. -/
set_option linter.unusedVariables false
set_option linter.unusedSimpArgs false
namespace Go.Proofs.YtfkcobdkgjhfaaaGreatDoor
open Go.RowKit

theorem dval_take_succ (b : Nat) (xs : List Nat) (i : Nat) : dval b (xs.take (i + 1)) = dval b (xs.take i) + b ^ i * xs.getD i 0 := by
  rcases Nat.lt_or_ge i xs.length with h | h
  · rw [List.take_succ_eq_append_getElem h, dval_append, List.length_take, Nat.min_eq_left (by omega), getD_at h]
    simp [dval_cons, dval_nil]
  · rw [List.take_of_length_le (by omega), List.take_of_length_le h]
    simp [List.getD_eq_getElem?_getD, List.getElem?_eq_none h]
theorem dval_snoc (b : Nat) (xs : List Nat) (d : Nat) : dval b (xs ++ [d]) = dval b xs + b ^ xs.length * d := by
  rw [dval_append]; simp [dval_cons, dval_nil]
theorem getD_lt {b : Nat} {xs : List Nat} (hb : 0 < b) (h : Dig b xs) (i : Nat) : xs.getD i 0 < b := by
  rcases Nat.lt_or_ge i xs.length with hi | hi
  · rw [getD_at hi]; exact h _ (List.getElem_mem _)
  · simp [List.getD_eq_getElem?_getD, List.getElem?_eq_none hi, hb]
theorem getD_out {xs : List Nat} {i : Nat} (h : xs.length ≤ i) : xs.getD i 0 = 0 := by
  simp [List.getD_eq_getElem?_getD, List.getElem?_eq_none h]

/-- The sum so far: i digits and a carry. -/
structure AddS (xs ys : List Nat) (i : Nat) (o : List Nat) (c : Nat) : Prop where
  len : o.length = i
  dig : Dig 65536 o
  val : dval 65536 o + 65536 ^ i * c = dval 65536 (xs.take i) + dval 65536 (ys.take i)
  c1 : c ≤ 1
theorem AddS.start (xs ys : List Nat) : AddS xs ys 0 [] 0 := ⟨rfl, (fun d hd => by cases hd), by simp [dval], by omega⟩
theorem AddS.step {xs ys o : List Nat} {i c s : Nat} (h : AddS xs ys i o c) (hx : Dig 65536 xs) (hy : Dig 65536 ys) (hs : s = c + xs.getD i 0 + ys.getD i 0) : AddS xs ys (i + 1) (o ++ [s % 65536]) (s / 65536) := by
  have h1 := getD_lt (by omega) hx i
  have h2 := getD_lt (by omega) hy i
  have h3 := h.c1
  refine ⟨by simp [h.len], ?_, ?_, by omega⟩
  · intro d hd
    rcases List.mem_append.1 hd with hd | hd
    · exact h.dig d hd
    · rw [List.mem_singleton.1 hd]; exact Nat.mod_lt _ (by omega)
  · rw [dval_snoc, dval_take_succ, dval_take_succ, h.len, Nat.pow_succ]
    have hv := h.val
    have e : 65536 ^ i * (s % 65536) + 65536 ^ i * 65536 * (s / 65536) = 65536 ^ i * s := by
      rw [Nat.mul_assoc, ← Nat.mul_add, Nat.add_comm, Nat.div_add_mod]
    have e2 : 65536 ^ i * s = 65536 ^ i * c + 65536 ^ i * xs.getD i 0 + 65536 ^ i * ys.getD i 0 := by rw [hs, Nat.mul_add, Nat.mul_add]
    omega
theorem AddS.end_ {xs ys o : List Nat} {i c : Nat} (h : AddS xs ys i o c) (hx : xs.length ≤ i) (hy : ys.length ≤ i) : trimz (o ++ [c]) = digs 65536 (dval 65536 xs + dval 65536 ys) := by
  have hv := h.val
  rw [List.take_of_length_le hx, List.take_of_length_le hy] at hv
  have hd : Dig 65536 (o ++ [c]) := by
    intro d hd
    rcases List.mem_append.1 hd with hd | hd
    · exact h.dig d hd
    · rw [List.mem_singleton.1 hd]; have := h.c1; omega
  rw [← digs_dval_trim (b := 65536) (by omega) hd, dval_snoc, h.len, hv]

/-- The difference so far: i digits and a borrow. -/
structure SubS (xs ys : List Nat) (i : Nat) (o : List Nat) (c : Nat) : Prop where
  len : o.length = i
  dig : Dig 65536 o
  val : dval 65536 o + dval 65536 (ys.take i) = dval 65536 (xs.take i) + 65536 ^ i * c
  c1 : c ≤ 1
theorem SubS.start (xs ys : List Nat) : SubS xs ys 0 [] 0 := ⟨rfl, (fun d hd => by cases hd), by simp [dval], by omega⟩
theorem SubS.step {xs ys o : List Nat} {i c s c' : Nat} (h : SubS xs ys i o c) (hs : s + c + ys.getD i 0 = xs.getD i 0 + 65536 * c') (hsl : s < 65536) (hc : c' ≤ 1) : SubS xs ys (i + 1) (o ++ [s]) c' := by
  refine ⟨by simp [h.len], ?_, ?_, hc⟩
  · intro d hd
    rcases List.mem_append.1 hd with hd | hd
    · exact h.dig d hd
    · rw [List.mem_singleton.1 hd]; exact hsl
  · rw [dval_snoc, dval_take_succ, dval_take_succ, h.len, Nat.pow_succ]
    have hv := h.val
    have e : 65536 ^ i * s + 65536 ^ i * c + 65536 ^ i * ys.getD i 0 = 65536 ^ i * xs.getD i 0 + 65536 ^ i * 65536 * c' := by
      rw [Nat.mul_assoc, ← Nat.mul_add, ← Nat.mul_add, ← Nat.mul_add, hs]
    omega
theorem SubS.end_ {m n : Nat} {o : List Nat} {c : Nat} (h : SubS (digs 65536 m) (digs 65536 n) (digs 65536 m).length o c) (hnm : n ≤ m) : trimz o = digs 65536 (m - n) := by
  have hv := h.val
  have hl := digs_length_mono (b := 65536) (by omega) hnm
  rw [List.take_of_length_le (Nat.le_refl _), List.take_of_length_le hl, dval_digs (by omega), dval_digs (by omega)] at hv
  have hlt := dval_lt (b := 65536) (by omega) h.dig
  rw [h.len] at hlt
  have hc := h.c1
  have hc0 : c = 0 := by
    rcases Nat.eq_zero_or_pos c with h0 | h0
    · exact h0
    · have : c = 1 := by omega
      rw [this, Nat.mul_one] at hv; omega
  rw [hc0, Nat.mul_zero] at hv
  rw [← digs_dval_trim (b := 65536) (by omega) h.dig, show dval 65536 o = m - n by omega]

set_option maxHeartbeats 2000000 in
set_option maxRecDepth 20000 in
theorem sadd_any (A B : Option Addr) (la lb ca cb : Nat) (xs ys : List Nat) (w : World) (hx : RdG .i64 w (.slice A la ca) xs) (hy : RdG .i64 w (.slice B lb cb) ys) (hla : la = xs.length) (hlb : lb = ys.length) (hba : la ≤ 1000) (hbb : lb ≤ 1000) (hdx : Dig 65536 xs) (hdy : Dig 65536 ys) :
    Calls Tryz.prog 34 #[.slice A la ca, .slice B lb cb] w (NewI w (digs 65536 (dval 65536 xs + dval 65536 ys))) := by
  obtain ⟨i0, hi, hz0, hz1, hz2⟩ := info_parts infoI
  have HI := hide (And.intro hi (And.intro hz0 (And.intro hz1 hz2)))
  have HX := hide (And.intro hx.at_ hy.at_)
  have HZ := hide (And.intro hla (And.intro hlb (And.intro hdx hdy)))
  clear hi hz0 hz1 hz2 hx hy hla hlb hdx hdy
  go_enter Tryz.func34, Tryz.ntmps34
  go_wp2
  go_loopw [5, 6, 7] (fun l vc vi wr => ∃ (i c : Nat) (o : List Nat) (R : Option Addr) (cl : Nat), i ≤ 1000 ∧ c ≤ 1 ∧ vi = .int .i64 (i : Int) ∧ vc = .int .i64 (c : Int) ∧ l = .slice R i cl ∧ (i ≤ la ∨ i ≤ lb) ∧ Hid (AddS xs ys i o c) ∧ Hid (OwnI wr w.heap.size (.slice R i cl) o) ∧ Hid (Below w.heap.size w wr)) (fun _ _ vi _ => 1000 - (intOf vi).toNat)
  case atStart => exact ⟨0, 0, [], some ⟨w.heap.size, 0, none⟩, 0, by omega, by omega, rfl, rfl, rfl, by omega, AddS.start _ _, OwnG.mk (xs := []) (cur := #[]) (Nat.le_refl _) (Blk.new w _ _) (Nat.le_refl _) (Nat.zero_le _) rfl rfl, (Below.refl _ _).alloc (Nat.le_refl _) _⟩
  case round =>
    obtain ⟨i, c, o, R, cl, hi, hc1, rfl, rfl, rfl, hil, hS, hown, hbel⟩ := hrel
    by_cases hxi : i < la
    · by_cases hyi : i < lb
      · have hi9 : i < 1000 := by omega
        obtain ⟨x, hx⟩ : ∃ x, x = xs.getD i 0 := ⟨_, rfl⟩
        obtain ⟨y, hy⟩ : ∃ y, y = ys.getD i 0 := ⟨_, rfl⟩
        obtain ⟨gx, ox, rfl, hgx, hcx⟩ := HX.out.1 i (by have := HZ.out.1; omega)
        have cx : wr.cell? ⟨gx, ox + i, none⟩ = some (.int .i64 (x : Int)) := by rw [hx]; exact (hbel.out.cell hgx).trans hcx
        obtain ⟨gy, oy, rfl, hgy, hcy⟩ := HX.out.2 i (by have := HZ.out.2.1; omega)
        have cy : wr.cell? ⟨gy, oy + i, none⟩ = some (.int .i64 (y : Int)) := by rw [hy]; exact (hbel.out.cell hgy).trans hcy
        have hxl : x < 65536 := by rw [hx]; exact getD_lt (by omega) HZ.out.2.2.1 i
        have hyl : y < 65536 := by rw [hy]; exact getD_lt (by omega) HZ.out.2.2.2 i
        obtain ⟨s, hs⟩ : ∃ s, s = c + x + y := ⟨_, rfl⟩
        have hst := hS.out.step HZ.out.2.2.1 HZ.out.2.2.2 (s := s) (by rw [hs, hx, hy])
        obtain ⟨d, hd⟩ : ∃ d, d = s % 65536 := ⟨_, rfl⟩
        obtain ⟨c', hc'⟩ : ∃ c', c' = s / 65536 := ⟨_, rfl⟩
        rw [← hd, ← hc'] at hst
        have HST := hide hst
        have HO : Hid (o.length = i) := hS.out.len
        obtain ⟨t, ht⟩ : ∃ t, t = c + x := ⟨_, rfl⟩
        have e1 : (c : Int) + (x : Int) = (t : Int) := by omega
        have e2 : (t : Int) + (y : Int) = (s : Int) := by omega
        have htl : t < 70000 := by omega
        have e3 : (s : Int) % 65536 = (d : Int) := by omega
        have e4 : (s : Int) / 65536 = (c' : Int) := by omega
        have hsl : s < 140000 := by omega
        have hc1' : c' ≤ 1 := by omega
        clear hst hS hx hy hs hd hc' ht hcx hcy
        go_wp2_with (at_builtin; refine wpList_append_own _ rfl (.tmp 41) (.tmp 44) 27 rfl w.heap.size 3 i0 (.int .i64 0) 1 8 Tryz.underlying27 HI.out.1 HI.out.2.1 HI.out.2.2.1 HI.out.2.2.2 rfl (by decide) _ _ _ rfl ((show OwnI wr w.heap.size (.slice R i cl) o from hown.out).alloc _) ⟨wr.heap.size, 0, none⟩ 1 1 [.int .i64 (d : Int)] rfl rfl ?k1c1 ?k1c2 ?k1c3 ?k1c4 ?k1c5 ?_)
        try case k1c1 => exact cell_one_new _ _ _
        case k1c2 => first | (intro u hu; rw [List.mem_singleton.1 hu]; rfl) | rfl
        case k1c3 => have := HO.out; simp only [maxLen]; simp; omega
        case k1c4 => have := HO.out; simp; omega
        case k1c5 => have := hbel.out.size; simp; omega
        intro v' w1 hown' hgrow _
        obtain ⟨R', cl', rfl, hown1⟩ := small_push d HO.out (d : Int) rfl (by simpa using hown')
        have hb1 := hide (below_app hbel.out hbel.out.size _ hgrow (fun j hj => (hown.out.lt hj).1))
        clear hown' hgrow hown hbel HO
        go_wp2
        go_roundw
        case rel => exact ⟨i + 1, c', _, R', cl', by omega, hc1', by go_num, rfl, rfl, by omega, HST, hown1, hb1⟩
        case measure => simp [intOf]; omega
      · have hi9 : i < 1000 := by omega
        obtain ⟨x, hx⟩ : ∃ x, x = xs.getD i 0 := ⟨_, rfl⟩
        obtain ⟨y, hy⟩ : ∃ y, y = ys.getD i 0 := ⟨_, rfl⟩
        obtain ⟨gx, ox, rfl, hgx, hcx⟩ := HX.out.1 i (by have := HZ.out.1; omega)
        have cx : wr.cell? ⟨gx, ox + i, none⟩ = some (.int .i64 (x : Int)) := by rw [hx]; exact (hbel.out.cell hgx).trans hcx
        have hy0 : y = 0 := by rw [hy]; exact getD_out (by have := HZ.out.2.1; omega)
        have hxl : x < 65536 := by rw [hx]; exact getD_lt (by omega) HZ.out.2.2.1 i
        have hyl : y < 65536 := by rw [hy]; exact getD_lt (by omega) HZ.out.2.2.2 i
        obtain ⟨s, hs⟩ : ∃ s, s = c + x + y := ⟨_, rfl⟩
        have hst := hS.out.step HZ.out.2.2.1 HZ.out.2.2.2 (s := s) (by rw [hs, hx, hy])
        obtain ⟨d, hd⟩ : ∃ d, d = s % 65536 := ⟨_, rfl⟩
        obtain ⟨c', hc'⟩ : ∃ c', c' = s / 65536 := ⟨_, rfl⟩
        rw [← hd, ← hc'] at hst
        have HST := hide hst
        have HO : Hid (o.length = i) := hS.out.len
        have e1 : (c : Int) + (x : Int) = (s : Int) := by omega
        have e3 : (s : Int) % 65536 = (d : Int) := by omega
        have e4 : (s : Int) / 65536 = (c' : Int) := by omega
        have hsl : s < 140000 := by omega
        have hc1' : c' ≤ 1 := by omega
        clear hst hS hx hy hs hd hc' hcx hy0
        go_wp2_with (at_builtin; refine wpList_append_own _ rfl (.tmp 41) (.tmp 44) 27 rfl w.heap.size 3 i0 (.int .i64 0) 1 8 Tryz.underlying27 HI.out.1 HI.out.2.1 HI.out.2.2.1 HI.out.2.2.2 rfl (by decide) _ _ _ rfl ((show OwnI wr w.heap.size (.slice R i cl) o from hown.out).alloc _) ⟨wr.heap.size, 0, none⟩ 1 1 [.int .i64 (d : Int)] rfl rfl ?k2c1 ?k2c2 ?k2c3 ?k2c4 ?k2c5 ?_)
        try case k2c1 => exact cell_one_new _ _ _
        case k2c2 => first | (intro u hu; rw [List.mem_singleton.1 hu]; rfl) | rfl
        case k2c3 => have := HO.out; simp only [maxLen]; simp; omega
        case k2c4 => have := HO.out; simp; omega
        case k2c5 => have := hbel.out.size; simp; omega
        intro v' w1 hown' hgrow _
        obtain ⟨R', cl', rfl, hown1⟩ := small_push d HO.out (d : Int) rfl (by simpa using hown')
        have hb1 := hide (below_app hbel.out hbel.out.size _ hgrow (fun j hj => (hown.out.lt hj).1))
        clear hown' hgrow hown hbel HO
        go_wp2
        go_roundw
        case rel => exact ⟨i + 1, c', _, R', cl', by omega, hc1', by go_num, rfl, rfl, by omega, HST, hown1, hb1⟩
        case measure => simp [intOf]; omega
    · by_cases hyi : i < lb
      · have hi9 : i < 1000 := by omega
        obtain ⟨x, hx⟩ : ∃ x, x = xs.getD i 0 := ⟨_, rfl⟩
        obtain ⟨y, hy⟩ : ∃ y, y = ys.getD i 0 := ⟨_, rfl⟩
        have hx0 : x = 0 := by rw [hx]; exact getD_out (by have := HZ.out.1; omega)
        obtain ⟨gy, oy, rfl, hgy, hcy⟩ := HX.out.2 i (by have := HZ.out.2.1; omega)
        have cy : wr.cell? ⟨gy, oy + i, none⟩ = some (.int .i64 (y : Int)) := by rw [hy]; exact (hbel.out.cell hgy).trans hcy
        have hxl : x < 65536 := by rw [hx]; exact getD_lt (by omega) HZ.out.2.2.1 i
        have hyl : y < 65536 := by rw [hy]; exact getD_lt (by omega) HZ.out.2.2.2 i
        obtain ⟨s, hs⟩ : ∃ s, s = c + x + y := ⟨_, rfl⟩
        have hst := hS.out.step HZ.out.2.2.1 HZ.out.2.2.2 (s := s) (by rw [hs, hx, hy])
        obtain ⟨d, hd⟩ : ∃ d, d = s % 65536 := ⟨_, rfl⟩
        obtain ⟨c', hc'⟩ : ∃ c', c' = s / 65536 := ⟨_, rfl⟩
        rw [← hd, ← hc'] at hst
        have HST := hide hst
        have HO : Hid (o.length = i) := hS.out.len
        have e1 : (c : Int) + (y : Int) = (s : Int) := by omega
        have e3 : (s : Int) % 65536 = (d : Int) := by omega
        have e4 : (s : Int) / 65536 = (c' : Int) := by omega
        have hsl : s < 140000 := by omega
        have hc1' : c' ≤ 1 := by omega
        clear hst hS hx hy hs hd hc' hx0 hcy
        go_wp2_with (at_builtin; refine wpList_append_own _ rfl (.tmp 41) (.tmp 44) 27 rfl w.heap.size 3 i0 (.int .i64 0) 1 8 Tryz.underlying27 HI.out.1 HI.out.2.1 HI.out.2.2.1 HI.out.2.2.2 rfl (by decide) _ _ _ rfl ((show OwnI wr w.heap.size (.slice R i cl) o from hown.out).alloc _) ⟨wr.heap.size, 0, none⟩ 1 1 [.int .i64 (d : Int)] rfl rfl ?k3c1 ?k3c2 ?k3c3 ?k3c4 ?k3c5 ?_)
        try case k3c1 => exact cell_one_new _ _ _
        case k3c2 => first | (intro u hu; rw [List.mem_singleton.1 hu]; rfl) | rfl
        case k3c3 => have := HO.out; simp only [maxLen]; simp; omega
        case k3c4 => have := HO.out; simp; omega
        case k3c5 => have := hbel.out.size; simp; omega
        intro v' w1 hown' hgrow _
        obtain ⟨R', cl', rfl, hown1⟩ := small_push d HO.out (d : Int) rfl (by simpa using hown')
        have hb1 := hide (below_app hbel.out hbel.out.size _ hgrow (fun j hj => (hown.out.lt hj).1))
        clear hown' hgrow hown hbel HO
        go_wp2
        go_roundw
        case rel => exact ⟨i + 1, c', _, R', cl', by omega, hc1', by go_num, rfl, rfl, by omega, HST, hown1, hb1⟩
        case measure => simp [intOf]; omega
      · have ht := hS.out.end_ (by have := HZ.out.1; omega) (by have := HZ.out.2.1; omega)
        have HT := hide ht
        have HO : Hid (o.length = i) := hS.out.len
        clear hS ht
        go_wp2_with (at_builtin; refine wpList_append_own _ rfl (.tmp 48) (.tmp 50) 27 rfl w.heap.size 3 i0 (.int .i64 0) 1 8 Tryz.underlying27 HI.out.1 HI.out.2.1 HI.out.2.2.1 HI.out.2.2.2 rfl (by decide) _ _ _ rfl ((show OwnI wr w.heap.size (.slice R i cl) o from hown.out).alloc _) ⟨wr.heap.size, 0, none⟩ 1 1 [.int .i64 (c : Int)] rfl rfl ?k4c1 ?k4c2 ?k4c3 ?k4c4 ?k4c5 ?_)
        try case k4c1 => exact cell_one_new _ _ _
        case k4c2 => first | (intro u hu; rw [List.mem_singleton.1 hu]; rfl) | rfl
        case k4c3 => have := HO.out; simp only [maxLen]; simp; omega
        case k4c4 => have := HO.out; simp; omega
        case k4c5 => have := hbel.out.size; simp; omega
        intro v' w1 hown' hgrow _
        obtain ⟨R', cl', rfl, hown1⟩ := small_push c HO.out (c : Int) rfl (by simpa using hown')
        have hb1 := hide (below_app hbel.out hbel.out.size _ hgrow (fun j hj => (hown.out.lt hj).1))
        have con := trim_any R' cl' (o ++ [c]) w1 (by have := hown1.out.rd; rwa [show (o ++ [c]).length = i + 1 by simp [HO.out]])
        have hl1 : (o ++ [c]).length = i + 1 := by simp [HO.out]
        rw [hl1] at con
        have hfin : NewI w (digs 65536 (dval 65536 xs + dval 65536 ys)) (.returned (.slice R' (trimz (o ++ [c])).length cl')) w1 := by
          rw [HT.out]
          refine ⟨R', cl', rfl, ?_, hb1.out⟩
          have := hown1.out.take (trimz (o ++ [c])).length (trimz_length_le _)
          rw [take_trimz, HT.out] at this
          exact this
        have Con := hide con
        have Fin := hide hfin
        clear hown' hgrow hown hbel HO con hfin hl1 HT hown1
        generalize (trimz (o ++ [c])).length = q at *
        go_wp2_with fail
        refine (Con.out).mono ?_
        rintro e w2 ⟨rfl, rfl⟩
        clear Con
        go_wp2
        go_ret
        exact Fin.out
set_option maxHeartbeats 2000000 in
set_option maxRecDepth 20000 in
theorem ssub_any (A B : Option Addr) (la lb ca cb m n : Nat) (w : World) (hx : RdG .i64 w (.slice A la ca) (digs 65536 m)) (hy : RdG .i64 w (.slice B lb cb) (digs 65536 n)) (hla : la = (digs 65536 m).length) (hlb : lb = (digs 65536 n).length) (hba : la ≤ 1000) (hbb : lb ≤ 1000) (hnm : n ≤ m) :
    Calls Tryz.prog 36 #[.slice A la ca, .slice B lb cb] w (NewI w (digs 65536 (m - n))) := by
  obtain ⟨i0, hi, hz0, hz1, hz2⟩ := info_parts infoI
  have HI := hide (And.intro hi (And.intro hz0 (And.intro hz1 hz2)))
  have HX := hide (And.intro hx.at_ hy.at_)
  have HZ := hide (And.intro hla (And.intro hlb hnm))
  clear hi hz0 hz1 hz2 hx hy hla hlb hnm
  go_enter Tryz.func36, Tryz.ntmps36
  go_wp2
  go_loopw [5, 6, 12] (fun l vc vi wr => ∃ (i c : Nat) (o : List Nat) (R : Option Addr) (cl : Nat), i ≤ la ∧ c ≤ 1 ∧ vi = .int .i64 (i : Int) ∧ vc = .int .i64 (c : Int) ∧ l = .slice R i cl ∧ Hid (SubS (digs 65536 m) (digs 65536 n) i o c) ∧ Hid (OwnI wr w.heap.size (.slice R i cl) o) ∧ Hid (Below w.heap.size w wr)) (fun _ _ vi _ => 1000 - (intOf vi).toNat)
  case atStart => exact ⟨0, 0, [], some ⟨w.heap.size, 0, none⟩, 0, by omega, by omega, rfl, rfl, rfl, SubS.start _ _, OwnG.mk (xs := []) (cur := #[]) (Nat.le_refl _) (Blk.new w _ _) (Nat.le_refl _) (Nat.zero_le _) rfl rfl, (Below.refl _ _).alloc (Nat.le_refl _) _⟩
  case round =>
    obtain ⟨i, c, o, R, cl, hi, hc1, rfl, rfl, rfl, hS, hown, hbel⟩ := hrel
    by_cases hxi : i < la
    · obtain ⟨x, hx⟩ : ∃ x, x = (digs 65536 m).getD i 0 := ⟨_, rfl⟩
      obtain ⟨y, hy⟩ : ∃ y, y = (digs 65536 n).getD i 0 := ⟨_, rfl⟩
      obtain ⟨gx, ox, rfl, hgx, hcx⟩ := HX.out.1 i (by have := HZ.out.1; omega)
      have cx : wr.cell? ⟨gx, ox + i, none⟩ = some (.int .i64 (x : Int)) := by rw [hx]; exact (hbel.out.cell hgx).trans hcx
      have hxl : x < 65536 := by rw [hx]; exact getD_lt (by omega) (dig_digs (by omega) _) i
      have hyl : y < 65536 := by rw [hy]; exact getD_lt (by omega) (dig_digs (by omega) _) i
      clear hcx
      by_cases hyi : i < lb
      · by_cases hneg : x < c + y
        · skip
          obtain ⟨gy, oy, rfl, hgy, hcy⟩ := HX.out.2 i (by have := HZ.out.2.1; omega)
          have cy : wr.cell? ⟨gy, oy + i, none⟩ = some (.int .i64 (y : Int)) := by rw [hy]; exact (hbel.out.cell hgy).trans hcy
          obtain ⟨u, hu⟩ : ∃ u : Int, u = (x : Int) - (c : Int) := ⟨_, rfl⟩
          have e1 : (x : Int) - (c : Int) = u := hu.symm
          have u0 : -1 ≤ u := by omega
          have u1 : u < 65536 := by omega
          obtain ⟨s, hs⟩ : ∃ s, s = x + 65536 - c - y := ⟨_, rfl⟩
          obtain ⟨v, hv⟩ : ∃ v : Int, v = u - (y : Int) := ⟨_, rfl⟩
          have e2 : u - (y : Int) = v := hv.symm
          have v0 : v < 0 := by omega
          have v1 : -70000 ≤ v := by omega
          have e3 : v + 65536 = (s : Int) := by omega
          have hst := hS.out.step (s := s) (c' := 1) (by rw [← hx, ← hy]; omega) (by omega) (by omega)
          have hsl : s < 65536 := by omega
          have HST := hide hst
          have HO : Hid (o.length = i) := hS.out.len
          clear hst hS hx hy hs hneg hv hcy hu
          go_wp2_with (at_builtin; refine wpList_append_own _ rfl (.tmp 34) (.tmp 36) 27 rfl w.heap.size 3 i0 (.int .i64 0) 1 8 Tryz.underlying27 HI.out.1 HI.out.2.1 HI.out.2.2.1 HI.out.2.2.2 rfl (by decide) _ _ _ rfl ((show OwnI wr w.heap.size (.slice R i cl) o from hown.out).alloc _) ⟨wr.heap.size, 0, none⟩ 1 1 [.int .i64 (s : Int)] rfl rfl ?k5c1 ?k5c2 ?k5c3 ?k5c4 ?k5c5 ?_)
          try case k5c1 => exact cell_one_new _ _ _
          case k5c2 => first | (intro u hu; rw [List.mem_singleton.1 hu]; rfl) | rfl
          case k5c3 => have := HO.out; simp only [maxLen]; simp; omega
          case k5c4 => have := HO.out; simp; omega
          case k5c5 => have := hbel.out.size; simp; omega
          intro v' w1 hown' hgrow _
          obtain ⟨R', cl', rfl, hown1⟩ := small_push s HO.out (s : Int) rfl (by simpa using hown')
          have hb1 := hide (below_app hbel.out hbel.out.size _ hgrow (fun j hj => (hown.out.lt hj).1))
          clear hown' hgrow hown hbel HO
          go_wp2
          go_roundw
          case rel => exact ⟨i + 1, 1, _, R', cl', by omega, by omega, by go_num, rfl, rfl, HST, hown1, hb1⟩
          case measure => simp [intOf]; omega
        · skip
          obtain ⟨gy, oy, rfl, hgy, hcy⟩ := HX.out.2 i (by have := HZ.out.2.1; omega)
          have cy : wr.cell? ⟨gy, oy + i, none⟩ = some (.int .i64 (y : Int)) := by rw [hy]; exact (hbel.out.cell hgy).trans hcy
          obtain ⟨u, hu⟩ : ∃ u : Int, u = (x : Int) - (c : Int) := ⟨_, rfl⟩
          have e1 : (x : Int) - (c : Int) = u := hu.symm
          have u0 : -1 ≤ u := by omega
          have u1 : u < 65536 := by omega
          obtain ⟨s, hs⟩ : ∃ s, s = x - c - y := ⟨_, rfl⟩
          have e2 : u - (y : Int) = (s : Int) := by omega
          have s0 : ¬ (s : Int) < 0 := by omega
          have hst := hS.out.step (s := s) (c' := 0) (by rw [← hx, ← hy]; omega) (by omega) (by omega)
          have hsl : s < 65536 := by omega
          have HST := hide hst
          have HO : Hid (o.length = i) := hS.out.len
          clear hst hS hx hy hs hneg hcy hu
          go_wp2_with (at_builtin; refine wpList_append_own _ rfl (.tmp 34) (.tmp 36) 27 rfl w.heap.size 3 i0 (.int .i64 0) 1 8 Tryz.underlying27 HI.out.1 HI.out.2.1 HI.out.2.2.1 HI.out.2.2.2 rfl (by decide) _ _ _ rfl ((show OwnI wr w.heap.size (.slice R i cl) o from hown.out).alloc _) ⟨wr.heap.size, 0, none⟩ 1 1 [.int .i64 (s : Int)] rfl rfl ?k6c1 ?k6c2 ?k6c3 ?k6c4 ?k6c5 ?_)
          try case k6c1 => exact cell_one_new _ _ _
          case k6c2 => first | (intro u hu; rw [List.mem_singleton.1 hu]; rfl) | rfl
          case k6c3 => have := HO.out; simp only [maxLen]; simp; omega
          case k6c4 => have := HO.out; simp; omega
          case k6c5 => have := hbel.out.size; simp; omega
          intro v' w1 hown' hgrow _
          obtain ⟨R', cl', rfl, hown1⟩ := small_push s HO.out (s : Int) rfl (by simpa using hown')
          have hb1 := hide (below_app hbel.out hbel.out.size _ hgrow (fun j hj => (hown.out.lt hj).1))
          clear hown' hgrow hown hbel HO
          go_wp2
          go_roundw
          case rel => exact ⟨i + 1, 0, _, R', cl', by omega, by omega, by go_num, rfl, rfl, HST, hown1, hb1⟩
          case measure => simp [intOf]; omega
      · by_cases hneg : x < c + y
        · skip
          have hy0 : y = 0 := by rw [hy]; exact getD_out (by have := HZ.out.2.1; omega)
          obtain ⟨u, hu⟩ : ∃ u : Int, u = (x : Int) - (c : Int) := ⟨_, rfl⟩
          have e1 : (x : Int) - (c : Int) = u := hu.symm
          have u0 : -1 ≤ u := by omega
          have u1 : u < 65536 := by omega
          obtain ⟨s, hs⟩ : ∃ s, s = x + 65536 - c - y := ⟨_, rfl⟩
          have v0 : u < 0 := by omega
          have e3 : u + 65536 = (s : Int) := by omega
          have hst := hS.out.step (s := s) (c' := 1) (by rw [← hx, ← hy]; omega) (by omega) (by omega)
          have hsl : s < 65536 := by omega
          have HST := hide hst
          have HO : Hid (o.length = i) := hS.out.len
          clear hst hS hx hy hs hneg hy0 hu
          go_wp2_with (at_builtin; refine wpList_append_own _ rfl (.tmp 34) (.tmp 36) 27 rfl w.heap.size 3 i0 (.int .i64 0) 1 8 Tryz.underlying27 HI.out.1 HI.out.2.1 HI.out.2.2.1 HI.out.2.2.2 rfl (by decide) _ _ _ rfl ((show OwnI wr w.heap.size (.slice R i cl) o from hown.out).alloc _) ⟨wr.heap.size, 0, none⟩ 1 1 [.int .i64 (s : Int)] rfl rfl ?k7c1 ?k7c2 ?k7c3 ?k7c4 ?k7c5 ?_)
          try case k7c1 => exact cell_one_new _ _ _
          case k7c2 => first | (intro u hu; rw [List.mem_singleton.1 hu]; rfl) | rfl
          case k7c3 => have := HO.out; simp only [maxLen]; simp; omega
          case k7c4 => have := HO.out; simp; omega
          case k7c5 => have := hbel.out.size; simp; omega
          intro v' w1 hown' hgrow _
          obtain ⟨R', cl', rfl, hown1⟩ := small_push s HO.out (s : Int) rfl (by simpa using hown')
          have hb1 := hide (below_app hbel.out hbel.out.size _ hgrow (fun j hj => (hown.out.lt hj).1))
          clear hown' hgrow hown hbel HO
          go_wp2
          go_roundw
          case rel => exact ⟨i + 1, 1, _, R', cl', by omega, by omega, by go_num, rfl, rfl, HST, hown1, hb1⟩
          case measure => simp [intOf]; omega
        · skip
          have hy0 : y = 0 := by rw [hy]; exact getD_out (by have := HZ.out.2.1; omega)
          obtain ⟨u, hu⟩ : ∃ u : Int, u = (x : Int) - (c : Int) := ⟨_, rfl⟩
          have e1 : (x : Int) - (c : Int) = u := hu.symm
          have u0 : -1 ≤ u := by omega
          have u1 : u < 65536 := by omega
          obtain ⟨s, hs⟩ : ∃ s, s = x - c - y := ⟨_, rfl⟩
          have e2 : u = (s : Int) := by omega
          have s0 : ¬ (s : Int) < 0 := by omega
          have hst := hS.out.step (s := s) (c' := 0) (by rw [← hx, ← hy]; omega) (by omega) (by omega)
          rw [e2] at e1
          have hsl : s < 65536 := by omega
          have HST := hide hst
          have HO : Hid (o.length = i) := hS.out.len
          clear hst hS hx hy hs hneg hy0 hu e2 u0 u1
          go_wp2_with (at_builtin; refine wpList_append_own _ rfl (.tmp 34) (.tmp 36) 27 rfl w.heap.size 3 i0 (.int .i64 0) 1 8 Tryz.underlying27 HI.out.1 HI.out.2.1 HI.out.2.2.1 HI.out.2.2.2 rfl (by decide) _ _ _ rfl ((show OwnI wr w.heap.size (.slice R i cl) o from hown.out).alloc _) ⟨wr.heap.size, 0, none⟩ 1 1 [.int .i64 (s : Int)] rfl rfl ?k8c1 ?k8c2 ?k8c3 ?k8c4 ?k8c5 ?_)
          try case k8c1 => exact cell_one_new _ _ _
          case k8c2 => first | (intro u hu; rw [List.mem_singleton.1 hu]; rfl) | rfl
          case k8c3 => have := HO.out; simp only [maxLen]; simp; omega
          case k8c4 => have := HO.out; simp; omega
          case k8c5 => have := hbel.out.size; simp; omega
          intro v' w1 hown' hgrow _
          obtain ⟨R', cl', rfl, hown1⟩ := small_push s HO.out (s : Int) rfl (by simpa using hown')
          have hb1 := hide (below_app hbel.out hbel.out.size _ hgrow (fun j hj => (hown.out.lt hj).1))
          clear hown' hgrow hown hbel HO
          go_wp2
          go_roundw
          case rel => exact ⟨i + 1, 0, _, R', cl', by omega, by omega, by go_num, rfl, rfl, HST, hown1, hb1⟩
          case measure => simp [intOf]; omega
    · obtain rfl : i = la := by omega
      have ht : trimz o = digs 65536 (m - n) := by
        have h := hS.out
        rw [HZ.out.1] at h
        exact h.end_ HZ.out.2.2
      have HT := hide ht
      have HO : Hid (o.length = i) := hS.out.len
      have con := trim_any R cl o wr (by have := hown.out.rd; rwa [← HO.out] at this)
      rw [HO.out] at con
      have hfin : NewI w (digs 65536 (m - n)) (.returned (.slice R (trimz o).length cl)) wr := by
        rw [ht]
        refine ⟨R, cl, rfl, ?_, hbel.out⟩
        have h1 := hown.out
        have := h1.take (trimz o).length (trimz_length_le _)
        rw [take_trimz, ht] at this
        exact this
      have Con := hide con
      have Fin := hide hfin
      clear hown hbel HO con hfin HT hS ht
      generalize (trimz o).length = q at *
      go_wp2_with fail
      refine (Con.out).mono ?_
      rintro e w2 ⟨rfl, rfl⟩
      clear Con
      go_wp2
      go_ret
      exact Fin.out
end Go.Proofs.YtfkcobdkgjhfaaaGreatDoor
