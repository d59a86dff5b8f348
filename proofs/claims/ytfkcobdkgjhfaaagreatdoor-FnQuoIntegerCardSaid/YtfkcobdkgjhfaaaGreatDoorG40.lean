/- Parts of the proofs: DivB, SpDig, SpMul. -/
import Derived.Laws.OwnMore
import Derived.Test.YtfkcobdkgjhfaaaGreatDoorG2
import Derived.Test.YtfkcobdkgjhfaaaGreatDoorG9
import Derived.Test.YtfkcobdkgjhfaaaGreatDoorG23
/- The division of digits (base b) by a small number, as a plain function. -/
set_option linter.unusedVariables false
set_option linter.unusedSimpArgs false
namespace Go.Proofs.YtfkcobdkgjhfaaaGreatDoor

/-- Quotient's digits (lowest first, as many as there are) and what is left. -/
def divB (b y : Nat) : List Nat → List Nat × Nat
  | [] => ([], 0)
  | x :: xs => let p := divB b y xs; ((p.2 * b + x) / y :: p.1, (p.2 * b + x) % y)

theorem divB_cons (b y x : Nat) (xs : List Nat) : divB b y (x :: xs) = (((divB b y xs).2 * b + x) / y :: (divB b y xs).1, ((divB b y xs).2 * b + x) % y) := rfl
theorem divB_length (b y : Nat) : ∀ xs, (divB b y xs).1.length = xs.length
  | [] => rfl
  | x :: xs => by simp [divB, divB_length b y xs]
theorem divB_rest (b : Nat) {y : Nat} (hy : 0 < y) : ∀ xs, (divB b y xs).2 < y
  | [] => hy
  | x :: xs => Nat.mod_lt _ hy
theorem divB_dig {b y : Nat} (hy : 0 < y) : ∀ xs, Dig b xs → Dig b (divB b y xs).1
  | [], _ => fun d hd => by simp [divB] at hd
  | x :: xs, h => by
    intro d hd
    simp only [divB, List.mem_cons] at hd
    rcases hd with rfl | hd
    · have h1 := divB_rest b hy xs
      have h2 : x < b := h x (by simp)
      rw [Nat.div_lt_iff_lt_mul hy]
      have h3 : ((divB b y xs).2 + 1) * b ≤ y * b := Nat.mul_le_mul_right _ h1
      rw [Nat.add_mul] at h3
      rw [Nat.mul_comm b y]
      omega
    · exact divB_dig hy xs (fun e he => h e (by simp [he])) d hd
theorem divB_val (b y : Nat) : ∀ xs, dval b xs = y * dval b (divB b y xs).1 + (divB b y xs).2
  | [] => by simp [dval, divB]
  | x :: xs => by
    have h1 := divB_val b y xs
    have h2 := Nat.div_add_mod ((divB b y xs).2 * b + x) y
    simp only [divB, dval]
    rw [h1]
    generalize (divB b y xs).1 = q at *
    generalize (divB b y xs).2 = r at *
    generalize hA : (r * b + x) / y = a at *
    generalize hB : (r * b + x) % y = c at *
    have e : y * (a + b * dval b q) = y * a + b * (y * dval b q) := by
      rw [Nat.mul_add, Nat.mul_left_comm]
    have e2 : b * (y * dval b q + r) = b * (y * dval b q) + r * b := by rw [Nat.mul_add, Nat.mul_comm b r]
    omega
theorem divB_quo {b y : Nat} (hy : 0 < y) (xs : List Nat) : dval b (divB b y xs).1 = dval b xs / y ∧ (divB b y xs).2 = dval b xs % y :=
  dww_fix hy (divB_val b y xs) (divB_rest b hy xs)
theorem divB_digs {b y : Nat} (hb : 1 < b) (hy : 0 < y) {xs : List Nat} (h : Dig b xs) : trimz (divB b y xs).1 = digs b (dval b xs / y) := by
  rw [← (divB_quo hy xs).1, digs_dval_trim hb (divB_dig hy xs h)]
end Go.Proofs.YtfkcobdkgjhfaaaGreatDoor

/- Walks: the reference's byDigit. -/
set_option linter.unusedVariables false
set_option linter.unusedSimpArgs false
namespace Go.Proofs.YtfkcobdkgjhfaaaGreatDoor
open Go.RowKit

theorem mk_nat (n : Nat) (hc : n ≤ 2199023255552) (w : World) :
    (Instr.makeSlice 27 (.int .i64 (n : Int)) (.int .i64 (n : Int))).run Tryz.prog w = .ok (.slice (some ⟨w.heap.size, 0, none⟩) n n) (w.alloc (.cells (madeCells #[.int .i64 0] n) 3)) := by
  obtain ⟨i0, hi, hz0, hz1, hz2⟩ := info_parts infoI
  have := run_make (P := Tryz.prog) w 27 3 i0 (.int .i64 0) Tryz.underlying27 hi hz0 .i64 .i64 n n (by omega) (by omega) (by rw [hz2]; omega) (by omega)
  rw [hz1, Nat.mul_one] at this
  exact this

/-- What a round holds: out's cells from k on are the quotient's. -/
structure ByS (w : World) (g n k d : Nat) (xs : List Nat) (r : Nat) (W : World) : Prop where
  rest : r = (divB 65536 d (xs.drop k)).2
  blk : ∃ cur, Blk W g 3 cur ∧ cur.size = n ∧ (cur.toList.take n).drop k = gv .i64 (divB 65536 d (xs.drop k)).1
  bel : Below w.heap.size w W

theorem ByS.step {w W : World} {g n k d : Nat} {xs : List Nat} {r q r' : Nat} (h : ByS w g n (k + 1) d xs r W) (hg : w.heap.size ≤ g) (hn : n = xs.length) (hk : k < n)
    (hq : q = (r * 65536 + xs.getD k 0) / d ∧ r' = (r * 65536 + xs.getD k 0) % d) :
    (∃ u, W.cell? ⟨g, k, none⟩ = some u) ∧ W.frozen? ⟨g, k, none⟩ = false ∧ ByS w g n k d xs r' (W.setCell ⟨g, k, none⟩ (.int .i64 (q : Int))) := by
  obtain ⟨cur, hB, hs, hd⟩ := h.blk
  have hdrop : xs.drop k = xs.getD k 0 :: xs.drop (k + 1) := by
    rw [getD_at (by omega)]
    exact List.drop_eq_getElem_cons (by omega)
  have e1 : divB 65536 d (xs.drop k) = (q :: (divB 65536 d (xs.drop (k + 1))).1, r') := by
    rw [hdrop, divB_cons, ← h.rest, hq.1, hq.2]
  refine ⟨⟨_, (hB.cell k).trans (Array.getElem?_eq_getElem (by omega))⟩, hB.frozen k, ⟨by rw [e1], ⟨_, hB.set k _, by simpa using hs, ?_⟩, ?_⟩⟩
  · rw [e1]
    simp only [Array.toList_setIfInBounds]
    have hl : k < (cur.toList.take n).length := by simp; omega
    rw [List.take_set, List.drop_eq_getElem_cons (by simpa using hl), List.getElem_set_self, List.drop_set_of_lt (by omega), hd]
    rfl
  · exact ((Fr.of_below h.bel (fun _ => False)).step (S' := fun k => k = g) ((Fr.refl W (fun k => k = g)).setCell (p := ⟨g, k, none⟩) (fun _ => rfl) _) (fun i hi e => absurd hi (by omega))).below (Nat.le_refl _) (fun _ h => h.elim)

/-- Behind byDigit. -/
def ByP (w : World) (d : Nat) (xs : List Nat) (e : Ending) (w' : World) : Prop :=
  ∃ (B : Option Addr) (c : Nat), e = .returned (.tuple #[.slice B (digs 65536 (dval 65536 xs / d)).length c, .int .i64 ((dval 65536 xs % d : Nat) : Int)]) ∧ OwnI w' w.heap.size (.slice B (digs 65536 (dval 65536 xs / d)).length c) (digs 65536 (dval 65536 xs / d)) ∧ Below w.heap.size w w'

set_option maxHeartbeats 1000000 in
theorem byDigit_any (A : Option Addr) (n c d : Nat) (xs : List Nat) (w : World) (hx : RdG .i64 w (.slice A n c) xs) (hn : n = xs.length) (hnb : n ≤ 1099511627776) (hd0 : 0 < d) (hd : d < 65536) (hdg : Dig 65536 xs) :
    Calls Tryz.prog 39 #[.slice A n c, .int .i64 (d : Int)] w (ByP w d xs) := by
  have hmk := mk_nat n (by omega)
  have hst : ByS w w.heap.size n n d xs 0 (w.alloc (.cells (madeCells #[.int .i64 0] n) 3)) := by
    refine ⟨by rw [hn, List.drop_length]; rfl, ⟨_, Blk.new w _ _, size_madeCells _ _, ?_⟩, (Below.refl _ _).alloc (Nat.le_refl _) _⟩
    rw [hn, List.drop_length]
    simp [divB, gv]
  have d0 : 0 < (d : Int) := by omega
  have dn : (d : Int) ≠ 0 := by omega
  have HS := hide hst
  have HX := hide hx.at_
  have HN := hide hn
  have HD := hide hdg
  clear hst hx hn hdg
  go_enter Tryz.func39, Tryz.ntmps39
  go_wp2
  obtain ⟨W0, hW0⟩ : ∃ W0, W0 = w.alloc (.cells (madeCells #[.int .i64 0] n) 3) := ⟨_, rfl⟩
  go_loopw [7, 8] (fun vr vi wr => ∃ (k r : Nat), k ≤ n ∧ vi = .int .i64 ((k : Int) - 1) ∧ vr = .int .i64 (r : Int) ∧ Hid (ByS w w.heap.size n k d xs r wr)) (fun _ vi _ => (intOf vi + 1).toNat)
  case atStart => exact ⟨n, 0, Nat.le_refl _, by go_num, rfl, HS⟩
  case round =>
    obtain ⟨k, r, hk, rfl, rfl, HR⟩ := hrel
    rcases Nat.eq_zero_or_pos k with rfl | hp
    · have hl : (divB 65536 d xs).1.length = n := by rw [divB_length, HN.out]
      have hr : r = (divB 65536 d xs).2 := by have := HR.out.rest; rwa [List.drop_zero] at this
      have hown : OwnI wr w.heap.size (.slice (some ⟨w.heap.size, 0, none⟩) n n) (divB 65536 d xs).1 := by
        obtain ⟨cu, h2, h3, h4⟩ := HR.out.blk
        rw [List.drop_zero] at h4
        rw [List.drop_zero] at h4
        have := OwnG.mk (xs := (divB 65536 d xs).1) (k := .i64) (Nat.le_refl _) h2 (by omega) (by unfold maxLen; omega) h3 (by rw [hl]; exact h4)
        rwa [hl] at this
      have hq := divB_quo (b := 65536) hd0 xs
      have ht := divB_digs (b := 65536) (by omega) hd0 HD.out
      have con := trim_any (some ⟨w.heap.size, 0, none⟩) n (divB 65536 d xs).1 wr (by rw [hl]; exact hown.rd)
      rw [hl] at con
      have Con := hide con
      have fin : ByP w d xs (.returned (.tuple #[.slice (some ⟨w.heap.size, 0, none⟩) (trimz (divB 65536 d xs).1).length n, .int .i64 (r : Int)])) wr := by
        rw [ht, hr, hq.2]
        refine ⟨_, _, rfl, ?_, HR.out.bel⟩
        have := hown.take (trimz (divB 65536 d xs).1).length (by have := trimz_length_le (divB 65536 d xs).1; omega)
        rw [take_trimz, ht] at this
        exact this
      have Fin := hide fin
      clear fin con hown hq ht hl hr HR HS
      generalize (trimz (divB 65536 d xs).1).length = m at Con Fin
      go_wp2_with fail
      refine (Con.out).mono ?_
      rintro e w1 ⟨rfl, rfl⟩
      clear Con
      go_wp2
      go_ret2
      exact Fin.out
    · obtain ⟨j, rfl⟩ : ∃ j, k = j + 1 := ⟨k - 1, by omega⟩
      obtain ⟨gx, o, rfl, hgx, hcell⟩ := HX.out j (by have := HN.out; omega)
      have hcw : wr.cell? ⟨gx, o + j, none⟩ = some (.int .i64 (xs.getD j 0 : Nat)) := (HR.out.bel.cell hgx).trans hcell
      have hxl : xs.getD j 0 < 65536 := HD.out _ (by rw [getD_at (by have := HN.out; omega)]; exact List.getElem_mem _)
      have e1 : ((j + 1 : Nat) : Int) - 1 = (j : Int) := by omega
      have hrl : r < d := by rw [HR.out.rest]; exact divB_rest _ hd0 _
      obtain ⟨⟨u, k1⟩, k2, HT⟩ := HR.out.step (q := (r * 65536 + xs.getD j 0) / d) (r' := (r * 65536 + xs.getD j 0) % d) (Nat.le_refl _) HN.out (by omega) ⟨rfl, rfl⟩
      have HT2 := hide HT
      clear hcell HT HR HS
      generalize xs.getD j 0 = x at hcw hxl HT2
      have e2 : ((r * 65536 + x : Nat) : Int) = (r : Int) * 65536 + (x : Int) := by omega
      rw [Int.natCast_ediv, e2] at HT2
      go_wp2
      go_roundw
      case rel => exact ⟨j, (r * 65536 + x) % d, by omega, rfl, by rw [Int.natCast_emod, e2], HT2⟩
      case measure => simp [intOf]
end Go.Proofs.YtfkcobdkgjhfaaaGreatDoor

/- Walks: the reference's Mul. -/
set_option linter.unusedVariables false
set_option linter.unusedSimpArgs false
namespace Go.Proofs.YtfkcobdkgjhfaaaGreatDoor
open Go.RowKit

theorem Blk.partI {w : World} {g : Nat} {t : TypeId} {P S : List Value} {a : Value} {i : Nat} (h : Blk w g t (P ++ a :: S).toArray) (hi : i = P.length) : w.cell? ⟨g, i, none⟩ = some a ∧ w.frozen? ⟨g, i, none⟩ = false ∧ ∀ v, Blk (w.setCell ⟨g, i, none⟩ v) g t (P ++ v :: S).toArray := by
  subst hi
  refine ⟨?_, h.frozen _, fun v => ?_⟩
  · rw [h.cell]; simp
  · have := h.set P.length v
    rw [List.setIfInBounds_toArray, set_window] at this
    exact this
theorem gv_append (k : IntKind) (xs ys : List Nat) : gv k (xs ++ ys) = gv k xs ++ gv k ys := by simp [gv]
theorem gv_cons (k : IntKind) (x : Nat) (ys : List Nat) : gv k (x :: ys) = Value.int k (x : Int) :: gv k ys := rfl
theorem take_snocI {xs : List Nat} {k : Nat} (h : k < xs.length) : xs.take (k + 1) = xs.take k ++ [xs.getD k 0] := by
  rw [List.take_succ_eq_append_getElem h, getD_at h]
theorem drop_getI {xs : List Nat} {k : Nat} (h : k < xs.length) : xs.drop k = xs.getD k 0 :: xs.drop (k + 1) := by
  rw [getD_at h]; exact List.drop_eq_getElem_cons h

/-- The inner loop's rounds. -/
structure AmI (w : World) (g d k : Nat) (P S : List Value) (zs xs : List Nat) (c : Nat) (W : World) : Prop where
  carry : c = (amul 65536 d (zs.take k) (xs.take k) 0).2
  blk : Blk W g 3 (P ++ gv .i64 (amul 65536 d (zs.take k) (xs.take k) 0).1 ++ gv .i64 (zs.drop k) ++ S).toArray
  bel : Below w.heap.size w W

theorem AmI.step {w : World} {g d k o : Nat} {P S : List Value} {zs xs : List Nat} {c : Nat} {W : World} (h : AmI w g d k P S zs xs c W) (hg : w.heap.size ≤ g) (ho : o = P.length) (hz : zs.length = xs.length) (hk : k < xs.length) :
    W.cell? ⟨g, o + k, none⟩ = some (.int .i64 (zs.getD k 0 : Nat)) ∧ W.frozen? ⟨g, o + k, none⟩ = false ∧
      ∀ v c', v = (zs.getD k 0 + xs.getD k 0 * d + c) % 65536 ∧ c' = (zs.getD k 0 + xs.getD k 0 * d + c) / 65536 → AmI w g d (k + 1) P S zs xs c' (W.setCell ⟨g, o + k, none⟩ (.int .i64 (v : Int))) := by
  have hl : (zs.take k).length = (xs.take k).length := by simp [List.length_take, hz]
  have hB := h.blk
  rw [drop_getI (by omega : k < zs.length), gv_cons, List.append_assoc, List.cons_append] at hB
  obtain ⟨h1, h2, h3⟩ := hB.partI (i := o + k) (by rw [List.length_append, gv_length, amul_length _ _ _ hl, List.length_take, ho]; omega)
  refine ⟨h1, h2, fun v c' hvc => ?_⟩
  obtain ⟨rfl, rfl⟩ := hvc
  have e := amul_snoc 65536 d (zs.getD k 0) (xs.getD k 0) (zs := zs.take k) (xs := xs.take k) 0 hl
  rw [← h.carry] at e
  refine ⟨?_, ?_, ((Fr.of_below h.bel (fun _ => False)).step (S' := fun k => k = g) ((Fr.refl W (fun k => k = g)).setCell (p := ⟨g, o + k, none⟩) (fun _ => rfl) _) (fun i hi e => absurd hi (by omega))).below (Nat.le_refl _) (fun _ h => h.elim)⟩
  · rw [take_snocI hk, take_snocI (by omega : k < zs.length), e]
  · rw [take_snocI hk, take_snocI (by omega : k < zs.length), e]
    have := h3 (.int .i64 (((zs.getD k 0 + xs.getD k 0 * d + c) % 65536 : Nat) : Int))
    rw [gv_append, ← List.append_assoc]
    simpa [gv, List.append_assoc] using this

/-- The outer loop's rounds: ys times xs' first i digits. -/
structure SmS (w : World) (g i lx : Nat) (xs ys : List Nat) (W : World) : Prop where
  row : ∃ R, R.length = ys.length + i ∧ Dig 65536 R ∧ dval 65536 R = dval 65536 ys * dval 65536 (xs.take i) ∧ Blk W g 3 (gv .i64 R ++ gv .i64 (List.replicate (lx - i) 0)).toArray
  bel : Below w.heap.size w W

theorem SmS.win {w W : World} {g i lx ly d : Nat} {xs ys : List Nat} (h : SmS w g i lx xs ys W) (hg : w.heap.size ≤ g) (hlx : lx = xs.length) (hly : ly = ys.length) (hi : i < lx) (hd : xs.getD i 0 = d) (hdl : d < 65536) (hdy : Dig 65536 ys) :
    ∃ (P S2 : List Value) (zs : List Nat), P.length = i ∧ zs.length = ys.length ∧ Dig 65536 zs ∧ AmI w g d 0 P S2 zs ys 0 W ∧
      ∀ W1 q, AmI w g d ly P S2 zs ys q W1 →
        (∃ u, W1.cell? ⟨g, i + ly, none⟩ = some u) ∧ W1.frozen? ⟨g, i + ly, none⟩ = false ∧ SmS w g (i + 1) lx xs ys (W1.setCell ⟨g, i + ly, none⟩ (.int .i64 (q : Int))) := by
  obtain ⟨R, h1, h2, h3, h4⟩ := h.row
  obtain ⟨s1, s2, s3⟩ := school_step (b := 65536) (by omega) hdy hdl h2 h1 h3 (by omega) hd
  have hdl2 : (R.drop i).length = ys.length := by rw [List.length_drop]; omega
  refine ⟨gv .i64 (R.take i), gv .i64 (List.replicate (lx - i) 0), R.drop i, by rw [gv_length, List.length_take]; omega, hdl2, fun e he => h2 e (List.mem_of_mem_drop he), ⟨rfl, ?_, h.bel⟩, ?_⟩
  · have : gv .i64 (R.take i) ++ gv .i64 (R.drop i) = gv .i64 R := by rw [← gv_append, List.take_append_drop]
    simp only [List.take_zero, amul, gv, List.map_nil, List.append_nil, List.drop_zero]
    have e : List.map (fun (d : Nat) => Value.int .i64 (d : Int)) (R.take i) ++ List.map (fun (d : Nat) => Value.int .i64 (d : Int)) (R.drop i) = gv .i64 R := this
    rw [e]
    exact h4
  · intro W1 q hA
    have hq := hA.carry
    have hB := hA.blk
    have e1 : (R.drop i).take ly = R.drop i := List.take_of_length_le (by omega)
    have e2 : ys.take ly = ys := List.take_of_length_le (by omega)
    have e3 : (R.drop i).drop ly = [] := List.drop_of_length_le (by omega)
    rw [e1, e2] at hq hB
    rw [e3, show lx - i = (lx - (i + 1)) + 1 by omega, List.replicate_succ, gv_cons] at hB
    have hB2 : Blk W1 g 3 ((gv .i64 (R.take i) ++ gv .i64 (amul 65536 d (R.drop i) ys 0).1) ++ Value.int .i64 ((0 : Nat) : Int) :: gv .i64 (List.replicate (lx - (i + 1)) 0)).toArray := by
      simpa [gv, List.append_assoc] using hB
    obtain ⟨p1, p2, p3⟩ := hB2.partI (i := i + ly) (by rw [List.length_append, gv_length, gv_length, amul_length _ _ _ hdl2, List.length_take]; omega)
    refine ⟨⟨_, p1⟩, p2, ⟨_, s1, s2, s3, ?_⟩, ((Fr.of_below hA.bel (fun _ => False)).step (S' := fun k => k = g) ((Fr.refl W1 (fun k => k = g)).setCell (p := ⟨g, i + ly, none⟩) (fun _ => rfl) _) (fun i hi e => absurd hi (by omega))).below (Nat.le_refl _) (fun _ h => h.elim)⟩
    have := p3 (.int .i64 (q : Int))
    rw [hq] at this ⊢
    rw [gv_append, gv_append]
    simpa [gv, List.append_assoc] using this

set_option maxHeartbeats 1000000 in
theorem smul_any (A B : Option Addr) (lx ly ca cb : Nat) (xs ys : List Nat) (w : World) (hx : RdG .i64 w (.slice A lx ca) xs) (hy : RdG .i64 w (.slice B ly cb) ys) (hlx : lx = xs.length) (hly : ly = ys.length) (hxb : lx ≤ 1048576) (hyb : ly ≤ 1048576) (hdx : Dig 65536 xs) (hdy : Dig 65536 ys) :
    Calls Tryz.prog 59 #[.slice A lx ca, .slice B ly cb] w (NewI w (digs 65536 (dval 65536 xs * dval 65536 ys))) := by
  have hmk : ∀ W : World, (Instr.makeSlice 27 (.int .i64 ((lx : Int) + (ly : Int))) (.int .i64 ((lx : Int) + (ly : Int)))).run Tryz.prog W = .ok (.slice (some ⟨W.heap.size, 0, none⟩) (lx + ly) (lx + ly)) (W.alloc (.cells (madeCells #[.int .i64 0] (lx + ly)) 3)) := fun W => by
    have := mk_nat (lx + ly) (by omega) W
    rwa [Int.natCast_add] at this
  have hst : SmS w w.heap.size 0 lx xs ys (w.alloc (.cells (madeCells #[.int .i64 0] (lx + ly)) 3)) := by
    refine ⟨⟨List.replicate ly 0, by simp [hly], fun e he => by rw [List.eq_of_mem_replicate he]; omega, by rw [dval_replicate_zero]; simp [dval], ?_⟩, (Below.refl _ _).alloc (Nat.le_refl _) _⟩
    have e : madeCells #[Value.int .i64 0] (lx + ly) = (gv .i64 (List.replicate ly 0) ++ gv .i64 (List.replicate (lx - 0) 0)).toArray := by
      apply Array.ext'
      rw [toList_madeCells_one, ← gv_append, List.replicate_append_replicate]
      simp [gv, Nat.add_comm]
    rw [e]
    exact Blk.new w _ _
  have HS := hide hst
  have HX := hide (And.intro hx.at_ hy.at_)
  have HN := hide (And.intro hlx (And.intro hly (And.intro hdx hdy)))
  clear hst hx hy hlx hly hdx hdy
  go_enter Tryz.func59, Tryz.ntmps59
  go_wp2
  go_loopw [19] (fun vi wr => ∃ i : Nat, i ≤ lx ∧ vi = .int .i64 (i : Int) ∧ Hid (SmS w w.heap.size i lx xs ys wr)) (fun vi _ => lx - (intOf vi).toNat)
  case atStart => exact ⟨0, Nat.zero_le _, by go_num, HS⟩
  case round =>
    obtain ⟨i, hi, rfl, HR⟩ := hrel
    by_cases hlt : i < lx
    · obtain ⟨gx, ox, rfl, hgx, hcell⟩ := HX.out.1 i (by have := HN.out.1; omega)
      have hcx : wr.cell? ⟨gx, ox + i, none⟩ = some (.int .i64 (xs.getD i 0 : Nat)) := (HR.out.bel.cell hgx).trans hcell
      have hxl : xs.getD i 0 < 65536 := HN.out.2.2.1 _ (by rw [getD_at (by have := HN.out.1; omega)]; exact List.getElem_mem _)
      obtain ⟨P, S2, zs, hP, hzl, hzd, hA0, hend⟩ := HR.out.win (Nat.le_refl _) HN.out.1 HN.out.2.1 hlt rfl hxl HN.out.2.2.2
      have HA0 := hide hA0
      have HE := hide hend
      have HP := hide (And.intro hP (And.intro hzl hzd))
      clear hcell HS HR hA0 hend hP hzl hzd
      generalize xs.getD i 0 = x at *
      obtain ⟨wo, rfl⟩ : ∃ wo : World, wo = wr := ⟨_, rfl⟩
      go_wp2
      go_loopw [8, 26] (fun vc vk wi => ∃ (k c : Nat), k ≤ ly ∧ vk = .int .i64 (k : Int) ∧ vc = .int .i64 (c : Int) ∧ c < 65536 ∧ Hid (AmI w w.heap.size x k P S2 zs ys c wi)) (fun _ vk _ => ly - (intOf vk).toNat)
      case atStart => exact ⟨0, 0, Nat.zero_le _, by go_num, rfl, by omega, HA0⟩
      case round =>
        obtain ⟨k, c, hk, rfl, rfl, hc, HA⟩ := hrel
        by_cases hlk : k < ly
        · obtain ⟨gy, oy, rfl, hgy, hcelly⟩ := HX.out.2 k (by have := HN.out.2.1; omega)
          have hcy : wr.cell? ⟨gy, oy + k, none⟩ = some (.int .i64 (ys.getD k 0 : Nat)) := (HA.out.bel.cell hgy).trans hcelly
          have hyl : ys.getD k 0 < 65536 := HN.out.2.2.2 _ (by rw [getD_at (by have := HN.out.2.1; omega)]; exact List.getElem_mem _)
          have hzl : zs.getD k 0 < 65536 := HP.out.2.2 _ (by rw [getD_at (by have := HP.out.2.1; have := HN.out.2.1; omega)]; exact List.getElem_mem _)
          obtain ⟨hcz, hfz, hst⟩ := HA.out.step (o := i) (Nat.le_refl _) HP.out.1.symm HP.out.2.1 (by have := HN.out.2.1; omega)
          have HST := hide hst
          clear hcelly hst HA0 HA HE hcx
          generalize ys.getD k 0 = y at hcy hyl HST
          generalize zs.getD k 0 = z at hcz hzl HST
          obtain ⟨p, hp⟩ : ∃ p, p = y * x := ⟨_, rfl⟩
          have hpl : p ≤ 65535 * 65535 := by rw [hp]; exact Nat.mul_le_mul (by omega) (by omega)
          have hxy : (x : Int) * (y : Int) = (p : Int) := by rw [hp, Nat.mul_comm y x, Int.natCast_mul]
          rw [← hp] at HST
          have HT2 := hide (HST.out ((z + p + c) % 65536) ((z + p + c) / 65536) ⟨rfl, rfl⟩)
          have e2 : ((z + p + c : Nat) : Int) = (c : Int) + ((z : Int) + (p : Int)) := by omega
          rw [Int.natCast_emod, e2] at HT2
          have hc2 : (z + p + c) / 65536 < 65536 := by omega
          clear HST hp
          go_wp2
          go_roundw
          case rel => exact ⟨k + 1, (z + p + c) / 65536, by omega, by go_num, by rw [Int.natCast_ediv, e2]; rfl, hc2, HT2⟩
          case measure => simp [intOf]; omega
        · obtain rfl : k = ly := by omega
          obtain ⟨⟨u, k1⟩, k2, hN⟩ := HE.out wr c HA.out
          have HN2 := hide hN
          clear HA0 HA HE hN hcx
          go_wp2
          go_roundw
          case rel => exact ⟨i + 1, by omega, by go_num, HN2⟩
          case measure => simp [intOf]; omega
    · obtain rfl : i = lx := by omega
      obtain ⟨R, h1, h2, h3, h4⟩ := HR.out.row
      have hl : R.length = i + ly := by have := HN.out.2.1; omega
      rw [HN.out.1, List.take_of_length_le (Nat.le_refl _), Nat.mul_comm] at h3
      have hB : Blk wr w.heap.size 3 (gv .i64 R).toArray := by simpa [gv] using h4
      have hown : OwnI wr w.heap.size (.slice (some ⟨w.heap.size, 0, none⟩) R.length (i + ly)) R :=
        OwnG.mk (Nat.le_refl _) hB (by omega) (by unfold maxLen; omega) (by simp [gv_length, hl]) (by simp [← gv_length .i64 R])
      have ht : trimz R = digs 65536 (dval 65536 xs * dval 65536 ys) := by rw [← digs_dval_trim (b := 65536) (by omega) h2, h3]
      have con := trim_any (some ⟨w.heap.size, 0, none⟩) (i + ly) R wr hown.rd
      rw [hl] at con
      have Con := hide con
      have fin : NewI w (digs 65536 (dval 65536 xs * dval 65536 ys)) (.returned (.slice (some ⟨w.heap.size, 0, none⟩) (trimz R).length (i + ly))) wr := by
        have := hown.take (trimz R).length (trimz_length_le R)
        rw [take_trimz] at this
        rw [ht] at this ⊢
        exact ⟨_, _, rfl, this, HR.out.bel⟩
      have Fin := hide fin
      clear con fin hown hB h1 h2 h3 h4 hl ht HR HS
      generalize (trimz R).length = m at Con Fin
      go_wp2_with fail
      refine (Con.out).mono ?_
      rintro e w1 ⟨rfl, rfl⟩
      clear Con
      go_wp2
      go_ret
      exact Fin.out
end Go.Proofs.YtfkcobdkgjhfaaaGreatDoor
