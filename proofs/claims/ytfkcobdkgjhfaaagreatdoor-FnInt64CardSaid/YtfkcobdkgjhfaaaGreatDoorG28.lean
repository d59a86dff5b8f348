/- Parts of the proofs: DivB, SpDig, SpTxt, LaidV, LaidL. -/
import Derived.WalkLawsBesides
import Derived.LaidMore
import Derived.Test.YtfkcobdkgjhfaaaGreatDoorG2
import Derived.Test.YtfkcobdkgjhfaaaGreatDoorG12
import Derived.Test.YtfkcobdkgjhfaaaGreatDoorG19
import Derived.Test.YtfkcobdkgjhfaaaGreatDoorG21
import Derived.Test.YtfkcobdkgjhfaaaGreatDoorG23
import Derived.Test.YtfkcobdkgjhfaaaGreatDoorG24
/- The division of digits (base b) by a small number, as a plain function. -/
set_option linter.unusedVariables false
set_option linter.unusedSimpArgs false
namespace Go.Proofs.YtfkcobdkgjhfaaaGreatDoor

/-- Quotient's digits (lowest first, as many as there are) and what is left. -/
def divB (b y : Nat) : List Nat → List Nat × Nat
  | [] => ([], 0)
  | x :: xs => let p := divB b y xs; ((p.2 * b + x) / y :: p.1, (p.2 * b + x) % y)

theorem divB_cons (b y x : Nat) (xs : List Nat) : divB b y (x :: xs) = (((divB b y xs).2 * b + x) / y :: (divB b y xs).1, ((divB b y xs).2 * b + x) % y) := rfl
theorem divB_length (b y : Nat) : ∀ xs, (divB b y xs).1.length = xs.length
  | [] => rfl
  | x :: xs => by simp [divB, divB_length b y xs]
theorem divB_rest (b : Nat) {y : Nat} (hy : 0 < y) : ∀ xs, (divB b y xs).2 < y
  | [] => hy
  | x :: xs => Nat.mod_lt _ hy
theorem divB_dig {b y : Nat} (hy : 0 < y) : ∀ xs, Dig b xs → Dig b (divB b y xs).1
  | [], _ => fun d hd => by simp [divB] at hd
  | x :: xs, h => by
    intro d hd
    simp only [divB, List.mem_cons] at hd
    rcases hd with rfl | hd
    · have h1 := divB_rest b hy xs
      have h2 : x < b := h x (by simp)
      rw [Nat.div_lt_iff_lt_mul hy]
      have h3 : ((divB b y xs).2 + 1) * b ≤ y * b := Nat.mul_le_mul_right _ h1
      rw [Nat.add_mul] at h3
      rw [Nat.mul_comm b y]
      omega
    · exact divB_dig hy xs (fun e he => h e (by simp [he])) d hd
theorem divB_val (b y : Nat) : ∀ xs, dval b xs = y * dval b (divB b y xs).1 + (divB b y xs).2
  | [] => by simp [dval, divB]
  | x :: xs => by
    have h1 := divB_val b y xs
    have h2 := Nat.div_add_mod ((divB b y xs).2 * b + x) y
    simp only [divB, dval]
    rw [h1]
    generalize (divB b y xs).1 = q at *
    generalize (divB b y xs).2 = r at *
    generalize hA : (r * b + x) / y = a at *
    generalize hB : (r * b + x) % y = c at *
    have e : y * (a + b * dval b q) = y * a + b * (y * dval b q) := by
      rw [Nat.mul_add, Nat.mul_left_comm]
    have e2 : b * (y * dval b q + r) = b * (y * dval b q) + r * b := by rw [Nat.mul_add, Nat.mul_comm b r]
    omega
theorem divB_quo {b y : Nat} (hy : 0 < y) (xs : List Nat) : dval b (divB b y xs).1 = dval b xs / y ∧ (divB b y xs).2 = dval b xs % y :=
  dww_fix hy (divB_val b y xs) (divB_rest b hy xs)
theorem divB_digs {b y : Nat} (hb : 1 < b) (hy : 0 < y) {xs : List Nat} (h : Dig b xs) : trimz (divB b y xs).1 = digs b (dval b xs / y) := by
  rw [← (divB_quo hy xs).1, digs_dval_trim hb (divB_dig hy xs h)]
end Go.Proofs.YtfkcobdkgjhfaaaGreatDoor

/- Walks: the reference's byDigit. -/
set_option linter.unusedVariables false
set_option linter.unusedSimpArgs false
namespace Go.Proofs.YtfkcobdkgjhfaaaGreatDoor
open Go.RowKit

theorem mk_nat (n : Nat) (hc : n ≤ 2199023255552) (w : World) :
    (Instr.makeSlice 27 (.int .i64 (n : Int)) (.int .i64 (n : Int))).run Tryz.prog w = .ok (.slice (some ⟨w.heap.size, 0, none⟩) n n) (w.alloc (.cells (madeCells #[.int .i64 0] n) 3)) := by
  obtain ⟨i0, hi, hz0, hz1, hz2⟩ := info_parts infoI
  have := run_make (P := Tryz.prog) w 27 3 i0 (.int .i64 0) Tryz.underlying27 hi hz0 .i64 .i64 n n (by omega) (by omega) (by rw [hz2]; omega) (by omega)
  rw [hz1, Nat.mul_one] at this
  exact this

/-- What a round holds: out's cells from k on are the quotient's. -/
structure ByS (w : World) (g n k d : Nat) (xs : List Nat) (r : Nat) (W : World) : Prop where
  rest : r = (divB 65536 d (xs.drop k)).2
  blk : ∃ cur, Blk W g 3 cur ∧ cur.size = n ∧ (cur.toList.take n).drop k = gv .i64 (divB 65536 d (xs.drop k)).1
  bel : Below w.heap.size w W

theorem ByS.step {w W : World} {g n k d : Nat} {xs : List Nat} {r q r' : Nat} (h : ByS w g n (k + 1) d xs r W) (hg : w.heap.size ≤ g) (hn : n = xs.length) (hk : k < n)
    (hq : q = (r * 65536 + xs.getD k 0) / d ∧ r' = (r * 65536 + xs.getD k 0) % d) :
    (∃ u, W.cell? ⟨g, k, none⟩ = some u) ∧ W.frozen? ⟨g, k, none⟩ = false ∧ ByS w g n k d xs r' (W.setCell ⟨g, k, none⟩ (.int .i64 (q : Int))) := by
  obtain ⟨cur, hB, hs, hd⟩ := h.blk
  have hdrop : xs.drop k = xs.getD k 0 :: xs.drop (k + 1) := by
    rw [getD_at (by omega)]
    exact List.drop_eq_getElem_cons (by omega)
  have e1 : divB 65536 d (xs.drop k) = (q :: (divB 65536 d (xs.drop (k + 1))).1, r') := by
    rw [hdrop, divB_cons, ← h.rest, hq.1, hq.2]
  refine ⟨⟨_, (hB.cell k).trans (Array.getElem?_eq_getElem (by omega))⟩, hB.frozen k, ⟨by rw [e1], ⟨_, hB.set k _, by simpa using hs, ?_⟩, ?_⟩⟩
  · rw [e1]
    simp only [Array.toList_setIfInBounds]
    have hl : k < (cur.toList.take n).length := by simp; omega
    rw [List.take_set, List.drop_eq_getElem_cons (by simpa using hl), List.getElem_set_self, List.drop_set_of_lt (by omega), hd]
    rfl
  · exact ((Fr.of_below h.bel (fun _ => False)).step (S' := fun k => k = g) ((Fr.refl W (fun k => k = g)).setCell (p := ⟨g, k, none⟩) (fun _ => rfl) _) (fun i hi e => absurd hi (by omega))).below (Nat.le_refl _) (fun _ h => h.elim)

/-- Behind byDigit. -/
def ByP (w : World) (d : Nat) (xs : List Nat) (e : Ending) (w' : World) : Prop :=
  ∃ (B : Option Addr) (c : Nat), e = .returned (.tuple #[.slice B (digs 65536 (dval 65536 xs / d)).length c, .int .i64 ((dval 65536 xs % d : Nat) : Int)]) ∧ OwnI w' w.heap.size (.slice B (digs 65536 (dval 65536 xs / d)).length c) (digs 65536 (dval 65536 xs / d)) ∧ Below w.heap.size w w'

set_option maxHeartbeats 1000000 in
theorem byDigit_any (A : Option Addr) (n c d : Nat) (xs : List Nat) (w : World) (hx : RdG .i64 w (.slice A n c) xs) (hn : n = xs.length) (hnb : n ≤ 1099511627776) (hd0 : 0 < d) (hd : d < 65536) (hdg : Dig 65536 xs) :
    Calls Tryz.prog 39 #[.slice A n c, .int .i64 (d : Int)] w (ByP w d xs) := by
  have hmk := mk_nat n (by omega)
  have hst : ByS w w.heap.size n n d xs 0 (w.alloc (.cells (madeCells #[.int .i64 0] n) 3)) := by
    refine ⟨by rw [hn, List.drop_length]; rfl, ⟨_, Blk.new w _ _, size_madeCells _ _, ?_⟩, (Below.refl _ _).alloc (Nat.le_refl _) _⟩
    rw [hn, List.drop_length]
    simp [divB, gv]
  have d0 : 0 < (d : Int) := by omega
  have dn : (d : Int) ≠ 0 := by omega
  have HS := hide hst
  have HX := hide hx.at_
  have HN := hide hn
  have HD := hide hdg
  clear hst hx hn hdg
  go_enter Tryz.func39, Tryz.ntmps39
  go_wp2
  obtain ⟨W0, hW0⟩ : ∃ W0, W0 = w.alloc (.cells (madeCells #[.int .i64 0] n) 3) := ⟨_, rfl⟩
  go_loopw [7, 8] (fun vr vi wr => ∃ (k r : Nat), k ≤ n ∧ vi = .int .i64 ((k : Int) - 1) ∧ vr = .int .i64 (r : Int) ∧ Hid (ByS w w.heap.size n k d xs r wr)) (fun _ vi _ => (intOf vi + 1).toNat)
  case atStart => exact ⟨n, 0, Nat.le_refl _, by go_num, rfl, HS⟩
  case round =>
    obtain ⟨k, r, hk, rfl, rfl, HR⟩ := hrel
    rcases Nat.eq_zero_or_pos k with rfl | hp
    · have hl : (divB 65536 d xs).1.length = n := by rw [divB_length, HN.out]
      have hr : r = (divB 65536 d xs).2 := by have := HR.out.rest; rwa [List.drop_zero] at this
      have hown : OwnI wr w.heap.size (.slice (some ⟨w.heap.size, 0, none⟩) n n) (divB 65536 d xs).1 := by
        obtain ⟨cu, h2, h3, h4⟩ := HR.out.blk
        rw [List.drop_zero] at h4
        rw [List.drop_zero] at h4
        have := OwnG.mk (xs := (divB 65536 d xs).1) (k := .i64) (Nat.le_refl _) h2 (by omega) (by unfold maxLen; omega) h3 (by rw [hl]; exact h4)
        rwa [hl] at this
      have hq := divB_quo (b := 65536) hd0 xs
      have ht := divB_digs (b := 65536) (by omega) hd0 HD.out
      have con := trim_any (some ⟨w.heap.size, 0, none⟩) n (divB 65536 d xs).1 wr (by rw [hl]; exact hown.rd)
      rw [hl] at con
      have Con := hide con
      have fin : ByP w d xs (.returned (.tuple #[.slice (some ⟨w.heap.size, 0, none⟩) (trimz (divB 65536 d xs).1).length n, .int .i64 (r : Int)])) wr := by
        rw [ht, hr, hq.2]
        refine ⟨_, _, rfl, ?_, HR.out.bel⟩
        have := hown.take (trimz (divB 65536 d xs).1).length (by have := trimz_length_le (divB 65536 d xs).1; omega)
        rw [take_trimz, ht] at this
        exact this
      have Fin := hide fin
      clear fin con hown hq ht hl hr HR HS
      generalize (trimz (divB 65536 d xs).1).length = m at Con Fin
      go_wp2_with fail
      refine (Con.out).mono ?_
      rintro e w1 ⟨rfl, rfl⟩
      clear Con
      go_wp2
      go_ret2
      exact Fin.out
    · obtain ⟨j, rfl⟩ : ∃ j, k = j + 1 := ⟨k - 1, by omega⟩
      obtain ⟨gx, o, rfl, hgx, hcell⟩ := HX.out j (by have := HN.out; omega)
      have hcw : wr.cell? ⟨gx, o + j, none⟩ = some (.int .i64 (xs.getD j 0 : Nat)) := (HR.out.bel.cell hgx).trans hcell
      have hxl : xs.getD j 0 < 65536 := HD.out _ (by rw [getD_at (by have := HN.out; omega)]; exact List.getElem_mem _)
      have e1 : ((j + 1 : Nat) : Int) - 1 = (j : Int) := by omega
      have hrl : r < d := by rw [HR.out.rest]; exact divB_rest _ hd0 _
      obtain ⟨⟨u, k1⟩, k2, HT⟩ := HR.out.step (q := (r * 65536 + xs.getD j 0) / d) (r' := (r * 65536 + xs.getD j 0) % d) (Nat.le_refl _) HN.out (by omega) ⟨rfl, rfl⟩
      have HT2 := hide HT
      clear hcell HT HR HS
      generalize xs.getD j 0 = x at hcw hxl HT2
      have e2 : ((r * 65536 + x : Nat) : Int) = (r : Int) * 65536 + (x : Int) := by omega
      rw [Int.natCast_ediv, e2] at HT2
      go_wp2
      go_roundw
      case rel => exact ⟨j, (r * 65536 + x) % d, by omega, rfl, by rw [Int.natCast_emod, e2], HT2⟩
      case measure => simp [intOf]
end Go.Proofs.YtfkcobdkgjhfaaaGreatDoor

/- Walks: the reference's Digits, Figures. -/
set_option linter.unusedVariables false
set_option linter.unusedSimpArgs false
namespace Go.Proofs.YtfkcobdkgjhfaaaGreatDoor
open Go.RowKit

theorem conv_one (x : Nat) (W : World) : (convert 136 9 (.slice (some ⟨W.heap.size, 0, none⟩) 1 1)).run Tryz.prog (W.alloc (.cells #[.int .u8 (x : Int)] 5)) = .ok (.string (bstr [x])) (W.alloc (.cells #[.int .u8 (x : Int)] 5)) := by
  refine conv_text (.inr ⟨W.heap.size, 0, 1, rfl, by simp, by unfold maxLen; omega, fun i hi => ?_⟩)
  obtain rfl : i = 0 := by simpa using hi
  exact (Blk.new W 5 #[.int .u8 (x : Int)]).cell 0

theorem itRow_succ (t n : Nat) : itRow (t + 1) n = (48 + n / 10 ^ t % 10) :: itRow t n := by
  apply List.ext_getElem
  · simp [itRow_length]
  · intro i h1 h2
    cases i with
    | zero => simp [itRow]
    | succ i =>
      simp only [itRow, List.getElem_map, List.getElem_range, List.getElem_cons_succ]
      congr 4
      omega

/-- The figures so far. -/
structure SdS (w : World) (n t : Nat) (B : Option Addr) (l c : Nat) (W : World) : Prop where
  rd : RdG .i64 W (.slice B l c) (digs 65536 (n / 10 ^ t))
  bel : Below w.heap.size w W
  low : t = 0 ∨ 10 ^ (t - 1) ≤ n
theorem SdS.end_ {w W : World} {n t l c : Nat} {B : Option Addr} (h : SdS w n t B l c W) (hn : 0 < n) (hl : l = 0) : itRow t n = decB n := by
  have hd := RdG.len h.rd
  have h0 : n / 10 ^ t = 0 := by
    rcases Nat.eq_zero_or_pos (n / 10 ^ t) with h1 | h1
    · exact h1
    · have := List.length_pos_iff.2 (digs_ne_nil (b := 65536) (by omega) h1); omega
  have hlt : n < 10 ^ t := by
    rcases (Nat.div_eq_zero_iff).1 h0 with h2 | h2
    · have := Nat.pow_pos (n := t) (show 0 < 10 by omega); omega
    · exact h2
  have hp : 1 ≤ t := by
    rcases Nat.eq_zero_or_pos t with h1 | h1
    · rw [h1] at hlt; simp at hlt; omega
    · exact h1
  have h10 : 10 ^ (t - 1) ≤ n := by rcases h.low with h1 | h1; omega; exact h1
  have := digs_length_of (b := 10) (k := t - 1) (by omega) h10 (by rw [show t - 1 + 1 = t by omega]; exact hlt)
  rw [itRow_split hn hlt, this, show t - (t - 1 + 1) = 0 by omega]; rfl

/-- Behind Digits. -/
def StrP (w : World) (xs : List Nat) (e : Ending) (w' : World) : Prop := e = .returned (.string (bstr xs)) ∧ Below w.heap.size w w'

set_option maxHeartbeats 1000000 in
set_option maxRecDepth 20000 in
theorem sdigits_any (A : Option Addr) (l c n : Nat) (w : World) (hx : RdG .i64 w (.slice A l c) (digs 65536 n)) (hl : l ≤ 100000) :
    Calls Tryz.prog 44 #[.slice A l c] w (StrP w (decB n)) := by
  have hlen := RdG.len hx
  rcases Nat.eq_zero_or_pos n with rfl | hn
  · rw [digs_zero] at hlen
    obtain rfl : l = 0 := hlen
    have HF : Hid (StrP w (decB 0) (.returned (.string (bstr [48]))) w) := ⟨rfl, Below.refl _ _⟩
    clear hx
    go_enter Tryz.func44, Tryz.ntmps44
    go_wp2
    go_ret
    exact HF.out
  · have hl1 : 0 < l := by rw [hlen]; exact List.length_pos_iff.2 (digs_ne_nil (by omega) hn)
    have hln : (digs 65536 n).length ≤ 100000 := by omega
    have l0 : ((l : Int) == 0) = false := beq_eq_false_iff_ne.2 (by omega)
    have HS0 : Hid (SdS w n 0 A l c w) := ⟨by simpa using hx, Below.refl _ _, .inl rfl⟩
    clear hx hlen
    go_enter Tryz.func44, Tryz.ntmps44
    go_wp2
    go_loopw [0, 3] (fun va vo wr => ∃ (t l c : Nat) (B : Option Addr), l ≤ 100000 ∧ va = .slice B l c ∧ vo = .string (bstr (itRow t n)) ∧ Hid (SdS w n t B l c wr)) (fun _ vo _ => match vo with | .string s => figs n - s.size | _ => 0)
    case atStart => exact ⟨0, l, c, A, hl, rfl, rfl, HS0⟩
    case round =>
      obtain ⟨t, l, c, B, hl, rfl, rfl, HR⟩ := hrel
      by_cases h0 : l = 0
      · have HF : Hid (StrP w (decB n) (.returned (.string (bstr (itRow t n)))) wr) := ⟨by rw [HR.out.end_ hn h0], HR.out.bel⟩
        subst h0
        clear HR HS0 l0 hl1
        generalize bstr (itRow t n) = T at *
        go_wp2
        go_ret
        exact HF.out
      · have hlen := RdG.len HR.out.rd
        have hpos : 0 < n / 10 ^ t := by
          rcases Nat.eq_zero_or_pos (n / 10 ^ t) with h1 | h1
          · rw [h1, digs_zero] at hlen; exact absurd hlen h0
          · exact h1
        have h10 : 10 ^ t ≤ n := by
          rcases Nat.lt_or_ge n (10 ^ t) with h1 | h1
          · rw [Nat.div_eq_of_lt h1] at hpos; omega
          · exact h1
        have htf : t < figs n := by
          rw [figs, if_neg (by omega)]
          have := lt_of_digs_length (b := 10) (n := n) (k := (digs 10 n).length) (by omega) (Nat.le_refl _)
          exact (Nat.pow_lt_pow_iff_right (by omega)).1 (Nat.lt_of_le_of_lt h10 this)
        have con := byDigit_any B l c 10 (digs 65536 (n / 10 ^ t)) wr HR.out.rd hlen (by omega) (by omega) (by omega) (dig_digs (by omega) _)
        have Con := hide con
        obtain ⟨d, hd⟩ : ∃ d, d = n / 10 ^ t % 10 := ⟨_, rfl⟩
        have hd9 : d ≤ 9 := by omega
        obtain ⟨x, hx⟩ : ∃ x, x = 48 + d := ⟨_, rfl⟩
        have u8 : IntKind.u8.wrap (48 + (d : Int)) = (x : Int) := by simp [IntKind.wrap, IntKind.signed, IntKind.bits]; omega
        have a8 : 48 + (d : Int) = (x : Int) := by omega
        have u8' : IntKind.u8.wrap (x : Int) = (x : Int) := by simp [IntKind.wrap, IntKind.signed, IntKind.bits]; omega
        have hcv := fun W => conv_one x W
        have hlp : 0 < l := by omega
        have hlpi : (0 : Int) < (l : Int) := by omega
        have HT := hide (And.intro htf (And.intro h10 (And.intro hd (And.intro hx (show figs n ≤ 1000000 by rw [figs, if_neg (by omega)]; exact Nat.le_trans (figs_le hln) (by omega))))))
        clear hx con hlen hpos h10 htf HS0 h0 l0 hl1 hd
        go_wp2_with fail
        refine (Con.out).mono ?_
        rintro e w1 ⟨B1, c1, rfl, hown, hbel⟩
        rw [dval_digs (by omega)] at hown ⊢
        rw [← HT.out.2.2.1]
        have e1 : n / 10 ^ t / 10 = n / 10 ^ (t + 1) := by rw [Nat.div_div_eq_div_mul, Nat.pow_succ]
        rw [e1] at hown ⊢
        have hl1 : (digs 65536 (n / 10 ^ (t + 1))).length ≤ 100000 := by
          have h2 : n / 10 ^ (t + 1) ≤ n / 10 ^ t := by rw [← e1]; exact Nat.div_le_self _ _
          have := digs_length_mono (b := 65536) (by omega) h2
          have := RdG.len HR.out.rd
          omega
        have hrow : bstr [x] ++ bstr (itRow t n) = bstr (itRow (t + 1) n) := by rw [← bstr_append, itRow_succ, ← HT.out.2.2.1, HT.out.2.2.2.1]; rfl
        have hadd := fun W => add_text hrow (by rw [bstr_size, bstr_size, itRow_length]; have := HT.out.1; have := HT.out.2.2.2.2; simp; omega) W
        have HN : Hid (SdS w n (t + 1) B1 (digs 65536 (n / 10 ^ (t + 1))).length c1 (w1.alloc (.cells #[.int .u8 (x : Int)] 5))) :=
          ⟨hown.rd.below (below_al (Below.refl _ _) _), below_al (below_next HR.out.bel hbel) _, .inr HT.out.2.1⟩
        have HM : Hid (t < figs n) := HT.out.1
        have hc1 := hcv w1
        clear hown hbel e1 HT HR Con hcv
        generalize (digs 65536 (n / 10 ^ (t + 1))).length = l1 at *
        generalize bstr (itRow t n) = T at *
        go_wp2
        go_roundw
        case rel => exact ⟨t + 1, l1, c1, B1, hl1, rfl, rfl, HN⟩
        case measure =>
          show figs n - (bstr (itRow (t + 1) n)).size < figs n - (bstr (itRow t n)).size
          rw [bstr_size, bstr_size, itRow_length, itRow_length]; have := HM.out; omega
theorem sfigs_any (A : Option Addr) (l c n : Nat) (w : World) (hx : RdG .i64 w (.slice A l c) (digs 65536 n)) (hl : l ≤ 100000) :
    Calls Tryz.prog 24 #[.slice A l c] w fun e w' => e = .returned (.int .i64 (figs n : Int)) ∧ Below w.heap.size w w' := by
  have Con := hide (sdigits_any A l c n w hx hl)
  have hs : (bstr (decB n)).size = figs n := by rw [bstr_size, decB_length]
  clear hx
  generalize figs n = q at *
  go_enter Tryz.func24, Tryz.ntmps24
  go_wp2_with fail
  refine (Con.out).mono ?_
  rintro e w1 ⟨rfl, hb⟩
  have HB := hide hb
  clear hb Con
  generalize bstr (decB n) = T at *
  go_wp2
  go_ret
  exact ⟨rfl, HB.out⟩
end Go.Proofs.YtfkcobdkgjhfaaaGreatDoor

/- What the laid package variables give the walks: the thresholds' cells. -/
set_option linter.unusedVariables false
set_option linter.unusedSimpArgs false
namespace Go.Proofs.YtfkcobdkgjhfaaaGreatDoor
open Go Go.RowKit

theorem laid_int {w : World} {v : Int} {n : String} {g : Nat} (hg : Tryz.prog.globalNamed n = some g) (ht : (Tryz.prog.globals[g]?).map (·.type) = some 3) :
    ∀ {l : List (String × DataW Unit)} {ps : List MemPlace}, DataW.LaidVars Tryz.prog w l ps → (n, DataW.lit (.int .i64 v)) ∈ l → w.cell? ⟨g, 0, none⟩ = some (.int .i64 v)
  | [], _, _, hm => by cases hm
  | (m, d) :: l, ps, h, hm => by
    obtain ⟨g0, t0, cs0, f0, p0, q0, hg0, ht0, hv0, hd0, hr, -⟩ := h
    rcases List.mem_cons.1 hm with e | hm
    · injection e with e1 e2
      subst e1 e2
      obtain rfl := Option.some.inj (hg.symm.trans hg0)
      obtain rfl := Option.some.inj (ht.symm.trans ht0)
      obtain ⟨k, e1, e2, -⟩ := DataW.trod_int Tryz.underlying3 hd0
      have hk : k = v := by simpa using (congrArg Prod.fst e2).symm
      subst hk
      have := World.var?_cell hg hv0 0
      rw [this, Array.getElem?_toList.symm, e1]
      rfl
    · exact laid_int hg ht hr hm

theorem vars_of {w : World} {l : List (String × DataW Unit)} (h : laidMetH Tryz.prog l w) (hp : (l.filter fun x => x.2.handleName?.isSome) = [])
    (m0 : ("loop.example/pub-g03241/pub/bigall.basicSqrThreshold", DataW.lit (.int .i64 12)) ∈ l) (m1 : ("loop.example/pub-g03241/pub/bigall.karatsubaSqrThreshold", DataW.lit (.int .i64 80)) ∈ l) (m2 : ("loop.example/pub-g03241/pub/bigall.karatsubaThreshold", DataW.lit (.int .i64 40)) ∈ l) : Vars w w.heap.size := by
  unfold laidMetH at h
  rw [hp] at h
  obtain ⟨ps, hl, -⟩ := h
  have c0 := laid_int (g := 1) (by kernel_rfl) (by kernel_rfl) hl m0
  have c1 := laid_int (g := 2) (by kernel_rfl) (by kernel_rfl) hl m1
  have c2 := laid_int (g := 3) (by kernel_rfl) (by kernel_rfl) hl m2
  exact ⟨c0, c1, c2, World.block_lt_of_cell? _ _ c0, World.block_lt_of_cell? _ _ c1, World.block_lt_of_cell? _ _ c2⟩
end Go.Proofs.YtfkcobdkgjhfaaaGreatDoor

/- What the laid package variables give the walks: the thresholds' cells and leafSize's. -/
set_option linter.unusedVariables false
set_option linter.unusedSimpArgs false
namespace Go.Proofs.YtfkcobdkgjhfaaaGreatDoor
open Go Go.RowKit

theorem varsL_of {w : World} {l : List (String × DataW Unit)} (h : laidMetH Tryz.prog l w) (hp : (l.filter fun x => x.2.handleName?.isSome) = [])
    (m0 : ("loop.example/pub-g03241/pub/bigall.basicSqrThreshold", DataW.lit (.int .i64 12)) ∈ l) (m1 : ("loop.example/pub-g03241/pub/bigall.karatsubaSqrThreshold", DataW.lit (.int .i64 80)) ∈ l) (m2 : ("loop.example/pub-g03241/pub/bigall.karatsubaThreshold", DataW.lit (.int .i64 40)) ∈ l) (m3 : ("loop.example/pub-g03241/pub/bigall.leafSize", DataW.lit (.int .i64 8)) ∈ l) : VarsL w w.heap.size := by
  have hv := vars_of h hp m0 m1 m2
  unfold laidMetH at h
  rw [hp] at h
  obtain ⟨ps, hl, -⟩ := h
  have c := laid_int (g := 6) (by kernel_rfl) (by kernel_rfl) hl m3
  exact ⟨hv, c, World.block_lt_of_cell? _ _ c⟩
end Go.Proofs.YtfkcobdkgjhfaaaGreatDoor
