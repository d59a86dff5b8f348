/- Parts of the proofs: Itoa2, Txt, Itoa3, NegB. -/
import Derived.WalkLawsBesides
import Derived.Laws.BytesArg
import Derived.LaidEqlPtr
import Derived.Test.YtfkcobdkgjhfaaaGreatDoorG2
import Derived.Test.YtfkcobdkgjhfaaaGreatDoorG15
import Derived.Test.YtfkcobdkgjhfaaaGreatDoorG27
import Derived.Test.YtfkcobdkgjhfaaaGreatDoorG32
import Derived.Test.YtfkcobdkgjhfaaaGreatDoorG33
/- Walks: a number's figures as bytes and as a text: nat.itoa, Int.Text, Int.String, BigInt.String at few words. -/
set_option linter.unusedVariables false
set_option linter.unusedSimpArgs false
namespace Go.Proofs.YtfkcobdkgjhfaaaGreatDoor
open Go.RowKit

theorem infoU8 : (Tryz.prog.info? 5).map (fun i => (i.zero, i.size, i.bytes)) = some (some (.int .u8 0), 1, 1) := by kernel_rfl
theorem mk_bytes (n : Nat) (hc : n ≤ 2199023255552) (w : World) :
    (Instr.makeSlice 136 (.int .i64 (n : Int)) (.int .i64 (n : Int))).run Tryz.prog w = .ok (.slice (some ⟨w.heap.size, 0, none⟩) n n) (w.alloc (.cells (madeCells #[.int .u8 0] n) 5)) := by
  obtain ⟨i0, hi, hz0, hz1, hz2⟩ := info_parts infoU8
  have := run_make (P := Tryz.prog) w 136 5 i0 (.int .u8 0) Tryz.underlying136 hi hz0 .i64 .i64 n n (by omega) (by omega) (by rw [hz2]; omega) (by omega)
  rw [hz1, Nat.mul_one] at this
  exact this
theorem own_bytes (w : World) (base n : Nat) (hb : base ≤ w.heap.size) (hn : n ≤ 2199023255552) :
    ∃ cs, cs.length = n ∧ OwnG 5 .u8 (w.alloc (.cells (madeCells #[.int .u8 0] n) 5)) base (.slice (some ⟨w.heap.size, 0, none⟩) n n) cs := by
  refine ⟨List.replicate n 0, by simp, ?_⟩
  have hs : (madeCells #[.int .u8 0] n).size = n := size_madeCells _ _
  have := OwnG.mk (k := .u8) (t := 5) (w := w.alloc (.cells (madeCells #[.int .u8 0] n) 5)) (xs := List.replicate n 0) (cap := n) hb (Blk.new w _ _) (by simp) (by unfold maxLen; omega) hs (by
    apply List.ext_getElem
    · simp [gv, hs]
    · intro i h1 h2
      simp [gv, madeCells, Nat.mod_one])
  simpa using this

/-- New bytes: the figures of a number. -/
def ItP (w : World) (v : Nat) (e : Ending) (w' : World) : Prop :=
  ∃ A c, e = .returned (.slice A (decB v).length c) ∧ RdG .u8 w' (.slice A (decB v).length c) (decB v) ∧ Below w.heap.size w w'

theorem conv_bytes (w : World) (v : Value) : (convert 136 136 (.slice (some ⟨w.heap.size, 0, none⟩) 1 1)).run Tryz.prog (w.alloc (.cells #[v] 5)) = .ok (.slice (some ⟨w.heap.size, 0, none⟩) 1 1) (w.alloc (.cells #[v] 5 (1, 2))) := by
  have hsh : (w.alloc (.cells #[v] 5)).shape? w.heap.size = some (5, 1) := by
    have : (w.alloc (.cells #[v] 5)).heap[w.heap.size]? = some (.cells #[v] 5) := by
      show (w.heap.push (.cells #[v] 5))[w.heap.size]? = _
      simp
    unfold World.shape?
    rw [this]
    rfl
  have hfr : (w.alloc (.cells #[v] 5)).freeze ⟨w.heap.size, 1, none⟩ 1 = w.alloc (.cells #[v] 5 (1, 2)) := by
    have hm : ∀ (a : Array Obj) (x : Obj) (f : Obj → Obj), (a.push x).modify a.size f = a.push (f x) := by
      intro a x f
      apply Array.ext
      · simp
      · intro i h1 h2
        simp only [Array.getElem_modify, Array.getElem_push]
        by_cases h : a.size = i
        · subst h
          simp
        · have hi : i < a.size := by simp at h1; omega
          simp [h, hi]
    unfold World.freeze
    rw [if_neg (by decide)]
    show ({ w.alloc (.cells #[v] 5) with heap := (w.heap.push (.cells #[v] 5)).modify w.heap.size _ } : World) = _
    rw [hm]
    rfl
  simp [convert, run_underlying Tryz.underlying136, run_underlying Tryz.underlying5, markStringish, hsh]
  exact hfr

set_option maxRecDepth 100000 in
theorem itoa_zero (A : Option Addr) (c : Nat) (w : World) : Calls Tryz.prog 221 #[.slice A 0 c, .bool false, .int .i64 10] w (ItP w 0) := by
  have hc := conv_bytes w (.int .u8 48)
  have HF : Hid (ItP w 0 (.returned (.slice (some ⟨w.heap.size, 0, none⟩) 1 1)) (w.alloc (.cells #[.int .u8 48] 5 (1, 2)))) := by
    refine ⟨_, 1, rfl, .inr ⟨w.heap.size, 0, 1, rfl, Nat.le_refl _, by unfold maxLen; omega, fun i hi => ?_⟩, below_al (Below.refl _ _) _⟩
    obtain rfl : i = 0 := by simpa [decB] using hi
    have h := heap_alloc_new w (.cells #[.int .u8 48] 5 (1, 2))
    have h2 : (w.alloc (.cells #[.int .u8 48] 5 (1, 2))).cell? ⟨w.heap.size, 0, none⟩ = some (.int .u8 48) := by
      unfold World.cell?
      show (match (w.alloc (.cells #[.int .u8 48] 5 (1, 2))).heap[w.heap.size]? with | some (.cells c _ _) => _ | _ => _) = _
      rw [h]; rfl
    exact h2
  go_enter_defers Tryz.func221, Tryz.ntmps221
  go_wp2
  refine ⟨_, results_tmp (t := 6) rfl _ _ _, ?_⟩
  exact HF.out

theorem blen_words_le {v k : Nat} (h : v < 18446744073709551616 ^ k) : blen v ≤ 64 * k := by
  refine blen_le ?_
  rw [Nat.pow_mul]
  exact h

/-- What holds behind the conversion, and within the stripping loop. -/
structure ItS (w : World) (gs gst l : Nat) (v : Nat) (W : World) : Prop where
  bel : Below w.heap.size w W
  row : OwnG 5 .u8 W w.heap.size (.slice (some ⟨gs, 0, none⟩) l l) (itRow l v)
  stk : W.cell? ⟨gst, 0, none⟩ = some (.pointer none)

theorem ItS.end_ {w W : World} {gs gst l v i : Nat} (h : ItS w gs gst l v W) (hv : 0 < v) (hl : v < 10 ^ l) (hi : i = l - (digs 10 v).length) : i < l ∧ ItP w v (.returned (.slice (some ⟨gs, i, none⟩) (l - i) (l - i))) W := by
  obtain ⟨h1, h2, h3⟩ := itRow_first hv hl
  rw [← hi] at h2 h3
  have hlen : (decB v).length = l - i := by rw [← h3, List.length_drop, itRow_length]
  refine ⟨h2, some ⟨gs, i, none⟩, l - i, by rw [hlen], .inr ⟨gs, i, l - i, rfl, by omega, ?_, fun j hj => ?_⟩, h.bel⟩
  · have := h.row.slice
    rcases h.row.form with ⟨e, _⟩ | ⟨g, cap, cur, e, _, _, _, hc, _⟩
    · injection e with e; cases e
    · injection e with _ _ e; omega
  · obtain ⟨g, e, _, _, hc, _⟩ := h.row.block (by omega)
    injection e with e; injection e with e
    subst e
    rw [hlen] at hj
    rw [hc (i + j) (by rw [itRow_length]; omega), ← h3]
    congr 3
    simp [List.getD_eq_getElem?_getD, List.getElem?_drop]

set_option maxHeartbeats 2000000 in
set_option maxRecDepth 100000 in
theorem itoa_pos (bx lx cx v : Nat) (A : Option Addr) (w : World) (hx : Own w bx (.slice A lx cx) (digs 18446744073709551616 v)) (hlx : lx ≤ 8) (hv0 : 0 < v) (hv : VarsL w w.heap.size) :
    Calls Tryz.prog 221 #[.slice A lx cx, .bool false, .int .i64 10] w (ItP w v) := by
  have hn : lx = (digs 18446744073709551616 v).length := RdG.len (k := .u64) hx.rd
  have hl1 : 1 ≤ lx := by rw [hn]; exact List.length_pos_iff.2 (digs_ne_nil (by omega) hv0)
  have con1 := nbitLen_any A lx cx _ w hx.rd hn (by omega) (dig_digs (by omega) v) (canon_digs (by omega) v)
  rw [dval_digs (by omega)] at con1
  have hbl : blen v ≤ 512 := blen_words_le (lt_of_digs_length (b := 18446744073709551616) (k := 8) (by omega) (by omega))
  obtain ⟨q, i, hq, hi, -, hqi, hib, -, -⟩ := fq_spec (b := blen v) (by omega)
  have hvl : v < 10 ^ (i + 1) := Nat.lt_of_lt_of_le (blen_hi v) hqi
  have a1 : ∀ W, (binOp .quo 174 (.float .f64 (floatOfInt .f64 ((blen v : Nat) : Int))) (.float .f64 4614662735865160561)).run Tryz.prog W = .ok (.float .f64 q) W := fun W => run_float_arith W .quo _ .f64 _ _ _ hq
  have a2 : ∀ W, (convert 174 3 (.float .f64 q)).run Tryz.prog W = .ok (.int .i64 (i : Int)) W := fun W => run_convert_float_int W _ _ .f64 .i64 _ _ (by rw [Tryz.underlying174]; rfl) Tryz.underlying3 hi
  have a3 : floatOfInt .f64 10 = 4621819117588971520 := by kernel_rfl
  have Con1 := hide con1
  have Con2 := hide (fun W => Log2_ten W)
  obtain ⟨L, hL⟩ : ∃ L : Nat, L = 4614662735865160561 := ⟨_, rfl⟩
  obtain ⟨ten, hten⟩ : ∃ L : Nat, L = 4621819117588971520 := ⟨_, rfl⟩
  rw [← hL] at a1
  rw [← hten] at a3
  have Con2b : Hid (∀ W, Calls Tryz.prog 246 #[.float .f64 ten] W fun e w' => e = .returned (.float .f64 L) ∧ W = w') := by rw [hten, hL]; exact Con2.out
  obtain ⟨l, hl⟩ : ∃ l, l = i + 1 := ⟨_, rfl⟩
  rw [← hl] at hvl
  have a4 : (i : Int) + 1 = (l : Int) := by omega
  have a4' : IntKind.i64.wrap ((i : Int) + 1) = (l : Int) := by rw [IntKind.wrap_i64]; omega
  have hl513 : l ≤ 513 := by omega
  obtain ⟨gs, hgs⟩ : ∃ g, g = w.heap.size := ⟨_, rfl⟩
  obtain ⟨W1, hW1⟩ : ∃ W1, W1 = w.alloc (.cells (madeCells #[.int .u8 0] l) 5) := ⟨_, rfl⟩
  have hmk := mk_bytes l (by omega) w
  rw [← hgs, ← hW1] at hmk
  have hb1 : Below w.heap.size w W1 := by rw [hW1]; exact below_al (Below.refl _ _) _
  have hrow := own_bytes w w.heap.size l (Nat.le_refl _) (by omega)
  rw [← hgs, ← hW1] at hrow
  have hs1 : W1.heap.size = gs + 1 := by rw [hW1, hgs]; simp
  have n0 : ((lx : Int) == 0) = false := beq_eq_false_iff_ne.2 (by omega)
  have b10 : bits .and .u64 10 18446744073709551606 = 2 := by kernel_rfl
  have b11 : IntKind.u64.wrap (-10) = 18446744073709551606 := by kernel_rfl
  have HH := hide (And.intro hb1 (And.intro hrow (And.intro hs1 (And.intro hx (And.intro hv (And.intro hn (And.intro hgs hvl)))))))
  clear con1 hb1 hrow hs1 hx hv Con2 hL hten hl hq hi hqi hib hbl hn hgs hW1 hvl
  generalize blen v = bl at *
  go_enter_defers Tryz.func221, Tryz.ntmps221
  go_wp2_with fail
  refine (Con1.out).mono ?_
  rintro e w0 ⟨rfl, hw0⟩
  rw [hw0]
  clear Con1 hw0
  go_wp2_with fail
  refine (Con2b.out _).mono ?_
  rintro e w1 ⟨rfl, rfl⟩
  clear Con2b
  have ConS := hide (getStack_any W1)
  go_wp2_with fail
  clear a1 a2 a3 a4 a4'
  refine (ConS.out).mono ?_
  rintro e w2 ⟨rfl, hw2⟩
  have hb2 : Below w.heap.size w w2 := by rw [hw2]; exact below_al HH.out.1 _
  have hst : w2.cell? ⟨W1.heap.size, 0, none⟩ = some (.pointer none) := by rw [hw2]; exact (Blk.new W1 _ _).cell 0
  have h12 : Below W1.heap.size W1 w2 := by rw [hw2]; exact below_al (Below.refl _ _) _
  have hs2 : w2.heap.size = gs + 2 := by rw [hw2]; simp; have := HH.out.2.2.1; omega
  have HH2 := hide (And.intro hb2 (And.intro hst (And.intro h12 hs2)))
  have hgst := HH.out.2.2.1
  obtain ⟨gst, hgst2⟩ : ∃ g, g = W1.heap.size := ⟨_, rfl⟩
  rw [← hgst2]
  rw [← hgst2] at HH2 hgst
  have HG := hide (And.intro hgst hgst2)
  clear hw2 hb2 hst h12 ConS hs2 hgst hgst2
  have ConM := hide (maxPow_ten w2)
  have ConD := hide (divisors_few (.pointer (some ⟨gst, 0, none⟩)) (lx : Int) 19 10000000000000000000 w2 w.heap.size (HH.out.2.2.2.2.1.below HH2.out.1) (by omega) (by omega))
  have ConT := hide (set_any w2.heap.size (.slice none 0 0) 0 (.slice A lx cx) (digs 18446744073709551616 v) w2 (Own.nil _ _).room (HH.out.2.2.2.1.below HH2.out.1).rd (Nat.le_refl _) (by have := HH.out.2.2.2.2.2.1; omega))
  obtain ⟨bb, hbb⟩ : ∃ b : Nat, b = 10000000000000000000 := ⟨_, rfl⟩
  have ConM2 : Hid (Calls Tryz.prog 248 #[.int .u64 10] w2 fun e w' => e = .returned (.tuple #[.int .u64 (bb : Int), .int .i64 19]) ∧ w2 = w') := by rw [hbb]; exact ConM.out
  have ConD2 : Hid (Calls Tryz.prog 249 #[.pointer (some ⟨gst, 0, none⟩), .int .i64 (lx : Int), .int .u64 10, .int .i64 19, .int .u64 (bb : Int)] w2 fun e w' => e = .returned (.slice none 0 0) ∧ w2 = w') := by rw [hbb]; exact ConD.out
  have HBB := hide hbb
  clear ConM ConD hbb
  go_wp2_with fail
  refine (ConM2.out).mono ?_
  rintro e w3 ⟨rfl, rfl⟩
  clear ConM2
  go_wp2_with fail
  refine (ConD2.out).mono ?_
  rintro e w3 ⟨rfl, rfl⟩
  clear ConD2
  go_wp2_with fail
  refine (ConT.out).mono ?_
  rintro e w3 ⟨Aq, cq, rfl, hq, hqb, hqf⟩
  clear ConT
  have hlen : (digs 18446744073709551616 v).length = lx := HH.out.2.2.2.2.2.1.symm
  rw [hlen] at hq hqb ⊢
  obtain ⟨gq, rfl, hgq⟩ : ∃ gq, Aq = some ⟨gq, 0, none⟩ ∧ w2.heap.size ≤ gq := by
    rcases hq.form with ⟨_, h1⟩ | ⟨g, cap, cur, h1, h2, _⟩
    · exact absurd h1 (digs_ne_nil (by omega) hv0)
    · injection h1 with h1
      exact ⟨g, h1, h2⟩
  have hgw := HH.out.2.2.2.2.2.2.1
  have hb2 := HH2.out.1
  have hs2 := HH2.out.2.2.2
  have hgs1 : gst = gs + 1 := by have := HG.out.1; have := HG.out.2; omega
  have hb3 : Below w.heap.size w w3 := hb2.trans ((hqf.below (Nat.le_refl _) (fun k hk => by cases hk)).mono (by omega))
  have hrow : ∃ cs, cs.length = l ∧ OwnG 5 .u8 w3 w.heap.size (.slice (some ⟨gs, 0, none⟩) l l) cs := by
    obtain ⟨cs, h1, h2⟩ := HH.out.2.1
    exact ⟨cs, h1, by rw [← hgw]; exact (h2.below (by have := HH2.out.2.2.1; rwa [HG.out.2] at this)).fr hqf (fun k _ hk => by cases hk)⟩
  have hst3 : w3.cell? ⟨gst, 0, none⟩ = some (.pointer none) := hqf.cell HH2.out.2.1 (fun hk => by cases hk)
  have hne : gs ≠ gq := by omega
  have hvl := HH.out.2.2.2.2.2.2.2
  have ConC := hide (convW_any w.heap.size gs gq l v lx cq bb (.pointer (some ⟨gst, 0, none⟩)) w3 (hq.lower (by omega)) hrow hne hvl (by omega) (by omega) HBB.out)
  have H3 := hide (And.intro hb3 (And.intro hst3 (And.intro (show gst ≠ gs ∧ gst ≠ gq by omega) (And.intro (show w.heap.size ≤ gs ∧ w.heap.size ≤ gq by omega) hvl))))
  clear hq hqb hqf hb3 hrow hst3 hne hvl hlen hgw hb2 hs2 hgs1 hgq HH HH2 HG HBB hmk
  go_wp2_with fail
  refine (ConC.out).mono ?_
  rintro e w4 ⟨rfl, hrow4, hf4⟩
  have hS : ItS w gs gst l v w4 := by
    refine ⟨H3.out.1.trans (hf4.below H3.out.1.size (fun k hk => ?_)), hrow4, hf4.cell H3.out.2.1 (fun hk => ?_)⟩
    · rcases hk with rfl | rfl
      · exact H3.out.2.2.2.1.1
      · exact H3.out.2.2.2.1.2
    · rcases hk with h | h
      · exact H3.out.2.2.1.1 h
      · exact H3.out.2.2.1.2 h
  have hcells : ∀ k, k < l → w4.cell? ⟨gs, k, none⟩ = some (.int .u8 ((itRow l v).getD k 0 : Nat)) := by
    intro k hk
    obtain ⟨g, e, _, _, hc, _⟩ := hrow4.block (by omega)
    injection e with e; injection e with e
    subst e
    exact hc k (by rw [itRow_length]; exact hk)
  have hvl := H3.out.2.2.2.2
  have hfst := itRow_first hv0 hvl
  have hzero := fun k hk => itRow_zero (l := l) (i := k) hv0 hvl hk
  have hend := hS.end_ hv0 hvl (i := l - (digs 10 v).length) rfl
  obtain ⟨K, hK⟩ : ∃ K, K = l - (digs 10 v).length := ⟨_, rfl⟩
  rw [← hK] at hend hfst
  have HC := hide hcells
  have HF := hide (And.intro hfst.1 (And.intro hfst.2.1 (And.intro hend.2 hS.stk)))
  have HZ : Hid (∀ k, k < K → (itRow l v).getD k 0 = 48) := by rw [hK]; exact hzero
  clear hrow4 hf4 hS hcells hvl hfst hzero hend hK H3 ConC
  go_wp2
  go_loop [7] (fun vi => ∃ k : Nat, k ≤ K ∧ vi = .int .i64 (k : Int)) (fun vi => K - (intOf vi).toNat)
  case atStart => exact ⟨0, Nat.zero_le _, rfl⟩
  case round =>
    obtain ⟨k, hk, rfl⟩ := hrel
    have hKl := HF.out.2.1
    have hc := HC.out k (by omega)
    by_cases hlt : k < K
    · rw [HZ.out k hlt] at hc
      go_wp2
      go_round
      case rel => exact ⟨k + 1, by omega, by go_num⟩
      case measure => simp [intOf]; omega
    · obtain rfl : k = K := by omega
      have hd : ((((itRow l v).getD k 0 : Nat) : Int) == 48) = false := beq_eq_false_iff_ne.2 (by have := HF.out.1; omega)
      have HE := hide (And.intro HF.out.2.2.1 HF.out.2.2.2)
      clear HF HC HZ hlt hk
      generalize (itRow l v).getD k 0 = d at hc hd
      go_wp2
      refine leaves_cons (f := 144) (args := #[.pointer (some ⟨gst, 0, none⟩)]) (by simp) (by simp [go_sem]) ?_
      refine (free_deferred gst .returning _ HE.out.2).mono ?_
      rintro e1 u' w8 ⟨rfl, rfl, rfl⟩
      exact ⟨_, results_tmp (t := 6) rfl _ _ _, HE.out.1⟩
end Go.Proofs.YtfkcobdkgjhfaaaGreatDoor

/- Texts: bytes read, and a text made of them. -/
set_option linter.unusedVariables false
set_option linter.unusedSimpArgs false
namespace Go.Proofs.YtfkcobdkgjhfaaaGreatDoor
open Go.RowKit

/-- The text whose bytes are these. -/
def bstr (xs : List Nat) : ByteArray := ⟨(xs.map UInt8.ofNat).toArray⟩
theorem bstr_size (xs : List Nat) : (bstr xs).size = xs.length := by simp [bstr, ByteArray.size]
theorem bstr_append (xs ys : List Nat) : bstr (xs ++ ys) = bstr xs ++ bstr ys := by
  apply ByteArray.ext
  simp [bstr]

set_option maxRecDepth 20000 in
theorem conv_text {w : World} {A : Option Addr} {n c : Nat} {xs : List Nat} (h : RdG .u8 w (.slice A n c) xs) : (convert 136 9 (.slice A n c)).run Tryz.prog w = .ok (.string (bstr xs)) w := by
  rcases h with ⟨A', c', e, rfl, _⟩ | ⟨g, o, c', e, h1, h2, h3⟩
  · injection e with e1 e2 e3
    subst e1 e2 e3
    cases A with
    | none => exact run_convert_bytes_nil w _ _ Tryz.underlying136 Tryz.underlying5 0 c _ Tryz.underlying9
    | some a =>
      rw [run_convert_bytes_string w _ _ _ _ _ _ Tryz.underlying136 Tryz.underlying5 Tryz.underlying9, run_bytesToString w a 0 c [] (by simp [loadCells, loadCellsFrom])]
      rfl
  · injection e with e1 e2 e3
    subst e1 e2 e3
    have := run_convert_bytes_arg (P := Tryz.prog) w 136 5 Tryz.underlying136 Tryz.underlying5 g o xs.length c (xs.map fun (d : Nat) => (d : Int)) (by simp) (fun i hi => by
      rw [h3 i hi]
      congr 2
      simp [List.getD_eq_getElem?_getD, List.getElem?_eq_getElem hi]) 9 Tryz.underlying9
    rw [this]
    congr 2
    simp [strOfNums, bstr]

/-- One text behind another. -/
theorem add_text {a b c : ByteArray} (hc : a ++ b = c) (h : a.size + b.size ≤ 9223372036854775807) (W : World) : (Op.stringOp .add a b).run Tryz.prog W = .ok (.string c) W := by
  have h2 : ¬ (((a.size + b.size : Nat) : Int) > IntKind.i64.max) := by
    have : IntKind.i64.max = 9223372036854775807 := by decide
    rw [this]; omega
  simp only [Op.stringOp]
  rw [if_neg h2, ← hc]
  rfl
theorem figs_le {n k : Nat} (h : (digs 65536 n).length ≤ k) : (digs 10 n).length ≤ 5 * k := by
  refine digs_length_le (by omega) (Nat.lt_of_lt_of_le (lt_of_digs_length (by omega) h) ?_)
  rw [Nat.pow_mul]
  exact Nat.pow_le_pow_left (by decide) k
end Go.Proofs.YtfkcobdkgjhfaaaGreatDoor

/- Walks: Int.Text, Int.String, BigInt.String of numbers not below 0, at few words. -/
set_option linter.unusedVariables false
set_option linter.unusedSimpArgs false
namespace Go.Proofs.YtfkcobdkgjhfaaaGreatDoor
open Go.RowKit

theorem itoa_any (bx lx cx v : Nat) (A : Option Addr) (w : World) (hx : Own w bx (.slice A lx cx) (digs 18446744073709551616 v)) (hlx : lx ≤ 8) (hv : VarsL w w.heap.size) :
    Calls Tryz.prog 221 #[.slice A lx cx, .bool false, .int .i64 10] w (ItP w v) := by
  by_cases h0 : v = 0
  · subst h0
    have hn : lx = (digs 18446744073709551616 0).length := RdG.len (k := .u64) hx.rd
    rw [digs_zero] at hn
    obtain rfl : lx = 0 := hn
    exact itoa_zero A cx w
  · exact itoa_pos bx lx cx v A w hx hlx (by omega) hv
/-- A text, and new memory. -/
def TextP (w : World) (xs : List Nat) (e : Ending) (w' : World) : Prop := e = .returned (.string (bstr xs)) ∧ Below w.heap.size w w'

set_option maxRecDepth 20000 in
theorem text_any (bx g o lx cx v : Nat) (A : Option Addr) (w : World) (h0 : w.cell? ⟨g, o, none⟩ = some (.bool false)) (h1 : w.cell? ⟨g, o + 1, none⟩ = some (.slice A lx cx)) (hx : Own w bx (.slice A lx cx) (digs 18446744073709551616 v)) (hlx : lx ≤ 8) (hv : VarsL w w.heap.size) :
    Calls Tryz.prog 187 #[.pointer (some ⟨g, o, none⟩), .int .i64 10] w (TextP w (decB v)) := by
  have Con : Hid (∀ W, Below w.heap.size w W → W.heap.size = w.heap.size → Calls Tryz.prog 221 #[.slice A lx cx, .bool false, .int .i64 10] W (ItP W v)) := fun W hb hs => itoa_any bx lx cx v A W (hx.below hb) hlx (by rw [hs]; exact hv.below hb)
  have Txt : Hid (∀ (A : Option Addr) (c : Nat) W, RdG .u8 W (.slice A (decB v).length c) (decB v) → (convert 136 9 (.slice A (decB v).length c)).run Tryz.prog W = .ok (.string (bstr (decB v))) W) := fun A c W h => conv_text h
  clear hx hv
  go_enter Tryz.func187, Tryz.ntmps187
  go_wp2_with fail
  go_region_with (go_at_call 221; go_loud (refine (Con.out _ ?_ ?_).mono ?_; exact below_drewN w _; rfl; rintro e w1 ⟨B, cb, rfl, hrd, hbel⟩; have hcv := Txt.out B cb w1 hrd; have hcv2 := Txt.out B cb w1.drew hrd; have HB : Hid (Below w.heap.size w w1) := ⟨hbel.os, hbel.tape, hbel.output, hbel.size, hbel.block⟩; clear hrd hbel))
  all_goals go_wp2
  all_goals go_ret
  all_goals exact ⟨rfl, HB.out⟩
theorem istr_any (bx g o lx cx v : Nat) (A : Option Addr) (w : World) (h0 : w.cell? ⟨g, o, none⟩ = some (.bool false)) (h1 : w.cell? ⟨g, o + 1, none⟩ = some (.slice A lx cx)) (hx : Own w bx (.slice A lx cx) (digs 18446744073709551616 v)) (hlx : lx ≤ 8) (hv : VarsL w w.heap.size) :
    Calls Tryz.prog 163 #[.pointer (some ⟨g, o, none⟩)] w (TextP w (decB v)) := by
  have Con := hide (text_any bx g o lx cx v A w h0 h1 hx hlx hv)
  clear h0 h1 hx hv
  go_enter Tryz.func163, Tryz.ntmps163
  go_wp2_with fail
  refine (Con.out).mono ?_
  rintro e w1 ⟨rfl, hb⟩
  have HB := hide hb
  clear hb Con
  go_wp2
  go_ret
  exact ⟨rfl, HB.out⟩
theorem bstr_any (bx g o lx cx v : Nat) (A : Option Addr) (w : World) (h0 : w.cell? ⟨g, o, none⟩ = some (.bool false)) (h1 : w.cell? ⟨g, o + 1, none⟩ = some (.slice A lx cx)) (hx : Own w bx (.slice A lx cx) (digs 18446744073709551616 v)) (hlx : lx ≤ 8) (hv : VarsL w w.heap.size) :
    Calls Tryz.prog 138 #[.pointer (some ⟨g, o, none⟩)] w (TextP w (decB v)) := by
  have Con := hide (istr_any bx g o lx cx v A w h0 h1 hx hlx hv)
  clear h0 h1 hx hv
  go_enter Tryz.func138, Tryz.ntmps138
  go_wp2_with fail
  refine (Con.out).mono ?_
  rintro e w1 ⟨rfl, hb⟩
  have HB := hide hb
  clear hb Con
  go_wp2
  go_ret
  exact ⟨rfl, HB.out⟩
end Go.Proofs.YtfkcobdkgjhfaaaGreatDoor

/- Walks: Int.Neg, BigInt.Neg of a number above 0. -/
set_option linter.unusedVariables false
set_option linter.unusedSimpArgs false
namespace Go.Proofs.YtfkcobdkgjhfaaaGreatDoor
open Go.RowKit

theorem setInt_set (cs : Array Value) (o : Nat) (a b : Bool) (r : Value) : (setInt cs o a r).setIfInBounds o (.bool b) = setInt cs o b r := by
  unfold setInt
  apply Array.ext_getElem?
  intro i
  simp only [Array.getElem?_setIfInBounds, Array.size_setIfInBounds]
  by_cases h : o = i
  · simp [h]
  · simp [h]

set_option maxHeartbeats 1000000 in
theorem ineg_any (base gz oz gx ox : Nat) (tz tx : TypeId) (cz cx : Array Value) (nz : Bool) (vz vx : Value) (m : Nat) (xs : List Nat) (w : World)
    (hz : Blk w gz tz cz) (hz0 : cz[oz]? = some (.bool nz)) (hz1 : cz[oz + 1]? = some vz) (hzr : Room w base vz m) (htz : tz ≠ 145)
    (hx : Blk w gx tx cx) (hx0 : cx[ox]? = some (.bool false)) (hx1 : cx[ox + 1]? = some vx) (hxr : RdW w vx xs) (htx : tx ≠ 145)
    (hne : gz ≠ gx ∨ (oz ≠ ox ∧ ox ≠ oz + 1)) (hb : base ≤ w.heap.size) (hn : xs.length ≤ 1099511627776) (hp : 0 < xs.length) :
    Calls Tryz.prog 126 #[.pointer (some ⟨gz, oz, none⟩), .pointer (some ⟨gx, ox, none⟩)] w (IntP w base gz oz tz cz vz true xs) := by
  have Con := hide (iset_any base gz oz gx ox tz tx cz cx nz false vz vx m xs w hz hz0 hz1 hzr htz hx hx0 hx1 hxr htx hne hb hn)
  have lt0 : oz < cz.size := (Array.getElem?_eq_some_iff.1 hz0).1
  have lt1 : oz + 1 < cz.size := (Array.getElem?_eq_some_iff.1 hz1).1
  have HL := hide (And.intro lt0 lt1)
  clear hz hz0 hz1 hzr hx hx0 hx1 hxr lt0 lt1
  go_enter Tryz.func126, Tryz.ntmps126
  go_wp2_with fail
  refine (Con.out).mono ?_
  rintro e w1 ⟨rfl, r, hr, hrb, hB, hF⟩
  obtain ⟨A, c, rfl⟩ := hr.room.slice
  have c0 : w1.cell? ⟨gz, oz, none⟩ = some (.bool false) := by rw [hB.cell]; simp [setInt, HL.out.1]
  have c1 : w1.cell? ⟨gz, oz + 1, none⟩ = some (.slice A xs.length c) := by rw [hB.cell]; simp [setInt, HL.out.2, Array.getElem?_setIfInBounds]
  have f0 : w1.frozen? ⟨gz, oz, none⟩ = false := hB.frozen _
  have fin : IntP w base gz oz tz cz vz true xs (.returned (.pointer (some ⟨gz, oz, none⟩))) (w1.setCell ⟨gz, oz, none⟩ (.bool true)) := by
    refine ⟨rfl, _, hr.fr (Fr.setCell (Fr.refl w1 (fun k => k = gz)) (p := ⟨gz, oz, none⟩) (fun _ => rfl) _) (hr.room.ne_blk hB htz), hrb, ?_, hF.setCell (p := ⟨gz, oz, none⟩) (fun _ => .inl rfl) _⟩
    have := hB.set oz (.bool true)
    rwa [setInt_set] at this
  have Fin := hide fin
  have d1 : decide ((0 : Int) < (xs.length : Int)) = true := decide_eq_true (by omega)
  clear fin hr hrb hB hF Con
  go_wp2
  go_ret
  exact Fin.out
set_option maxHeartbeats 1000000 in
theorem bneg_any (base g oz ox c l lz cz' : Nat) (t : TypeId) (cs : Array Value) (A Az : Option Addr) (nz mz : Bool) (xs : List Nat) (w : World)
    (hz : Blk w g t cs) (hz0 : cs[oz]? = some (.bool nz)) (hz1 : cs[oz + 1]? = some (.slice Az lz cz')) (hz2 : cs[oz + 2]? = some (.bool mz)) (hzr : Room w base (.slice Az lz cz') lz) (ht : t ≠ 145)
    (hx0 : cs[ox]? = some (.bool false)) (hx1 : cs[ox + 1]? = some (.slice A l c)) (hx2 : cs[ox + 2]? = some (.bool false)) (hxr : RdW w (.slice A l c) xs)
    (hne : ox + 2 < oz) (hb : base ≤ w.heap.size) (hn : xs.length ≤ 1099511627776) (hp : 0 < xs.length) (hbx : ∀ k, (Value.slice A l c).ownBlock = some k → k ≠ g) :
    Calls Tryz.prog 102 #[.pointer (some ⟨g, oz, none⟩), .pointer (some ⟨g, ox, none⟩)] w (BigP w base g oz t cs (.slice Az lz cz') true false xs) := by
  have hl : l = xs.length := RdG.len (k := .u64) hxr
  have c0 : w.cell? ⟨g, ox, none⟩ = some (.bool false) := (hz.cell _).trans hx0
  have c1 : w.cell? ⟨g, ox + 1, none⟩ = some (.slice A l c) := (hz.cell _).trans hx1
  have c2 : w.cell? ⟨g, oz + 2, none⟩ = some (.bool mz) := (hz.cell _).trans hz2
  have f2 : w.frozen? ⟨g, oz + 2, none⟩ = false := hz.frozen _
  have hf0 : Fr w (w.setCell ⟨g, oz + 2, none⟩ (.bool false)).drew (fun k => k = g) := ((Fr.refl w (fun k => k = g)).setCell (p := ⟨g, oz + 2, none⟩) (fun _ => rfl) _).drew
  have Sg := hide (isign_any g ox false A l c w c0 c1)
  have hs : sgnI false l = 1 := sgnI_pos (by omega)
  have con := ineg_any base g oz g ox t t (cs.setIfInBounds (oz + 2) (.bool false)) (cs.setIfInBounds (oz + 2) (.bool false)) nz (.slice Az lz cz') (.slice A l c) lz xs (w.setCell ⟨g, oz + 2, none⟩ (.bool false)).drew
    (hz.set _ _) (by rw [getElem?_set_ne (by omega)]; exact hz0) (by rw [getElem?_set_ne (by omega)]; exact hz1) (hzr.fr hf0 (hzr.ne_blk hz ht)) ht
    (hz.set _ _) (by rw [getElem?_set_ne (by omega)]; exact hx0) (by rw [getElem?_set_ne (by omega)]; exact hx1) (hxr.fr hf0 hbx) ht (.inr ⟨by omega, by omega⟩) (by simpa using hb) hn hp
  have Con := hide con
  have Fin := hide (fun e w' h => big_fin (mi := false) (W := (w.setCell ⟨g, oz + 2, none⟩ (.bool false)).drew) (w := w) (base := base) (g := g) (o := oz) (t := t) (cs := cs) (vz := .slice Az lz cz') (n := true) (xs := xs) (.inr rfl) (e := e) (w' := w') h)
  rw [hs] at Sg
  clear hz hz0 hz1 hz2 hzr hx0 hx1 hx2 hxr con hf0 c0 c1 hbx hs
  go_enter Tryz.func102, Tryz.ntmps102
  go_wp2_with fail
  refine (Sg.out).mono ?_
  rintro e w1 ⟨rfl, rfl⟩
  clear Sg
  go_wp2_with fail
  go_region_with (go_at_call 126; go_loud (refine (Con.out).mono ?_; rintro e w1 HI; have HI2 := hide HI; obtain ⟨rfl, _⟩ := HI))
  all_goals go_wp2
  all_goals go_ret
  all_goals exact Fin.out _ _ HI2.out
end Go.Proofs.YtfkcobdkgjhfaaaGreatDoor
