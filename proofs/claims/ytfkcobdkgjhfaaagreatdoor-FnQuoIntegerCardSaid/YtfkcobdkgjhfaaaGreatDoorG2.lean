/- Parts of the proofs: Gen, Row, DivMath, Bits1. -/
import Derived.Deep.RegionWith
import Derived.Deep.DeepFit
import Derived.BigQuiet
import Derived.Deep.QuietTactic
import Derived.Laws.CopyOwn
import Derived.Test.YtfkcobdkgjhfaaaGreatDoorRows
import Derived.ProofKit
import Derived.OpenShut
import Derived.ChangeOld
import Derived.Lib.SmallJoins
import Derived.Test.YtfkcobdkgjhfaaaGreatDoorShelf
import Derived.Laws.Externs
import Derived.Test.YtfkcobdkgjhfaaaGreatDoorG1
/- Rows of numbers of whatever kind: read, or owned by the call. -/
set_option linter.unusedVariables false
set_option linter.unusedSimpArgs false
namespace Go.Proofs.YtfkcobdkgjhfaaaGreatDoor
open Go.RowKit

/-- Numbers as the cells hold them. -/
def gv (k : IntKind) (xs : List Nat) : List Value := xs.map fun (d : Nat) => Value.int k (d : Int)
theorem gv_length (k : IntKind) (xs : List Nat) : (gv k xs).length = xs.length := by simp [gv]
theorem gv_one {k : IntKind} {xs : List Nat} : ∀ u ∈ gv k xs, u.oneCell' = true := by
  intro u hu; simp [gv] at hu; obtain ⟨d, _, rfl⟩ := hu; rfl
theorem gv_at (k : IntKind) (xs : List Nat) (i : Nat) : (gv k xs)[i]? = (xs[i]?).map fun (d : Nat) => Value.int k (d : Int) := by simp [gv]
theorem gv_snoc (k : IntKind) (xs : List Nat) (d : Nat) : gv k (xs ++ [d]) = gv k xs ++ [.int k (d : Int)] := by simp [gv]

/-- A slice that reads as the numbers xs. -/
def RdG (k : IntKind) (w : World) (v : Value) (xs : List Nat) : Prop :=
  (∃ A c, v = .slice A 0 c ∧ xs = [] ∧ c ≤ maxLen) ∨ ∃ g o c, v = .slice (some ⟨g, o, none⟩) xs.length c ∧ xs.length ≤ c ∧ c ≤ maxLen ∧ ∀ i, i < xs.length → w.cell? ⟨g, o + i, none⟩ = some (.int k (xs.getD i 0 : Nat))
theorem RdG.of_w {w : World} {v : Value} {xs : List Nat} (h : RdW w v xs) : RdG .u64 w v xs := h
theorem RdG.fr {k : IntKind} {w w' : World} {v : Value} {xs : List Nat} {S : Nat → Prop} (h : RdG k w v xs) (hf : Fr w w' S) (hs : ∀ b, v.ownBlock = some b → ¬ S b) : RdG k w' v xs := by
  rcases h with h | ⟨g, o, c, rfl, h1, h2, h3⟩
  · exact .inl h
  · exact .inr ⟨g, o, c, rfl, h1, h2, fun i hi => hf.cell (h3 i hi) (hs g rfl)⟩
theorem RdG.below {k : IntKind} {w w' : World} {v : Value} {xs : List Nat} (h : RdG k w v xs) (hb : Below w.heap.size w w') : RdG k w' v xs := h.fr (Fr.of_below hb (fun _ => False)) (fun _ _ h => h)
theorem RdG.slice {k : IntKind} {w : World} {v : Value} {xs : List Nat} (h : RdG k w v xs) : ∃ A c, v = .slice A xs.length c ∧ xs.length ≤ c ∧ c ≤ maxLen := by
  rcases h with ⟨A, c, rfl, rfl, hc⟩ | ⟨g, o, c, rfl, h1, h2, _⟩
  · exact ⟨A, c, rfl, Nat.zero_le _, hc⟩
  · exact ⟨_, c, rfl, h1, h2⟩
theorem RdG.at_ {k : IntKind} {w : World} {A : Option Addr} {n c : Nat} {xs : List Nat} (h : RdG k w (.slice A n c) xs) : ∀ i, i < xs.length → ∃ g o, A = some ⟨g, o, none⟩ ∧ g < w.heap.size ∧ w.cell? ⟨g, o + i, none⟩ = some (.int k (xs.getD i 0 : Nat)) := by
  rcases h with ⟨_, _, h1, rfl, _⟩ | ⟨g, o, c', h1, _, _, h3⟩
  · intro i hi; simp at hi
  · intro i hi
    injection h1 with h1
    exact ⟨g, o, h1, World.block_lt_of_cell? _ _ (h3 i hi), h3 i hi⟩
theorem RdG.len {k : IntKind} {w : World} {A : Option Addr} {n c : Nat} {xs : List Nat} (h : RdG k w (.slice A n c) xs) : n = xs.length := by
  obtain ⟨B, d, he, _⟩ := h.slice
  injection he
theorem RdG.take {k : IntKind} {w : World} {A : Option Addr} {n c : Nat} {xs : List Nat} (h : RdG k w (.slice A n c) xs) (m : Nat) (hm : m ≤ xs.length) : RdG k w (.slice A m c) (xs.take m) := by
  rcases h with ⟨A', c', h1, rfl, hc⟩ | ⟨g, o, c', h1, h2, h4, h3⟩
  · injection h1 with a b c
    subst a; subst c
    obtain rfl : m = 0 := by simpa using hm
    exact .inl ⟨_, _, rfl, rfl, hc⟩
  · injection h1 with a b c
    subst a; subst c
    refine .inr ⟨g, o, c, by rw [List.length_take, Nat.min_eq_left hm], by rw [List.length_take]; omega, h4, fun i hi => ?_⟩
    rw [List.length_take] at hi
    rw [h3 i (by omega)]
    simp [List.getD_eq_getElem?_getD, List.getElem?_take, show i < m by omega]

/-- A row of the call's own (elements of type t) that holds xs. -/
def OwnG (t : TypeId) (k : IntKind) (w : World) (base : Nat) (v : Value) (xs : List Nat) : Prop := w.ownsRow base t 1 v xs.length (gv k xs)
section
variable {t : TypeId} {k : IntKind} {w w' : World} {base : Nat} {v : Value} {xs : List Nat}
theorem OwnG.nil (t : TypeId) (k : IntKind) (w : World) (base : Nat) : OwnG t k w base (.slice none 0 0) [] := ⟨by simp [gv], .inl ⟨rfl, rfl⟩⟩
theorem OwnG.form (h : OwnG t k w base v xs) : (v = .slice none 0 0 ∧ xs = []) ∨ ∃ g cap cur, v = .slice (some ⟨g, 0, none⟩) xs.length cap ∧ base ≤ g ∧ Blk w g t cur ∧ xs.length ≤ cap ∧ cap ≤ maxLen ∧ cur.size = cap ∧ cur.toList.take xs.length = gv k xs := by
  obtain ⟨h1, h2⟩ := h
  rcases h2 with ⟨h2, h3⟩ | ⟨g, cap, cur, rfl, hg, hh, a, b, c, d⟩
  · exact .inl ⟨h2, List.eq_nil_of_length_eq_zero h3⟩
  · exact .inr ⟨g, cap, cur, rfl, hg, hh, a, b, by simpa using c, by simpa using d⟩
theorem OwnG.mk {g cap : Nat} {cur : Array Value} (hg : base ≤ g) (hb : Blk w g t cur) (hn : xs.length ≤ cap) (hc : cap ≤ maxLen) (hs : cur.size = cap) (hx : cur.toList.take xs.length = gv k xs) : OwnG t k w base (.slice (some ⟨g, 0, none⟩) xs.length cap) xs :=
  ⟨by simp [gv], .inr ⟨g, cap, cur, rfl, hg, hb, hn, hc, by simpa using hs, by simpa using hx⟩⟩
theorem OwnG.slice (h : OwnG t k w base v xs) : ∃ A c, v = .slice A xs.length c := by
  rcases h.form with ⟨rfl, rfl⟩ | ⟨g, cap, cur, rfl, _⟩
  · exact ⟨none, 0, rfl⟩
  · exact ⟨_, cap, rfl⟩
theorem gv_of_take {cur : Array Value} (h : cur.toList.take xs.length = gv k xs) (i : Nat) (hi : i < xs.length) : cur[i]? = some (.int k (xs.getD i 0 : Nat)) := by
  have h1 : (cur.toList.take xs.length)[i]? = (gv k xs)[i]? := by rw [h]
  rw [List.getElem?_take, if_pos hi, gv_at, List.getElem?_eq_getElem hi] at h1
  rw [getD_at hi]
  simpa using h1
theorem OwnG.rd (h : OwnG t k w base v xs) : RdG k w v xs := by
  rcases h.form with ⟨h1, h2⟩ | ⟨g, cap, cur, rfl, hg, hh, a, b, c, d⟩
  · exact .inl ⟨_, _, h1, h2, Nat.zero_le _⟩
  · exact .inr ⟨g, 0, cap, rfl, a, b, fun i hi => by rw [Nat.zero_add, hh.cell]; exact gv_of_take d i hi⟩
theorem OwnG.lt (h : OwnG t k w base v xs) {b : Nat} (hb : v.ownBlock = some b) : base ≤ b ∧ b < w.heap.size := World.ownsRow.lt h b hb
theorem OwnG.fr {S : Nat → Prop} (h : OwnG t k w base v xs) (hf : Fr w w' S) (hs : ∀ b, v.ownBlock = some b → ¬ S b) : OwnG t k w' base v xs := by
  obtain ⟨h1, h2⟩ := h
  refine ⟨h1, ?_⟩
  rcases h2 with h2 | ⟨g, cap, cur, rfl, hg, hh, r⟩
  · exact .inl h2
  · exact .inr ⟨g, cap, cur, rfl, hg, Blk.fr (t := t) hh hf (hs g rfl), r⟩
theorem OwnG.below (h : OwnG t k w base v xs) (hb : Below w.heap.size w w') : OwnG t k w' base v xs := h.fr (Fr.of_below hb (fun _ => False)) (fun _ _ h => h)
theorem OwnG.lower {base' : Nat} (h : OwnG t k w base v xs) (hb : base' ≤ base) : OwnG t k w base' v xs := by
  obtain ⟨h1, h2⟩ := h
  refine ⟨h1, ?_⟩
  rcases h2 with h2 | ⟨g, cap, cur, rfl, hg, r⟩
  · exact .inl h2
  · exact .inr ⟨g, cap, cur, rfl, Nat.le_trans hb hg, r⟩
theorem OwnG.ne_blk {g : Nat} {t' : TypeId} {cs : Array Value} (h : OwnG t k w base v xs) (hb : Blk w g t' cs) (ht : t' ≠ t) : ∀ b, v.ownBlock = some b → b ≠ g := by
  intro b hbb
  rcases h.form with ⟨rfl, _⟩ | ⟨g', cap, cur, rfl, _, hh, _⟩
  · cases hbb
  · obtain rfl : g' = b := by simpa [Value.ownBlock] using hbb
    exact hh.type_ne hb (Ne.symm ht)
theorem OwnG.take {A : Option Addr} {n c : Nat} (h : OwnG t k w base (.slice A n c) xs) (m : Nat) (hm : m ≤ xs.length) : OwnG t k w base (.slice A m c) (xs.take m) := by
  rcases h.form with ⟨h1, rfl⟩ | ⟨g, cap, cur, h1, hg, hh, a, b, e, d⟩
  · injection h1 with p q r
    subst p; subst r
    obtain rfl : m = 0 := by simpa using hm
    exact OwnG.nil _ _ _ _
  · injection h1 with p q r
    subst p; subst r
    have hl : (xs.take m).length = m := by rw [List.length_take]; omega
    have := OwnG.mk (w := w) (xs := xs.take m) (k := k) hg hh (by omega) b e (by
      rw [hl]
      have e1 : cur.toList.take m = (cur.toList.take xs.length).take m := by rw [List.take_take]; congr 1; omega
      rw [e1, d]; simp [gv])
    rwa [hl] at this
end

theorem gv_set (k : IntKind) (xs : List Nat) (i d : Nat) : gv k (xs.set i d) = (gv k xs).set i (.int k (d : Int)) := by simp [gv, List.map_set]
/-- A store into the row. -/
theorem OwnG.set {t : TypeId} {k : IntKind} {w : World} {base g n c : Nat} {xs : List Nat} (h : OwnG t k w base (.slice (some ⟨g, 0, none⟩) n c) xs) (i d : Nat) (hi : i < xs.length) :
    OwnG t k (w.setCell ⟨g, i, none⟩ (.int k (d : Int))) base (.slice (some ⟨g, 0, none⟩) n c) (xs.set i d) := by
  rcases h.form with ⟨h1, _⟩ | ⟨g', cap, cur, h1, hg, hh, a, b, e, f⟩
  · injection h1 with h1; cases h1
  · injection h1 with h1 h2 h3
    injection h1 with h1
    injection h1 with h1
    subst h1; subst h2; subst h3
    have := OwnG.mk (xs := xs.set i d) (k := k) hg (hh.set i (.int k (d : Int))) (by simpa using a) b (by simpa using e) (by
      rw [gv_set, ← f, List.length_set]
      simp [List.take_set])
    simpa using this
theorem OwnG.block {t : TypeId} {k : IntKind} {w : World} {base n c : Nat} {A : Option Addr} {xs : List Nat} (h : OwnG t k w base (.slice A n c) xs) (hn : 0 < n) : ∃ g, A = some ⟨g, 0, none⟩ ∧ base ≤ g ∧ g < w.heap.size ∧ (∀ i, i < xs.length → w.cell? ⟨g, i, none⟩ = some (.int k (xs.getD i 0 : Nat))) ∧ ∀ i, w.frozen? ⟨g, i, none⟩ = false := by
  rcases h.form with ⟨h1, _⟩ | ⟨g', cap, cur, h1, hg, hh, a, b, e, f⟩
  · injection h1 with _ h2; omega
  · injection h1 with h1
    exact ⟨g', h1, hg, hh.lt, fun i hi => (hh.cell i).trans (gv_of_take f i hi), fun i => hh.frozen i⟩

/-- Append's arm closes so: what it leaves is the longer row. -/
theorem OwnG.grown {t : TypeId} {k : IntKind} {w1 : World} {base : Nat} {v' : Value} {xs : List Nat} {d n : Nat} (hn : xs.length = n) (h : w1.ownsRow base t 1 v' (n + 1) (gv k xs ++ [.int k (d : Int)])) :
    ∃ B c, v' = .slice B (n + 1) c ∧ OwnG t k w1 base (.slice B (n + 1) c) (xs ++ [d]) := by
  have h1 : OwnG t k w1 base v' (xs ++ [d]) := by
    unfold OwnG
    rw [gv_snoc, List.length_append, hn]
    exact h
  obtain ⟨B, c, he⟩ := h1.slice
  rw [List.length_append, hn] at he
  exact ⟨B, c, he, by rw [← List.length_singleton (a := d)]; rw [← he]; exact h1⟩
theorem below_app {B : Nat} {w w1 w2 : World} {row : Option Nat} (h : Below B w w1) (hB : B ≤ w1.heap.size) (o : Obj) (hg : (w1.alloc o).grownBy w2 row) (hr : ∀ k, row = some k → B ≤ k) : Below B w w2 :=
  (h.alloc hB o).grown hg (by simp; omega) hr
theorem below_next {w w1 w2 : World} (h : Below w.heap.size w w1) (k : Below w1.heap.size w1 w2) : Below w.heap.size w w2 := h.trans (k.mono h.size)
theorem below_al {w w1 : World} (h : Below w.heap.size w w1) (o : Obj) : Below w.heap.size w (w1.alloc o) := h.alloc h.size o
theorem bcell {W w1 : World} (hb : Below W.heap.size W w1) : (∀ b o, b < W.heap.size → w1.cell? ⟨b, o, none⟩ = W.cell? ⟨b, o, none⟩) ∧ (∀ b o, b < W.heap.size → w1.frozen? ⟨b, o, none⟩ = W.frozen? ⟨b, o, none⟩) :=
  ⟨fun b o h => hb.cell (p := ⟨b, o, none⟩) h, fun b o h => hb.frozen (p := ⟨b, o, none⟩) h⟩
end Go.Proofs.YtfkcobdkgjhfaaaGreatDoor

/- A Dec that came in as an argument, opened. -/
set_option linter.unusedVariables false
set_option linter.unusedSimpArgs false
namespace Go.Proofs.YtfkcobdkgjhfaaaGreatDoor
open Go.ChangeShapes Go.WideShapes Go.ChangeAt Go.RowKit Go.Joins

theorem own : ownKnob Tryz.prog.godebug = none := by kernel_rfl
theorem laidOut : laidOutB Tryz.prog = true := by kernel_rfl
theorem cellsDec : Tryz.prog.cellsOf 24 = 4 := by kernel_rfl

theorem u64_nat {n : Int} (h : (Lit.int .u64 n).wf = true) : 0 ≤ n ∧ n < 18446744073709551616 := by
  simp [Lit.wf, IntKind.min, IntKind.max, IntKind.signed, IntKind.bits] at h
  omega

theorem row_open {w : World} {a : Addr} {len cap : Nat} {zs : List Int} (hl : len ≤ cap) (hm : cap ≤ maxLen) (hz : zs.length = cap) (hcell : ∀ i, i < zs.length → w.cell? (a.add i) = some (.int .u64 (zs.getD i 0)))
    (hwz : ∀ n ∈ zs, (Lit.int .u64 n).wf = true) :
    ∃ xs : List Nat, xs.length = len ∧ Dig 18446744073709551616 xs ∧ RdG .u64 w (.slice (some a) xs.length cap) xs := by
  have hlen : ((zs.take len).map Int.toNat).length = len := by simp; omega
  refine ⟨(zs.take len).map Int.toNat, hlen, ?_, ?_⟩
  · intro d hd
    simp only [List.mem_map] at hd
    obtain ⟨z, hz1, rfl⟩ := hd
    have := u64_nat (hwz z (List.mem_of_mem_take hz1))
    omega
  · rw [hlen]
    by_cases h0 : len = 0
    · subst h0
      exact .inl ⟨_, _, rfl, by simp, hm⟩
    · obtain ⟨b, o, s⟩ := a
      obtain rfl : s = none := by simpa [Addr.add] using World.cell?_spot (hcell 0 (by omega))
      refine .inr ⟨b, o, cap, by rw [hlen], by rw [hlen]; exact hl, hm, fun i hi => ?_⟩
      rw [hlen] at hi
      have h1 := hcell i (by omega)
      have h2 := u64_nat (hwz (zs.getD i 0) (by rw [List.getD_eq_getElem?_getD, List.getElem?_eq_getElem (by omega)]; exact List.getElem_mem _))
      have h3 : (((zs.take len).map Int.toNat).getD i 0 : Nat) = (zs.getD i 0).toNat := by
        simp [List.getD_eq_getElem?_getD, List.getElem?_take, hi]
        cases zs[i]? <;> simp
      rw [h3, Int.toNat_of_nonneg h2.1]
      have h4 : (⟨b, o, none⟩ : Addr).add i = ⟨b, o + i, none⟩ := by cases i <;> simp [Addr.add]
      rw [← h4]
      exact h1

section
variable {H : Type} {enc : TypeId × Value → H} {w : World}
set_option maxRecDepth 100000 in
theorem dec_open {v : Value} {d : DataW H} {p : List MemPlace} (hv : Value.okWide Tryz.prog w .any 0 24 v) (h : DataW.Trod enc Tryz.prog w 0 (fun _ => true) true 24 v d p) :
    ∃ (form : Int) (neg : Bool) (A : Option Addr) (c : Nat) (xs : List Nat) (exp : Int), v = .agg #[.int .i64 form, .bool neg, .slice A xs.length c, .int .i64 exp] ∧
      RdG .u64 w (.slice A xs.length c) xs ∧ Dig 18446744073709551616 xs ∧ (Lit.int .i64 form).wf = true ∧ (Lit.int .i64 exp).wf = true := by
  obtain ⟨c0, c1, c2, c3, y0, y1, y2, y3, m, rfl, -, -, hy0, hy1, hy2, hy3⟩ := open_agg4 Tryz.underlying24 (by kernel_rfl) cellsDec hv h
  obtain ⟨form, e0, -, wa⟩ := DataW.trod_int Tryz.underlying3 hy0
  obtain ⟨neg, e1, -⟩ := DataW.trod_bool Tryz.underlying4 hy1
  obtain ⟨exp, e3, -, wb⟩ := DataW.trod_int Tryz.underlying3 hy3
  simp at e0 e1 e3
  subst e0 e1 e3
  rcases open_ints Tryz.underlying22 Tryz.underlying46 (by kernel_rfl) hy2 with ⟨hcs, -⟩ | ⟨x, l, c, zs, hcs, -, hl, hm, hz, -, hcell, hwz⟩
  · simp at hcs
    subst hcs
    exact ⟨form, neg, none, 0, [], exp, rfl, .inl ⟨_, _, rfl, rfl, Nat.zero_le _⟩, fun d hd => by simp at hd, wa, wb⟩
  · simp at hcs
    subst hcs
    obtain ⟨xs, rfl, hd, hr⟩ := row_open hl hm (by simpa using hz) hcell hwz
    exact ⟨form, neg, _, c, xs, exp, rfl, hr, hd, wa, wb⟩

set_option maxRecDepth 100000 in
theorem uints_open {v : Value} {d : DataW H} {p : List MemPlace} (hv : Value.okWide Tryz.prog w .any 0 22 v) (h : DataW.Trod enc Tryz.prog w 0 (fun _ => true) true 22 v d p) :
    ∃ (A : Option Addr) (c : Nat) (xs : List Nat), v = .slice A xs.length c ∧ RdG .u64 w (.slice A xs.length c) xs ∧ Dig 18446744073709551616 xs := by
  obtain ⟨a, len, cap, rfl⟩ := okWide_slice Tryz.underlying22 hv
  obtain ⟨fuel, hf⟩ := h
  have hc1 : Tryz.prog.cellsOf 46 = 1 := by kernel_rfl
  rcases open_ints Tryz.underlying22 Tryz.underlying46 hc1 hf with ⟨hcs, -⟩ | ⟨x, l, c, zs, hcs, -, hl, hm, hz, -, hcell, hwz⟩
  · simp [Value.cells] at hcs
    obtain ⟨rfl, rfl, rfl⟩ := hcs
    exact ⟨none, 0, [], rfl, .inl ⟨_, _, rfl, rfl, Nat.zero_le _⟩, fun d hd => by simp at hd⟩
  · simp [Value.cells] at hcs
    obtain ⟨rfl, rfl, rfl⟩ := hcs
    obtain ⟨xs, rfl, hd, hr⟩ := row_open hl hm (by simpa using hz) hcell hwz
    exact ⟨_, cap, xs, rfl, hr, hd⟩

theorem trodVars_len {P : Program} {sp : Nat → Bool} : ∀ {ns : List String} {gs : List (DataW H)} {ps : List MemPlace}, DataW.TrodVars enc P w sp ns gs ps → gs.length = ns.length
  | [], [], _, _ => rfl
  | [], _ :: _, _, h => h.elim
  | _ :: _, [], _, h => h.elim
  | _ :: ns, _ :: gs, _, h => by
    obtain ⟨_, _, _, _, _, _, _, _, _, _, h2, _⟩ := h
    simp [trodVars_len h2]
end
end Go.Proofs.YtfkcobdkgjhfaaaGreatDoor

/- Plain arithmetic under the division of words: a quotient by a reciprocal, and the school method on halves. No program in sight. -/
set_option linter.unusedVariables false
set_option linter.unusedSimpArgs false
namespace Go.Proofs.YtfkcobdkgjhfaaaGreatDoor

/-- The guess is not too great. -/
theorem dww_le {B d M x1 x0 t : Nat} (hB : 0 < B) (hd : d ≤ B) (hM : d * M ≤ B * B) (ht : t * B ≤ M * x1 + x0) : d * t ≤ x1 * B + x0 := by
  apply Nat.le_of_mul_le_mul_right _ hB
  have h1 : d * (t * B) ≤ d * (M * x1 + x0) := Nat.mul_le_mul_left d ht
  have h3 : d * M * x1 ≤ B * B * x1 := Nat.mul_le_mul_right x1 hM
  have h4 : d * x0 ≤ B * x0 := Nat.mul_le_mul_right x0 hd
  have e1 : d * (M * x1 + x0) = d * M * x1 + d * x0 := by rw [Nat.mul_add, Nat.mul_assoc]
  have e2 : (x1 * B + x0) * B = B * B * x1 + B * x0 := by grind
  have e3 : d * t * B = d * (t * B) := Nat.mul_assoc _ _ _
  omega

/-- .. nor too small by much. -/
theorem dww_lt {B d M x1 x0 t : Nat} (hB : 0 < B) (hd : d ≤ B) (hM : B * B ≤ d * M + d) (h0 : x0 < B) (h1 : x1 < d) (ht : M * x1 + x0 < (t + 1) * B) : x1 * B + x0 < d * t + d + B := by
  apply Nat.lt_of_mul_lt_mul_right (a := B)
  have a1 : d * (M * x1 + x0 + 1) ≤ d * ((t + 1) * B) := Nat.mul_le_mul_left d ht
  have a2 : B * B * x1 ≤ (d * M + d) * x1 := Nat.mul_le_mul_right x1 hM
  have a3 : (B - d) * x0 ≤ (B - d) * (B - 1) := Nat.mul_le_mul_left _ (by omega)
  have a4 : d * x1 ≤ d * (d - 1) := Nat.mul_le_mul_left _ (by omega)
  obtain ⟨c, rfl⟩ : ∃ c, B = d + c := ⟨B - d, by omega⟩
  obtain ⟨e, rfl⟩ : ∃ e, d = e + 1 := ⟨d - 1, by omega⟩
  simp only [Nat.add_sub_cancel_left, Nat.add_sub_cancel] at a3 a4
  have e4 : e + 1 + c - 1 = e + c := by omega
  rw [e4] at a3
  grind

/-- The two corrections. -/
theorem dww_fix {X d q r : Nat} (hd : 0 < d) (h : X = d * q + r) (hr : r < d) : q = X / d ∧ r = X % d := by
  subst h
  rw [Nat.mul_add_div hd, Nat.div_eq_of_lt hr, Nat.mul_add_mod, Nat.mod_eq_of_lt hr]
  omega

/-! The school method on halves: K is half a word's base, d = y1 * K + y0, u < d, n1 < K. -/
section
variable {K d y1 y0 u n1 q r : Nat}
theorem half_lt (hu : u < d) (h1 : n1 < K) : (u * K + n1) / d < K := by
  rw [Nat.div_lt_iff_lt_mul (by omega)]
  have : (u + 1) * K ≤ d * K := Nat.mul_le_mul_right K hu
  grind
theorem half_init (hd : d = y1 * K + y0) (hy : 0 < y1) (hu : u < d) (h1 : n1 < K) : (u * K + n1) / d ≤ u / y1 := by
  rw [Nat.le_div_iff_mul_le hy]
  have h2 : (u * K + n1) / d * d ≤ u * K + n1 := Nat.div_mul_le_self _ _
  generalize (u * K + n1) / d = Q at *
  subst hd
  have h3 : Q * y1 * K ≤ u * K + n1 := by
    have : Q * (y1 * K + y0) = Q * y1 * K + Q * y0 := by grind
    omega
  have h4 : Q * y1 * K < (u + 1) * K := by grind
  have h5 : Q * y1 < u + 1 := Nat.lt_of_mul_lt_mul_right h4
  omega
theorem half_init2 (hd : d = y1 * K + y0) (hK : K ≤ 2 * y1) (h0 : y0 < K) (hu : u < d) (hy : 0 < y1) : u / y1 ≤ K + 1 := by
  have : u < (K + 2) * y1 := by
    have e : (K + 2) * y1 = y1 * K + 2 * y1 := by grind
    omega
  have := (Nat.div_lt_iff_lt_mul hy).2 this
  omega
theorem half_dec (hd : d = y1 * K + y0) (hr : q * y1 + r = u) (hu : u < d) (h1 : n1 < K) (hQ : (u * K + n1) / d ≤ q) (hc : K ≤ q ∨ K * r + n1 < q * y0) : 1 ≤ q ∧ (u * K + n1) / d ≤ q - 1 := by
  have hl := half_lt hu h1
  rcases hc with hc | hc
  · omega
  · have h2 : u * K + n1 < q * d := by
      subst hd hr
      have e1 : q * (y1 * K + y0) = q * y1 * K + q * y0 := by grind
      have e2 : (q * y1 + r) * K + n1 = q * y1 * K + (K * r + n1) := by grind
      omega
    have h3 := (Nat.div_lt_iff_lt_mul (by omega : 0 < d)).2 h2
    generalize (u * K + n1) / d = Q at *
    omega
theorem half_exit (hd : d = y1 * K + y0) (hd0 : 0 < d) (hr : q * y1 + r = u) (hQ : (u * K + n1) / d ≤ q) (hc : q * y0 ≤ K * r + n1) : q = (u * K + n1) / d := by
  apply Nat.le_antisymm _ hQ
  rw [Nat.le_div_iff_mul_le hd0]
  subst hd hr
  have e1 : q * (y1 * K + y0) = q * y1 * K + q * y0 := by grind
  have e2 : (q * y1 + r) * K + n1 = q * y1 * K + (K * r + n1) := by grind
  omega
theorem half_break (hd : d = y1 * K + y0) (hd0 : 0 < d) (h0 : y0 < K) (hr : q * y1 + r = u) (hQ : (u * K + n1) / d ≤ q) (hq : q ≤ K) (hc : K ≤ r) : q = (u * K + n1) / d := by
  apply half_exit hd hd0 hr hQ
  have a1 : q * y0 ≤ K * y0 := Nat.mul_le_mul_right y0 hq
  have a2 : K * y0 ≤ K * r := Nat.mul_le_mul_left K (by omega)
  omega
end

theorem knuth_join {K N y p d u n1 n0 q1 u2 q2 rr : Nat} (hp : 0 < p) (hy : 0 < y) (hd : d = y * p) (hT : (u * K + n1) * K + n0 = N * p)
    (hq1 : q1 = (u * K + n1) / d) (hu2 : u2 = (u * K + n1) % d) (hq2 : q2 = (u2 * K + n0) / d) (hrr : rr = (u2 * K + n0) % d) : q1 * K + q2 = N / y ∧ rr / p = N % y := by
  have hd0 : 0 < d := by rw [hd]; exact Nat.mul_pos hy hp
  have e1 : u * K + n1 = d * q1 + u2 := by rw [hq1, hu2]; exact (Nat.div_add_mod _ _).symm
  have e2 : u2 * K + n0 = d * q2 + rr := by rw [hq2, hrr]; exact (Nat.div_add_mod _ _).symm
  have e3 : N * p = d * (q1 * K + q2) + rr := by
    rw [← hT, e1]
    have : (d * q1 + u2) * K + n0 = d * q1 * K + (u2 * K + n0) := by grind
    rw [this, e2]
    grind
  have hlt : rr < d := by rw [hrr]; exact Nat.mod_lt _ hd0
  obtain ⟨f1, f2⟩ := dww_fix hd0 e3 hlt
  rw [hd, Nat.mul_div_mul_right _ _ hp] at f1
  rw [hd, Nat.mul_mod_mul_right] at f2
  exact ⟨f1, by rw [f2, Nat.mul_div_cancel _ hp]⟩

theorem divww_math {u l d m th tl s1 c t dq1 dq0 r0 b r1 : Nat} (hd : 9223372036854775808 ≤ d) (hd1 : d < 18446744073709551616) (hu : u < d) (hl : l < 18446744073709551616)
    (hm : m = 340282366920938463463374607431768211455 / d - 18446744073709551616) (h1 : th = m * u / 18446744073709551616 ∧ tl = m * u % 18446744073709551616)
    (h2 : s1 = (tl + l + 0) % 18446744073709551616 ∧ c = (tl + l + 0) / 18446744073709551616) (h3 : t = (th + u + c) % 18446744073709551616)
    (h4 : dq1 = d * t / 18446744073709551616 ∧ dq0 = d * t % 18446744073709551616) (h5 : r0 = (l + 18446744073709551616 - dq0 - 0) % 18446744073709551616) (hb : b = if l < dq0 + 0 then 1 else 0)
    (h6 : r1 = (u + 18446744073709551616 - dq1 - b) % 18446744073709551616) :
    t < 18446744073709551616 ∧ ∃ r, u * 18446744073709551616 + l = d * t + r ∧ r < d + 18446744073709551616 ∧ r0 = r % 18446744073709551616 ∧ r1 = r / 18446744073709551616 := by
  obtain ⟨M, hM⟩ : ∃ M, M = 340282366920938463463374607431768211455 / d := ⟨_, rfl⟩
  have hM0 := Nat.div_add_mod 340282366920938463463374607431768211455 d
  have hM1 := Nat.mod_lt 340282366920938463463374607431768211455 (show 0 < d by omega)
  rw [← hM] at hM0 hm
  have hMB : 18446744073709551616 ≤ M := by
    rw [hM, Nat.le_div_iff_mul_le (by omega)]
    omega
  have hm2 : M = m + 18446744073709551616 := by omega
  have e1 : M * u + l = (th + u + c) * 18446744073709551616 + s1 := by
    rw [hm2, Nat.add_mul]
    generalize m * u = P at *
    omega
  have hs1 : s1 < 18446744073709551616 := by omega
  have b1 : (th + u + c) * 18446744073709551616 ≤ M * u + l := by omega
  have b2 : M * u + l < (th + u + c + 1) * 18446744073709551616 := by omega
  have a0 : 18446744073709551616 * 18446744073709551616 = 340282366920938463463374607431768211456 := by simp
  have a1 : d * M ≤ 18446744073709551616 * 18446744073709551616 := by rw [a0]; generalize d * M = P at *; omega
  have a2 : 18446744073709551616 * 18446744073709551616 ≤ d * M + d := by rw [a0]; generalize d * M = P at *; omega
  have p0 : 0 < 18446744073709551616 := by simp
  have c1 := dww_le p0 (Nat.le_of_lt hd1) a1 b1
  have c2 := dww_lt p0 (Nat.le_of_lt hd1) a2 hl hu b2
  have c3 : th + u + c < 18446744073709551616 := by
    have : d * (th + u + c) < d * 18446744073709551616 := by omega
    exact Nat.lt_of_mul_lt_mul_left this
  have e2 : t = th + u + c := by omega
  rw [← e2] at c1 c2
  refine ⟨by omega, u * 18446744073709551616 + l - d * t, by omega, by omega, ?_, ?_⟩
  · generalize d * t = P at *
    split at hb <;> omega
  · generalize d * t = P at *
    split at hb <;> omega
end Go.Proofs.YtfkcobdkgjhfaaaGreatDoor

/- Walks: math/bits' Add, Sub (with carry), Mul, LeadingZeros as this program calls them. -/
set_option linter.unusedVariables false
set_option linter.unusedSimpArgs false
namespace Go.Proofs.YtfkcobdkgjhfaaaGreatDoor
open Go.RowKit

theorem add64_run (x y c : Nat) (hc : c ≤ 1) (w : World) : (callFunc 262 #[.int .u64 (x : Int), .int .u64 (y : Int), .int .u64 (c : Int)]).run Tryz.prog w =
    .ok (.value (.tuple #[.int .u64 (((x + y + c) % 18446744073709551616 : Nat) : Int), .int .u64 (((x + y + c) / 18446744073709551616 : Nat) : Int)])) w := by
  rw [run_callFunc_extern Tryz.func262 (by kernel_rfl) (by kernel_rfl) (by kernel_rfl) (e := add64Entry) (by kernel_rfl), run_add64 x y c (by omega) (by omega) (by omega) (by omega)]
  simp only [Result.andThen]
  congr 5 <;> omega

def sub64E : Array Value → Sem Value := fun args => do
  let (x, y, b) ← Extern.MathBitsCarry.three "Sub64" args
  pure (Extern.MathBitsCarry.pair ((x + Extern.MathBitsCarry.m64 - y - b) % Extern.MathBitsCarry.m64) (if x < y + b then 1 else 0))

/-- The borrow. -/
def bor (x y : Nat) : Nat := if x < y then 1 else 0

theorem sub64_run (x y b : Nat) (hb : b ≤ 1) (w : World) : (callFunc 264 #[.int .u64 (x : Int), .int .u64 (y : Int), .int .u64 (b : Int)]).run Tryz.prog w =
    .ok (.value (.tuple #[.int .u64 (((x + 18446744073709551616 - y - b) % 18446744073709551616 : Nat) : Int), .int .u64 ((bor x (y + b) : Nat) : Int)])) w := by
  have h : (sub64E #[.int .u64 x, .int .u64 y, .int .u64 b]).run Tryz.prog w = .ok (.tuple #[.int .u64 (((x + 18446744073709551616 - y - b) % 18446744073709551616 : Nat) : Int), .int .u64 ((bor x (y + b) : Nat) : Int)]) w := by
    have : b = 0 ∨ b = 1 := by omega
    rcases this with rfl | rfl <;> rfl
  rw [run_callFunc_extern Tryz.func264 (by kernel_rfl) (by kernel_rfl) (by kernel_rfl) (e := sub64E) (by kernel_rfl), h]
  rfl

/-- A pair of words. -/
def PairP (P : Nat → Nat → Prop) (w : World) (e : Ending) (w' : World) : Prop := ∃ a b : Nat, e = .returned (.tuple #[.int .u64 (a : Int), .int .u64 (b : Int)]) ∧ Hid (P a b) ∧ w' = w

set_option maxRecDepth 20000 in
theorem add_any (x y c : Nat) (hc : c ≤ 1) (w : World) : Calls Tryz.prog 233 #[.int .u64 (x : Int), .int .u64 (y : Int), .int .u64 (c : Int)] w (PairP (fun s k => s = (x + y + c) % 18446744073709551616 ∧ k = (x + y + c) / 18446744073709551616) w) := by
  have h := add64_run x y c hc w
  obtain ⟨s, hs⟩ : ∃ s, s = (x + y + c) % 18446744073709551616 := ⟨_, rfl⟩
  obtain ⟨k, hk⟩ : ∃ k, k = (x + y + c) / 18446744073709551616 := ⟨_, rfl⟩
  rw [← hs, ← hk] at h
  have H := hide (And.intro hs hk)
  clear hs hk
  go_enter Tryz.func233, Tryz.ntmps233
  go_wp2
  go_ret2
  exact ⟨s, k, rfl, H.out, rfl⟩
set_option maxRecDepth 20000 in
theorem sub_any (x y b : Nat) (hb : b ≤ 1) (w : World) : Calls Tryz.prog 234 #[.int .u64 (x : Int), .int .u64 (y : Int), .int .u64 (b : Int)] w (PairP (fun s k => s = (x + 18446744073709551616 - y - b) % 18446744073709551616 ∧ k = bor x (y + b)) w) := by
  have h := sub64_run x y b hb w
  obtain ⟨s, hs⟩ : ∃ s, s = (x + 18446744073709551616 - y - b) % 18446744073709551616 := ⟨_, rfl⟩
  obtain ⟨k, hk⟩ : ∃ k, k = bor x (y + b) := ⟨_, rfl⟩
  rw [← hs, ← hk] at h
  have H := hide (And.intro hs hk)
  clear hs hk
  go_enter Tryz.func234, Tryz.ntmps234
  go_wp2
  go_ret2
  exact ⟨s, k, rfl, H.out, rfl⟩
theorem mul_any (x y : Nat) (hx : x < 18446744073709551616) (hy : y < 18446744073709551616) (w : World) : Calls Tryz.prog 232 #[.int .u64 (x : Int), .int .u64 (y : Int)] w (PairP (fun h l => h = x * y / 18446744073709551616 ∧ l = x * y % 18446744073709551616) w) :=
  (Tryz.bits_Mul x y hx hy w).mono fun _ _ ⟨he, hw⟩ => ⟨_, _, he, ⟨rfl, rfl⟩, hw⟩
/-- How far a word is shifted. -/
def nlzN (x : Nat) : Nat := 64 - Lib.bitLen x
theorem nlz_any (x : Nat) (hx : x < 18446744073709551616) (w : World) : Calls Tryz.prog 169 #[.int .u64 (x : Int)] w fun e w' => e = .returned (.int .u64 (nlzN x : Int)) ∧ w' = w := by
  have hb : Lib.bitLen x ≤ 64 := Lib.bitLen_le x 64 (Nat.le_refl _) (by omega)
  have Con := hide (Tryz.bits_LeadingZeros (x : Int) w (by omega) (by omega))
  have e1 : (64 - (Lib.bitLen (x : Int).toNat : Int)) = (nlzN x : Int) := by simp [nlzN]; omega
  rw [e1] at Con
  have hn : nlzN x ≤ 64 := by unfold nlzN; omega
  clear e1
  generalize nlzN x = n at Con hn
  go_enter Tryz.func169, Tryz.ntmps169
  go_wp2_with fail
  refine (Con.out).mono ?_
  rintro e w1 ⟨rfl, rfl⟩
  go_wp2
  go_ret
  exact ⟨rfl, rfl⟩
end Go.Proofs.YtfkcobdkgjhfaaaGreatDoor
