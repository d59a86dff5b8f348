/- Rows of numbers of whatever kind: read, or owned by the call. -/
import Derived.Test.YtamjfjomehcikaaGreatDoorMem
import Derived.Deep.RegionWith
import Derived.Deep.DeepFit
import Derived.BigQuiet
import Derived.Deep.QuietTactic
import Derived.Laws.CopyOwn
set_option linter.unusedVariables false
set_option linter.unusedSimpArgs false
namespace Go.Proofs.YtamjfjomehcikaaGreatDoor
open Go.RowKit

/-- Numbers as the cells hold them. -/
def gv (k : IntKind) (xs : List Nat) : List Value := xs.map fun (d : Nat) => Value.int k (d : Int)
theorem gv_length (k : IntKind) (xs : List Nat) : (gv k xs).length = xs.length := by simp [gv]
theorem gv_one {k : IntKind} {xs : List Nat} : ∀ u ∈ gv k xs, u.oneCell' = true := by
  intro u hu; simp [gv] at hu; obtain ⟨d, _, rfl⟩ := hu; rfl
theorem gv_at (k : IntKind) (xs : List Nat) (i : Nat) : (gv k xs)[i]? = (xs[i]?).map fun (d : Nat) => Value.int k (d : Int) := by simp [gv]
theorem gv_snoc (k : IntKind) (xs : List Nat) (d : Nat) : gv k (xs ++ [d]) = gv k xs ++ [.int k (d : Int)] := by simp [gv]

/-- A slice that reads as the numbers xs. -/
def RdG (k : IntKind) (w : World) (v : Value) (xs : List Nat) : Prop :=
  (∃ A c, v = .slice A 0 c ∧ xs = [] ∧ c ≤ maxLen) ∨ ∃ g o c, v = .slice (some ⟨g, o, none⟩) xs.length c ∧ xs.length ≤ c ∧ c ≤ maxLen ∧ ∀ i, i < xs.length → w.cell? ⟨g, o + i, none⟩ = some (.int k (xs.getD i 0 : Nat))
theorem RdG.of_w {w : World} {v : Value} {xs : List Nat} (h : RdW w v xs) : RdG .u64 w v xs := h
theorem RdG.fr {k : IntKind} {w w' : World} {v : Value} {xs : List Nat} {S : Nat → Prop} (h : RdG k w v xs) (hf : Fr w w' S) (hs : ∀ b, v.ownBlock = some b → ¬ S b) : RdG k w' v xs := by
  rcases h with h | ⟨g, o, c, rfl, h1, h2, h3⟩
  · exact .inl h
  · exact .inr ⟨g, o, c, rfl, h1, h2, fun i hi => hf.cell (h3 i hi) (hs g rfl)⟩
theorem RdG.below {k : IntKind} {w w' : World} {v : Value} {xs : List Nat} (h : RdG k w v xs) (hb : Below w.heap.size w w') : RdG k w' v xs := h.fr (Fr.of_below hb (fun _ => False)) (fun _ _ h => h)
theorem RdG.slice {k : IntKind} {w : World} {v : Value} {xs : List Nat} (h : RdG k w v xs) : ∃ A c, v = .slice A xs.length c ∧ xs.length ≤ c ∧ c ≤ maxLen := by
  rcases h with ⟨A, c, rfl, rfl, hc⟩ | ⟨g, o, c, rfl, h1, h2, _⟩
  · exact ⟨A, c, rfl, Nat.zero_le _, hc⟩
  · exact ⟨_, c, rfl, h1, h2⟩
theorem RdG.at_ {k : IntKind} {w : World} {A : Option Addr} {n c : Nat} {xs : List Nat} (h : RdG k w (.slice A n c) xs) : ∀ i, i < xs.length → ∃ g o, A = some ⟨g, o, none⟩ ∧ g < w.heap.size ∧ w.cell? ⟨g, o + i, none⟩ = some (.int k (xs.getD i 0 : Nat)) := by
  rcases h with ⟨_, _, h1, rfl, _⟩ | ⟨g, o, c', h1, _, _, h3⟩
  · intro i hi; simp at hi
  · intro i hi
    injection h1 with h1
    exact ⟨g, o, h1, World.block_lt_of_cell? _ _ (h3 i hi), h3 i hi⟩
theorem RdG.len {k : IntKind} {w : World} {A : Option Addr} {n c : Nat} {xs : List Nat} (h : RdG k w (.slice A n c) xs) : n = xs.length := by
  obtain ⟨B, d, he, _⟩ := h.slice
  injection he
theorem RdG.take {k : IntKind} {w : World} {A : Option Addr} {n c : Nat} {xs : List Nat} (h : RdG k w (.slice A n c) xs) (m : Nat) (hm : m ≤ xs.length) : RdG k w (.slice A m c) (xs.take m) := by
  rcases h with ⟨A', c', h1, rfl, hc⟩ | ⟨g, o, c', h1, h2, h4, h3⟩
  · injection h1 with a b c
    subst a; subst c
    obtain rfl : m = 0 := by simpa using hm
    exact .inl ⟨_, _, rfl, rfl, hc⟩
  · injection h1 with a b c
    subst a; subst c
    refine .inr ⟨g, o, c, by rw [List.length_take, Nat.min_eq_left hm], by rw [List.length_take]; omega, h4, fun i hi => ?_⟩
    rw [List.length_take] at hi
    rw [h3 i (by omega)]
    simp [List.getD_eq_getElem?_getD, List.getElem?_take, show i < m by omega]

/-- A row of the call's own (elements of type t) that holds xs. -/
def OwnG (t : TypeId) (k : IntKind) (w : World) (base : Nat) (v : Value) (xs : List Nat) : Prop := w.ownsRow base t 1 v xs.length (gv k xs)
section
variable {t : TypeId} {k : IntKind} {w w' : World} {base : Nat} {v : Value} {xs : List Nat}
theorem OwnG.nil (t : TypeId) (k : IntKind) (w : World) (base : Nat) : OwnG t k w base (.slice none 0 0) [] := ⟨by simp [gv], .inl ⟨rfl, rfl⟩⟩
theorem OwnG.form (h : OwnG t k w base v xs) : (v = .slice none 0 0 ∧ xs = []) ∨ ∃ g cap cur, v = .slice (some ⟨g, 0, none⟩) xs.length cap ∧ base ≤ g ∧ Blk w g t cur ∧ xs.length ≤ cap ∧ cap ≤ maxLen ∧ cur.size = cap ∧ cur.toList.take xs.length = gv k xs := by
  obtain ⟨h1, h2⟩ := h
  rcases h2 with ⟨h2, h3⟩ | ⟨g, cap, cur, rfl, hg, hh, a, b, c, d⟩
  · exact .inl ⟨h2, List.eq_nil_of_length_eq_zero h3⟩
  · exact .inr ⟨g, cap, cur, rfl, hg, hh, a, b, by simpa using c, by simpa using d⟩
theorem OwnG.mk {g cap : Nat} {cur : Array Value} (hg : base ≤ g) (hb : Blk w g t cur) (hn : xs.length ≤ cap) (hc : cap ≤ maxLen) (hs : cur.size = cap) (hx : cur.toList.take xs.length = gv k xs) : OwnG t k w base (.slice (some ⟨g, 0, none⟩) xs.length cap) xs :=
  ⟨by simp [gv], .inr ⟨g, cap, cur, rfl, hg, hb, hn, hc, by simpa using hs, by simpa using hx⟩⟩
theorem OwnG.slice (h : OwnG t k w base v xs) : ∃ A c, v = .slice A xs.length c := by
  rcases h.form with ⟨rfl, rfl⟩ | ⟨g, cap, cur, rfl, _⟩
  · exact ⟨none, 0, rfl⟩
  · exact ⟨_, cap, rfl⟩
theorem gv_of_take {cur : Array Value} (h : cur.toList.take xs.length = gv k xs) (i : Nat) (hi : i < xs.length) : cur[i]? = some (.int k (xs.getD i 0 : Nat)) := by
  have h1 : (cur.toList.take xs.length)[i]? = (gv k xs)[i]? := by rw [h]
  rw [List.getElem?_take, if_pos hi, gv_at, List.getElem?_eq_getElem hi] at h1
  rw [getD_at hi]
  simpa using h1
theorem OwnG.rd (h : OwnG t k w base v xs) : RdG k w v xs := by
  rcases h.form with ⟨h1, h2⟩ | ⟨g, cap, cur, rfl, hg, hh, a, b, c, d⟩
  · exact .inl ⟨_, _, h1, h2, Nat.zero_le _⟩
  · exact .inr ⟨g, 0, cap, rfl, a, b, fun i hi => by rw [Nat.zero_add, hh.cell]; exact gv_of_take d i hi⟩
theorem OwnG.lt (h : OwnG t k w base v xs) {b : Nat} (hb : v.ownBlock = some b) : base ≤ b ∧ b < w.heap.size := World.ownsRow.lt h b hb
theorem OwnG.fr {S : Nat → Prop} (h : OwnG t k w base v xs) (hf : Fr w w' S) (hs : ∀ b, v.ownBlock = some b → ¬ S b) : OwnG t k w' base v xs := by
  obtain ⟨h1, h2⟩ := h
  refine ⟨h1, ?_⟩
  rcases h2 with h2 | ⟨g, cap, cur, rfl, hg, hh, r⟩
  · exact .inl h2
  · exact .inr ⟨g, cap, cur, rfl, hg, Blk.fr (t := t) hh hf (hs g rfl), r⟩
theorem OwnG.below (h : OwnG t k w base v xs) (hb : Below w.heap.size w w') : OwnG t k w' base v xs := h.fr (Fr.of_below hb (fun _ => False)) (fun _ _ h => h)
theorem OwnG.lower {base' : Nat} (h : OwnG t k w base v xs) (hb : base' ≤ base) : OwnG t k w base' v xs := by
  obtain ⟨h1, h2⟩ := h
  refine ⟨h1, ?_⟩
  rcases h2 with h2 | ⟨g, cap, cur, rfl, hg, r⟩
  · exact .inl h2
  · exact .inr ⟨g, cap, cur, rfl, Nat.le_trans hb hg, r⟩
theorem OwnG.ne_blk {g : Nat} {t' : TypeId} {cs : Array Value} (h : OwnG t k w base v xs) (hb : Blk w g t' cs) (ht : t' ≠ t) : ∀ b, v.ownBlock = some b → b ≠ g := by
  intro b hbb
  rcases h.form with ⟨rfl, _⟩ | ⟨g', cap, cur, rfl, _, hh, _⟩
  · cases hbb
  · obtain rfl : g' = b := by simpa [Value.ownBlock] using hbb
    exact hh.type_ne hb (Ne.symm ht)
theorem OwnG.take {A : Option Addr} {n c : Nat} (h : OwnG t k w base (.slice A n c) xs) (m : Nat) (hm : m ≤ xs.length) : OwnG t k w base (.slice A m c) (xs.take m) := by
  rcases h.form with ⟨h1, rfl⟩ | ⟨g, cap, cur, h1, hg, hh, a, b, e, d⟩
  · injection h1 with p q r
    subst p; subst r
    obtain rfl : m = 0 := by simpa using hm
    exact OwnG.nil _ _ _ _
  · injection h1 with p q r
    subst p; subst r
    have hl : (xs.take m).length = m := by rw [List.length_take]; omega
    have := OwnG.mk (w := w) (xs := xs.take m) (k := k) hg hh (by omega) b e (by
      rw [hl]
      have e1 : cur.toList.take m = (cur.toList.take xs.length).take m := by rw [List.take_take]; congr 1; omega
      rw [e1, d]; simp [gv])
    rwa [hl] at this
end

theorem gv_set (k : IntKind) (xs : List Nat) (i d : Nat) : gv k (xs.set i d) = (gv k xs).set i (.int k (d : Int)) := by simp [gv, List.map_set]
/-- A store into the row. -/
theorem OwnG.set {t : TypeId} {k : IntKind} {w : World} {base g n c : Nat} {xs : List Nat} (h : OwnG t k w base (.slice (some ⟨g, 0, none⟩) n c) xs) (i d : Nat) (hi : i < xs.length) :
    OwnG t k (w.setCell ⟨g, i, none⟩ (.int k (d : Int))) base (.slice (some ⟨g, 0, none⟩) n c) (xs.set i d) := by
  rcases h.form with ⟨h1, _⟩ | ⟨g', cap, cur, h1, hg, hh, a, b, e, f⟩
  · injection h1 with h1; cases h1
  · injection h1 with h1 h2 h3
    injection h1 with h1
    injection h1 with h1
    subst h1; subst h2; subst h3
    have := OwnG.mk (xs := xs.set i d) (k := k) hg (hh.set i (.int k (d : Int))) (by simpa using a) b (by simpa using e) (by
      rw [gv_set, ← f, List.length_set]
      simp [List.take_set])
    simpa using this
theorem OwnG.block {t : TypeId} {k : IntKind} {w : World} {base n c : Nat} {A : Option Addr} {xs : List Nat} (h : OwnG t k w base (.slice A n c) xs) (hn : 0 < n) : ∃ g, A = some ⟨g, 0, none⟩ ∧ base ≤ g ∧ g < w.heap.size ∧ (∀ i, i < xs.length → w.cell? ⟨g, i, none⟩ = some (.int k (xs.getD i 0 : Nat))) ∧ ∀ i, w.frozen? ⟨g, i, none⟩ = false := by
  rcases h.form with ⟨h1, _⟩ | ⟨g', cap, cur, h1, hg, hh, a, b, e, f⟩
  · injection h1 with _ h2; omega
  · injection h1 with h1
    exact ⟨g', h1, hg, hh.lt, fun i hi => (hh.cell i).trans (gv_of_take f i hi), fun i => hh.frozen i⟩

/-- Append's arm closes so: what it leaves is the longer row. -/
theorem OwnG.grown {t : TypeId} {k : IntKind} {w1 : World} {base : Nat} {v' : Value} {xs : List Nat} {d n : Nat} (hn : xs.length = n) (h : w1.ownsRow base t 1 v' (n + 1) (gv k xs ++ [.int k (d : Int)])) :
    ∃ B c, v' = .slice B (n + 1) c ∧ OwnG t k w1 base (.slice B (n + 1) c) (xs ++ [d]) := by
  have h1 : OwnG t k w1 base v' (xs ++ [d]) := by
    unfold OwnG
    rw [gv_snoc, List.length_append, hn]
    exact h
  obtain ⟨B, c, he⟩ := h1.slice
  rw [List.length_append, hn] at he
  exact ⟨B, c, he, by rw [← List.length_singleton (a := d)]; rw [← he]; exact h1⟩
theorem below_app {B : Nat} {w w1 w2 : World} {row : Option Nat} (h : Below B w w1) (hB : B ≤ w1.heap.size) (o : Obj) (hg : (w1.alloc o).grownBy w2 row) (hr : ∀ k, row = some k → B ≤ k) : Below B w w2 :=
  (h.alloc hB o).grown hg (by simp; omega) hr
theorem below_next {w w1 w2 : World} (h : Below w.heap.size w w1) (k : Below w1.heap.size w1 w2) : Below w.heap.size w w2 := h.trans (k.mono h.size)
theorem below_al {w w1 : World} (h : Below w.heap.size w w1) (o : Obj) : Below w.heap.size w (w1.alloc o) := h.alloc h.size o
theorem bcell {W w1 : World} (hb : Below W.heap.size W w1) : (∀ b o, b < W.heap.size → w1.cell? ⟨b, o, none⟩ = W.cell? ⟨b, o, none⟩) ∧ (∀ b o, b < W.heap.size → w1.frozen? ⟨b, o, none⟩ = W.frozen? ⟨b, o, none⟩) :=
  ⟨fun b o h => hb.cell (p := ⟨b, o, none⟩) h, fun b o h => hb.frozen (p := ⟨b, o, none⟩) h⟩
end Go.Proofs.YtamjfjomehcikaaGreatDoor
