/- Words on memory: a row of words, a block known whole, what a call leaves as it was. -/
import Derived.Test.YtamjfjomehcikaaGreatDoorProg
import Derived.Test.YtamjfjomehcikaaGreatDoorMath
import Derived.WalkKit
import Derived.WalkSpells
import Derived.WalkLawsBesides
import Derived.Handy
set_option linter.unusedVariables false
set_option linter.unusedSimpArgs false
namespace Go.Proofs.YtamjfjomehcikaaGreatDoor
open Go.RowKit

theorem hide {p : Prop} (h : p) : Hid p := h

theorem getD_at {xs : List Nat} {i : Nat} (h : i < xs.length) : xs.getD i 0 = xs[i] := by
  rw [List.getD_eq_getElem?_getD, List.getElem?_eq_getElem h]; rfl

theorem getD_snoc (xs : List Nat) (d : Nat) : (xs ++ [d]).getD xs.length 0 = d := by
  simp [List.getD_eq_getElem?_getD]

theorem trimz_take_zero {xs : List Nat} {i : Nat} (hi : i < xs.length) (h : xs.getD i 0 = 0) : trimz (xs.take (i + 1)) = trimz (xs.take i) := by
  rw [List.take_succ_eq_append_getElem hi]
  rw [getD_at hi] at h
  rw [h, trimz_snoc_zero]

theorem trimz_take_ne {xs : List Nat} {i : Nat} (hi : i < xs.length) (h : xs.getD i 0 ≠ 0) : trimz (xs.take (i + 1)) = xs.take (i + 1) := by
  apply trimz_of_canon
  rw [List.take_succ_eq_append_getElem hi]
  rw [getD_at hi] at h
  exact canon_snoc h

theorem take_trimz {xs : List Nat} : xs.take (trimz xs).length = trimz xs := by
  induction xs with
  | nil => rfl
  | cons d r ih =>
    unfold trimz
    cases h : trimz r with
    | nil =>
      by_cases h0 : d = 0
      · simp [h0]
      · simp [h0]
    | cons e t =>
      rw [h] at ih
      simp only [List.length_cons, List.take_succ_cons]
      rw [← List.length_cons (a := e), ih]
theorem trimz_length_le (xs : List Nat) : (trimz xs).length ≤ xs.length := by
  have := congrArg List.length (take_trimz (xs := xs))
  rw [List.length_take] at this
  omega

/-- What a call leaves: the streams, and each old block that is none of S. -/
structure Fr (w w' : World) (S : Nat → Prop) : Prop where
  os : w'.os = w.os
  tape : w'.tape = w.tape
  output : w'.output = w.output
  size : w.heap.size ≤ w'.heap.size
  block : ∀ k, k < w.heap.size → ¬ S k → w'.heap[k]? = w.heap[k]?

theorem Fr.refl (w : World) (S : Nat → Prop) : Fr w w S := ⟨rfl, rfl, rfl, Nat.le_refl _, fun _ _ _ => rfl⟩
theorem Fr.trans {a b c : World} {S : Nat → Prop} (h : Fr a b S) (k : Fr b c S) : Fr a c S :=
  ⟨k.os.trans h.os, k.tape.trans h.tape, k.output.trans h.output, Nat.le_trans h.size k.size, fun i hi hs => (k.block i (Nat.lt_of_lt_of_le hi h.size) hs).trans (h.block i hi hs)⟩
theorem Fr.mono {a b : World} {S S' : Nat → Prop} (h : Fr a b S) (hs : ∀ k, k < a.heap.size → S k → S' k) : Fr a b S' :=
  ⟨h.os, h.tape, h.output, h.size, fun i hi hn => h.block i hi (fun h' => hn (hs i hi h'))⟩
/-- A second step may turn what is new behind the first. -/
theorem Fr.step {a b c : World} {S S' : Nat → Prop} (h : Fr a b S) (k : Fr b c S') (hs : ∀ i, i < a.heap.size → S' i → S i) : Fr a c S :=
  ⟨k.os.trans h.os, k.tape.trans h.tape, k.output.trans h.output, Nat.le_trans h.size k.size, fun i hi hn => (k.block i (Nat.lt_of_lt_of_le hi h.size) (fun h' => hn (hs i hi h'))).trans (h.block i hi hn)⟩
theorem Fr.of_below {a b : World} (h : Below a.heap.size a b) (S : Nat → Prop) : Fr a b S := ⟨h.os, h.tape, h.output, h.size, fun i hi _ => h.block i hi⟩
theorem Fr.below {a b : World} {S : Nat → Prop} (h : Fr a b S) {B : Nat} (hB : B ≤ a.heap.size) (hs : ∀ k, S k → B ≤ k) : Below B a b :=
  ⟨h.os, h.tape, h.output, h.size, fun k hk => h.block k (by omega) (fun h' => by have := hs k h'; omega)⟩
theorem Fr.alloc {a b : World} {S : Nat → Prop} (h : Fr a b S) (o : Obj) : Fr a (b.alloc o) S :=
  h.step (S' := fun _ => False) ⟨rfl, rfl, rfl, by simp, fun k hk _ => Below.heap_alloc _ _ _ hk⟩ (fun _ _ h => h.elim)
theorem Fr.drewN {a b : World} {S : Nat → Prop} (h : Fr a b S) (n : Nat) : Fr a (b.drewN n) S := ⟨h.os, h.tape, h.output, h.size, h.block⟩
theorem Fr.drew {a b : World} {S : Nat → Prop} (h : Fr a b S) : Fr a b.drew S := ⟨h.os, h.tape, h.output, h.size, h.block⟩
theorem Fr.setCell {a b : World} {S : Nat → Prop} (h : Fr a b S) {p : Addr} (hp : p.block < a.heap.size → S p.block) (u : Value) : Fr a (b.setCell p u) S :=
  h.step (S' := fun k => k = p.block) ⟨rfl, rfl, rfl, by simp [World.setCell], fun k _ hk => Below.heap_setCell _ _ _ _ hk⟩ (fun i hi e => by subst e; exact hp hi)
theorem Fr.setRow {a b : World} {S : Nat → Prop} (h : Fr a b S) {g : Nat} (hg : g < a.heap.size → S g) (cs : Array Value) : Fr a (b.setRow g cs) S :=
  h.step (S' := fun k => k = g) ⟨rfl, rfl, rfl, by simp, fun k _ hk => setRow_other _ _ _ _ hk⟩ (fun i hi e => by subst e; exact hg hi)
theorem Fr.cell {a b : World} {S : Nat → Prop} (h : Fr a b S) {p : Addr} {v : Value} (hc : a.cell? p = some v) (hp : ¬ S p.block) : b.cell? p = some v :=
  (World.cell?_of_block (h.block p.block (World.block_lt_of_cell? a p hc) hp)).trans hc
theorem Fr.grown {a b : World} {row : Option Nat} (h : a.grownBy b row) : Fr a b (fun k => some k = row) := ⟨h.os, h.tape, h.output, h.size, h.block⟩

/-- Block g is known whole: the cells cs of type t, none of them frozen. -/
def Blk (w : World) (g : Nat) (t : TypeId) (cs : Array Value) : Prop := w.heap[g]? = some (.cells cs t (0, 0))
section
variable {w w' : World} {g : Nat} {t : TypeId} {cs : Array Value}
theorem Blk.lt (h : Blk w g t cs) : g < w.heap.size := (Array.getElem?_eq_some_iff.1 h).1
theorem Blk.cell (h : Blk w g t cs) (i : Nat) : w.cell? ⟨g, i, none⟩ = cs[i]? := by
  unfold Blk at h; simp [World.cell?, h]
theorem Blk.frozen (h : Blk w g t cs) (i : Nat) : w.frozen? ⟨g, i, none⟩ = false := by
  unfold Blk at h
  simp [World.frozen?, h]
theorem Blk.new (w : World) (t : TypeId) (cs : Array Value) : Blk (w.alloc (.cells cs t)) w.heap.size t cs := heap_alloc_new w _
theorem Blk.fr {S : Nat → Prop} (h : Blk w g t cs) (hf : Fr w w' S) (hs : ¬ S g) : Blk w' g t cs := (hf.block g h.lt hs).trans h
theorem Blk.alloc (h : Blk w g t cs) (o : Obj) : Blk (w.alloc o) g t cs := (Below.heap_alloc w o g h.lt).trans h
theorem Blk.drew (h : Blk w g t cs) : Blk w.drew g t cs := h
theorem Blk.drewN (h : Blk w g t cs) (n : Nat) : Blk (w.drewN n) g t cs := h
theorem Blk.set (h : Blk w g t cs) (i : Nat) (u : Value) : Blk (w.setCell ⟨g, i, none⟩ u) g t (cs.setIfInBounds i u) := by
  unfold Blk at h ⊢
  simp [World.setCell, Array.getElem?_modify, h]
theorem Blk.far (h : Blk w g t cs) {p : Addr} (hp : g ≠ p.block) (u : Value) : Blk (w.setCell p u) g t cs := (Below.heap_setCell w p u g hp).trans h
theorem Blk.setRow (h : Blk w g t cs) (cs' : Array Value) : Blk (w.setRow g cs') g t cs' := setRow_heap w g cs cs' t (0, 0) h
theorem Blk.rowFar (h : Blk w g t cs) {k : Nat} (hp : g ≠ k) (cs' : Array Value) : Blk (w.setRow k cs') g t cs := (setRow_other w k g cs' hp).trans h
theorem Blk.below (h : Blk w g t cs) (hb : Below w.heap.size w w') : Blk w' g t cs := (hb.block g h.lt).trans h
theorem Blk.type_ne {g' : Nat} {t' : TypeId} {cs' : Array Value} (h : Blk w g t cs) (h' : Blk w g' t' cs') (hne : t ≠ t') : g ≠ g' := by
  rintro rfl
  unfold Blk at h h'
  rw [h] at h'
  injection h' with h'
  injection h' with _ ht
  exact hne ht
end

/-! ### words -/
/-- Words as the cells hold them. -/
def wv (xs : List Nat) : List Value := xs.map fun (d : Nat) => Value.int .u64 (d : Int)
theorem wv_length (xs : List Nat) : (wv xs).length = xs.length := by simp [wv]
theorem wv_one {xs : List Nat} : ∀ u ∈ wv xs, u.oneCell' = true := by
  intro u hu; simp [wv] at hu; obtain ⟨d, _, rfl⟩ := hu; rfl
theorem wv_at (xs : List Nat) (i : Nat) : (wv xs)[i]? = (xs[i]?).map fun (d : Nat) => Value.int .u64 (d : Int) := by simp [wv]
theorem wv_inj {xs ys : List Nat} (h : wv xs = wv ys) : xs = ys := by
  induction xs generalizing ys with
  | nil => cases ys with
    | nil => rfl
    | cons d r => simp [wv] at h
  | cons d r ih => cases ys with
    | nil => simp [wv] at h
    | cons e s =>
      simp only [wv, List.map_cons, List.cons.injEq] at h
      have h1 : d = e := by have := h.1; injection this with _ h2; omega
      rw [h1, ih h.2]

/-- The words xs lie in block g from place o on. -/
def WordsAt (w : World) (g o : Nat) (xs : List Nat) : Prop := ∀ i, i < xs.length → w.cell? ⟨g, o + i, none⟩ = some (.int .u64 (xs.getD i 0 : Nat))
theorem WordsAt.fr {w w' : World} {g o : Nat} {xs : List Nat} {S : Nat → Prop} (h : WordsAt w g o xs) (hf : Fr w w' S) (hs : ¬ S g) : WordsAt w' g o xs := fun i hi => hf.cell (h i hi) hs
theorem WordsAt.take {w : World} {g o : Nat} {xs : List Nat} (h : WordsAt w g o xs) (n : Nat) : WordsAt w g o (xs.take n) := by
  intro i hi
  have h1 : i < xs.length := by rw [List.length_take] at hi; omega
  rw [h i h1]
  have h2 : i < n := by rw [List.length_take] at hi; omega
  simp [List.getD_eq_getElem?_getD, List.getElem?_take, h2]
theorem WordsAt.drop {w : World} {g o : Nat} {xs : List Nat} (h : WordsAt w g o xs) (n : Nat) : WordsAt w g (o + n) (xs.drop n) := by
  intro i hi
  have h1 : n + i < xs.length := by rw [List.length_drop] at hi; omega
  have := h (n + i) h1
  rw [Nat.add_assoc, this]
  simp [List.getD_eq_getElem?_getD, List.getElem?_drop]
theorem WordsAt.of_blk {w : World} {g o : Nat} {t : TypeId} {cs : Array Value} {xs : List Nat} (h : Blk w g t cs) (hx : ∀ i, i < xs.length → cs[o + i]? = some (.int .u64 (xs.getD i 0 : Nat))) : WordsAt w g o xs :=
  fun i hi => (h.cell (o + i)).trans (hx i hi)

/-- A slice that reads as words: nil, or an address and a capacity. -/
def RdW (w : World) (v : Value) (xs : List Nat) : Prop :=
  (∃ A c, v = .slice A 0 c ∧ xs = [] ∧ c ≤ maxLen) ∨ ∃ g o c, v = .slice (some ⟨g, o, none⟩) xs.length c ∧ xs.length ≤ c ∧ c ≤ maxLen ∧ WordsAt w g o xs
/-- Which block a slice lies in. -/
theorem RdW.fr {w w' : World} {v : Value} {xs : List Nat} {S : Nat → Prop} (h : RdW w v xs) (hf : Fr w w' S) (hs : ∀ k, v.ownBlock = some k → ¬ S k) : RdW w' v xs := by
  rcases h with h | ⟨g, o, c, rfl, h1, h2, h3⟩
  · exact .inl h
  · exact .inr ⟨g, o, c, rfl, h1, h2, h3.fr hf (hs g rfl)⟩

/-- A row of n words of the call's own, whatever they hold. -/
def Room (w : World) (base : Nat) (v : Value) (n : Nat) : Prop := ∃ xs, w.ownsRow base 70 1 v n xs
/-- A row of the call's own that holds the words xs. -/
def Own (w : World) (base : Nat) (v : Value) (xs : List Nat) : Prop := w.ownsRow base 70 1 v xs.length (wv xs)
theorem Own.room {w : World} {base : Nat} {v : Value} {xs : List Nat} (h : Own w base v xs) : Room w base v xs.length := ⟨_, h⟩
theorem Own.nil (w : World) (base : Nat) : Own w base (.slice none 0 0) [] := ⟨by simp [wv], .inl ⟨rfl, rfl⟩⟩
theorem Own.fr {w w' : World} {base : Nat} {v : Value} {xs : List Nat} {S : Nat → Prop} (h : Own w base v xs) (hf : Fr w w' S) (hs : ∀ k, v.ownBlock = some k → ¬ S k) : Own w' base v xs := by
  obtain ⟨h1, h2⟩ := h
  refine ⟨h1, ?_⟩
  rcases h2 with h2 | ⟨g, cap, cur, rfl, hg, hh, r⟩
  · exact .inl h2
  · exact .inr ⟨g, cap, cur, rfl, hg, Blk.fr (t := 70) hh hf (hs g rfl), r⟩
theorem Room.fr {w w' : World} {base n : Nat} {v : Value} {S : Nat → Prop} (h : Room w base v n) (hf : Fr w w' S) (hs : ∀ k, v.ownBlock = some k → ¬ S k) : Room w' base v n := by
  obtain ⟨xs, h1, h2⟩ := h
  refine ⟨xs, h1, ?_⟩
  rcases h2 with h2 | ⟨g, cap, cur, rfl, hg, hh, r⟩
  · exact .inl h2
  · exact .inr ⟨g, cap, cur, rfl, hg, Blk.fr (t := 70) hh hf (hs g rfl), r⟩
theorem Room.lt {w : World} {base n : Nat} {v : Value} (h : Room w base v n) {k : Nat} (hk : v.ownBlock = some k) : base ≤ k ∧ k < w.heap.size := by
  obtain ⟨xs, h⟩ := h; exact h.lt k hk
theorem Own.lt {w : World} {base : Nat} {v : Value} {xs : List Nat} (h : Own w base v xs) {k : Nat} (hk : v.ownBlock = some k) : base ≤ k ∧ k < w.heap.size := World.ownsRow.lt h k hk
theorem Room.form {w : World} {base n : Nat} {v : Value} (h : Room w base v n) : (v = .slice none 0 0 ∧ n = 0) ∨ ∃ g cap cur, v = .slice (some ⟨g, 0, none⟩) n cap ∧ base ≤ g ∧ Blk w g 70 cur ∧ n ≤ cap ∧ cap ≤ maxLen ∧ cur.size = cap := by
  obtain ⟨xs, h1, h2⟩ := h
  rcases h2 with h2 | ⟨g, cap, cur, rfl, hg, hh, a, b, c, d⟩
  · exact .inl h2
  · exact .inr ⟨g, cap, cur, rfl, hg, hh, a, b, by simpa using c⟩
theorem Room.slice {w : World} {base n : Nat} {v : Value} (h : Room w base v n) : ∃ A c, v = .slice A n c := by
  rcases h.form with ⟨rfl, rfl⟩ | ⟨g, cap, cur, rfl, _⟩
  · exact ⟨none, 0, rfl⟩
  · exact ⟨_, cap, rfl⟩
theorem Room.mk {w : World} {base n g cap : Nat} {cur : Array Value} (hg : base ≤ g) (hb : Blk w g 70 cur) (hn : n ≤ cap) (hc : cap ≤ maxLen) (hs : cur.size = cap) : Room w base (.slice (some ⟨g, 0, none⟩) n cap) n :=
  ⟨cur.toList.take n, by simp; omega, .inr ⟨g, cap, cur, rfl, hg, hb, hn, hc, by simpa using hs, by simp⟩⟩
theorem Own.mk {w : World} {base g cap : Nat} {cur : Array Value} {xs : List Nat} (hg : base ≤ g) (hb : Blk w g 70 cur) (hn : xs.length ≤ cap) (hc : cap ≤ maxLen) (hs : cur.size = cap) (hx : cur.toList.take xs.length = wv xs) : Own w base (.slice (some ⟨g, 0, none⟩) xs.length cap) xs :=
  ⟨by simp [wv], .inr ⟨g, cap, cur, rfl, hg, hb, hn, hc, by simpa using hs, by simpa using hx⟩⟩
theorem Own.form {w : World} {base : Nat} {v : Value} {xs : List Nat} (h : Own w base v xs) : (v = .slice none 0 0 ∧ xs = []) ∨ ∃ g cap cur, v = .slice (some ⟨g, 0, none⟩) xs.length cap ∧ base ≤ g ∧ Blk w g 70 cur ∧ xs.length ≤ cap ∧ cap ≤ maxLen ∧ cur.size = cap ∧ cur.toList.take xs.length = wv xs := by
  obtain ⟨h1, h2⟩ := h
  rcases h2 with ⟨h2, h3⟩ | ⟨g, cap, cur, rfl, hg, hh, a, b, c, d⟩
  · exact .inl ⟨h2, List.eq_nil_of_length_eq_zero h3⟩
  · exact .inr ⟨g, cap, cur, rfl, hg, hh, a, b, by simpa using c, by simpa using d⟩
theorem words_of_take {cur : Array Value} {xs : List Nat} (h : cur.toList.take xs.length = wv xs) (i : Nat) (hi : i < xs.length) : cur[i]? = some (.int .u64 (xs.getD i 0 : Nat)) := by
  have h1 : (cur.toList.take xs.length)[i]? = (wv xs)[i]? := by rw [h]
  rw [List.getElem?_take, if_pos hi, wv_at, List.getElem?_eq_getElem hi] at h1
  rw [getD_at hi]
  simpa using h1
theorem Own.words {w : World} {base g cap n : Nat} {xs : List Nat} (h : Own w base (.slice (some ⟨g, 0, none⟩) n cap) xs) : WordsAt w g 0 xs := by
  rcases h.form with ⟨h1, _⟩ | ⟨g', cap', cur, he, hg, hh, a, b, c, d⟩
  · injection h1 with h1; cases h1
  · injection he with e1 e2 e3
    injection e1 with e1
    injection e1 with e1
    subst e1
    exact WordsAt.of_blk hh fun i hi => by rw [Nat.zero_add]; exact words_of_take d i hi
theorem Own.rd {w : World} {base : Nat} {v : Value} {xs : List Nat} (h : Own w base v xs) : RdW w v xs := by
  rcases h.form with ⟨h1, h2⟩ | ⟨g, cap, cur, rfl, hg, hh, a, b, c, d⟩
  · exact .inl ⟨_, _, h1, h2, Nat.zero_le _⟩
  · exact .inr ⟨g, 0, cap, rfl, a, b, h.words⟩
theorem Own.lower {w : World} {base base' : Nat} {v : Value} {xs : List Nat} (h : Own w base v xs) (hb : base' ≤ base) : Own w base' v xs := by
  obtain ⟨h1, h2⟩ := h
  refine ⟨h1, ?_⟩
  rcases h2 with h2 | ⟨g, cap, cur, rfl, hg, r⟩
  · exact .inl h2
  · exact .inr ⟨g, cap, cur, rfl, Nat.le_trans hb hg, r⟩
theorem Own.below {w w' : World} {base : Nat} {v : Value} {xs : List Nat} (h : Own w base v xs) (hb : Below w.heap.size w w') : Own w' base v xs := h.fr (Fr.of_below hb (fun _ => False)) (fun _ _ h => h)
/-- A row of words is no block of another type. -/
theorem Room.ne_blk {w : World} {base n g : Nat} {t : TypeId} {cs : Array Value} {v : Value} (h : Room w base v n) (hb : Blk w g t cs) (ht : t ≠ 70) : ∀ k, v.ownBlock = some k → k ≠ g := by
  intro k hk
  rcases h.form with ⟨rfl, _⟩ | ⟨g', cap, cur, rfl, _, hh, _⟩
  · cases hk
  · obtain rfl : g' = k := by simpa [Value.ownBlock] using hk
    exact hh.type_ne hb (Ne.symm ht)
end Go.Proofs.YtamjfjomehcikaaGreatDoor
