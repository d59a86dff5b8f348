/- Parts of the proofs: Math, Mem. -/
import Derived.Test.YtfkcobdkgjhfaaaGreatDoorProg
import Derived.WalkKit
import Derived.WalkSpells
import Derived.WalkLawsBesides
import Derived.Handy
/- Plain facts on numbers and their digits: no program is in sight. -/
set_option linter.unusedVariables false
set_option linter.unusedSimpArgs false
namespace Go.Proofs.YtfkcobdkgjhfaaaGreatDoor

/-- The number that digits tell, the lowest first. -/
def dval (b : Nat) : List Nat → Nat
  | [] => 0
  | d :: r => d + b * dval b r

/-- The digits of a number, the lowest first, no nought at the end. -/
def digs (b n : Nat) : List Nat := if _h : n = 0 ∨ b ≤ 1 then [] else n % b :: digs b (n / b)
  termination_by n
  decreasing_by exact Nat.div_lt_self (by omega) (by omega)

/-- All digits are below the base. -/
def Dig (b : Nat) (xs : List Nat) : Prop := ∀ d, d ∈ xs → d < b
/-- No nought at the end. -/
def Canon (xs : List Nat) : Prop := xs.getLast? ≠ some 0

theorem dval_nil (b : Nat) : dval b [] = 0 := rfl
theorem dval_cons (b d : Nat) (r : List Nat) : dval b (d :: r) = d + b * dval b r := rfl
theorem digs_zero (b : Nat) : digs b 0 = [] := by unfold digs; simp
theorem digs_pos {b n : Nat} (hb : 1 < b) (hn : 0 < n) : digs b n = n % b :: digs b (n / b) := by
  rw [digs, dif_neg (by omega)]

theorem dval_digs {b : Nat} (hb : 1 < b) (n : Nat) : dval b (digs b n) = n := by
  induction n using Nat.strongRecOn with
  | _ n ih =>
    rcases Nat.eq_zero_or_pos n with rfl | hn
    · rw [digs_zero]; rfl
    · rw [digs_pos hb hn, dval_cons, ih _ (Nat.div_lt_self hn hb)]
      exact Nat.mod_add_div n b

theorem dig_digs {b : Nat} (hb : 1 < b) (n : Nat) : Dig b (digs b n) := by
  induction n using Nat.strongRecOn with
  | _ n ih =>
    rcases Nat.eq_zero_or_pos n with rfl | hn
    · rw [digs_zero]; intro d hd; cases hd
    · rw [digs_pos hb hn]
      intro d hd
      rcases List.mem_cons.1 hd with rfl | hd
      · exact Nat.mod_lt _ (by omega)
      · exact ih _ (Nat.div_lt_self hn hb) d hd

theorem digs_ne_nil {b n : Nat} (hb : 1 < b) (hn : 0 < n) : digs b n ≠ [] := by
  rw [digs_pos hb hn]; simp

theorem canon_digs {b : Nat} (hb : 1 < b) (n : Nat) : Canon (digs b n) := by
  induction n using Nat.strongRecOn with
  | _ n ih =>
    rcases Nat.eq_zero_or_pos n with rfl | hn
    · rw [digs_zero]; simp [Canon]
    · rw [digs_pos hb hn]
      have h := ih _ (Nat.div_lt_self hn hb)
      unfold Canon at h ⊢
      rcases Nat.eq_zero_or_pos (n / b) with h0 | h0
      · rw [h0, digs_zero]
        have : n % b = n := Nat.mod_eq_of_lt ((Nat.div_eq_zero_iff_lt (by omega)).1 h0)
        simp; omega
      · rw [List.getLast?_cons]
        cases hx : (digs b (n / b)).getLast? with
        | none => exact absurd (List.getLast?_eq_none_iff.1 hx) (digs_ne_nil hb h0)
        | some z => simp; intro e; subst e; exact h hx

theorem canon_tail {d : Nat} {r : List Nat} (h : Canon (d :: r)) (hr : r ≠ []) : Canon r := by
  unfold Canon at *
  rw [List.getLast?_cons] at h
  cases hx : r.getLast? with
  | none => exact absurd (List.getLast?_eq_none_iff.1 hx) hr
  | some z => rw [hx] at h; simpa using h

theorem dval_pos {b : Nat} (hb : 0 < b) : ∀ {xs : List Nat}, Canon xs → xs ≠ [] → 0 < dval b xs
  | [], _, h => absurd rfl h
  | d :: r, hc, _ => by
    rw [dval_cons]
    by_cases hr : r = []
    · subst hr; unfold Canon at hc; simp at hc; simp [dval_nil]; omega
    · have := Nat.mul_pos hb (dval_pos hb (canon_tail hc hr) hr); omega

theorem canon_nil : Canon [] := by simp [Canon]

theorem digs_dval {b : Nat} (hb : 1 < b) : ∀ {xs : List Nat}, Dig b xs → Canon xs → digs b (dval b xs) = xs
  | [], _, _ => by rw [dval_nil, digs_zero]
  | d :: r, hd, hc => by
    have h1 : d < b := hd d (by simp)
    have hp : 0 < dval b (d :: r) := dval_pos (by omega) hc (by simp)
    rw [digs_pos hb hp, dval_cons, Nat.add_mul_mod_self_left, Nat.mod_eq_of_lt h1, Nat.add_mul_div_left _ _ (by omega), Nat.div_eq_of_lt h1, Nat.zero_add]
    congr 1
    by_cases hr : r = []
    · subst hr; rw [dval_nil, digs_zero]
    · exact digs_dval hb (fun e he => hd e (by simp [he])) (canon_tail hc hr)

theorem dval_append (b : Nat) : ∀ xs ys : List Nat, dval b (xs ++ ys) = dval b xs + b ^ xs.length * dval b ys
  | [], ys => by simp [dval_nil]
  | d :: r, ys => by
    rw [List.cons_append, dval_cons, dval_cons, dval_append b r ys, List.length_cons, Nat.pow_succ, Nat.mul_add, Nat.add_assoc]
    congr 2
    rw [← Nat.mul_assoc, Nat.mul_comm b (b ^ _)]

theorem dval_lt {b : Nat} (hb : 0 < b) : ∀ {xs : List Nat}, Dig b xs → dval b xs < b ^ xs.length
  | [], _ => by simp [dval_nil]
  | d :: r, hd => by
    have h1 : d < b := hd d (by simp)
    have h2 := dval_lt hb (xs := r) (fun e he => hd e (by simp [he]))
    rw [dval_cons, List.length_cons, Nat.pow_succ, Nat.mul_comm (b ^ _) b]
    calc d + b * dval b r < b + b * dval b r := by omega
      _ = b * (dval b r + 1) := by rw [Nat.mul_add, Nat.mul_one, Nat.add_comm]
      _ ≤ b * b ^ r.length := Nat.mul_le_mul_left _ h2

theorem dval_replicate_zero (b k : Nat) : dval b (List.replicate k 0) = 0 := by
  induction k with
  | zero => rfl
  | succ k ih => rw [List.replicate_succ, dval_cons, ih]; simp

theorem digs_inj {b : Nat} (hb : 1 < b) {m n : Nat} (h : digs b m = digs b n) : m = n := by
  rw [← dval_digs hb m, h, dval_digs hb]

theorem digs_length_le {b : Nat} (hb : 1 < b) {n k : Nat} (h : n < b ^ k) : (digs b n).length ≤ k := by
  induction k generalizing n with
  | zero => simp at h; subst h; rw [digs_zero]; simp
  | succ k ih =>
    rcases Nat.eq_zero_or_pos n with rfl | hn
    · rw [digs_zero]; simp
    · rw [digs_pos hb hn, List.length_cons]
      have : n / b < b ^ k := by
        rw [Nat.div_lt_iff_lt_mul (by omega)]
        rwa [Nat.pow_succ] at h
      have := ih this
      omega

theorem lt_of_digs_length {b : Nat} (hb : 1 < b) {n k : Nat} (h : (digs b n).length ≤ k) : n < b ^ k := by
  have h1 := dval_lt (b := b) (by omega) (dig_digs hb n)
  rw [dval_digs hb] at h1
  exact Nat.lt_of_lt_of_le h1 (Nat.pow_le_pow_right (by omega) h)

theorem le_of_digs_length {b : Nat} (hb : 1 < b) {n k : Nat} (h : k < (digs b n).length) : b ^ k ≤ n := by
  rcases Nat.lt_or_ge n (b ^ k) with h1 | h1
  · have := digs_length_le hb h1; omega
  · exact h1

/-- Noughts at the end taken off. -/
def trimz : List Nat → List Nat
  | [] => []
  | d :: r => match trimz r with
    | [] => if d = 0 then [] else [d]
    | t => d :: t

theorem trimz_canon : ∀ xs : List Nat, Canon (trimz xs)
  | [] => canon_nil
  | d :: r => by
    have ih := trimz_canon r
    unfold trimz
    cases h : trimz r with
    | nil => by_cases hd : d = 0 <;> simp [hd, Canon]
    | cons e t =>
      rw [h] at ih
      simp only
      unfold Canon at *
      rw [List.getLast?_cons]
      cases hx : (e :: t).getLast? with
      | none => simp at hx
      | some z => simp; intro ez; subst ez; exact ih hx

theorem dval_trimz (b : Nat) : ∀ xs : List Nat, dval b (trimz xs) = dval b xs
  | [] => rfl
  | d :: r => by
    have ih := dval_trimz b r
    unfold trimz
    cases h : trimz r with
    | nil =>
      rw [h, dval_nil] at ih
      by_cases hd : d = 0
      · simp [hd, dval_cons, dval_nil, ← ih]
      · simp [hd, dval_cons, dval_nil, ← ih]
    | cons e t => rw [h] at ih; simp only [dval_cons b d]; rw [ih]

theorem trimz_dig {b : Nat} : ∀ {xs : List Nat}, Dig b xs → Dig b (trimz xs)
  | [], _ => fun d hd => by cases hd
  | d :: r, h => by
    have ih := trimz_dig (xs := r) (fun e he => h e (by simp [he]))
    have hd := h d (by simp)
    unfold trimz
    cases ht : trimz r with
    | nil =>
      by_cases h0 : d = 0
      · simp [h0]; intro e he; cases he
      · simp [h0]; intro e he; simp at he; omega
    | cons e t =>
      rw [ht] at ih
      intro x hx
      rcases List.mem_cons.1 hx with rfl | hx
      · exact hd
      · exact ih x hx

theorem digs_dval_trim {b : Nat} (hb : 1 < b) {xs : List Nat} (h : Dig b xs) : digs b (dval b xs) = trimz xs := by
  rw [← dval_trimz, digs_dval hb (trimz_dig h) (trimz_canon xs)]

theorem trimz_of_canon : ∀ {xs : List Nat}, Canon xs → trimz xs = xs
  | [], _ => rfl
  | d :: r, h => by
    unfold trimz
    by_cases hr : r = []
    · subst hr; unfold Canon at h; simp at h; simp [trimz]; omega
    · rw [trimz_of_canon (canon_tail h hr)]
      cases r with
      | nil => exact absurd rfl hr
      | cons e t => rfl

theorem trimz_snoc_zero : ∀ xs : List Nat, trimz (xs ++ [0]) = trimz xs
  | [] => by simp [trimz]
  | d :: r => by rw [List.cons_append]; unfold trimz; rw [trimz_snoc_zero r]

theorem canon_snoc {xs : List Nat} {d : Nat} (h : d ≠ 0) : Canon (xs ++ [d]) := by
  unfold Canon; rw [List.getLast?_append]; simp; omega

end Go.Proofs.YtfkcobdkgjhfaaaGreatDoor

/- Words on memory: a row of words, a block known whole, what a call leaves as it was. -/
set_option linter.unusedVariables false
set_option linter.unusedSimpArgs false
namespace Go.Proofs.YtfkcobdkgjhfaaaGreatDoor
open Go.RowKit

theorem hide {p : Prop} (h : p) : Hid p := h

theorem getD_at {xs : List Nat} {i : Nat} (h : i < xs.length) : xs.getD i 0 = xs[i] := by
  rw [List.getD_eq_getElem?_getD, List.getElem?_eq_getElem h]; rfl

theorem getD_snoc (xs : List Nat) (d : Nat) : (xs ++ [d]).getD xs.length 0 = d := by
  simp [List.getD_eq_getElem?_getD]

theorem trimz_take_zero {xs : List Nat} {i : Nat} (hi : i < xs.length) (h : xs.getD i 0 = 0) : trimz (xs.take (i + 1)) = trimz (xs.take i) := by
  rw [List.take_succ_eq_append_getElem hi]
  rw [getD_at hi] at h
  rw [h, trimz_snoc_zero]

theorem trimz_take_ne {xs : List Nat} {i : Nat} (hi : i < xs.length) (h : xs.getD i 0 ≠ 0) : trimz (xs.take (i + 1)) = xs.take (i + 1) := by
  apply trimz_of_canon
  rw [List.take_succ_eq_append_getElem hi]
  rw [getD_at hi] at h
  exact canon_snoc h

theorem take_trimz {xs : List Nat} : xs.take (trimz xs).length = trimz xs := by
  induction xs with
  | nil => rfl
  | cons d r ih =>
    unfold trimz
    cases h : trimz r with
    | nil =>
      by_cases h0 : d = 0
      · simp [h0]
      · simp [h0]
    | cons e t =>
      rw [h] at ih
      simp only [List.length_cons, List.take_succ_cons]
      rw [← List.length_cons (a := e), ih]
theorem trimz_length_le (xs : List Nat) : (trimz xs).length ≤ xs.length := by
  have := congrArg List.length (take_trimz (xs := xs))
  rw [List.length_take] at this
  omega

/-- What a call leaves: the streams, and each old block that is none of S. -/
structure Fr (w w' : World) (S : Nat → Prop) : Prop where
  os : w'.os = w.os
  tape : w'.tape = w.tape
  output : w'.output = w.output
  size : w.heap.size ≤ w'.heap.size
  block : ∀ k, k < w.heap.size → ¬ S k → w'.heap[k]? = w.heap[k]?

theorem Fr.refl (w : World) (S : Nat → Prop) : Fr w w S := ⟨rfl, rfl, rfl, Nat.le_refl _, fun _ _ _ => rfl⟩
theorem Fr.trans {a b c : World} {S : Nat → Prop} (h : Fr a b S) (k : Fr b c S) : Fr a c S :=
  ⟨k.os.trans h.os, k.tape.trans h.tape, k.output.trans h.output, Nat.le_trans h.size k.size, fun i hi hs => (k.block i (Nat.lt_of_lt_of_le hi h.size) hs).trans (h.block i hi hs)⟩
theorem Fr.mono {a b : World} {S S' : Nat → Prop} (h : Fr a b S) (hs : ∀ k, k < a.heap.size → S k → S' k) : Fr a b S' :=
  ⟨h.os, h.tape, h.output, h.size, fun i hi hn => h.block i hi (fun h' => hn (hs i hi h'))⟩
/-- A second step may turn what is new behind the first. -/
theorem Fr.step {a b c : World} {S S' : Nat → Prop} (h : Fr a b S) (k : Fr b c S') (hs : ∀ i, i < a.heap.size → S' i → S i) : Fr a c S :=
  ⟨k.os.trans h.os, k.tape.trans h.tape, k.output.trans h.output, Nat.le_trans h.size k.size, fun i hi hn => (k.block i (Nat.lt_of_lt_of_le hi h.size) (fun h' => hn (hs i hi h'))).trans (h.block i hi hn)⟩
theorem Fr.of_below {a b : World} (h : Below a.heap.size a b) (S : Nat → Prop) : Fr a b S := ⟨h.os, h.tape, h.output, h.size, fun i hi _ => h.block i hi⟩
theorem Fr.below {a b : World} {S : Nat → Prop} (h : Fr a b S) {B : Nat} (hB : B ≤ a.heap.size) (hs : ∀ k, S k → B ≤ k) : Below B a b :=
  ⟨h.os, h.tape, h.output, h.size, fun k hk => h.block k (by omega) (fun h' => by have := hs k h'; omega)⟩
theorem Fr.alloc {a b : World} {S : Nat → Prop} (h : Fr a b S) (o : Obj) : Fr a (b.alloc o) S :=
  h.step (S' := fun _ => False) ⟨rfl, rfl, rfl, by simp, fun k hk _ => Below.heap_alloc _ _ _ hk⟩ (fun _ _ h => h.elim)
theorem Fr.drewN {a b : World} {S : Nat → Prop} (h : Fr a b S) (n : Nat) : Fr a (b.drewN n) S := ⟨h.os, h.tape, h.output, h.size, h.block⟩
theorem Fr.drew {a b : World} {S : Nat → Prop} (h : Fr a b S) : Fr a b.drew S := ⟨h.os, h.tape, h.output, h.size, h.block⟩
theorem Fr.setCell {a b : World} {S : Nat → Prop} (h : Fr a b S) {p : Addr} (hp : p.block < a.heap.size → S p.block) (u : Value) : Fr a (b.setCell p u) S :=
  h.step (S' := fun k => k = p.block) ⟨rfl, rfl, rfl, by simp [World.setCell], fun k _ hk => Below.heap_setCell _ _ _ _ hk⟩ (fun i hi e => by subst e; exact hp hi)
theorem Fr.setRow {a b : World} {S : Nat → Prop} (h : Fr a b S) {g : Nat} (hg : g < a.heap.size → S g) (cs : Array Value) : Fr a (b.setRow g cs) S :=
  h.step (S' := fun k => k = g) ⟨rfl, rfl, rfl, by simp, fun k _ hk => setRow_other _ _ _ _ hk⟩ (fun i hi e => by subst e; exact hg hi)
theorem Fr.cell {a b : World} {S : Nat → Prop} (h : Fr a b S) {p : Addr} {v : Value} (hc : a.cell? p = some v) (hp : ¬ S p.block) : b.cell? p = some v :=
  (World.cell?_of_block (h.block p.block (World.block_lt_of_cell? a p hc) hp)).trans hc
theorem Fr.grown {a b : World} {row : Option Nat} (h : a.grownBy b row) : Fr a b (fun k => some k = row) := ⟨h.os, h.tape, h.output, h.size, h.block⟩

/-- Block g is known whole: the cells cs of type t, none of them frozen. -/
def Blk (w : World) (g : Nat) (t : TypeId) (cs : Array Value) : Prop := w.heap[g]? = some (.cells cs t (0, 0))
section
variable {w w' : World} {g : Nat} {t : TypeId} {cs : Array Value}
theorem Blk.lt (h : Blk w g t cs) : g < w.heap.size := (Array.getElem?_eq_some_iff.1 h).1
theorem Blk.cell (h : Blk w g t cs) (i : Nat) : w.cell? ⟨g, i, none⟩ = cs[i]? := by
  unfold Blk at h; simp [World.cell?, h]
theorem Blk.frozen (h : Blk w g t cs) (i : Nat) : w.frozen? ⟨g, i, none⟩ = false := by
  unfold Blk at h
  simp [World.frozen?, h]
theorem Blk.new (w : World) (t : TypeId) (cs : Array Value) : Blk (w.alloc (.cells cs t)) w.heap.size t cs := heap_alloc_new w _
theorem Blk.fr {S : Nat → Prop} (h : Blk w g t cs) (hf : Fr w w' S) (hs : ¬ S g) : Blk w' g t cs := (hf.block g h.lt hs).trans h
theorem Blk.alloc (h : Blk w g t cs) (o : Obj) : Blk (w.alloc o) g t cs := (Below.heap_alloc w o g h.lt).trans h
theorem Blk.drew (h : Blk w g t cs) : Blk w.drew g t cs := h
theorem Blk.drewN (h : Blk w g t cs) (n : Nat) : Blk (w.drewN n) g t cs := h
theorem Blk.set (h : Blk w g t cs) (i : Nat) (u : Value) : Blk (w.setCell ⟨g, i, none⟩ u) g t (cs.setIfInBounds i u) := by
  unfold Blk at h ⊢
  simp [World.setCell, Array.getElem?_modify, h]
theorem Blk.far (h : Blk w g t cs) {p : Addr} (hp : g ≠ p.block) (u : Value) : Blk (w.setCell p u) g t cs := (Below.heap_setCell w p u g hp).trans h
theorem Blk.setRow (h : Blk w g t cs) (cs' : Array Value) : Blk (w.setRow g cs') g t cs' := setRow_heap w g cs cs' t (0, 0) h
theorem Blk.rowFar (h : Blk w g t cs) {k : Nat} (hp : g ≠ k) (cs' : Array Value) : Blk (w.setRow k cs') g t cs := (setRow_other w k g cs' hp).trans h
theorem Blk.below (h : Blk w g t cs) (hb : Below w.heap.size w w') : Blk w' g t cs := (hb.block g h.lt).trans h
theorem Blk.type_ne {g' : Nat} {t' : TypeId} {cs' : Array Value} (h : Blk w g t cs) (h' : Blk w g' t' cs') (hne : t ≠ t') : g ≠ g' := by
  rintro rfl
  unfold Blk at h h'
  rw [h] at h'
  injection h' with h'
  injection h' with _ ht
  exact hne ht
end

/-! ### words -/
/-- Words as the cells hold them. -/
def wv (xs : List Nat) : List Value := xs.map fun (d : Nat) => Value.int .u64 (d : Int)
theorem wv_length (xs : List Nat) : (wv xs).length = xs.length := by simp [wv]
theorem wv_one {xs : List Nat} : ∀ u ∈ wv xs, u.oneCell' = true := by
  intro u hu; simp [wv] at hu; obtain ⟨d, _, rfl⟩ := hu; rfl
theorem wv_at (xs : List Nat) (i : Nat) : (wv xs)[i]? = (xs[i]?).map fun (d : Nat) => Value.int .u64 (d : Int) := by simp [wv]
theorem wv_inj {xs ys : List Nat} (h : wv xs = wv ys) : xs = ys := by
  induction xs generalizing ys with
  | nil => cases ys with
    | nil => rfl
    | cons d r => simp [wv] at h
  | cons d r ih => cases ys with
    | nil => simp [wv] at h
    | cons e s =>
      simp only [wv, List.map_cons, List.cons.injEq] at h
      have h1 : d = e := by have := h.1; injection this with _ h2; omega
      rw [h1, ih h.2]

/-- The words xs lie in block g from place o on. -/
def WordsAt (w : World) (g o : Nat) (xs : List Nat) : Prop := ∀ i, i < xs.length → w.cell? ⟨g, o + i, none⟩ = some (.int .u64 (xs.getD i 0 : Nat))
theorem WordsAt.fr {w w' : World} {g o : Nat} {xs : List Nat} {S : Nat → Prop} (h : WordsAt w g o xs) (hf : Fr w w' S) (hs : ¬ S g) : WordsAt w' g o xs := fun i hi => hf.cell (h i hi) hs
theorem WordsAt.take {w : World} {g o : Nat} {xs : List Nat} (h : WordsAt w g o xs) (n : Nat) : WordsAt w g o (xs.take n) := by
  intro i hi
  have h1 : i < xs.length := by rw [List.length_take] at hi; omega
  rw [h i h1]
  have h2 : i < n := by rw [List.length_take] at hi; omega
  simp [List.getD_eq_getElem?_getD, List.getElem?_take, h2]
theorem WordsAt.drop {w : World} {g o : Nat} {xs : List Nat} (h : WordsAt w g o xs) (n : Nat) : WordsAt w g (o + n) (xs.drop n) := by
  intro i hi
  have h1 : n + i < xs.length := by rw [List.length_drop] at hi; omega
  have := h (n + i) h1
  rw [Nat.add_assoc, this]
  simp [List.getD_eq_getElem?_getD, List.getElem?_drop]
theorem WordsAt.of_blk {w : World} {g o : Nat} {t : TypeId} {cs : Array Value} {xs : List Nat} (h : Blk w g t cs) (hx : ∀ i, i < xs.length → cs[o + i]? = some (.int .u64 (xs.getD i 0 : Nat))) : WordsAt w g o xs :=
  fun i hi => (h.cell (o + i)).trans (hx i hi)

/-- A slice that reads as words: nil, or an address and a capacity. -/
def RdW (w : World) (v : Value) (xs : List Nat) : Prop :=
  (∃ A c, v = .slice A 0 c ∧ xs = [] ∧ c ≤ maxLen) ∨ ∃ g o c, v = .slice (some ⟨g, o, none⟩) xs.length c ∧ xs.length ≤ c ∧ c ≤ maxLen ∧ WordsAt w g o xs
/-- Which block a slice lies in. -/
theorem RdW.fr {w w' : World} {v : Value} {xs : List Nat} {S : Nat → Prop} (h : RdW w v xs) (hf : Fr w w' S) (hs : ∀ k, v.ownBlock = some k → ¬ S k) : RdW w' v xs := by
  rcases h with h | ⟨g, o, c, rfl, h1, h2, h3⟩
  · exact .inl h
  · exact .inr ⟨g, o, c, rfl, h1, h2, h3.fr hf (hs g rfl)⟩

/-- A row of n words of the call's own, whatever they hold. -/
def Room (w : World) (base : Nat) (v : Value) (n : Nat) : Prop := ∃ xs, w.ownsRow base 145 1 v n xs
/-- A row of the call's own that holds the words xs. -/
def Own (w : World) (base : Nat) (v : Value) (xs : List Nat) : Prop := w.ownsRow base 145 1 v xs.length (wv xs)
theorem Own.room {w : World} {base : Nat} {v : Value} {xs : List Nat} (h : Own w base v xs) : Room w base v xs.length := ⟨_, h⟩
theorem Own.nil (w : World) (base : Nat) : Own w base (.slice none 0 0) [] := ⟨by simp [wv], .inl ⟨rfl, rfl⟩⟩
theorem Own.fr {w w' : World} {base : Nat} {v : Value} {xs : List Nat} {S : Nat → Prop} (h : Own w base v xs) (hf : Fr w w' S) (hs : ∀ k, v.ownBlock = some k → ¬ S k) : Own w' base v xs := by
  obtain ⟨h1, h2⟩ := h
  refine ⟨h1, ?_⟩
  rcases h2 with h2 | ⟨g, cap, cur, rfl, hg, hh, r⟩
  · exact .inl h2
  · exact .inr ⟨g, cap, cur, rfl, hg, Blk.fr (t := 145) hh hf (hs g rfl), r⟩
theorem Room.fr {w w' : World} {base n : Nat} {v : Value} {S : Nat → Prop} (h : Room w base v n) (hf : Fr w w' S) (hs : ∀ k, v.ownBlock = some k → ¬ S k) : Room w' base v n := by
  obtain ⟨xs, h1, h2⟩ := h
  refine ⟨xs, h1, ?_⟩
  rcases h2 with h2 | ⟨g, cap, cur, rfl, hg, hh, r⟩
  · exact .inl h2
  · exact .inr ⟨g, cap, cur, rfl, hg, Blk.fr (t := 145) hh hf (hs g rfl), r⟩
theorem Room.lt {w : World} {base n : Nat} {v : Value} (h : Room w base v n) {k : Nat} (hk : v.ownBlock = some k) : base ≤ k ∧ k < w.heap.size := by
  obtain ⟨xs, h⟩ := h; exact h.lt k hk
theorem Own.lt {w : World} {base : Nat} {v : Value} {xs : List Nat} (h : Own w base v xs) {k : Nat} (hk : v.ownBlock = some k) : base ≤ k ∧ k < w.heap.size := World.ownsRow.lt h k hk
theorem Room.form {w : World} {base n : Nat} {v : Value} (h : Room w base v n) : (v = .slice none 0 0 ∧ n = 0) ∨ ∃ g cap cur, v = .slice (some ⟨g, 0, none⟩) n cap ∧ base ≤ g ∧ Blk w g 145 cur ∧ n ≤ cap ∧ cap ≤ maxLen ∧ cur.size = cap := by
  obtain ⟨xs, h1, h2⟩ := h
  rcases h2 with h2 | ⟨g, cap, cur, rfl, hg, hh, a, b, c, d⟩
  · exact .inl h2
  · exact .inr ⟨g, cap, cur, rfl, hg, hh, a, b, by simpa using c⟩
theorem Room.slice {w : World} {base n : Nat} {v : Value} (h : Room w base v n) : ∃ A c, v = .slice A n c := by
  rcases h.form with ⟨rfl, rfl⟩ | ⟨g, cap, cur, rfl, _⟩
  · exact ⟨none, 0, rfl⟩
  · exact ⟨_, cap, rfl⟩
theorem Room.mk {w : World} {base n g cap : Nat} {cur : Array Value} (hg : base ≤ g) (hb : Blk w g 145 cur) (hn : n ≤ cap) (hc : cap ≤ maxLen) (hs : cur.size = cap) : Room w base (.slice (some ⟨g, 0, none⟩) n cap) n :=
  ⟨cur.toList.take n, by simp; omega, .inr ⟨g, cap, cur, rfl, hg, hb, hn, hc, by simpa using hs, by simp⟩⟩
theorem Own.mk {w : World} {base g cap : Nat} {cur : Array Value} {xs : List Nat} (hg : base ≤ g) (hb : Blk w g 145 cur) (hn : xs.length ≤ cap) (hc : cap ≤ maxLen) (hs : cur.size = cap) (hx : cur.toList.take xs.length = wv xs) : Own w base (.slice (some ⟨g, 0, none⟩) xs.length cap) xs :=
  ⟨by simp [wv], .inr ⟨g, cap, cur, rfl, hg, hb, hn, hc, by simpa using hs, by simpa using hx⟩⟩
theorem Own.form {w : World} {base : Nat} {v : Value} {xs : List Nat} (h : Own w base v xs) : (v = .slice none 0 0 ∧ xs = []) ∨ ∃ g cap cur, v = .slice (some ⟨g, 0, none⟩) xs.length cap ∧ base ≤ g ∧ Blk w g 145 cur ∧ xs.length ≤ cap ∧ cap ≤ maxLen ∧ cur.size = cap ∧ cur.toList.take xs.length = wv xs := by
  obtain ⟨h1, h2⟩ := h
  rcases h2 with ⟨h2, h3⟩ | ⟨g, cap, cur, rfl, hg, hh, a, b, c, d⟩
  · exact .inl ⟨h2, List.eq_nil_of_length_eq_zero h3⟩
  · exact .inr ⟨g, cap, cur, rfl, hg, hh, a, b, by simpa using c, by simpa using d⟩
theorem words_of_take {cur : Array Value} {xs : List Nat} (h : cur.toList.take xs.length = wv xs) (i : Nat) (hi : i < xs.length) : cur[i]? = some (.int .u64 (xs.getD i 0 : Nat)) := by
  have h1 : (cur.toList.take xs.length)[i]? = (wv xs)[i]? := by rw [h]
  rw [List.getElem?_take, if_pos hi, wv_at, List.getElem?_eq_getElem hi] at h1
  rw [getD_at hi]
  simpa using h1
theorem Own.words {w : World} {base g cap n : Nat} {xs : List Nat} (h : Own w base (.slice (some ⟨g, 0, none⟩) n cap) xs) : WordsAt w g 0 xs := by
  rcases h.form with ⟨h1, _⟩ | ⟨g', cap', cur, he, hg, hh, a, b, c, d⟩
  · injection h1 with h1; cases h1
  · injection he with e1 e2 e3
    injection e1 with e1
    injection e1 with e1
    subst e1
    exact WordsAt.of_blk hh fun i hi => by rw [Nat.zero_add]; exact words_of_take d i hi
theorem Own.rd {w : World} {base : Nat} {v : Value} {xs : List Nat} (h : Own w base v xs) : RdW w v xs := by
  rcases h.form with ⟨h1, h2⟩ | ⟨g, cap, cur, rfl, hg, hh, a, b, c, d⟩
  · exact .inl ⟨_, _, h1, h2, Nat.zero_le _⟩
  · exact .inr ⟨g, 0, cap, rfl, a, b, h.words⟩
theorem Own.lower {w : World} {base base' : Nat} {v : Value} {xs : List Nat} (h : Own w base v xs) (hb : base' ≤ base) : Own w base' v xs := by
  obtain ⟨h1, h2⟩ := h
  refine ⟨h1, ?_⟩
  rcases h2 with h2 | ⟨g, cap, cur, rfl, hg, r⟩
  · exact .inl h2
  · exact .inr ⟨g, cap, cur, rfl, Nat.le_trans hb hg, r⟩
theorem Own.below {w w' : World} {base : Nat} {v : Value} {xs : List Nat} (h : Own w base v xs) (hb : Below w.heap.size w w') : Own w' base v xs := h.fr (Fr.of_below hb (fun _ => False)) (fun _ _ h => h)
/-- A row of words is no block of another type. -/
theorem Room.ne_blk {w : World} {base n g : Nat} {t : TypeId} {cs : Array Value} {v : Value} (h : Room w base v n) (hb : Blk w g t cs) (ht : t ≠ 145) : ∀ k, v.ownBlock = some k → k ≠ g := by
  intro k hk
  rcases h.form with ⟨rfl, _⟩ | ⟨g', cap, cur, rfl, _, hh, _⟩
  · cases hk
  · obtain rfl : g' = k := by simpa [Value.ownBlock] using hk
    exact hh.type_ne hb (Ne.symm ht)
end Go.Proofs.YtfkcobdkgjhfaaaGreatDoor
