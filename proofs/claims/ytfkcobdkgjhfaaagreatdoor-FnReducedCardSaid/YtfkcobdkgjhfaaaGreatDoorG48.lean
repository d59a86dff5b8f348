/- Parts of the proofs: TxtMath, StrApp, BufSt. -/
import Derived.Test.YtfkcobdkgjhfaaaGreatDoorShelf
import Derived.Test.YtfkcobdkgjhfaaaGreatDoorG19
import Derived.Test.YtfkcobdkgjhfaaaGreatDoorG21
import Derived.Test.YtfkcobdkgjhfaaaGreatDoorG41
import Derived.Test.YtfkcobdkgjhfaaaGreatDoorG42
/- Plain: the texts of a decimal, as the code and as the reference lay them. -/
set_option linter.unusedVariables false
set_option linter.unusedSimpArgs false
namespace Go.Proofs.YtfkcobdkgjhfaaaGreatDoor
open Go.RowKit

/-- A text's part. -/
theorem bstr_extract (xs : List Nat) (i j : Nat) : (bstr xs).extract i j = bstr ((xs.drop i).take (j - i)) := by
  apply ByteArray.ext
  simp [bstr, ByteArray.data_extract, List.map_take, List.map_drop]

/-- A minus ahead, or none. -/
def sgnT (n : Bool) (s : List Nat) : List Nat := if n then 45 :: s else s
/-- An integer with its sign. -/
def wholeT (e : Int) : List Nat := (if e < 0 then 45 else 43) :: decB e.natAbs
/-- Noughts ahead, until there are more than k figures. -/
def padT (s : List Nat) (k : Nat) : List Nat := List.replicate (k + 1 - s.length) 48 ++ s
def pointT (s : List Nat) (k : Nat) : List Nat := if k = 0 then padT s k else (padT s k).take ((padT s k).length - k) ++ 46 :: (padT s k).drop ((padT s k).length - k)
/-- A value as a text without an exponent, without its sign. -/
def fixT (a : Nat) (e : Int) : List Nat := if e ≤ 0 then pointT (decB a) (-e).toNat else if 0 < a then decB a ++ List.replicate e.toNat 48 else decB a
/-- A value as a text with an exponent, without its sign. -/
def sciT (a : Nat) (e : Int) (ch : Nat) : List Nat := ((if 1 < figs a then (decB a).take 1 ++ 46 :: (decB a).drop 1 else decB a) ++ [ch]) ++ wholeT (e + (figs a : Int) - 1)
/-- The text to-scientific-string. -/
def natT (a : Nat) (e : Int) (ch : Nat) : List Nat := if e ≤ 0 ∧ -6 ≤ e + (figs a : Int) - 1 then fixT a e else sciT a e ch

/-- What the code lays with an exponent. -/
def codeE (d : List Nat) (e : Int) (ch : Nat) : List Nat :=
  (((d.take 1 ++ (if 1 < d.length then 46 :: d.drop 1 else [])) ++ [ch]) ++ [if e + (d.length : Int) - 1 < 0 then 45 else 43]) ++ decB (e + (d.length : Int) - 1).natAbs
/-- What the code lays without one. -/
def codeF (d : List Nat) (e : Int) : List Nat :=
  if e < 0 then (if 0 ≤ -e - (d.length : Int) then ([48, 46] ++ List.replicate (-e - (d.length : Int)).toNat 48) ++ d else (d.take ((d.length : Int) + e).toNat ++ [46]) ++ d.drop ((d.length : Int) + e).toNat) else d ++ List.replicate e.toNat 48

theorem figs_pos (a : Nat) : 0 < figs a := by
  unfold figs
  split
  · omega
  · exact List.length_pos_iff.2 (digs_ne_nil (by omega) (by omega))

theorem codeE_eq (a : Nat) (e : Int) (ch : Nat) : codeE (decB a) e ch = sciT a e ch := by
  unfold codeE sciT wholeT
  rw [decB_length]
  by_cases h : 1 < figs a
  · simp [h]
  · have h1 : (decB a).take 1 = decB a := List.take_of_length_le (by rw [decB_length]; omega)
    simp [h, h1]

theorem codeF_eq (a : Nat) (e : Int) (h : e ≤ 0 ∨ 0 < a) : codeF (decB a) e = fixT a e := by
  unfold codeF fixT pointT padT
  have hl := decB_length a
  have hp := figs_pos a
  by_cases h0 : e < 0
  · have hk : (-e).toNat ≠ 0 := by omega
    have h00 : e ≤ 0 := by omega
    by_cases h1 : 0 ≤ -e - ((decB a).length : Int)
    · rw [if_pos h0, if_pos h1, if_pos h00, if_neg hk]
      obtain ⟨l, hlE⟩ : ∃ l : Nat, l = (-e - ((decB a).length : Int)).toNat := ⟨_, rfl⟩
      rw [← hlE]
      have e1 : (-e).toNat + 1 - (decB a).length = l + 1 := by omega
      rw [e1]
      have e2 : (List.replicate (l + 1) 48 ++ decB a).length - (-e).toNat = 1 := by simp; omega
      rw [e2]
      simp [List.replicate_succ]
    · rw [if_pos h0, if_neg h1, if_pos h00, if_neg hk]
      have e1 : (-e).toNat + 1 - (decB a).length = 0 := by omega
      rw [e1]
      have e2 : ((decB a).length : Int) + e = (((decB a).length - (-e).toNat : Nat) : Int) := by omega
      rw [e2]
      simp
  · rw [if_neg h0]
    by_cases h1 : e ≤ 0
    · obtain rfl : e = 0 := by omega
      have hne : decB a ≠ [] := fun h => by rw [h] at hl; simp at hl; omega
      rw [if_pos h1]
      have e1 : (-(0 : Int)).toNat = 0 := rfl
      have e2 : 0 + 1 - (decB a).length = 0 := by omega
      rw [e1, if_pos rfl, e2]
      simp
    · rw [if_neg h1]
      rcases h with h | h
      · omega
      · rw [if_pos h]
end Go.Proofs.YtfkcobdkgjhfaaaGreatDoor

/- Walks: strconv.AppendInt at base 10, onto a buffer that is known by its cells. -/
set_option linter.unusedVariables false
set_option linter.unusedSimpArgs false
namespace Go.Proofs.YtfkcobdkgjhfaaaGreatDoor
open Go.RowKit

theorem decB_step {u : Nat} (h : ¬ u < 10) : decB u = decB (u / 10) ++ [48 + u % 10] := by
  have e : digs 10 u = (u % 10) :: digs 10 (u / 10) := by rw [digs_pos (by omega) (by omega)]
  unfold decB
  rw [if_neg (by omega), if_neg (by omega), e]
  simp

end Go.Proofs.YtfkcobdkgjhfaaaGreatDoor

/- A buffer that grows while digits lie beside it. -/
set_option linter.unusedVariables false
set_option linter.unusedSimpArgs false
namespace Go.Proofs.YtfkcobdkgjhfaaaGreatDoor
open Go.RowKit

structure St (w : World) (base : Nat) (buf dgv : Value) (bd : Nat) (ys : List Nat) (v : Value) (xs : List Nat) (W : World) : Prop where
  b : Buf W base v xs
  f : Fr w W (fun k => buf.ownBlock = some k)
  o : ∀ k, v.ownBlock = some k → buf.ownBlock = some k ∨ w.heap.size ≤ k
  d : Buf W bd dgv ys
def BufApart (w : World) (buf dgv : Value) : Prop := ∀ k, dgv.ownBlock = some k → k < w.heap.size ∧ buf.ownBlock ≠ some k
theorem St.start {w : World} {base : Nat} {buf dgv : Value} {bd : Nat} {ys xs : List Nat} (hB : Buf w base buf xs) (hD : Buf w bd dgv ys) : St w base buf dgv bd ys buf xs w :=
  ⟨hB, Fr.refl _ _, fun _ h => .inl h, hD⟩
theorem St.st {w : World} {base : Nat} {buf dgv : Value} {bd : Nat} {ys : List Nat} {v : Value} {xs : List Nat} {W : World} (h : St w base buf dgv bd ys v xs W) (ha : BufApart w buf dgv) {v' : Value} {zs : List Nat} {w' : World} (hB : Buf w' base v' zs) (hF : Fr W w' (fun k => v.ownBlock = some k)) (hO : ∀ k, v'.ownBlock = some k → v.ownBlock = some k ∨ W.heap.size ≤ k) : St w base buf dgv bd ys v' zs w' := by
  refine ⟨hB, Fr.step h.f hF (fun i hi hk => (h.o i hk).elim id (fun h2 => absurd hi (by omega))), fun k hk => ?_, h.d.fr hF (fun k hk hv => ?_)⟩
  · rcases hO k hk with h1 | h1
    · exact h.o k h1
    · exact .inr (Nat.le_trans h.f.size h1)
  · have h1 := ha k hk
    rcases h.o k hv with h2 | h2
    · exact h1.2 h2
    · omega
theorem St.al {w : World} {base : Nat} {buf dgv : Value} {bd : Nat} {ys : List Nat} {v : Value} {xs : List Nat} {W : World} (h : St w base buf dgv bd ys v xs W) (ha : BufApart w buf dgv) {o : Obj} {v' : Value} {zs : List Nat} {w' : World} (hB : Buf w' base v' zs) (hF : Fr (W.alloc o) w' (fun k => v.ownBlock = some k)) (hO : ∀ k, v'.ownBlock = some k → v.ownBlock = some k ∨ (W.alloc o).heap.size ≤ k) : St w base buf dgv bd ys v' zs w' :=
  h.st ha hB (Fr.step ((Fr.refl W _).alloc o) hF (fun _ _ h => h)) (fun k hk => (hO k hk).imp id (fun h => Nat.le_trans (by simp) h))
theorem St.app {w : World} {base : Nat} {buf dgv : Value} {bd : Nat} {ys : List Nat} {v : Value} {xs zs : List Nat} {W : World} (h : St w base buf dgv bd ys v xs W) (e : xs = zs) : AppP w base buf zs (.returned v) W := by
  subst e; exact ⟨v, rfl, h.b, h.f, h.o⟩
theorem St.bel {w : World} {base : Nat} {buf dgv : Value} {bd : Nat} {ys : List Nat} {v : Value} {xs : List Nat} {W : World} (h : St w base buf dgv bd ys v xs W) (hb : base ≤ w.heap.size) (hbb : ∀ k, buf.ownBlock = some k → base ≤ k) : Below base w W := h.f.below hb hbb
/-- A buffer in its own form. -/
theorem Buf.split {w : World} {base : Nat} {v : Value} {xs : List Nat} (h : Buf w base v xs) (hne : 0 < xs.length) : ∃ g c, v = .slice (some ⟨g, 0, none⟩) xs.length c ∧ xs.length ≤ c ∧ c ≤ maxLen ∧ g < w.heap.size ∧ ∀ i d, xs[i]? = some d → w.cell? ⟨g, i, none⟩ = some (.int .u8 (d : Nat)) := by
  obtain ⟨A, c, rfl, h⟩ := h
  rcases h with ⟨_, rfl, _⟩ | ⟨g, rfl, h1, h2, h3, h4, h5, h6⟩
  · simp at hne
  · exact ⟨g, c, rfl, h3, h4, h2, h5⟩
/-- A part of a buffer, to be appended. -/
theorem src_part {W : World} {g n c : Nat} {ys : List Nat} (o : Nat) (hd : ∀ i d, ys[i]? = some d → W.cell? ⟨g, o + i, none⟩ = some (.int .u8 (d : Nat))) (hn : n = ys.length) (hc : n ≤ c) (hm : c ≤ maxLen) : Src Tryz.prog 1 136 (.slice (some ⟨g, o, none⟩) n c) ys.length (gv .u8 ys) W := by
  subst hn
  exact src_rd (.inr ⟨g, o, c, rfl, hc, hm, fun i hi => by rw [getD_at hi]; exact hd i _ (List.getElem?_eq_getElem hi)⟩)
end Go.Proofs.YtfkcobdkgjhfaaaGreatDoor
