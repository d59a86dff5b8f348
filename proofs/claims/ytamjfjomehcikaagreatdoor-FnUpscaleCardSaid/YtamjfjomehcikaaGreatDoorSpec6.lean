/- Walks: spec's Cmp. -/
import Derived.Test.YtamjfjomehcikaaGreatDoorSpec5
set_option linter.unusedVariables false
set_option linter.unusedSimpArgs false
namespace Go.Proofs.YtamjfjomehcikaaGreatDoor
open Go.RowKit

/-- -1, 0 or 1 by the order of two numbers. (Under a name: the walk leaves it.) -/
def cmpI (m n : Nat) : Int := if m < n then -1 else if n < m then 1 else 0
theorem cmpI_lt {m n : Nat} (h : m < n) : cmpI m n = -1 := if_pos h
theorem cmpI_gt {m n : Nat} (h : n < m) : cmpI m n = 1 := by unfold cmpI; rw [if_neg (by omega), if_pos h]
theorem cmpI_eq {m n : Nat} (h : m = n) : cmpI m n = 0 := by unfold cmpI; rw [if_neg (by omega), if_neg (by omega)]

theorem top_lt {b : Nat} : ∀ {xs ys : List Nat} {i : Nat}, Dig b xs → xs.length = ys.length → i < xs.length → xs.getD i 0 < ys.getD i 0 → (∀ j, i < j → j < xs.length → xs.getD j 0 = ys.getD j 0) → dval b xs < dval b ys
  | [], _, _, _, _, h, _, _ => by simp at h
  | d :: r, [], _, _, h, _, _, _ => by simp at h
  | d :: r, e :: s, 0, _, hl, _, hlt, he => by
    have : r = s := list_ext_getD (by simpa using hl) (fun i hi => by have := he (i + 1) (by omega) (by simpa using hi); simpa using this)
    subst this
    rw [dval_cons, dval_cons]
    simp at hlt
    omega
  | d :: r, e :: s, i + 1, hd, hl, hi, hlt, he => by
    have h := top_lt (b := b) (xs := r) (ys := s) (i := i) (fun x hx => hd x (by simp [hx])) (by simpa using hl) (by simpa using hi) (by simpa using hlt)
      (fun j h1 h2 => by have := he (j + 1) (by omega) (by simpa using h2); simpa using this)
    have h1 := hd d (by simp)
    rw [dval_cons, dval_cons]
    have h2 : b * (dval b r + 1) ≤ b * dval b s := Nat.mul_le_mul_left b h
    rw [Nat.mul_add] at h2
    omega
theorem len_lt {b m n : Nat} (hb : 1 < b) (h : (digs b m).length < (digs b n).length) : m < n :=
  Nat.lt_of_lt_of_le (lt_of_digs_length hb (Nat.le_refl _)) (le_of_digs_length hb h)
theorem digs_top_lt {b m n i : Nat} (hb : 1 < b) (hl : (digs b m).length = (digs b n).length) (hi : i < (digs b n).length) (h : (digs b m).getD i 0 < (digs b n).getD i 0) (he : ∀ j, i < j → j < (digs b n).length → (digs b m).getD j 0 = (digs b n).getD j 0) : m < n := by
  have := top_lt (dig_digs hb m) hl (by omega) h (fun j h1 h2 => he j h1 (by omega))
  rwa [dval_digs hb, dval_digs hb] at this

def CmpP (w : World) (m n : Nat) (e : Ending) (w' : World) : Prop := e = .returned (.int .i64 (cmpI m n)) ∧ Below w.heap.size w w'

end Go.Proofs.YtamjfjomehcikaaGreatDoor
