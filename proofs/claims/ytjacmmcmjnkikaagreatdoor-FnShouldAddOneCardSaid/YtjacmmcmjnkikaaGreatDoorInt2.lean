/- Walks: Int's SetBits, Bits; BigInt's Set, SetMathBigInt, MathBigInt. -/
import Derived.Test.YtjacmmcmjnkikaaGreatDoorInt1
set_option linter.unusedVariables false
set_option linter.unusedSimpArgs false
namespace Go.Proofs.YtjacmmcmjnkikaaGreatDoor
open Go.RowKit

/-- SetBits: the row that comes in is the Int's from now on. -/
def BitsP (w : World) (base g o : Nat) (t : TypeId) (cs : Array Value) (v : Value) (xs : List Nat) (e : Ending) (w' : World) : Prop :=
  e = .returned (.pointer (some ⟨g, o, none⟩)) ∧ ∃ A c, Own w' base (.slice A (trimz xs).length c) (trimz xs) ∧ (Value.slice A (trimz xs).length c).ownBlock = v.ownBlock ∧ Blk w' g t (setInt cs o false (.slice A (trimz xs).length c)) ∧ Fr w w' (fun k => k = g)

set_option maxHeartbeats 800000 in
theorem setBits_any (base g o : Nat) (t : TypeId) (cs : Array Value) (n0 : Bool) (v0 v : Value) (xs : List Nat) (w : World)
    (hz : Blk w g t cs) (hz0 : cs[o]? = some (.bool n0)) (hz1 : cs[o + 1]? = some v0) (hv : Own w base v xs) (ht : t ≠ 43) :
    Calls Tryz.prog 24 #[.pointer (some ⟨g, o, none⟩), v] w (BitsP w base g o t cs v xs) := by
  have c1 : w.cell? ⟨g, o + 1, none⟩ = some v0 := (hz.cell _).trans hz1
  have f1 : w.frozen? ⟨g, o + 1, none⟩ = false := hz.frozen _
  have key : ∀ (r : Value), (w.setCell ⟨g, o + 1, none⟩ r).cell? ⟨g, o, none⟩ = some (.bool n0) ∧ (w.setCell ⟨g, o + 1, none⟩ r).frozen? ⟨g, o, none⟩ = false := by
    intro r
    refine ⟨?_, ?_⟩
    · rw [World.cell?_setCell_other _ _ _ _ (by intro e; injection e with e1 e2; omega)]
      exact (hz.cell _).trans hz0
    · rw [World.frozen?_setCell]; exact hz.frozen _
  have fin : ∀ A c, Own w base (.slice A (trimz xs).length c) (trimz xs) → (Value.slice A (trimz xs).length c).ownBlock = v.ownBlock →
      BitsP w base g o t cs v xs (.returned (.pointer (some ⟨g, o, none⟩))) ((w.setCell ⟨g, o + 1, none⟩ (.slice A (trimz xs).length c)).setCell ⟨g, o, none⟩ (.bool false)) := by
    intro A c hr hrb
    refine ⟨rfl, A, c, ?_, hrb, (hz.set _ _).set _ _, ?_⟩
    · have hg := hr.room.ne_blk hz ht
      exact (hr.fr (Fr.setCell (Fr.refl w (fun k => k = g)) (p := ⟨g, o + 1, none⟩) (fun _ => rfl) _) hg).fr (Fr.setCell (Fr.refl _ (fun k => k = g)) (p := ⟨g, o, none⟩) (fun _ => rfl) _) hg
    · exact ((Fr.refl w (fun k => k = g)).setCell (p := ⟨g, o + 1, none⟩) (fun _ => rfl) _).setCell (p := ⟨g, o, none⟩) (fun _ => rfl) _
  have Key := hide key
  have Fin := hide fin
  clear hz hz0 hz1 key fin
  go_enter Tryz.func24, Tryz.ntmps24
  go_wp2_with fail
  refine (norm_own base v xs _ hv).mono ?_
  rintro e w1 ⟨A, c, rfl, hr, hrb, rfl⟩
  obtain ⟨k1, k2⟩ := Key.out (.slice A (trimz xs).length c)
  have HF := hide (Fin.out A c hr hrb)
  clear hr hrb
  go_wp2
  go_ret
  exact HF.out

/-- The cells of a BigInt behind a write. -/
def setBig (cs : Array Value) (o : Nat) (neg : Bool) (r : Value) (minus : Bool) : Array Value := setInt (cs.setIfInBounds (o + 2) (.bool minus)) o neg r

def BigP (w : World) (base g o : Nat) (t : TypeId) (cs : Array Value) (vz : Value) (neg minus : Bool) (xs : List Nat) (e : Ending) (w' : World) : Prop :=
  e = .returned (.pointer (some ⟨g, o, none⟩)) ∧ ∃ A c, Own w' base (.slice A xs.length c) xs ∧ ((Value.slice A xs.length c).ownBlock = vz.ownBlock ∨ ∃ k, (Value.slice A xs.length c).ownBlock = some k ∧ w.heap.size ≤ k) ∧ Blk w' g t (setBig cs o neg (.slice A xs.length c) minus) ∧ Fr w w' (fun k => k = g ∨ vz.ownBlock = some k)

theorem getElem?_set_ne {cs : Array Value} {i j : Nat} {u : Value} (h : i ≠ j) : (cs.setIfInBounds i u)[j]? = cs[j]? := by
  simp [Array.getElem?_setIfInBounds, h]

end Go.Proofs.YtjacmmcmjnkikaaGreatDoor
