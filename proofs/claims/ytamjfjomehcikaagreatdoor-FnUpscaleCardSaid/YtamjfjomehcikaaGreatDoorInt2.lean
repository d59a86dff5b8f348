/- Walks: Int's SetBits, Bits; BigInt's Set, SetMathBigInt, MathBigInt. -/
import Derived.Test.YtamjfjomehcikaaGreatDoorInt1
set_option linter.unusedVariables false
set_option linter.unusedSimpArgs false
namespace Go.Proofs.YtamjfjomehcikaaGreatDoor
open Go.RowKit

/-- SetBits: the row that comes in is the Int's from now on. -/
def BitsP (w : World) (base g o : Nat) (t : TypeId) (cs : Array Value) (v : Value) (xs : List Nat) (e : Ending) (w' : World) : Prop :=
  e = .returned (.pointer (some ⟨g, o, none⟩)) ∧ ∃ A c, Own w' base (.slice A (trimz xs).length c) (trimz xs) ∧ (Value.slice A (trimz xs).length c).ownBlock = v.ownBlock ∧ Blk w' g t (setInt cs o false (.slice A (trimz xs).length c)) ∧ Fr w w' (fun k => k = g)

set_option maxHeartbeats 800000 in
theorem setBits_any (base g o : Nat) (t : TypeId) (cs : Array Value) (n0 : Bool) (v0 v : Value) (xs : List Nat) (w : World)
    (hz : Blk w g t cs) (hz0 : cs[o]? = some (.bool n0)) (hz1 : cs[o + 1]? = some v0) (hv : Own w base v xs) (ht : t ≠ 70) :
    Calls Tryz.prog 43 #[.pointer (some ⟨g, o, none⟩), v] w (BitsP w base g o t cs v xs) := by
  have c1 : w.cell? ⟨g, o + 1, none⟩ = some v0 := (hz.cell _).trans hz1
  have f1 : w.frozen? ⟨g, o + 1, none⟩ = false := hz.frozen _
  have key : ∀ (r : Value), (w.setCell ⟨g, o + 1, none⟩ r).cell? ⟨g, o, none⟩ = some (.bool n0) ∧ (w.setCell ⟨g, o + 1, none⟩ r).frozen? ⟨g, o, none⟩ = false := by
    intro r
    refine ⟨?_, ?_⟩
    · rw [World.cell?_setCell_other _ _ _ _ (by intro e; injection e with e1 e2; omega)]
      exact (hz.cell _).trans hz0
    · rw [World.frozen?_setCell]; exact hz.frozen _
  have fin : ∀ A c, Own w base (.slice A (trimz xs).length c) (trimz xs) → (Value.slice A (trimz xs).length c).ownBlock = v.ownBlock →
      BitsP w base g o t cs v xs (.returned (.pointer (some ⟨g, o, none⟩))) ((w.setCell ⟨g, o + 1, none⟩ (.slice A (trimz xs).length c)).setCell ⟨g, o, none⟩ (.bool false)) := by
    intro A c hr hrb
    refine ⟨rfl, A, c, ?_, hrb, (hz.set _ _).set _ _, ?_⟩
    · have hg := hr.room.ne_blk hz ht
      exact (hr.fr (Fr.setCell (Fr.refl w (fun k => k = g)) (p := ⟨g, o + 1, none⟩) (fun _ => rfl) _) hg).fr (Fr.setCell (Fr.refl _ (fun k => k = g)) (p := ⟨g, o, none⟩) (fun _ => rfl) _) hg
    · exact ((Fr.refl w (fun k => k = g)).setCell (p := ⟨g, o + 1, none⟩) (fun _ => rfl) _).setCell (p := ⟨g, o, none⟩) (fun _ => rfl) _
  have Key := hide key
  have Fin := hide fin
  clear hz hz0 hz1 key fin
  go_enter Tryz.func43, Tryz.ntmps43
  go_wp2_with fail
  refine (norm_own base v xs _ hv).mono ?_
  rintro e w1 ⟨A, c, rfl, hr, hrb, rfl⟩
  obtain ⟨k1, k2⟩ := Key.out (.slice A (trimz xs).length c)
  have HF := hide (Fin.out A c hr hrb)
  clear hr hrb
  go_wp2
  go_ret
  exact HF.out

theorem bits_any (g o : Nat) (v : Value) (w : World) (h : w.cell? ⟨g, o + 1, none⟩ = some v) :
    Calls Tryz.prog 33 #[.pointer (some ⟨g, o, none⟩)] w fun e w' => e = .returned v ∧ w = w' := by
  go_enter Tryz.func33, Tryz.ntmps33
  go_wp2
  go_ret
  exact ⟨rfl, rfl⟩

/-- The cells of a BigInt behind a write. -/
def setBig (cs : Array Value) (o : Nat) (neg : Bool) (r : Value) (minus : Bool) : Array Value := setInt (cs.setIfInBounds (o + 2) (.bool minus)) o neg r

def BigP (w : World) (base g o : Nat) (t : TypeId) (cs : Array Value) (vz : Value) (neg minus : Bool) (xs : List Nat) (e : Ending) (w' : World) : Prop :=
  e = .returned (.pointer (some ⟨g, o, none⟩)) ∧ ∃ A c, Own w' base (.slice A xs.length c) xs ∧ ((Value.slice A xs.length c).ownBlock = vz.ownBlock ∨ ∃ k, (Value.slice A xs.length c).ownBlock = some k ∧ w.heap.size ≤ k) ∧ Blk w' g t (setBig cs o neg (.slice A xs.length c) minus) ∧ Fr w w' (fun k => k = g ∨ vz.ownBlock = some k)

theorem getElem?_set_ne {cs : Array Value} {i j : Nat} {u : Value} (h : i ≠ j) : (cs.setIfInBounds i u)[j]? = cs[j]? := by
  simp [Array.getElem?_setIfInBounds, h]

set_option maxHeartbeats 800000 in
theorem bset_any (base gz oz gx ox : Nat) (tz tx : TypeId) (cz cx : Array Value) (nz nx mz mx : Bool) (vz vx : Value) (m : Nat) (xs : List Nat) (w : World)
    (hz : Blk w gz tz cz) (hz0 : cz[oz]? = some (.bool nz)) (hz1 : cz[oz + 1]? = some vz) (hz2 : cz[oz + 2]? = some (.bool mz)) (hzr : Room w base vz m) (htz : tz ≠ 70)
    (hx : Blk w gx tx cx) (hx0 : cx[ox]? = some (.bool nx)) (hx1 : cx[ox + 1]? = some vx) (hx2 : cx[ox + 2]? = some (.bool mx)) (hxr : RdW w vx xs) (hxb : ∀ k, vx.ownBlock = some k → k ≠ gz) (htx : tx ≠ 70)
    (hne : gz ≠ gx) (hb : base ≤ w.heap.size) (hn : xs.length ≤ 1099511627776) :
    Calls Tryz.prog 36 #[.pointer (some ⟨gz, oz, none⟩), .pointer (some ⟨gx, ox, none⟩)] w (BigP w base gz oz tz cz vz nx mx xs) := by
  have c1 : w.cell? ⟨gz, oz + 2, none⟩ = some (.bool mz) := (hz.cell _).trans hz2
  have f1 : w.frozen? ⟨gz, oz + 2, none⟩ = false := hz.frozen _
  have c2 : w.cell? ⟨gx, ox + 2, none⟩ = some (.bool mx) := (hx.cell _).trans hx2
  have hf0 : Fr w (w.setCell ⟨gz, oz + 2, none⟩ (.bool mx)) (fun k => k = gz) := (Fr.refl w (fun k => k = gz)).setCell (p := ⟨gz, oz + 2, none⟩) (fun _ => rfl) _
  have con := iset_any base gz oz gx ox tz tx (cz.setIfInBounds (oz + 2) (.bool mx)) cx nz nx vz vx m xs (w.setCell ⟨gz, oz + 2, none⟩ (.bool mx)).drew
    (hz.set _ _) (by rw [getElem?_set_ne (by omega)]; exact hz0) (by rw [getElem?_set_ne (by omega)]; exact hz1) (hzr.fr hf0.drew (hzr.ne_blk hz htz)) htz
    (hx.far (p := ⟨gz, oz + 2, none⟩) (Ne.symm hne) _) hx0 hx1 (hxr.fr hf0.drew hxb) htx (.inl hne) (by simpa using hb) hn
  have fin : ∀ e w', IntP (w.setCell ⟨gz, oz + 2, none⟩ (.bool mx)).drew base gz oz tz (cz.setIfInBounds (oz + 2) (.bool mx)) vz nx xs e w' → BigP w base gz oz tz cz vz nx mx xs e w' := by
    rintro e w' ⟨he, r, hr, hrb, hB, hF⟩
    obtain ⟨A, c, rfl⟩ := hr.room.slice
    refine ⟨he, A, c, hr, ?_, hB, ?_⟩
    · simpa using hrb
    · exact Fr.step ((hf0.mono (fun k _ h => .inl h)).drew) hF (fun i _ h => h)
  have Con := hide con
  have Fin := hide fin
  clear hz hz0 hz1 hz2 hx hx0 hx1 hx2 con fin hf0 hxr hxb hzr
  go_enter Tryz.func36, Tryz.ntmps36
  go_wp2_with fail
  go_region_with (go_at_call 45; go_loud (refine (Con.out).mono ?_; rintro e w1 HI; have HI2 := hide HI; obtain ⟨rfl, _⟩ := HI))
  all_goals go_wp2
  all_goals go_ret
  all_goals exact Fin.out _ _ HI2.out
end Go.Proofs.YtamjfjomehcikaaGreatDoor
