/- Walks: BigInt's SetMathBigInt, MathBigInt; whole, words of the thin package. -/
import Derived.Test.YtamjfjomehcikaaGreatDoorInt2
set_option linter.unusedVariables false
set_option linter.unusedSimpArgs false
namespace Go.Proofs.YtamjfjomehcikaaGreatDoor
open Go.RowKit

set_option maxHeartbeats 800000 in
theorem setMath_any (base gz oz gx ox : Nat) (tz tx : TypeId) (cz cx : Array Value) (nz nx mz : Bool) (vz vx : Value) (m : Nat) (xs : List Nat) (w : World)
    (hz : Blk w gz tz cz) (hz0 : cz[oz]? = some (.bool nz)) (hz1 : cz[oz + 1]? = some vz) (hz2 : cz[oz + 2]? = some (.bool mz)) (hzr : Room w base vz m) (htz : tz ≠ 70)
    (hx : Blk w gx tx cx) (hx0 : cx[ox]? = some (.bool nx)) (hx1 : cx[ox + 1]? = some vx) (hxr : RdW w vx xs) (hxb : ∀ k, vx.ownBlock = some k → k ≠ gz) (htx : tx ≠ 70)
    (hne : gz ≠ gx) (hb : base ≤ w.heap.size) (hn : xs.length ≤ 1099511627776) :
    Calls Tryz.prog 42 #[.pointer (some ⟨gz, oz, none⟩), .pointer (some ⟨gx, ox, none⟩)] w (BigP w base gz oz tz cz vz nx false xs) := by
  have c1 : w.cell? ⟨gz, oz + 2, none⟩ = some (.bool mz) := (hz.cell _).trans hz2
  have f1 : w.frozen? ⟨gz, oz + 2, none⟩ = false := hz.frozen _
  have hf0 : Fr w (w.setCell ⟨gz, oz + 2, none⟩ (.bool false)) (fun k => k = gz) := (Fr.refl w (fun k => k = gz)).setCell (p := ⟨gz, oz + 2, none⟩) (fun _ => rfl) _
  have con := iset_any base gz oz gx ox tz tx (cz.setIfInBounds (oz + 2) (.bool false)) cx nz nx vz vx m xs (w.setCell ⟨gz, oz + 2, none⟩ (.bool false))
    (hz.set _ _) (by rw [getElem?_set_ne (by omega)]; exact hz0) (by rw [getElem?_set_ne (by omega)]; exact hz1) (hzr.fr hf0 (hzr.ne_blk hz htz)) htz
    (hx.far (p := ⟨gz, oz + 2, none⟩) (Ne.symm hne) _) hx0 hx1 (hxr.fr hf0 hxb) htx (.inl hne) (by simpa using hb) hn
  have fin : ∀ e w', IntP (w.setCell ⟨gz, oz + 2, none⟩ (.bool false)) base gz oz tz (cz.setIfInBounds (oz + 2) (.bool false)) vz nx xs e w' → BigP w base gz oz tz cz vz nx false xs e w' := by
    rintro e w' ⟨he, r, hr, hrb, hB, hF⟩
    obtain ⟨A, c, rfl⟩ := hr.room.slice
    refine ⟨he, A, c, hr, ?_, hB, ?_⟩
    · simpa using hrb
    · exact Fr.step (hf0.mono (fun k _ h => .inl h)) hF (fun i _ h => h)
  have Con := hide con
  have Fin := hide fin
  clear hz hz0 hz1 hz2 hx hx0 hx1 con fin hf0 hxr hxb hzr
  go_enter Tryz.func42, Tryz.ntmps42
  go_wp2_with fail
  refine (Con.out).mono ?_
  rintro e w1 HI
  have HI2 := hide HI
  obtain ⟨rfl, _⟩ := HI
  go_wp2
  go_ret
  exact Fin.out _ _ HI2.out

/-- A new Int holds what came in. -/
def NewIntP (w : World) (neg : Bool) (xs : List Nat) (e : Ending) (w' : World) : Prop :=
  ∃ g A c, e = .returned (.pointer (some ⟨g, 0, none⟩)) ∧ w.heap.size ≤ g ∧ Own w' w.heap.size (.slice A xs.length c) xs ∧ Blk w' g 74 #[.bool neg, .slice A xs.length c] ∧ Below w.heap.size w w'

set_option maxHeartbeats 800000 in
theorem mathBig_any (gx ox : Nat) (tx : TypeId) (cx : Array Value) (nx : Bool) (vx : Value) (xs : List Nat) (w : World)
    (hx : Blk w gx tx cx) (hx0 : cx[ox]? = some (.bool nx)) (hx1 : cx[ox + 1]? = some vx) (hxr : RdW w vx xs) (htx : tx ≠ 70) (hn : xs.length ≤ 1099511627776) :
    Calls Tryz.prog 32 #[.pointer (some ⟨gx, ox, none⟩)] w (NewIntP w nx xs) := by
  have hf0 : Fr w (w.alloc (.cells #[.bool false, .slice none 0 0] 74)) (fun _ => False) := (Fr.refl w _).alloc _
  have con := iset_any w.heap.size w.heap.size 0 gx ox 74 tx #[.bool false, .slice none 0 0] cx false nx (.slice none 0 0) vx 0 xs (w.alloc (.cells #[.bool false, .slice none 0 0] 74))
    (Blk.new w _ _) rfl rfl (Own.nil _ _).room (by decide) (hx.fr hf0 (fun h => h)) hx0 hx1 (hxr.fr hf0 (fun _ _ h => h)) htx (.inl (Nat.ne_of_gt hx.lt)) (by simp) hn
  have fin : ∀ e w', IntP (w.alloc (.cells #[.bool false, .slice none 0 0] 74)) w.heap.size w.heap.size 0 74 #[.bool false, .slice none 0 0] (.slice none 0 0) nx xs e w' → NewIntP w nx xs e w' := by
    rintro e w' ⟨he, r, hr, hrb, hB, hF⟩
    obtain ⟨A, c, rfl⟩ := hr.room.slice
    refine ⟨w.heap.size, A, c, he, Nat.le_refl _, hr, hB, ?_⟩
    refine (Fr.step (S := fun k => k = w.heap.size) (hf0.mono (fun _ _ h => h.elim)) hF ?_).below (Nat.le_refl _) (fun k hk => by omega)
    rintro i hi (h | h)
    · exact h
    · cases h
  have Con := hide con
  have Fin := hide fin
  clear hx hx0 hx1 con fin hf0 hxr
  go_enter Tryz.func32, Tryz.ntmps32
  go_wp2_with fail
  refine (Con.out).mono ?_
  rintro e w1 HI
  have HI2 := hide HI
  obtain ⟨rfl, _⟩ := HI
  go_wp2
  go_ret
  exact Fin.out _ _ HI2.out
end Go.Proofs.YtamjfjomehcikaaGreatDoor
