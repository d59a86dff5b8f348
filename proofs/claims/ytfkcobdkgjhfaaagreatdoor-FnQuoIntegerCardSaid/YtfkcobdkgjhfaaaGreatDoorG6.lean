/- Parts of the proofs: Int1, Int2, Big1. -/
import Derived.LaidEqlPtr
import Derived.Test.YtfkcobdkgjhfaaaGreatDoorG5
/- Walks: Int's Set, SetBits, Bits; BigInt's Set, SetMathBigInt, MathBigInt. -/
set_option linter.unusedVariables false
set_option linter.unusedSimpArgs false
namespace Go.Proofs.YtfkcobdkgjhfaaaGreatDoor
open Go.RowKit

theorem run_neq_ptr_other {P : Program} (w : World) {tp te : TypeId} {j : TypeInfo} {a b : Addr} {ca cb : Array Value} {ta tb : TypeId} (hp : P.underlying tp = some (.pointer te)) (hte : P.info? te = some j) (hsz : j.size ≠ 0)
    (hne : a ≠ b) (ha : w.heap[a.block]? = some (.cells ca ta (0, 0))) (hb : w.heap[b.block]? = some (.cells cb tb (0, 0))) :
    (binOp .neq tp (.pointer (some a)) (.pointer (some b))).run P w = .ok (.bool true) w := by
  have h : ∀ d : Nat, (Op.equalIn (d + 1) tp (.pointer (some a)) (.pointer (some b))).run P w = .ok false w := fun d => by
    simp [Op.equalIn, run_underlying hp, sizeOf, typeInfo, hte, hsz, run_sameAddr_other w hne ha hb]
  simp only [binOp]
  simp [Op.equal, Op.maxDepth, h 9999]

theorem infoInt : (Tryz.prog.info? 67).map (fun i => i.size) = some 2 := by kernel_rfl

theorem neq_Int (w : World) {a b : Addr} {ca cb : Array Value} {ta tb : TypeId} (hne : a ≠ b) (ha : Blk w a.block ta ca) (hb : Blk w b.block tb cb) :
    (binOp .neq 143 (.pointer (some a)) (.pointer (some b))).run Tryz.prog w = .ok (.bool true) w := by
  obtain ⟨j, hj, hs⟩ := Option.map_eq_some_iff.1 infoInt
  exact run_neq_ptr_other w Tryz.underlying143 hj (by rw [hs]; decide) hne ha hb

/-- The cells of an Int behind a call that lays a new sign and a new row. -/
def setInt (cs : Array Value) (o : Nat) (neg : Bool) (r : Value) : Array Value := (cs.setIfInBounds (o + 1) r).setIfInBounds o (.bool neg)

/-- What is left of an Int's write: its block's cells, its row, and all else that was there. -/
def IntP (w : World) (base g o : Nat) (t : TypeId) (cs : Array Value) (vz : Value) (neg : Bool) (xs : List Nat) (e : Ending) (w' : World) : Prop :=
  e = .returned (.pointer (some ⟨g, o, none⟩)) ∧ ∃ r, Own w' base r xs ∧ (r.ownBlock = vz.ownBlock ∨ ∃ k, r.ownBlock = some k ∧ w.heap.size ≤ k) ∧ Blk w' g t (setInt cs o neg r) ∧ Fr w w' (fun k => k = g ∨ vz.ownBlock = some k)

set_option maxHeartbeats 800000 in
theorem iset_any (base gz oz gx ox : Nat) (tz tx : TypeId) (cz cx : Array Value) (nz nx : Bool) (vz vx : Value) (m : Nat) (xs : List Nat) (w : World)
    (hz : Blk w gz tz cz) (hz0 : cz[oz]? = some (.bool nz)) (hz1 : cz[oz + 1]? = some vz) (hzr : Room w base vz m) (htz : tz ≠ 145)
    (hx : Blk w gx tx cx) (hx0 : cx[ox]? = some (.bool nx)) (hx1 : cx[ox + 1]? = some vx) (hxr : RdW w vx xs) (htx : tx ≠ 145)
    (hne : gz ≠ gx ∨ (oz ≠ ox ∧ ox ≠ oz + 1)) (hb : base ≤ w.heap.size) (hn : xs.length ≤ 1099511627776) :
    Calls Tryz.prog 87 #[.pointer (some ⟨gz, oz, none⟩), .pointer (some ⟨gx, ox, none⟩)] w (IntP w base gz oz tz cz vz nx xs) := by
  have hcmp := neq_Int w (a := ⟨gz, oz, none⟩) (b := ⟨gx, ox, none⟩) (by intro e; injection e with e1 e2; omega) hz hx
  have c1 : w.cell? ⟨gz, oz + 1, none⟩ = some vz := (hz.cell _).trans hz1
  have c2 : w.cell? ⟨gx, ox + 1, none⟩ = some vx := (hx.cell _).trans hx1
  have hzne : ∀ k, vz.ownBlock = some k → k ≠ gz := hzr.ne_blk hz htz
  have hxne : ∀ k, vz.ownBlock = some k → k ≠ gx := hzr.ne_blk hx htx
  have key : ∀ (r : Value) (w1 : World), Fr w w1 (fun k => vz.ownBlock = some k) → w1.cell? ⟨gz, oz + 1, none⟩ = some vz ∧ w1.frozen? ⟨gz, oz + 1, none⟩ = false ∧
      (w1.setCell ⟨gz, oz + 1, none⟩ r).cell? ⟨gx, ox, none⟩ = some (.bool nx) ∧ (w1.setCell ⟨gz, oz + 1, none⟩ r).cell? ⟨gz, oz, none⟩ = some (.bool nz) ∧ (w1.setCell ⟨gz, oz + 1, none⟩ r).frozen? ⟨gz, oz, none⟩ = false := by
    intro r w1 hf
    have b1 : Blk w1 gz tz cz := hz.fr hf (fun h => hzne gz h rfl)
    have b2 : Blk w1 gx tx cx := hx.fr hf (fun h => hxne gx h rfl)
    refine ⟨(b1.cell _).trans hz1, b1.frozen _, ?_, ?_, ?_⟩
    · rw [World.cell?_setCell_other _ _ _ _ (by intro e; injection e with e1 e2; omega)]
      exact (b2.cell _).trans hx0
    · rw [World.cell?_setCell_other _ _ _ _ (by intro e; injection e with e1 e2; omega)]
      exact (b1.cell _).trans hz0
    · rw [World.frozen?_setCell]; exact b1.frozen _
  have fin : ∀ (r : Value) (w1 : World), Own w1 base r xs → (r.ownBlock = vz.ownBlock ∨ ∃ k, r.ownBlock = some k ∧ w.heap.size ≤ k) → Fr w w1 (fun k => vz.ownBlock = some k) →
      IntP w base gz oz tz cz vz nx xs (.returned (.pointer (some ⟨gz, oz, none⟩))) ((w1.setCell ⟨gz, oz + 1, none⟩ r).setCell ⟨gz, oz, none⟩ (.bool nx)) := by
    intro r w1 hr hrb hf
    have b1 : Blk w1 gz tz cz := hz.fr hf (fun h => hzne gz h rfl)
    have hlt := b1.lt
    refine ⟨rfl, r, ?_, hrb, (b1.set _ _).set _ _, ?_⟩
    · have hg : ∀ k, r.ownBlock = some k → k ≠ gz := hr.room.ne_blk b1 htz
      exact (hr.fr (Fr.setCell (Fr.refl w1 (fun k => k = gz)) (p := ⟨gz, oz + 1, none⟩) (fun _ => rfl) r) hg).fr (Fr.setCell (Fr.refl _ (fun k => k = gz)) (p := ⟨gz, oz, none⟩) (fun _ => rfl) _) hg
    · exact ((hf.mono (fun k _ h => .inr h)).setCell (p := ⟨gz, oz + 1, none⟩) (fun _ => .inl rfl) _).setCell (p := ⟨gz, oz, none⟩) (fun _ => .inl rfl) _
  have Key := hide key
  have Fin := hide fin
  clear hz hz0 hz1 hx hx0 hx1 key fin hzne hxne
  go_enter Tryz.func87, Tryz.ntmps87
  go_wp2_with fail
  go_region_with (go_at_call 116; go_loud (refine (set_any base vz m vx xs _ ?_ ?_ ?_ hn).mono ?_; exact hzr; exact hxr; exact hb; rintro e w1 ⟨A, c, rfl, hr, hrb, hf⟩; obtain ⟨k1, k2, k3, k4, k5⟩ := Key.out (.slice A xs.length c) w1 ⟨hf.os, hf.tape, hf.output, hf.size, hf.block⟩; have HF := hide (Fin.out (.slice A xs.length c) w1 hr hrb ⟨hf.os, hf.tape, hf.output, hf.size, hf.block⟩); clear hr hrb hf))
  all_goals go_wp2
  all_goals go_ret
  all_goals exact HF.out

end Go.Proofs.YtfkcobdkgjhfaaaGreatDoor

/- Walks: Int's SetBits, Bits; BigInt's Set, SetMathBigInt, MathBigInt. -/
set_option linter.unusedVariables false
set_option linter.unusedSimpArgs false
namespace Go.Proofs.YtfkcobdkgjhfaaaGreatDoor
open Go.RowKit

/-- SetBits: the row that comes in is the Int's from now on. -/
def BitsP (w : World) (base g o : Nat) (t : TypeId) (cs : Array Value) (v : Value) (xs : List Nat) (e : Ending) (w' : World) : Prop :=
  e = .returned (.pointer (some ⟨g, o, none⟩)) ∧ ∃ A c, Own w' base (.slice A (trimz xs).length c) (trimz xs) ∧ (Value.slice A (trimz xs).length c).ownBlock = v.ownBlock ∧ Blk w' g t (setInt cs o false (.slice A (trimz xs).length c)) ∧ Fr w w' (fun k => k = g)

set_option maxHeartbeats 800000 in
theorem setBits_any (base g o : Nat) (t : TypeId) (cs : Array Value) (n0 : Bool) (v0 v : Value) (xs : List Nat) (w : World)
    (hz : Blk w g t cs) (hz0 : cs[o]? = some (.bool n0)) (hz1 : cs[o + 1]? = some v0) (hv : Own w base v xs) (ht : t ≠ 145) :
    Calls Tryz.prog 89 #[.pointer (some ⟨g, o, none⟩), v] w (BitsP w base g o t cs v xs) := by
  have c1 : w.cell? ⟨g, o + 1, none⟩ = some v0 := (hz.cell _).trans hz1
  have f1 : w.frozen? ⟨g, o + 1, none⟩ = false := hz.frozen _
  have key : ∀ (r : Value), (w.setCell ⟨g, o + 1, none⟩ r).cell? ⟨g, o, none⟩ = some (.bool n0) ∧ (w.setCell ⟨g, o + 1, none⟩ r).frozen? ⟨g, o, none⟩ = false := by
    intro r
    refine ⟨?_, ?_⟩
    · rw [World.cell?_setCell_other _ _ _ _ (by intro e; injection e with e1 e2; omega)]
      exact (hz.cell _).trans hz0
    · rw [World.frozen?_setCell]; exact hz.frozen _
  have fin : ∀ A c, Own w base (.slice A (trimz xs).length c) (trimz xs) → (Value.slice A (trimz xs).length c).ownBlock = v.ownBlock →
      BitsP w base g o t cs v xs (.returned (.pointer (some ⟨g, o, none⟩))) ((w.setCell ⟨g, o + 1, none⟩ (.slice A (trimz xs).length c)).setCell ⟨g, o, none⟩ (.bool false)) := by
    intro A c hr hrb
    refine ⟨rfl, A, c, ?_, hrb, (hz.set _ _).set _ _, ?_⟩
    · have hg := hr.room.ne_blk hz ht
      exact (hr.fr (Fr.setCell (Fr.refl w (fun k => k = g)) (p := ⟨g, o + 1, none⟩) (fun _ => rfl) _) hg).fr (Fr.setCell (Fr.refl _ (fun k => k = g)) (p := ⟨g, o, none⟩) (fun _ => rfl) _) hg
    · exact ((Fr.refl w (fun k => k = g)).setCell (p := ⟨g, o + 1, none⟩) (fun _ => rfl) _).setCell (p := ⟨g, o, none⟩) (fun _ => rfl) _
  have Key := hide key
  have Fin := hide fin
  clear hz hz0 hz1 key fin
  go_enter Tryz.func89, Tryz.ntmps89
  go_wp2_with fail
  refine (norm_own base v xs _ hv).mono ?_
  rintro e w1 ⟨A, c, rfl, hr, hrb, rfl⟩
  obtain ⟨k1, k2⟩ := Key.out (.slice A (trimz xs).length c)
  have HF := hide (Fin.out A c hr hrb)
  clear hr hrb
  go_wp2
  go_ret
  exact HF.out

theorem bits_any (g o : Nat) (v : Value) (w : World) (h : w.cell? ⟨g, o + 1, none⟩ = some v) :
    Calls Tryz.prog 97 #[.pointer (some ⟨g, o, none⟩)] w fun e w' => e = .returned v ∧ w = w' := by
  go_enter Tryz.func97, Tryz.ntmps97
  go_wp2
  go_ret
  exact ⟨rfl, rfl⟩

/-- The cells of a BigInt behind a write. -/
def setBig (cs : Array Value) (o : Nat) (neg : Bool) (r : Value) (minus : Bool) : Array Value := setInt (cs.setIfInBounds (o + 2) (.bool minus)) o neg r

def BigP (w : World) (base g o : Nat) (t : TypeId) (cs : Array Value) (vz : Value) (neg minus : Bool) (xs : List Nat) (e : Ending) (w' : World) : Prop :=
  e = .returned (.pointer (some ⟨g, o, none⟩)) ∧ ∃ A c, Own w' base (.slice A xs.length c) xs ∧ ((Value.slice A xs.length c).ownBlock = vz.ownBlock ∨ ∃ k, (Value.slice A xs.length c).ownBlock = some k ∧ w.heap.size ≤ k) ∧ Blk w' g t (setBig cs o neg (.slice A xs.length c) minus) ∧ Fr w w' (fun k => k = g ∨ vz.ownBlock = some k)

theorem getElem?_set_ne {cs : Array Value} {i j : Nat} {u : Value} (h : i ≠ j) : (cs.setIfInBounds i u)[j]? = cs[j]? := by
  simp [Array.getElem?_setIfInBounds, h]

set_option maxHeartbeats 800000 in
theorem bset_any (base gz oz gx ox : Nat) (tz tx : TypeId) (cz cx : Array Value) (nz nx mz mx : Bool) (vz vx : Value) (m : Nat) (xs : List Nat) (w : World)
    (hz : Blk w gz tz cz) (hz0 : cz[oz]? = some (.bool nz)) (hz1 : cz[oz + 1]? = some vz) (hz2 : cz[oz + 2]? = some (.bool mz)) (hzr : Room w base vz m) (htz : tz ≠ 145)
    (hx : Blk w gx tx cx) (hx0 : cx[ox]? = some (.bool nx)) (hx1 : cx[ox + 1]? = some vx) (hx2 : cx[ox + 2]? = some (.bool mx)) (hxr : RdW w vx xs) (hxb : ∀ k, vx.ownBlock = some k → k ≠ gz) (htx : tx ≠ 145)
    (hne : gz ≠ gx) (hb : base ≤ w.heap.size) (hn : xs.length ≤ 1099511627776) :
    Calls Tryz.prog 48 #[.pointer (some ⟨gz, oz, none⟩), .pointer (some ⟨gx, ox, none⟩)] w (BigP w base gz oz tz cz vz nx mx xs) := by
  have c1 : w.cell? ⟨gz, oz + 2, none⟩ = some (.bool mz) := (hz.cell _).trans hz2
  have f1 : w.frozen? ⟨gz, oz + 2, none⟩ = false := hz.frozen _
  have c2 : w.cell? ⟨gx, ox + 2, none⟩ = some (.bool mx) := (hx.cell _).trans hx2
  have hf0 : Fr w (w.setCell ⟨gz, oz + 2, none⟩ (.bool mx)) (fun k => k = gz) := (Fr.refl w (fun k => k = gz)).setCell (p := ⟨gz, oz + 2, none⟩) (fun _ => rfl) _
  have con := iset_any base gz oz gx ox tz tx (cz.setIfInBounds (oz + 2) (.bool mx)) cx nz nx vz vx m xs (w.setCell ⟨gz, oz + 2, none⟩ (.bool mx)).drew
    (hz.set _ _) (by rw [getElem?_set_ne (by omega)]; exact hz0) (by rw [getElem?_set_ne (by omega)]; exact hz1) (hzr.fr hf0.drew (hzr.ne_blk hz htz)) htz
    (hx.far (p := ⟨gz, oz + 2, none⟩) (Ne.symm hne) _) hx0 hx1 (hxr.fr hf0.drew hxb) htx (.inl hne) (by simpa using hb) hn
  have fin : ∀ e w', IntP (w.setCell ⟨gz, oz + 2, none⟩ (.bool mx)).drew base gz oz tz (cz.setIfInBounds (oz + 2) (.bool mx)) vz nx xs e w' → BigP w base gz oz tz cz vz nx mx xs e w' := by
    rintro e w' ⟨he, r, hr, hrb, hB, hF⟩
    obtain ⟨A, c, rfl⟩ := hr.room.slice
    refine ⟨he, A, c, hr, ?_, hB, ?_⟩
    · simpa using hrb
    · exact Fr.step ((hf0.mono (fun k _ h => .inl h)).drew) hF (fun i _ h => h)
  have Con := hide con
  have Fin := hide fin
  clear hz hz0 hz1 hz2 hx hx0 hx1 hx2 con fin hf0 hxr hxb hzr
  go_enter Tryz.func48, Tryz.ntmps48
  go_wp2_with fail
  go_region_with (go_at_call 87; go_loud (refine (Con.out).mono ?_; rintro e w1 HI; have HI2 := hide HI; obtain ⟨rfl, _⟩ := HI))
  all_goals go_wp2
  all_goals go_ret
  all_goals exact Fin.out _ _ HI2.out
end Go.Proofs.YtfkcobdkgjhfaaaGreatDoor

/- Walks: BigInt's SetMathBigInt, MathBigInt; whole, words of the thin package. -/
set_option linter.unusedVariables false
set_option linter.unusedSimpArgs false
namespace Go.Proofs.YtfkcobdkgjhfaaaGreatDoor
open Go.RowKit

set_option maxHeartbeats 800000 in
theorem setMath_any (base gz oz gx ox : Nat) (tz tx : TypeId) (cz cx : Array Value) (nz nx mz : Bool) (vz vx : Value) (m : Nat) (xs : List Nat) (w : World)
    (hz : Blk w gz tz cz) (hz0 : cz[oz]? = some (.bool nz)) (hz1 : cz[oz + 1]? = some vz) (hz2 : cz[oz + 2]? = some (.bool mz)) (hzr : Room w base vz m) (htz : tz ≠ 145)
    (hx : Blk w gx tx cx) (hx0 : cx[ox]? = some (.bool nx)) (hx1 : cx[ox + 1]? = some vx) (hxr : RdW w vx xs) (hxb : ∀ k, vx.ownBlock = some k → k ≠ gz) (htx : tx ≠ 145)
    (hne : gz ≠ gx) (hb : base ≤ w.heap.size) (hn : xs.length ≤ 1099511627776) :
    Calls Tryz.prog 88 #[.pointer (some ⟨gz, oz, none⟩), .pointer (some ⟨gx, ox, none⟩)] w (BigP w base gz oz tz cz vz nx false xs) := by
  have c1 : w.cell? ⟨gz, oz + 2, none⟩ = some (.bool mz) := (hz.cell _).trans hz2
  have f1 : w.frozen? ⟨gz, oz + 2, none⟩ = false := hz.frozen _
  have hf0 : Fr w (w.setCell ⟨gz, oz + 2, none⟩ (.bool false)) (fun k => k = gz) := (Fr.refl w (fun k => k = gz)).setCell (p := ⟨gz, oz + 2, none⟩) (fun _ => rfl) _
  have con := iset_any base gz oz gx ox tz tx (cz.setIfInBounds (oz + 2) (.bool false)) cx nz nx vz vx m xs (w.setCell ⟨gz, oz + 2, none⟩ (.bool false))
    (hz.set _ _) (by rw [getElem?_set_ne (by omega)]; exact hz0) (by rw [getElem?_set_ne (by omega)]; exact hz1) (hzr.fr hf0 (hzr.ne_blk hz htz)) htz
    (hx.far (p := ⟨gz, oz + 2, none⟩) (Ne.symm hne) _) hx0 hx1 (hxr.fr hf0 hxb) htx (.inl hne) (by simpa using hb) hn
  have fin : ∀ e w', IntP (w.setCell ⟨gz, oz + 2, none⟩ (.bool false)) base gz oz tz (cz.setIfInBounds (oz + 2) (.bool false)) vz nx xs e w' → BigP w base gz oz tz cz vz nx false xs e w' := by
    rintro e w' ⟨he, r, hr, hrb, hB, hF⟩
    obtain ⟨A, c, rfl⟩ := hr.room.slice
    refine ⟨he, A, c, hr, ?_, hB, ?_⟩
    · simpa using hrb
    · exact Fr.step (hf0.mono (fun k _ h => .inl h)) hF (fun i _ h => h)
  have Con := hide con
  have Fin := hide fin
  clear hz hz0 hz1 hz2 hx hx0 hx1 con fin hf0 hxr hxb hzr
  go_enter Tryz.func88, Tryz.ntmps88
  go_wp2_with fail
  refine (Con.out).mono ?_
  rintro e w1 HI
  have HI2 := hide HI
  obtain ⟨rfl, _⟩ := HI
  go_wp2
  go_ret
  exact Fin.out _ _ HI2.out

/-- A new Int holds what came in. -/
def NewIntP (w : World) (neg : Bool) (xs : List Nat) (e : Ending) (w' : World) : Prop :=
  ∃ g A c, e = .returned (.pointer (some ⟨g, 0, none⟩)) ∧ w.heap.size ≤ g ∧ Own w' w.heap.size (.slice A xs.length c) xs ∧ Blk w' g 67 #[.bool neg, .slice A xs.length c] ∧ Below w.heap.size w w'

set_option maxHeartbeats 800000 in
theorem mathBig_any (gx ox : Nat) (tx : TypeId) (cx : Array Value) (nx : Bool) (vx : Value) (xs : List Nat) (w : World)
    (hx : Blk w gx tx cx) (hx0 : cx[ox]? = some (.bool nx)) (hx1 : cx[ox + 1]? = some vx) (hxr : RdW w vx xs) (htx : tx ≠ 145) (hn : xs.length ≤ 1099511627776) :
    Calls Tryz.prog 96 #[.pointer (some ⟨gx, ox, none⟩)] w (NewIntP w nx xs) := by
  have hf0 : Fr w (w.alloc (.cells #[.bool false, .slice none 0 0] 67)) (fun _ => False) := (Fr.refl w _).alloc _
  have con := iset_any w.heap.size w.heap.size 0 gx ox 67 tx #[.bool false, .slice none 0 0] cx false nx (.slice none 0 0) vx 0 xs (w.alloc (.cells #[.bool false, .slice none 0 0] 67))
    (Blk.new w _ _) rfl rfl (Own.nil _ _).room (by decide) (hx.fr hf0 (fun h => h)) hx0 hx1 (hxr.fr hf0 (fun _ _ h => h)) htx (.inl (Nat.ne_of_gt hx.lt)) (by simp) hn
  have fin : ∀ e w', IntP (w.alloc (.cells #[.bool false, .slice none 0 0] 67)) w.heap.size w.heap.size 0 67 #[.bool false, .slice none 0 0] (.slice none 0 0) nx xs e w' → NewIntP w nx xs e w' := by
    rintro e w' ⟨he, r, hr, hrb, hB, hF⟩
    obtain ⟨A, c, rfl⟩ := hr.room.slice
    refine ⟨w.heap.size, A, c, he, Nat.le_refl _, hr, hB, ?_⟩
    refine (Fr.step (S := fun k => k = w.heap.size) (hf0.mono (fun _ _ h => h.elim)) hF ?_).below (Nat.le_refl _) (fun k hk => by omega)
    rintro i hi (h | h)
    · exact h
    · cases h
  have Con := hide con
  have Fin := hide fin
  clear hx hx0 hx1 con fin hf0 hxr
  go_enter Tryz.func96, Tryz.ntmps96
  go_wp2_with fail
  refine (Con.out).mono ?_
  rintro e w1 HI
  have HI2 := hide HI
  obtain ⟨rfl, _⟩ := HI
  go_wp2
  go_ret
  exact Fin.out _ _ HI2.out
end Go.Proofs.YtfkcobdkgjhfaaaGreatDoor
