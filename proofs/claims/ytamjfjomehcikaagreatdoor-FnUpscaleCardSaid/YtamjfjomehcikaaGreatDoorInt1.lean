/- Walks: Int's Set, SetBits, Bits; BigInt's Set, SetMathBigInt, MathBigInt. -/
import Derived.Test.YtamjfjomehcikaaGreatDoorNat1
import Derived.LaidEqlPtr
set_option linter.unusedVariables false
set_option linter.unusedSimpArgs false
namespace Go.Proofs.YtamjfjomehcikaaGreatDoor
open Go.RowKit

theorem run_neq_ptr_other {P : Program} (w : World) {tp te : TypeId} {j : TypeInfo} {a b : Addr} {ca cb : Array Value} {ta tb : TypeId} (hp : P.underlying tp = some (.pointer te)) (hte : P.info? te = some j) (hsz : j.size ≠ 0)
    (hne : a ≠ b) (ha : w.heap[a.block]? = some (.cells ca ta (0, 0))) (hb : w.heap[b.block]? = some (.cells cb tb (0, 0))) :
    (binOp .neq tp (.pointer (some a)) (.pointer (some b))).run P w = .ok (.bool true) w := by
  have h : ∀ d : Nat, (Op.equalIn (d + 1) tp (.pointer (some a)) (.pointer (some b))).run P w = .ok false w := fun d => by
    simp [Op.equalIn, run_underlying hp, sizeOf, typeInfo, hte, hsz, run_sameAddr_other w hne ha hb]
  simp only [binOp]
  simp [Op.equal, Op.maxDepth, h 9999]

theorem infoInt : (Tryz.prog.info? 74).map (fun i => i.size) = some 2 := by kernel_rfl

theorem neq_Int (w : World) {a b : Addr} {ca cb : Array Value} {ta tb : TypeId} (hne : a ≠ b) (ha : Blk w a.block ta ca) (hb : Blk w b.block tb cb) :
    (binOp .neq 67 (.pointer (some a)) (.pointer (some b))).run Tryz.prog w = .ok (.bool true) w := by
  obtain ⟨j, hj, hs⟩ := Option.map_eq_some_iff.1 infoInt
  exact run_neq_ptr_other w Tryz.underlying67 hj (by rw [hs]; decide) hne ha hb

/-- The cells of an Int behind a call that lays a new sign and a new row. -/
def setInt (cs : Array Value) (o : Nat) (neg : Bool) (r : Value) : Array Value := (cs.setIfInBounds (o + 1) r).setIfInBounds o (.bool neg)

/-- What is left of an Int's write: its block's cells, its row, and all else that was there. -/
def IntP (w : World) (base g o : Nat) (t : TypeId) (cs : Array Value) (vz : Value) (neg : Bool) (xs : List Nat) (e : Ending) (w' : World) : Prop :=
  e = .returned (.pointer (some ⟨g, o, none⟩)) ∧ ∃ r, Own w' base r xs ∧ (r.ownBlock = vz.ownBlock ∨ ∃ k, r.ownBlock = some k ∧ w.heap.size ≤ k) ∧ Blk w' g t (setInt cs o neg r) ∧ Fr w w' (fun k => k = g ∨ vz.ownBlock = some k)

set_option maxHeartbeats 800000 in
theorem iset_any (base gz oz gx ox : Nat) (tz tx : TypeId) (cz cx : Array Value) (nz nx : Bool) (vz vx : Value) (m : Nat) (xs : List Nat) (w : World)
    (hz : Blk w gz tz cz) (hz0 : cz[oz]? = some (.bool nz)) (hz1 : cz[oz + 1]? = some vz) (hzr : Room w base vz m) (htz : tz ≠ 70)
    (hx : Blk w gx tx cx) (hx0 : cx[ox]? = some (.bool nx)) (hx1 : cx[ox + 1]? = some vx) (hxr : RdW w vx xs) (htx : tx ≠ 70)
    (hne : gz ≠ gx ∨ (oz ≠ ox ∧ ox ≠ oz + 1)) (hb : base ≤ w.heap.size) (hn : xs.length ≤ 1099511627776) :
    Calls Tryz.prog 45 #[.pointer (some ⟨gz, oz, none⟩), .pointer (some ⟨gx, ox, none⟩)] w (IntP w base gz oz tz cz vz nx xs) := by
  have hcmp := neq_Int w (a := ⟨gz, oz, none⟩) (b := ⟨gx, ox, none⟩) (by intro e; injection e with e1 e2; omega) hz hx
  have c1 : w.cell? ⟨gz, oz + 1, none⟩ = some vz := (hz.cell _).trans hz1
  have c2 : w.cell? ⟨gx, ox + 1, none⟩ = some vx := (hx.cell _).trans hx1
  have hzne : ∀ k, vz.ownBlock = some k → k ≠ gz := hzr.ne_blk hz htz
  have hxne : ∀ k, vz.ownBlock = some k → k ≠ gx := hzr.ne_blk hx htx
  have key : ∀ (r : Value) (w1 : World), Fr w w1 (fun k => vz.ownBlock = some k) → w1.cell? ⟨gz, oz + 1, none⟩ = some vz ∧ w1.frozen? ⟨gz, oz + 1, none⟩ = false ∧
      (w1.setCell ⟨gz, oz + 1, none⟩ r).cell? ⟨gx, ox, none⟩ = some (.bool nx) ∧ (w1.setCell ⟨gz, oz + 1, none⟩ r).cell? ⟨gz, oz, none⟩ = some (.bool nz) ∧ (w1.setCell ⟨gz, oz + 1, none⟩ r).frozen? ⟨gz, oz, none⟩ = false := by
    intro r w1 hf
    have b1 : Blk w1 gz tz cz := hz.fr hf (fun h => hzne gz h rfl)
    have b2 : Blk w1 gx tx cx := hx.fr hf (fun h => hxne gx h rfl)
    refine ⟨(b1.cell _).trans hz1, b1.frozen _, ?_, ?_, ?_⟩
    · rw [World.cell?_setCell_other _ _ _ _ (by intro e; injection e with e1 e2; omega)]
      exact (b2.cell _).trans hx0
    · rw [World.cell?_setCell_other _ _ _ _ (by intro e; injection e with e1 e2; omega)]
      exact (b1.cell _).trans hz0
    · rw [World.frozen?_setCell]; exact b1.frozen _
  have fin : ∀ (r : Value) (w1 : World), Own w1 base r xs → (r.ownBlock = vz.ownBlock ∨ ∃ k, r.ownBlock = some k ∧ w.heap.size ≤ k) → Fr w w1 (fun k => vz.ownBlock = some k) →
      IntP w base gz oz tz cz vz nx xs (.returned (.pointer (some ⟨gz, oz, none⟩))) ((w1.setCell ⟨gz, oz + 1, none⟩ r).setCell ⟨gz, oz, none⟩ (.bool nx)) := by
    intro r w1 hr hrb hf
    have b1 : Blk w1 gz tz cz := hz.fr hf (fun h => hzne gz h rfl)
    have hlt := b1.lt
    refine ⟨rfl, r, ?_, hrb, (b1.set _ _).set _ _, ?_⟩
    · have hg : ∀ k, r.ownBlock = some k → k ≠ gz := hr.room.ne_blk b1 htz
      exact (hr.fr (Fr.setCell (Fr.refl w1 (fun k => k = gz)) (p := ⟨gz, oz + 1, none⟩) (fun _ => rfl) r) hg).fr (Fr.setCell (Fr.refl _ (fun k => k = gz)) (p := ⟨gz, oz, none⟩) (fun _ => rfl) _) hg
    · exact ((hf.mono (fun k _ h => .inr h)).setCell (p := ⟨gz, oz + 1, none⟩) (fun _ => .inl rfl) _).setCell (p := ⟨gz, oz, none⟩) (fun _ => .inl rfl) _
  have Key := hide key
  have Fin := hide fin
  clear hz hz0 hz1 hx hx0 hx1 key fin hzne hxne
  go_enter Tryz.func45, Tryz.ntmps45
  go_wp2_with fail
  go_region_with (go_at_call 60; go_loud (refine (set_any base vz m vx xs _ ?_ ?_ ?_ hn).mono ?_; exact hzr; exact hxr; exact hb; rintro e w1 ⟨A, c, rfl, hr, hrb, hf⟩; obtain ⟨k1, k2, k3, k4, k5⟩ := Key.out (.slice A xs.length c) w1 ⟨hf.os, hf.tape, hf.output, hf.size, hf.block⟩; have HF := hide (Fin.out (.slice A xs.length c) w1 hr hrb ⟨hf.os, hf.tape, hf.output, hf.size, hf.block⟩); clear hr hrb hf))
  all_goals go_wp2
  all_goals go_ret
  all_goals exact HF.out

end Go.Proofs.YtamjfjomehcikaaGreatDoor
