/- Walks: upscale, ZZUpscale. -/
import Derived.Test.YtamjfjomehcikaaGreatDoorExp5
import Derived.Test.YtamjfjomehcikaaGreatDoorDec1
import Derived.Deep.QuietTactic
set_option linter.unusedVariables false
set_option linter.unusedSimpArgs false
namespace Go.Proofs.YtamjfjomehcikaaGreatDoor
open Go.RowKit

/-- A BigInt that can be read, wherever it lies. -/
def BigAt (w : World) (P : Addr) (xs : List Nat) : Prop :=
  ∃ (g o : Nat) (t : TypeId) (cs : Array Value) (nx : Bool) (A : Option Addr) (c : Nat), P = ⟨g, o, none⟩ ∧ Blk w g t cs ∧ cs[o]? = some (.bool nx) ∧ cs[o + 1]? = some (.slice A xs.length c) ∧ RdW w (.slice A xs.length c) xs ∧ t ≠ 70
theorem BigAt.below {w w' : World} {P : Addr} {xs : List Nat} (h : BigAt w P xs) (hb : Below w.heap.size w w') : BigAt w' P xs := by
  obtain ⟨g, o, t, cs, nx, A, c, e, h1, h2, h3, h4, h5⟩ := h
  exact ⟨g, o, t, cs, nx, A, c, e, h1.below hb, h2, h3, RdG.below (k := .u64) h4 hb, h5⟩

/-- Two coefficients at the same exponent. -/
def UpP (w : World) (m : Int) (p q : Nat) (S : Nat → Prop) (e : Ending) (w' : World) : Prop :=
  ∃ P Q : Addr, e = .returned (.tuple #[.pointer (some P), .pointer (some Q), .int .i32 m, .nilIface]) ∧ BigAt w' P (digs 18446744073709551616 p) ∧ BigAt w' Q (digs 18446744073709551616 q) ∧ Fr w w' S

theorem up_result (a b c d : Value) (tmps : Array Value) (h6 : tmps.getD 6 undef = a) (h7 : tmps.getD 7 undef = b) (h8 : tmps.getD 8 undef = c) (h9 : tmps.getD 9 undef = d) (W : World) :
    (results Tryz.f35 tmps).run Tryz.prog W = .ok (.tuple #[a, b, c, d]) W := by
  have e6 : tmps[6]?.getD undef = a := by simpa using h6
  have e7 : tmps[7]?.getD undef = b := by simpa using h7
  have e8 : tmps[8]?.getD undef = c := by simpa using h8
  have e9 : tmps[9]?.getD undef = d := by simpa using h9
  simp [results, Tryz.results35, go_sem, e6, e7, e8, e9]

set_option maxHeartbeats 1000000 in
set_option maxRecDepth 20000 in
theorem up_eq (ga gb gz : Nat) (na nb : Bool) (ex : Int) (A B : Option Addr) (ca cb a b : Nat) (w : World)
    (ha : Blk w ga 81 (decC 0 na ex false (.slice A (digs 18446744073709551616 a).length ca) false)) (hb : Blk w gb 81 (decC 0 nb ex false (.slice B (digs 18446744073709551616 b).length cb) false))
    (har : RdW w (.slice A (digs 18446744073709551616 a).length ca) (digs 18446744073709551616 a)) (hbr : RdW w (.slice B (digs 18446744073709551616 b).length cb) (digs 18446744073709551616 b)) :
    Calls Tryz.prog 35 #[.pointer (some ⟨ga, 0, none⟩), .pointer (some ⟨gb, 0, none⟩), .pointer (some ⟨gz, 0, none⟩)] w (UpP w ex a b (fun k => k = gz)) := by
  have a2 : w.cell? ⟨ga, 2, none⟩ = some (.int .i32 ex) := ha.cell 2
  have b2 : w.cell? ⟨gb, 2, none⟩ = some (.int .i32 ex) := hb.cell 2
  have fin : ∀ w' : World, Fr w w' (fun _ => False) → UpP w ex a b (fun k => k = gz) (.returned (.tuple #[.pointer (some ⟨ga, 3, none⟩), .pointer (some ⟨gb, 3, none⟩), .int .i32 ex, .nilIface])) w' := fun w' hf =>
    ⟨_, _, rfl, ⟨ga, 3, _, _, false, A, ca, rfl, ha.fr hf (fun h => h), rfl, rfl, har.fr hf (fun _ _ h => h), by decide⟩, ⟨gb, 3, _, _, false, B, cb, rfl, hb.fr hf (fun h => h), rfl, rfl, hbr.fr hf (fun _ _ h => h), by decide⟩, hf.mono (fun _ _ h => h.elim)⟩
  have Fin := hide fin
  clear fin ha hb har hbr
  go_enter Tryz.func35, Tryz.ntmps35
  go_wp2_with fail
  go_quiet (fail)
  go_wp2_with fail
  go_quiet (fail)
  go_wp2
  exact bodyPost_ret (up_result _ _ _ _ _ rfl rfl rfl rfl _) rfl (Fin.out _ (((Fr.refl w _).drewN _).drewN _))
end Go.Proofs.YtamjfjomehcikaaGreatDoor
