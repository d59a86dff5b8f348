/- What a law holds while it calls: its decimal's box, its value's box, and what their slices lead to. -/
import Derived.Test.YtmomgnogncpglaaFnSame
import Derived.Deep.RegionWith
import Derived.BigRegion
import Derived.Deep.RegionHeld3
set_option linter.unusedVariables false
set_option linter.unusedSimpArgs false
namespace Go.Proofs.Ytmomgnogncpglaa
open Go.RowKit

structure HeldV (w : World) (gx gv : Nat) (neg : Bool) (A : Option Addr) (c : Nat) (xs : List Nat) (exp : Int) (vneg : Bool) (B : Option Addr) (cB : Nat) (ys : List Nat) (W : World) : Prop where
  bel : Below w.heap.size w W
  box : Blk W gx 24 #[.int .i64 0, .bool neg, .slice A xs.length c, .int .i64 exp]
  val : Blk W gv 29 #[.bool vneg, .slice B ys.length cB, .int .i64 exp]
  rx : RdG .u64 W (.slice A xs.length c) xs
  rv : RdG .i64 W (.slice B ys.length cB) ys

section
variable {w : World} {gx gv : Nat} {neg : Bool} {A : Option Addr} {c : Nat} {xs : List Nat} {exp : Int} {vneg : Bool} {B : Option Addr} {cB : Nat} {ys : List Nat} {W W' : World}
theorem HeldV.below (h : HeldV w gx gv neg A c xs exp vneg B cB ys W) (hb : Below W.heap.size W W') : HeldV w gx gv neg A c xs exp vneg B cB ys W' :=
  ⟨below_next h.bel hb, h.box.below hb, h.val.below hb, h.rx.below hb, h.rv.below hb⟩
theorem HeldV.next (h : HeldV w gx gv neg A c xs exp vneg B cB ys W) (h1 : W'.os = W.os) (h2 : W'.tape = W.tape) (h3 : W'.output = W.output) (h4 : W.heap.size ≤ W'.heap.size) (h5 : ∀ k, k < W.heap.size → W'.heap[k]? = W.heap[k]?) : HeldV w gx gv neg A c xs exp vneg B cB ys W' :=
  h.below ⟨h1, h2, h3, h4, h5⟩
theorem HeldV.cells (h : HeldV w gx gv neg A c xs exp vneg B cB ys W) :
    (W.cell? ⟨gx, 0, none⟩ = some (.int .i64 0) ∧ W.cell? ⟨gx, 1, none⟩ = some (.bool neg) ∧ W.cell? ⟨gx, 2, none⟩ = some (.slice A xs.length c) ∧ W.cell? ⟨gx, 3, none⟩ = some (.int .i64 exp)) ∧
    (W.cell? ⟨gv, 0, none⟩ = some (.bool vneg) ∧ W.cell? ⟨gv, 1, none⟩ = some (.slice B ys.length cB) ∧ W.cell? ⟨gv, 2, none⟩ = some (.int .i64 exp)) := ⟨h.box.dec4, h.val.val3⟩
end
end Go.Proofs.Ytmomgnogncpglaa
