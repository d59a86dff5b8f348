/- Parts of the proofs: Dec4, Neg. -/
import Derived.Test.YtfkcobdkgjhfaaaGreatDoorG9
import Derived.Test.YtfkcobdkgjhfaaaGreatDoorG29
import Derived.Test.YtfkcobdkgjhfaaaGreatDoorG30
/- Walks: Decimal.Abs, and DecAbs of the thin package. -/
set_option linter.unusedVariables false
set_option linter.unusedSimpArgs false
namespace Go.Proofs.YtfkcobdkgjhfaaaGreatDoor
open Go.RowKit

theorem dabs_any (base gz gx : Nat) (fz : Int) (nz : Bool) (ez : Int) (bz : Bool) (vz : Value) (mz : Bool) (fx : Int) (nx : Bool) (ex : Int) (bx : Bool) (vx : Value) (mx : Bool) (m : Nat) (xs : List Nat) (w : World)
    (hz : Blk w gz 71 (decC fz nz ez bz vz mz)) (hzr : Room w base vz m) (hx : Blk w gx 71 (decC fx nx ex bx vx mx)) (hxr : RdW w vx xs) (hxb : ∀ k, vx.ownBlock = some k → k ≠ gz)
    (hne : gz ≠ gx) (hb : base ≤ w.heap.size) (hn : xs.length ≤ 1099511627776) :
    Calls Tryz.prog 148 #[.pointer (some ⟨gz, 0, none⟩), .pointer (some ⟨gx, 0, none⟩)] w (DsetP w base gz fx false ex bx vz mx xs) := by
  have Con := hide (dset_any base gz gx fz nz ez bz vz mz fx nx ex bx vx mx m xs w hz hzr hx hxr hxb hne hb hn)
  clear hz hzr hx hxr
  go_enter Tryz.func148, Tryz.ntmps148
  go_wp2_with fail
  refine (Con.out).mono ?_
  rintro e w1 ⟨rfl, A, c, hr, hrb, hB, hF⟩
  have c1 : w1.cell? ⟨gz, 1, none⟩ = some (.bool nx) := hB.cell 1
  have f1 := hB.frozen 1
  have hg : ∀ k, (Value.slice A xs.length c).ownBlock = some k → k ≠ gz := hr.room.ne_blk hB (by decide)
  have fin : DsetP w base gz fx false ex bx vz mx xs (.returned (.pointer (some ⟨gz, 0, none⟩))) (w1.setCell ⟨gz, 1, none⟩ (.bool false)) :=
    ⟨rfl, A, c, hr.fr ((Fr.refl w1 (fun k => k = gz)).setCell (p := ⟨gz, 1, none⟩) (fun _ => rfl) _) hg, hrb, hB.set 1 _, hF.setCell (p := ⟨gz, 1, none⟩) (fun _ => .inl rfl) _⟩
  have Fin := hide fin
  clear fin hr hrb hB hF hg Con
  go_wp2
  go_ret
  exact Fin.out

end Go.Proofs.YtfkcobdkgjhfaaaGreatDoor

/- Walks: Decimal.Neg, DecNeg of the thin package, Opposite of the reference. -/
set_option linter.unusedVariables false
set_option linter.unusedSimpArgs false
namespace Go.Proofs.YtfkcobdkgjhfaaaGreatDoor
open Go.RowKit

/-- The sign behind 'Neg'. -/
def negT (neg : Bool) (n : Nat) : Bool := if n = 0 then false else !neg
theorem negT_zero (neg : Bool) : negT neg 0 = false := rfl
theorem negT_pos {n : Nat} (neg : Bool) (h : n ≠ 0) : negT neg n = !neg := by simp [negT, h]


theorem opposite_result (n : Nat) (tmps : Array Value) (h : tmps.getD 2 undef = .pointer (some ⟨n, 0, none⟩)) (W : World) (a b c : Value) (c0 : W.cell? ⟨n, 0, none⟩ = some a) (c1 : W.cell? ⟨n, 1, none⟩ = some b) (c2 : W.cell? ⟨n, 2, none⟩ = some c) :
    (results Tryz.f37 tmps).run Tryz.prog W = .ok (.agg #[a, b, c]) W := by
  have h2 : tmps[2]?.getD undef = .pointer (some ⟨n, 0, none⟩) := by simpa using h
  simp [results, Tryz.results37, go_sem, h2, c0, c1, c2]

theorem opposite_any (neg : Bool) (A : Option Addr) (n c : Nat) (exp : Int) (w : World) :
    Calls Tryz.prog 37 #[.agg #[.bool neg, .slice A n c, .int .i64 exp]] w fun e w' => e = .returned (.agg #[.bool (!neg), .slice A n c, .int .i64 exp]) ∧ Below w.heap.size w w' := by
  have hb0 := hide (below_al (below_al (Below.refl w.heap.size w) (.cells #[.bool neg, .slice A n c, .int .i64 exp] 29)) (.cells #[.bool (!neg), .slice A n c, .int .i64 exp] 29))
  have hB : Blk ((w.alloc (.cells #[.bool neg, .slice A n c, .int .i64 exp] 29)).alloc (.cells #[.bool (!neg), .slice A n c, .int .i64 exp] 29)) (w.heap.size + 1) 29 #[.bool (!neg), .slice A n c, .int .i64 exp] := by
    have := Blk.new (w.alloc (.cells #[.bool neg, .slice A n c, .int .i64 exp] 29)) 29 #[.bool (!neg), .slice A n c, .int .i64 exp]
    simpa using this
  have HB := hide hB
  clear hB
  go_enter Tryz.func37, Tryz.ntmps37
  go_wp2
  exact bodyPost_ret (opposite_result (w.heap.size + 1) _ rfl _ (.bool (!neg)) (.slice A n c) (.int .i64 exp) (HB.out.cell 0) (HB.out.cell 1) (HB.out.cell 2)) rfl ⟨rfl, hb0.out⟩
end Go.Proofs.YtfkcobdkgjhfaaaGreatDoor
