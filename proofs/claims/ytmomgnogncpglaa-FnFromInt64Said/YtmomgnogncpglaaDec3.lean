/- Walks: Decimal.Set of the package apd. -/
import Derived.Test.YtmomgnogncpglaaDec1
set_option linter.unusedVariables false
set_option linter.unusedSimpArgs false
namespace Go.Proofs.Ytmomgnogncpglaa
open Go.RowKit

theorem infoDec : (Try.prog.info? 60).map (fun i => i.size) = some 6 := by kernel_rfl

theorem neq_Dec (w : World) {a b : Addr} {ca cb : Array Value} {ta tb : TypeId} (hne : a ≠ b) (ha : Blk w a.block ta ca) (hb : Blk w b.block tb cb) :
    (binOp .eql 44 (.pointer (some a)) (.pointer (some b))).run Try.prog w = .ok (.bool false) w := by
  obtain ⟨j, hj, hs⟩ := Option.map_eq_some_iff.1 infoDec
  exact run_eql_ptr_other w Try.underlying44 hj (by rw [hs]; decide) hne ha hb

/-- A Decimal, set: its cells, its row, and all else that was there. -/
def DsetP (w : World) (base g : Nat) (form : Int) (neg : Bool) (exp : Int) (vneg : Bool) (vz : Value) (minus : Bool) (xs : List Nat) (e : Ending) (w' : World) : Prop :=
  e = .returned (.pointer (some ⟨g, 0, none⟩)) ∧ ∃ A c, Own w' base (.slice A xs.length c) xs ∧ ((Value.slice A xs.length c).ownBlock = vz.ownBlock ∨ ∃ k, (Value.slice A xs.length c).ownBlock = some k ∧ w.heap.size ≤ k) ∧
    Blk w' g 60 (decC form neg exp vneg (.slice A xs.length c) minus) ∧ Fr w w' (fun k => k = g ∨ vz.ownBlock = some k)

set_option maxHeartbeats 1000000 in
theorem dslow_any (base gz gx : Nat) (fz : Int) (nz : Bool) (ez : Int) (bz : Bool) (vz : Value) (mz : Bool) (fx : Int) (nx : Bool) (ex : Int) (bx : Bool) (vx : Value) (mx : Bool) (m : Nat) (xs : List Nat) (w : World)
    (hz : Blk w gz 60 (decC fz nz ez bz vz mz)) (hzr : Room w base vz m) (hx : Blk w gx 60 (decC fx nx ex bx vx mx)) (hxr : RdW w vx xs) (hxb : ∀ k, vx.ownBlock = some k → k ≠ gz)
    (hne : gz ≠ gx) (hb : base ≤ w.heap.size) (hn : xs.length ≤ 1099511627776) :
    Calls Try.prog 49 #[.pointer (some ⟨gz, 0, none⟩), .pointer (some ⟨gx, 0, none⟩)] w (DsetP w base gz fx nx ex bx vz mx xs) := by
  have x0 : w.cell? ⟨gx, 0, none⟩ = some (.int .i8 fx) := hx.cell 0
  have x1 : w.cell? ⟨gx, 1, none⟩ = some (.bool nx) := hx.cell 1
  have x2 : w.cell? ⟨gx, 2, none⟩ = some (.int .i32 ex) := hx.cell 2
  have z0 : w.cell? ⟨gz, 0, none⟩ = some (.int .i8 fz) := hz.cell 0
  have z1 : w.cell? ⟨gz, 1, none⟩ = some (.bool nz) := hz.cell 1
  have z2 : w.cell? ⟨gz, 2, none⟩ = some (.int .i32 ez) := hz.cell 2
  have f0 := hz.frozen 0
  have f1 := hz.frozen 1
  have f2 := hz.frozen 2
  have hfW : Fr w (((w.setCell ⟨gz, 0, none⟩ (.int .i8 fx)).setCell ⟨gz, 1, none⟩ (.bool nx)).setCell ⟨gz, 2, none⟩ (.int .i32 ex)) (fun k => k = gz) :=
    (((Fr.refl w (fun k => k = gz)).setCell (p := ⟨gz, 0, none⟩) (fun _ => rfl) _).setCell (p := ⟨gz, 1, none⟩) (fun _ => rfl) _).setCell (p := ⟨gz, 2, none⟩) (fun _ => rfl) _
  have hzW : Blk (((w.setCell ⟨gz, 0, none⟩ (.int .i8 fx)).setCell ⟨gz, 1, none⟩ (.bool nx)).setCell ⟨gz, 2, none⟩ (.int .i32 ex)) gz 60 (decC fx nx ex bz vz mz) := ((hz.set 0 _).set 1 _).set 2 _
  have hxW := hx.fr hfW (fun h => hne h.symm)
  have HS := hide (And.intro hfW (And.intro hzW (And.intro hxW (And.intro (hzr.fr hfW (hzr.ne_blk hz (by decide))) (hxr.fr hfW hxb)))))
  clear hfW hzW hxW hz hzr hx hxr
  go_enter Try.func49, Try.ntmps49
  go_wp2_with fail
  generalize (((w.setCell ⟨gz, 0, none⟩ (.int .i8 fx)).setCell ⟨gz, 1, none⟩ (.bool nx)).setCell ⟨gz, 2, none⟩ (.int .i32 ex)) = W at HS ⊢
  have con := bset_any base gz 3 gx 3 60 60 (decC fx nx ex bz vz mz) (decC fx nx ex bx vx mx) bz bx mz mx vz vx m xs W.drew
    HS.out.2.1 rfl rfl rfl (HS.out.2.2.2.1.fr ((Fr.refl W (fun _ => False)).drew) (fun _ _ h => h)) (by decide) HS.out.2.2.1 rfl rfl rfl (HS.out.2.2.2.2.fr ((Fr.refl W (fun _ => False)).drew) (fun _ _ h => h)) hxb (by decide) hne (by have := HS.out.1.size; simp; omega) hn
  have fin : ∀ e w', BigP W.drew base gz 3 60 (decC fx nx ex bz vz mz) vz bx mx xs e w' → DsetP w base gz fx nx ex bx vz mx xs (.returned (.pointer (some ⟨gz, 0, none⟩))) w' := by
    rintro e w' ⟨he, A, c, hr, hrb, hB, hF⟩
    refine ⟨rfl, A, c, hr, ?_, hB, ?_⟩
    · rcases hrb with h | ⟨k, h1, h2⟩
      · exact .inl h
      · exact .inr ⟨k, h1, by have := HS.out.1.size; simp at h2; omega⟩
    · exact Fr.step ((HS.out.1.mono (fun k _ h => .inl h)).drew) hF (fun i _ h => h)
  have Con := hide con
  have Fin := hide fin
  clear con fin HS
  go_region_with (go_at_call 34; go_loud (refine (Con.out).mono ?_; rintro e w1 HI; have HI2 := hide HI; obtain ⟨rfl, _⟩ := HI))
  all_goals go_wp2
  all_goals go_ret
  all_goals exact Fin.out _ _ HI2.out

theorem dset_any (base gz gx : Nat) (fz : Int) (nz : Bool) (ez : Int) (bz : Bool) (vz : Value) (mz : Bool) (fx : Int) (nx : Bool) (ex : Int) (bx : Bool) (vx : Value) (mx : Bool) (m : Nat) (xs : List Nat) (w : World)
    (hz : Blk w gz 60 (decC fz nz ez bz vz mz)) (hzr : Room w base vz m) (hx : Blk w gx 60 (decC fx nx ex bx vx mx)) (hxr : RdW w vx xs) (hxb : ∀ k, vx.ownBlock = some k → k ≠ gz)
    (hne : gz ≠ gx) (hb : base ≤ w.heap.size) (hn : xs.length ≤ 1099511627776) :
    Calls Try.prog 39 #[.pointer (some ⟨gz, 0, none⟩), .pointer (some ⟨gx, 0, none⟩)] w (DsetP w base gz fx nx ex bx vz mx xs) := by
  have hcmp := neq_Dec w (a := ⟨gz, 0, none⟩) (b := ⟨gx, 0, none⟩) (by intro e; injection e with e1 e2; omega) hz hx
  have Con := hide (dslow_any base gz gx fz nz ez bz vz mz fx nx ex bx vx mx m xs w hz hzr hx hxr hxb hne hb hn)
  clear hz hzr hx hxr
  go_enter Try.func39, Try.ntmps39
  go_wp2_with fail
  refine (Con.out).mono ?_
  rintro e w1 HI
  have HI2 := hide HI
  obtain ⟨rfl, _⟩ := HI
  go_wp2
  go_ret
  exact HI2.out
end Go.Proofs.Ytmomgnogncpglaa
