/- What the laid package variables give the walks: the thresholds' cells. -/
import Derived.Test.YtamjfjomehcikaaGreatDoorRow
import Derived.Test.YtamjfjomehcikaaGreatDoorMul2
import Derived.LaidMore
set_option linter.unusedVariables false
set_option linter.unusedSimpArgs false
namespace Go.Proofs.YtamjfjomehcikaaGreatDoor
open Go Go.RowKit

theorem laid_int {w : World} {v : Int} {n : String} {g : Nat} (hg : Tryz.prog.globalNamed n = some g) (ht : (Tryz.prog.globals[g]?).map (·.type) = some 3) :
    ∀ {l : List (String × DataW Unit)} {ps : List MemPlace}, DataW.LaidVars Tryz.prog w l ps → (n, DataW.lit (.int .i64 v)) ∈ l → w.cell? ⟨g, 0, none⟩ = some (.int .i64 v)
  | [], _, _, hm => by cases hm
  | (m, d) :: l, ps, h, hm => by
    obtain ⟨g0, t0, cs0, f0, p0, q0, hg0, ht0, hv0, hd0, hr, -⟩ := h
    rcases List.mem_cons.1 hm with e | hm
    · injection e with e1 e2
      subst e1 e2
      obtain rfl := Option.some.inj (hg.symm.trans hg0)
      obtain rfl := Option.some.inj (ht.symm.trans ht0)
      obtain ⟨k, e1, e2, -⟩ := DataW.trod_int Tryz.underlying3 hd0
      have hk : k = v := by simpa using (congrArg Prod.fst e2).symm
      subst hk
      have := World.var?_cell hg hv0 0
      rw [this, Array.getElem?_toList.symm, e1]
      rfl
    · exact laid_int hg ht hr hm

theorem vars_of {w : World} {l : List (String × DataW Unit)} (h : laidMetH Tryz.prog l w) (hp : (l.filter fun x => x.2.handleName?.isSome) = [])
    (m0 : ("loop.example/pub-g03241/pub/bigall.basicSqrThreshold", DataW.lit (.int .i64 12)) ∈ l) (m1 : ("loop.example/pub-g03241/pub/bigall.karatsubaSqrThreshold", DataW.lit (.int .i64 80)) ∈ l) (m2 : ("loop.example/pub-g03241/pub/bigall.karatsubaThreshold", DataW.lit (.int .i64 40)) ∈ l) : Vars w w.heap.size := by
  unfold laidMetH at h
  rw [hp] at h
  obtain ⟨ps, hl, -⟩ := h
  have c0 := laid_int (g := 0) (by kernel_rfl) (by kernel_rfl) hl m0
  have c1 := laid_int (g := 1) (by kernel_rfl) (by kernel_rfl) hl m1
  have c2 := laid_int (g := 2) (by kernel_rfl) (by kernel_rfl) hl m2
  exact ⟨c0, c1, c2, World.block_lt_of_cell? _ _ c0, World.block_lt_of_cell? _ _ c1, World.block_lt_of_cell? _ _ c2⟩
end Go.Proofs.YtamjfjomehcikaaGreatDoor
