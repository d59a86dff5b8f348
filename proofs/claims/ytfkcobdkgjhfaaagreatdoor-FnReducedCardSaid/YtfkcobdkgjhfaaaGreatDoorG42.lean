/- Parts of the proofs: DecApp, DecTxt. -/
import Derived.Deep.RegionHeld3
import Derived.Test.YtfkcobdkgjhfaaaGreatDoorG9
import Derived.Test.YtfkcobdkgjhfaaaGreatDoorG29
import Derived.Test.YtfkcobdkgjhfaaaGreatDoorG41
/- Walks: Decimal.Append at a letter that is no format; Decimal.Text. -/
set_option linter.unusedVariables false
set_option linter.unusedSimpArgs false
namespace Go.Proofs.YtfkcobdkgjhfaaaGreatDoor
open Go.RowKit

/-- An array of bytes, new: a buffer without a byte. -/
theorem buf_new (w : World) (n : Nat) (t : TypeId) (hn : n ≤ 1000) : Buf (w.alloc (.cells (Array.replicate n (.int .u8 0)) t)) w.heap.size (.slice (some ⟨w.heap.size, 0, none⟩) 0 n) [] :=
  ⟨_, n, rfl, .inr ⟨w.heap.size, rfl, Nat.le_refl _, by simp, Nat.zero_le _, by simp [maxLen]; omega, fun i d h => by simp at h, fun i hi => ⟨by rw [(Blk.new w t (Array.replicate n (.int .u8 0))).cell i]; simp [hi], (Blk.new w t _).frozen i⟩⟩⟩

/-- Bytes laid anew can be appended. -/
theorem src_new (w : World) (cs : Array Value) (ys : List Nat) (h : cs = (gv .u8 ys).toArray) (t : TypeId) : Src Tryz.prog 1 136 (.slice (some ⟨w.heap.size, 0, none⟩) ys.length ys.length) ys.length (gv .u8 ys) (w.alloc (.cells cs t)) := by
  refine Src.ofSlice _ Tryz.underlying136 _ _ _ _ (by simp [gv]) (fun j u hj => ?_) gv_one
  rw [Addr.add_lit, Nat.zero_add, (Blk.new w t cs).cell j, h, List.getElem?_toArray]
  exact hj

end Go.Proofs.YtfkcobdkgjhfaaaGreatDoor

/- Walks: Decimal.Text, the thin package's Text, at a letter that is no format. -/
set_option linter.unusedVariables false
set_option linter.unusedSimpArgs false
namespace Go.Proofs.YtfkcobdkgjhfaaaGreatDoor
open Go.RowKit

def NoFmt (ch : Int) : Prop := (ch == 101) = false ∧ (ch == 69) = false ∧ (ch == 102) = false ∧ (ch == 103) = false ∧ (ch == 71) = false

end Go.Proofs.YtfkcobdkgjhfaaaGreatDoor
