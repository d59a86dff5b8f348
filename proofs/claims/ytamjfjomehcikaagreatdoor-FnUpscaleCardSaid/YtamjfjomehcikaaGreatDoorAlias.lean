/- Walks: alias of two rows of words. -/
import Derived.Test.YtamjfjomehcikaaGreatDoorInt1
import Derived.Deep.QuietTactic
set_option linter.unusedVariables false
set_option linter.unusedSimpArgs false
namespace Go.Proofs.YtamjfjomehcikaaGreatDoor
open Go.RowKit

theorem eql_Word (w : World) {a b : Addr} {ca cb : Array Value} {ta tb : TypeId} (hne : a ≠ b) (ha : Blk w a.block ta ca) (hb : Blk w b.block tb cb) :
    (binOp .eql 142 (.pointer (some a)) (.pointer (some b))).run Tryz.prog w = .ok (.bool false) w := by
  obtain ⟨j, hj, hs⟩ := Option.map_eq_some_iff.1 sizeWord
  exact run_eql_ptr_other w Tryz.underlying142 hj (by rw [hs]; decide) hne ha hb

theorem alias_nil (z x : Value) (n c : Nat) (A : Option Addr) (w : World) (h : (z = .slice none 0 0 ∧ x = .slice A n c) ∨ (x = .slice none 0 0 ∧ z = .slice A n c)) :
    Calls Tryz.prog 83 #[z, x] w fun e w' => e = .returned (.bool false) ∧ ∃ k, w' = w.drewN k := by
  rcases h with ⟨rfl, rfl⟩ | ⟨rfl, rfl⟩
  · go_enter Tryz.func83, Tryz.ntmps83
    go_wp2_with fail
    go_quiet (fail)
    go_wp2
    go_ret
    exact ⟨rfl, _, rfl⟩
  · by_cases h0 : 0 < c
    · go_enter Tryz.func83, Tryz.ntmps83
      go_wp2_with fail
      go_quiet (fail)
      go_wp2
      go_ret
      exact ⟨rfl, _, rfl⟩
    · go_enter Tryz.func83, Tryz.ntmps83
      go_wp2_with fail
      go_quiet (fail)
      go_wp2
      go_ret
      exact ⟨rfl, _, rfl⟩

set_option maxHeartbeats 500000 in
theorem alias_far (gz gx n m cz cx : Nat) (tz tx : TypeId) (bz bx : Array Value) (w : World) (hz : Blk w gz tz bz) (hx : Blk w gx tx bx) (hne : gz ≠ gx) (hmz : cz ≤ maxLen) (hmx : cx ≤ maxLen) :
    Calls Tryz.prog 83 #[.slice (some ⟨gz, 0, none⟩) n cz, .slice (some ⟨gx, 0, none⟩) m cx] w fun e w' => e = .returned (.bool false) ∧ ∃ k, w' = w.drewN k := by
  unfold maxLen at hmz hmx
  have hcmp : ∀ (i j k : Nat), (binOp .eql 142 (.pointer (some ⟨gz, i, none⟩)) (.pointer (some ⟨gx, j, none⟩))).run Tryz.prog (w.drewN k) = .ok (.bool false) (w.drewN k) :=
    fun i j k => eql_Word (w.drewN k) (a := ⟨gz, i, none⟩) (b := ⟨gx, j, none⟩) (by intro e; injection e with e1; exact hne e1) (hz.drewN k) (hx.drewN k)
  clear hz hx hne
  by_cases h0 : 0 < cz
  · by_cases h1 : 0 < cx
    · have z1 : wrap64 ((cz : Int) - 1) = ((cz - 1 : Nat) : Int) := by unfold wrap64; omega
      have x1 : wrap64 ((cx : Int) - 1) = ((cx - 1 : Nat) : Int) := by unfold wrap64; omega
      have z2 : cz - 1 < cz := by omega
      have x2 : cx - 1 < cx := by omega
      go_enter Tryz.func83, Tryz.ntmps83
      go_wp2_with fail
      go_quiet (fail)
      go_wp2
      go_ret
      exact ⟨rfl, _, rfl⟩
    · go_enter Tryz.func83, Tryz.ntmps83
      go_wp2_with fail
      go_quiet (fail)
      go_wp2
      go_ret
      exact ⟨rfl, _, rfl⟩
  · go_enter Tryz.func83, Tryz.ntmps83
    go_wp2_with fail
    go_quiet (fail)
    go_wp2
    go_ret
    exact ⟨rfl, _, rfl⟩
end Go.Proofs.YtamjfjomehcikaaGreatDoor
