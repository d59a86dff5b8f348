/- Parts of the proofs: Cmp1. -/
import Derived.Test.YtfkcobdkgjhfaaaGreatDoorG39
import Derived.Test.YtfkcobdkgjhfaaaGreatDoorG45
/- Walks: the thin package's context and conditions, the laws' wide, Context.Cmp. -/
set_option linter.unusedVariables false
set_option linter.unusedSimpArgs false
namespace Go.Proofs.YtfkcobdkgjhfaaaGreatDoor
open Go.RowKit

theorem below_dr {w w1 : World} (h : Below w.heap.size w w1) : Below w.heap.size w w1.drew := ⟨h.os, h.tape, h.output, h.size, h.block⟩

theorem rounder_some (k : Nat) (hk : k < 8) (w : World) : Calls Tryz.prog 69 #[.int .i64 (k : Int)] w fun e w' => (∃ s : ByteArray, e = .returned (.string s)) ∧ w = w' := by
  have h : k = 0 ∨ k = 1 ∨ k = 2 ∨ k = 3 ∨ k = 4 ∨ k = 5 ∨ k = 6 ∨ k = 7 := by omega
  clear hk
  rcases h with rfl | rfl | rfl | rfl | rfl | rfl | rfl | rfl
  all_goals go_enter Tryz.func69, Tryz.ntmps69
  all_goals go_wp2
  all_goals go_ret
  all_goals exact ⟨⟨_, rfl⟩, rfl⟩

theorem cond_idx0 (W : World) : (Instr.index 133 (.agg #[.int .u32 4, .int .u32 8, .int .u32 16, .int .u32 32, .int .u32 64, .int .u32 128, .int .u32 256, .int .u32 512, .int .u32 1024, .int .u32 2048, .int .u32 1, .int .u32 2]) (.int .i64 0)).run Tryz.prog W = .ok (.int .u32 4) W := by kernel_rfl
theorem cond_idx1 (W : World) : (Instr.index 133 (.agg #[.int .u32 4, .int .u32 8, .int .u32 16, .int .u32 32, .int .u32 64, .int .u32 128, .int .u32 256, .int .u32 512, .int .u32 1024, .int .u32 2048, .int .u32 1, .int .u32 2]) (.int .i64 1)).run Tryz.prog W = .ok (.int .u32 8) W := by kernel_rfl
theorem cond_idx2 (W : World) : (Instr.index 133 (.agg #[.int .u32 4, .int .u32 8, .int .u32 16, .int .u32 32, .int .u32 64, .int .u32 128, .int .u32 256, .int .u32 512, .int .u32 1024, .int .u32 2048, .int .u32 1, .int .u32 2]) (.int .i64 2)).run Tryz.prog W = .ok (.int .u32 16) W := by kernel_rfl
theorem cond_idx3 (W : World) : (Instr.index 133 (.agg #[.int .u32 4, .int .u32 8, .int .u32 16, .int .u32 32, .int .u32 64, .int .u32 128, .int .u32 256, .int .u32 512, .int .u32 1024, .int .u32 2048, .int .u32 1, .int .u32 2]) (.int .i64 3)).run Tryz.prog W = .ok (.int .u32 32) W := by kernel_rfl
theorem cond_idx4 (W : World) : (Instr.index 133 (.agg #[.int .u32 4, .int .u32 8, .int .u32 16, .int .u32 32, .int .u32 64, .int .u32 128, .int .u32 256, .int .u32 512, .int .u32 1024, .int .u32 2048, .int .u32 1, .int .u32 2]) (.int .i64 4)).run Tryz.prog W = .ok (.int .u32 64) W := by kernel_rfl
theorem cond_idx5 (W : World) : (Instr.index 133 (.agg #[.int .u32 4, .int .u32 8, .int .u32 16, .int .u32 32, .int .u32 64, .int .u32 128, .int .u32 256, .int .u32 512, .int .u32 1024, .int .u32 2048, .int .u32 1, .int .u32 2]) (.int .i64 5)).run Tryz.prog W = .ok (.int .u32 128) W := by kernel_rfl
theorem cond_idx6 (W : World) : (Instr.index 133 (.agg #[.int .u32 4, .int .u32 8, .int .u32 16, .int .u32 32, .int .u32 64, .int .u32 128, .int .u32 256, .int .u32 512, .int .u32 1024, .int .u32 2048, .int .u32 1, .int .u32 2]) (.int .i64 6)).run Tryz.prog W = .ok (.int .u32 256) W := by kernel_rfl
theorem cond_idx7 (W : World) : (Instr.index 133 (.agg #[.int .u32 4, .int .u32 8, .int .u32 16, .int .u32 32, .int .u32 64, .int .u32 128, .int .u32 256, .int .u32 512, .int .u32 1024, .int .u32 2048, .int .u32 1, .int .u32 2]) (.int .i64 7)).run Tryz.prog W = .ok (.int .u32 512) W := by kernel_rfl
theorem cond_idx8 (W : World) : (Instr.index 133 (.agg #[.int .u32 4, .int .u32 8, .int .u32 16, .int .u32 32, .int .u32 64, .int .u32 128, .int .u32 256, .int .u32 512, .int .u32 1024, .int .u32 2048, .int .u32 1, .int .u32 2]) (.int .i64 8)).run Tryz.prog W = .ok (.int .u32 1024) W := by kernel_rfl
theorem cond_idx9 (W : World) : (Instr.index 133 (.agg #[.int .u32 4, .int .u32 8, .int .u32 16, .int .u32 32, .int .u32 64, .int .u32 128, .int .u32 256, .int .u32 512, .int .u32 1024, .int .u32 2048, .int .u32 1, .int .u32 2]) (.int .i64 9)).run Tryz.prog W = .ok (.int .u32 2048) W := by kernel_rfl
theorem cond_idx10 (W : World) : (Instr.index 133 (.agg #[.int .u32 4, .int .u32 8, .int .u32 16, .int .u32 32, .int .u32 64, .int .u32 128, .int .u32 256, .int .u32 512, .int .u32 1024, .int .u32 2048, .int .u32 1, .int .u32 2]) (.int .i64 10)).run Tryz.prog W = .ok (.int .u32 1) W := by kernel_rfl
theorem cond_idx11 (W : World) : (Instr.index 133 (.agg #[.int .u32 4, .int .u32 8, .int .u32 16, .int .u32 32, .int .u32 64, .int .u32 128, .int .u32 256, .int .u32 512, .int .u32 1024, .int .u32 2048, .int .u32 1, .int .u32 2]) (.int .i64 11)).run Tryz.prog W = .ok (.int .u32 2) W := by kernel_rfl
theorem cond_idx (i : Nat) (hi : i < 12) : ∃ c : Int, (∀ W : World, (Instr.index 133 (.agg #[.int .u32 4, .int .u32 8, .int .u32 16, .int .u32 32, .int .u32 64, .int .u32 128, .int .u32 256, .int .u32 512, .int .u32 1024, .int .u32 2048, .int .u32 1, .int .u32 2]) (.int .i64 (i : Int))).run Tryz.prog W = .ok (.int .u32 c) W) ∧ bits .and .u32 0 c = 0 := by
  have h : i = 0 ∨ i = 1 ∨ i = 2 ∨ i = 3 ∨ i = 4 ∨ i = 5 ∨ i = 6 ∨ i = 7 ∨ i = 8 ∨ i = 9 ∨ i = 10 ∨ i = 11 := by omega
  rcases h with rfl | rfl | rfl | rfl | rfl | rfl | rfl | rfl | rfl | rfl | rfl | rfl
  · exact ⟨_, cond_idx0, rfl⟩
  · exact ⟨_, cond_idx1, rfl⟩
  · exact ⟨_, cond_idx2, rfl⟩
  · exact ⟨_, cond_idx3, rfl⟩
  · exact ⟨_, cond_idx4, rfl⟩
  · exact ⟨_, cond_idx5, rfl⟩
  · exact ⟨_, cond_idx6, rfl⟩
  · exact ⟨_, cond_idx7, rfl⟩
  · exact ⟨_, cond_idx8, rfl⟩
  · exact ⟨_, cond_idx9, rfl⟩
  · exact ⟨_, cond_idx10, rfl⟩
  · exact ⟨_, cond_idx11, rfl⟩

/-- No condition. -/
theorem conditions_none (w : World) : Calls Tryz.prog 42 #[.int .u32 0] w fun e w' => e = .returned (.int .i64 0) ∧ w = w' := by
  go_enter Tryz.func42, Tryz.ntmps42
  go_wp2_with fail
  go_loopw [3, 7] (fun vo vi wr => ∃ i : Nat, i ≤ 12 ∧ vi = .int .i64 (i : Int) ∧ vo = .int .i64 0 ∧ wr = w) (fun _ vi _ => match vi with | .int _ i => 12 - i.toNat | _ => 0)
  case atStart => exact ⟨0, by omega, rfl, rfl, rfl⟩
  case round =>
    obtain ⟨i, hi, rfl, rfl, rfl⟩ := hrel
    by_cases h : i = 12
    · subst h
      go_wp2
      go_ret
      exact ⟨rfl, rfl⟩
    · obtain ⟨c, hc, hand⟩ := cond_idx i (by omega)
      have hlt : (i : Int) < 12 := by omega
      have hw : IntKind.i64.wrap ((i : Int) + 1) = ((i + 1 : Nat) : Int) := by simp [IntKind.wrap, IntKind.signed, IntKind.bits]; omega
      go_wp2
      go_roundw
      case rel => exact ⟨i + 1, by omega, rfl, rfl, trivial⟩
      case measure => show 12 - ((i : Int) + 1).toNat < 12 - (i : Int).toNat; omega

theorem wide_result (n : Nat) (tmps : Array Value) (h : tmps.getD 4 undef = .pointer (some ⟨n, 0, none⟩)) (W : World) (a b c d : Value) (c0 : W.cell? ⟨n, 0, none⟩ = some a) (c1 : W.cell? ⟨n, 1, none⟩ = some b) (c2 : W.cell? ⟨n, 2, none⟩ = some c) (c3 : W.cell? ⟨n, 3, none⟩ = some d) :
    (results Tryz.f21 tmps).run Tryz.prog W = .ok (.agg #[a, b, c, d]) W := by
  have h2 : tmps[4]?.getD undef = .pointer (some ⟨n, 0, none⟩) := by simpa using h
  simp [results, Tryz.results21, go_sem, h2, c0, c1, c2, c3]
def WideP (w : World) (e : Ending) (w' : World) : Prop := (∃ (q m : Nat), m < 8 ∧ e = .returned (.agg #[.int .u64 (q : Int), .int .i64 100000, .int .i64 (-100000), .int .i64 (m : Int)])) ∧ Below w.heap.size w w'
theorem wide_any (p k : Int) (w : World) (hp : (Lit.int .u8 p).wf = true) (hk : (Lit.int .u8 k).wf = true) :
    Calls Tryz.prog 21 #[.int .u8 p, .int .u8 k] w (WideP w) := by
  have hp0 : 0 ≤ p ∧ p ≤ 255 := by simpa [Lit.wf, IntKind.min, IntKind.max, IntKind.signed, IntKind.bits] using hp
  have hk0 : 0 ≤ k ∧ k ≤ 255 := by simpa [Lit.wf, IntKind.min, IntKind.max, IntKind.signed, IntKind.bits] using hk
  obtain ⟨q, hq, hq60⟩ : ∃ q : Nat, p % 60 = (q : Int) ∧ q < 60 := ⟨(p % 60).toNat, by omega, by omega⟩
  obtain ⟨m, hm, hm8⟩ : ∃ m : Nat, k % 8 = (m : Int) ∧ m < 8 := ⟨(k % 8).toNat, by omega, by omega⟩
  have hq2 : p.tmod 60 = (q : Int) := by rw [Int.tmod_eq_emod_of_nonneg hp0.1]; exact hq
  have hm2 : k.tmod 8 = (m : Int) := by rw [Int.tmod_eq_emod_of_nonneg hk0.1]; exact hm
  have w1 : IntKind.u8.wrap (q : Int) = (q : Int) := by simp [IntKind.wrap, IntKind.signed, IntKind.bits]; omega
  have w2 : IntKind.u8.wrap (m : Int) = (m : Int) := by simp [IntKind.wrap, IntKind.signed, IntKind.bits]; omega
  have w3 : IntKind.u64.wrap (q : Int) = (q : Int) := by simp [IntKind.wrap, IntKind.signed, IntKind.bits]; omega
  have w4 : IntKind.i64.wrap (m : Int) = (m : Int) := by simp [IntKind.wrap, IntKind.signed, IntKind.bits]; omega
  obtain ⟨q1, hq1⟩ : ∃ q1 : Nat, q1 = q + 1 := ⟨_, rfl⟩
  have w5 : IntKind.u64.wrap (1 + (q : Int)) = (q1 : Int) := by simp [IntKind.wrap, IntKind.signed, IntKind.bits]; omega
  have w6 : 1 + (q : Int) = (q1 : Int) := by omega
  have HB : Hid (WideP w (.returned (.agg #[.int .u64 (q1 : Int), .int .i64 100000, .int .i64 (-100000), .int .i64 (m : Int)])) (w.alloc (.cells #[.int .u64 (q1 : Int), .int .i64 100000, .int .i64 (-100000), .int .i64 (m : Int)] 48))) := ⟨⟨q1, m, hm8, rfl⟩, below_al (Below.refl w.heap.size w) _⟩
  have hn := Blk.new w 48 #[.int .u64 (q1 : Int), .int .i64 100000, .int .i64 (-100000), .int .i64 (m : Int)]
  have HN := hide hn.dec4
  clear hp hk hp0 hk0 hq1 hn
  go_enter Tryz.func21, Tryz.ntmps21
  go_wp2
  exact bodyPost_ret (wide_result w.heap.size _ rfl _ (.int .u64 (q1 : Int)) (.int .i64 100000) (.int .i64 (-100000)) (.int .i64 (m : Int)) HN.out.1 HN.out.2.1 HN.out.2.2.1 HN.out.2.2.2) rfl HB.out

set_option maxHeartbeats 2000000 in
theorem context_any (p mx mn : Int) (k : Nat) (hk : k < 8) (w : World) : Calls Tryz.prog 40 #[.agg #[.int .u64 p, .int .i64 mx, .int .i64 mn, .int .i64 (k : Int)]] w fun e w' => (∃ g, e = .returned (.pointer (some ⟨g, 0, none⟩))) ∧ Below w.heap.size w w' := by
  obtain ⟨g, hg⟩ : ∃ g, g = w.heap.size := ⟨_, rfl⟩
  obtain ⟨W0, hW0⟩ : ∃ W, W = w.alloc (.cells #[.int .u64 p, .int .i64 mx, .int .i64 mn, .int .i64 (k : Int)] 48) := ⟨_, rfl⟩
  have hb : Blk W0 g 48 #[.int .u64 p, .int .i64 mx, .int .i64 mn, .int .i64 (k : Int)] := by rw [hW0, hg]; exact Blk.new _ _ _
  obtain ⟨c0, c1, c2, c3⟩ := hb.dec4
  have HS : Hid (Below w.heap.size w W0 ∧ Blk W0 g 48 #[.int .u64 p, .int .i64 mx, .int .i64 mn, .int .i64 (k : Int)]) := ⟨by rw [hW0]; exact below_al (Below.refl _ _) _, hb⟩
  have Con := hide (fun W => rounder_some k hk W)
  clear hb c0 c1 c2 c3
  go_enter Tryz.func40, Tryz.ntmps40
  go_wp2_with fail
  rw [← hW0, ← hg]
  clear hW0 hg
  go_region_held3 (fun W => (W.cell? ⟨g, 0, none⟩ = some (.int .u64 p) ∧ W.cell? ⟨g, 1, none⟩ = some (.int .i64 mx) ∧ W.cell? ⟨g, 2, none⟩ = some (.int .i64 mn) ∧ W.cell? ⟨g, 3, none⟩ = some (.int .i64 (k : Int)))) (first | exact HS.out.2.dec4 | exact (HS.out.2.alloc _).dec4 | go_keep)
    ((go_at_call 69; go_loud (refine (Con.out _).mono ?_; rintro e w1 ⟨⟨s, rfl⟩, rfl⟩)))
  all_goals go_wp2
  all_goals go_ret
  all_goals exact ⟨⟨_, rfl⟩, below_dr (below_al HS.out.1 _)⟩

theorem should_fin (pc : Option Addr) (ga gb : Nat) (w : World) (a0 : w.cell? ⟨ga, 0, none⟩ = some (.int .i8 0)) (b0 : w.cell? ⟨gb, 0, none⟩ = some (.int .i8 0)) : Calls Tryz.prog 105 #[.pointer pc, .pointer (some ⟨ga, 0, none⟩), .pointer (some ⟨gb, 0, none⟩)] w fun e w' => e = .returned (.bool false) ∧ w = w' := by
  go_enter Tryz.func105, Tryz.ntmps105
  go_wp2
  go_ret
  exact ⟨rfl, rfl⟩

end Go.Proofs.YtfkcobdkgjhfaaaGreatDoor
