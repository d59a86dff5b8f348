/- Parts of the proofs: KnStk2, KnStk3. -/
import Derived.Lib.AppendZerosOnto
import Derived.Test.YtfkcobdkgjhfaaaGreatDoorG15
/- Walks: the temporary stack with its inner part. -/
set_option linter.unusedVariables false
set_option linter.unusedSimpArgs false
namespace Go.Proofs.YtfkcobdkgjhfaaaGreatDoor
open Go.RowKit

set_option maxRecDepth 20000 in
theorem growI_nil (n : Nat) (w : World) (h1 : 1 ≤ n) (h4 : n ≤ 1000) :
    Calls Tryz.prog 235 #[.slice none 0 0, .int .i64 (n : Int)] w fun e w' => ∃ (g cap : Nat) (cur : Array Value), e = .returned (.slice (some ⟨g, 0, none⟩) 0 cap) ∧ w.heap.size ≤ g ∧ Blk w' g 145 cur ∧ n ≤ cap ∧ cap ≤ maxLen ∧ cur.size = cap ∧ Below w.heap.size w w' := by
  obtain ⟨i0, hi, hz0, hz1, hz2⟩ := info_parts infoWord
  have happ := Lib.run_append_nil_zeros (P := Tryz.prog) w 64 3 64 145 i0 (.int .u64 0) .i64 .i64 Tryz.underlying64 Tryz.underlying3 hi hz0 n (by omega) (by omega) (by omega) (by rw [hz2]; omega)
  have hcap : n ≤ grownCap w n 0 145 := grownCap_ge w n 0 145
  have hcap2 : grownCap w n 0 145 ≤ maxLen := grownCap_le_maxLen w n 0 145 (by simp only [maxLen]; omega)
  generalize grownCap w n 0 145 = cap at happ hcap hcap2
  obtain ⟨Z, hZ⟩ : ∃ Z, Z = Builtin.zeroCells (Value.int .u64 0).cells n ++ Builtin.zeroCells (Value.int .u64 0).cells (cap - n) := ⟨_, rfl⟩
  rw [← hZ] at happ
  have hZs : Z.size = cap := by rw [hZ]; simp [size_zeroCells, Value.cells]; omega
  have HF : Hid (∃ (g cap' : Nat) (cur : Array Value), Ending.returned (.slice (some ⟨w.heap.size, 0, none⟩) 0 cap) = .returned (.slice (some ⟨g, 0, none⟩) 0 cap') ∧ w.heap.size ≤ g ∧ Blk (w.drew.alloc (.cells Z 145)) g 145 cur ∧ n ≤ cap' ∧ cap' ≤ maxLen ∧ cur.size = cap' ∧ Below w.heap.size w (w.drew.alloc (.cells Z 145))) :=
    ⟨w.heap.size, cap, Z, rfl, Nat.le_refl _, Blk.new w.drew _ _, hcap, hcap2, hZs, (Below.mk rfl rfl rfl (Nat.le_refl _) (fun _ _ => rfl) : Below w.heap.size w w.drew).alloc (Nat.le_refl _) _⟩
  have hn0 : (0 : Int) < (n : Int) := by omega
  have hn1 : 0 < n := by omega
  have hc0 : 0 ≤ cap := Nat.zero_le _
  have HA := hide happ
  clear hi hz0 hz1 hz2 hZ hZs happ
  go_enter Tryz.func235, Tryz.ntmps235
  go_wp2_with (at_builtin; refine Lib.wpList_append_run _ rfl _ _ _ _ rfl _ _ rfl rfl _ _ HA.out ?_)
  go_ret
  exact HF.out

set_option maxRecDepth 20000 in
theorem growI_room (A : Option Addr) (l c n : Nat) (w : World) (hc : c ≤ maxLen) (h : l + n ≤ c) (hl : l ≤ 1000) (hn : n ≤ 1000) :
    Calls Tryz.prog 235 #[.slice A l c, .int .i64 (n : Int)] w fun e w' => e = .returned (.slice A l c) ∧ w = w' := by
  unfold maxLen at hc
  obtain ⟨z1, hz1⟩ : ∃ z : Int, z = (c : Int) - (l : Int) := ⟨_, rfl⟩
  obtain ⟨z2, hz2⟩ : ∃ z : Int, z = (n : Int) - z1 := ⟨_, rfl⟩
  have b1 : wrap64 ((c : Int) - (l : Int)) = z1 := by unfold wrap64; omega
  have b2 : IntKind.i64.wrap ((c : Int) - (l : Int)) = z1 := by rw [IntKind.wrap_i64]; omega
  have b3 : wrap64 ((n : Int) - z1) = z2 := by unfold wrap64; omega
  have b4 : IntKind.i64.wrap ((n : Int) - z1) = z2 := by rw [IntKind.wrap_i64]; omega
  have b5 : ¬ 0 < z2 := by omega
  have b6 : ¬ (n : Int) < 0 := by omega
  clear hz1 hz2 hc h hl hn
  go_enter Tryz.func235, Tryz.ntmps235
  go_wp2
  go_ret
  exact ⟨rfl, rfl⟩

/-- A new row of l words, with room for n more. -/
def GrwP (w : World) (l n : Nat) (e : Ending) (w' : World) : Prop :=
  ∃ (g cap : Nat) (cur' : Array Value), e = .returned (.slice (some ⟨g, 0, none⟩) l cap) ∧ w.heap.size ≤ g ∧ Blk w' g 145 cur' ∧ l + n ≤ cap ∧ cap ≤ maxLen ∧ cur'.size = cap ∧ Below w.heap.size w w'

set_option maxRecDepth 20000 in
theorem growI_more (gw l c n : Nat) (cur : Array Value) (w : World) (hB : Blk w gw 145 cur) (hcs : cur.size = c) (hlc : l ≤ c) (h : c < l + n) (hl : l ≤ 1000) (hn : n ≤ 1000) :
    Calls Tryz.prog 235 #[.slice (some ⟨gw, 0, none⟩) l c, .int .i64 (n : Int)] w (GrwP w l n) := by
  obtain ⟨i0, hi, hz0, hz1, hz2⟩ := info_parts infoWord
  obtain ⟨k, hk⟩ : ∃ k, k = n - (c - l) := ⟨_, rfl⟩
  have hold : (Builtin.firstCells i0.size c (.slice (some ⟨gw, 0, none⟩) c c)).run Tryz.prog w.drew = .ok cur.toList.toArray w.drew := by
    refine run_firstCells_some (P := Tryz.prog) w.drew i0.size c ⟨gw, 0, none⟩ c c cur.toList (by rw [hz1, Nat.mul_one, Array.length_toList]; exact hcs) (fun j v hv => ?_)
    have hadd : (⟨gw, 0, none⟩ : Addr).add j = ⟨gw, j, none⟩ := by unfold Addr.add; split <;> simp_all
    rw [hadd]
    have h1 := hB.drew.cell j
    rw [h1]
    simpa using hv
  have happ := Lib.run_append_grow_zeros (P := Tryz.prog) w 64 3 64 145 i0 (.int .u64 0) .i64 .i64 Tryz.underlying64 Tryz.underlying3 hi hz0 (some ⟨gw, 0, none⟩) c c cur.toList hold k (by omega) (by omega) (by omega) (by omega) (by rw [hz2]; omega) (growslice_fits (by omega) (by rw [hz2]; omega))
  have hcap : c + k ≤ grownCap w (c + k) c 145 := grownCap_ge w _ _ _
  have hcap2 : grownCap w (c + k) c 145 ≤ maxLen := grownCap_le_maxLen w _ _ _ (by simp only [maxLen]; omega)
  generalize grownCap w (c + k) c 145 = cap at happ hcap hcap2
  obtain ⟨Z, hZ⟩ : ∃ Z, Z = cur.toList.toArray ++ Builtin.zeroCells (Value.int .u64 0).cells k ++ Builtin.zeroCells (Value.int .u64 0).cells (cap - (c + k)) := ⟨_, rfl⟩
  rw [← hZ] at happ
  have hZs : Z.size = cap := by rw [hZ]; simp [size_zeroCells, Value.cells]; omega
  have HF : Hid (GrwP w l n (.returned (.slice (some ⟨w.heap.size, 0, none⟩) l cap)) (w.drew.alloc (.cells Z 145))) :=
    ⟨w.heap.size, cap, Z, rfl, Nat.le_refl _, Blk.new w.drew _ _, by omega, hcap2, hZs, (Below.mk rfl rfl rfl (Nat.le_refl _) (fun _ _ => rfl) : Below w.heap.size w w.drew).alloc (Nat.le_refl _) _⟩
  obtain ⟨z1, hz1'⟩ : ∃ z : Int, z = (c : Int) - (l : Int) := ⟨_, rfl⟩
  have hz2' : (n : Int) - z1 = (k : Int) := by omega
  have b1 : wrap64 ((c : Int) - (l : Int)) = z1 := by unfold wrap64; omega
  have b2 : IntKind.i64.wrap ((c : Int) - (l : Int)) = z1 := by rw [IntKind.wrap_i64]; omega
  have b3 : wrap64 ((n : Int) - z1) = (k : Int) := by unfold wrap64; omega
  have b4 : IntKind.i64.wrap ((n : Int) - z1) = (k : Int) := by rw [IntKind.wrap_i64]; omega
  have b5 : (0 : Int) < (k : Int) := by omega
  have b7 : 0 < k := by omega
  have b6 : ¬ (n : Int) < 0 := by omega
  have b8 : l ≤ cap := by omega
  have HA := hide happ
  clear hi hz0 hz1 hz2 hZ hZs happ hold hk hz1' hz2' hcap hcap2 h hlc hl hn hcs hB
  go_enter Tryz.func235, Tryz.ntmps235
  go_wp2_with (at_builtin; refine Lib.wpList_append_run _ rfl _ _ _ _ rfl _ _ rfl rfl _ _ HA.out ?_)
  go_ret
  exact HF.out
theorem round4 : ∀ n : Fin 24, bits .andNot .i64 ((n.val : Int) + 3) 3 = (((n.val + 3) / 4 * 4 : Nat) : Int) := by decide +kernel

/-- What slices.Grow hands the inner stack: a row with room, of which Pg tells. -/
def GrI (w : World) (off r : Nat) (Pg : Nat → Array Value → Prop) (e : Ending) (w' : World) : Prop :=
  ∃ (g cap : Nat) (cur : Array Value), e = .returned (.slice (some ⟨g, 0, none⟩) off cap) ∧ Blk w' g 145 cur ∧ off + r ≤ cap ∧ cap ≤ maxLen ∧ cur.size = cap ∧ Below w.heap.size w w' ∧ Pg g cur
/-- Behind the inner stack's nat. -/
def SinP (w : World) (gi off n r : Nat) (Pg : Nat → Array Value → Prop) (e : Ending) (w' : World) : Prop :=
  ∃ (g cap : Nat) (cur : Array Value), e = .returned (.slice (some ⟨g, off, none⟩) n n) ∧ Blk w' g 145 (cur.setIfInBounds off (.int .u64 1043915)) ∧ off + r ≤ cap ∧ cap ≤ maxLen ∧ cur.size = cap ∧ Blk w' gi 228 #[.slice (some ⟨g, 0, none⟩) (off + r) cap] ∧ Pg g cur ∧ Fr w w' (fun k => k = gi ∨ k = g)

set_option maxHeartbeats 1000000 in
set_option maxRecDepth 20000 in
theorem sin_gen (gi off n r c : Nat) (A : Option Addr) (Pg : Nat → Array Value → Prop) (w : World) (hi : Blk w gi 228 #[.slice A off c]) (hn1 : 1 ≤ n) (hn : n ≤ 20) (hr : r = (n + 3) / 4 * 4) (hoff : off ≤ 100)
    (conG : Calls Tryz.prog 235 #[.slice A off c, .int .i64 (r : Int)] w (GrI w off r Pg)) :
    Calls Tryz.prog 198 #[.pointer (some ⟨gi, 0, none⟩), .int .i64 (n : Int)] w (SinP w gi off n r Pg) := by
  have hrn : n ≤ r ∧ r ≤ 24 := by omega
  have b1 : bits .andNot .i64 ((n : Int) + 3) 3 = (r : Int) := by
    have h := round4 ⟨n, by omega⟩
    rw [hr]
    exact h
  have x0 : w.cell? ⟨gi, 0, none⟩ = some (.slice A off c) := hi.cell 0
  have Con := hide conG
  have HI := hide (And.intro hi hrn)
  obtain ⟨on, hon⟩ : ∃ z, z = off + n := ⟨_, rfl⟩
  obtain ⟨or, hor⟩ : ∃ z, z = off + r := ⟨_, rfl⟩
  have e1 : (off : Int) + (n : Int) = (on : Int) := by omega
  have e2 : (off : Int) + (r : Int) = (or : Int) := by omega
  have e3 : on - off = n := by omega
  have d1 : off ≤ on := by omega
  have d2 : on ≤ or := by omega
  have d3 : on ≤ 200 := by omega
  have d4 : or ≤ 200 := by omega
  have d5 : 0 < n := hn1
  have HO := hide (And.intro hon hor)
  clear hi conG hr hrn hon hor
  go_enter Tryz.func198, Tryz.ntmps198
  go_wp2_with fail
  refine (Con.out).mono ?_
  rintro e w1 ⟨g, cap, cur, rfl, hB, hcap, hcm, hcs, hbel, hP⟩
  have hi1 := HI.out.1.below hbel
  have y0 : w1.cell? ⟨gi, 0, none⟩ = some (.slice A off c) := hi1.cell 0
  have f0 := hi1.frozen 0
  have hgne : gi ≠ g := hi1.type_ne hB (by decide)
  have hgne' : g ≠ gi := fun h => hgne h.symm
  have d6 : or ≤ cap := by have := HO.out.2; omega
  have d8 : on ≤ cap := by omega
  have d7 : ¬ on = off := by have := HO.out.1; omega
  have hofc : off < cur.size := by have := HO.out; omega
  have z0 : w1.cell? ⟨g, off, none⟩ = some cur[off] := (hB.cell off).trans (Array.getElem?_eq_getElem hofc)
  have z1 := hB.frozen off
  obtain ⟨u0, hu0⟩ : ∃ u, u = cur[off] := ⟨_, rfl⟩
  rw [← hu0] at z0
  have HF : Hid (SinP w gi off n r Pg (.returned (.slice (some ⟨g, off, none⟩) n n)) (((w1.setCell ⟨gi, 0, none⟩ (.slice (some ⟨g, 0, none⟩) off cap)).setCell ⟨gi, 0, none⟩ (.slice (some ⟨g, 0, none⟩) or cap)).setCell ⟨g, off, none⟩ (.int .u64 1043915))) := by
    have hB3 := (((hB.far (p := ⟨gi, 0, none⟩) hgne' (.slice (some ⟨g, 0, none⟩) off cap)).far (p := ⟨gi, 0, none⟩) hgne' (.slice (some ⟨g, 0, none⟩) or cap)).set off (.int .u64 1043915))
    have hi3 := (((hi1.set 0 (.slice (some ⟨g, 0, none⟩) off cap)).set 0 (.slice (some ⟨g, 0, none⟩) or cap)).far (p := ⟨g, off, none⟩) hgne (.int .u64 1043915))
    have fr := (((Fr.refl w1 (fun k => k = gi ∨ k = g)).setCell (p := ⟨gi, 0, none⟩) (fun _ => .inl rfl) (.slice (some ⟨g, 0, none⟩) off cap)).setCell (p := ⟨gi, 0, none⟩) (fun _ => .inl rfl) (.slice (some ⟨g, 0, none⟩) or cap)).setCell (p := ⟨g, off, none⟩) (fun _ => .inr rfl) (.int .u64 1043915)
    exact ⟨g, cap, cur, rfl, hB3, hcap, hcm, hcs, by rw [← HO.out.2]; exact hi3, hP, Fr.step (Fr.of_below hbel _) fr (fun _ _ h => h)⟩
  clear hi1 hB hcap hcm hcs hbel hP hofc hu0 HI Con HO b1 x0
  go_wp2
  go_ret
  exact HF.out
end Go.Proofs.YtfkcobdkgjhfaaaGreatDoor

/- Walks: the temporary stack, with its inner part or without: save, restore and free deferred, a row of many words. -/
set_option linter.unusedVariables false
set_option linter.unusedSimpArgs false
namespace Go.Proofs.YtfkcobdkgjhfaaaGreatDoor
open Go.RowKit

/-- The stack stands: without its inner part (and s0 is 0), or with one whose row has s0 places. -/
def StkR (W : World) (gs s0 : Nat) : Prop :=
  (Blk W gs 203 #[.pointer none] ∧ s0 = 0) ∨ ∃ (gi : Nat) (A : Option Addr) (l c : Nat), Blk W gs 203 #[.pointer (some ⟨gi, 0, none⟩)] ∧ Blk W gi 228 #[.slice A l c] ∧ s0 ≤ c ∧ c ≤ maxLen
/-- The block of the stack's inner part. -/
def StkB (W : World) (gs k : Nat) : Prop := W.cell? ⟨gs, 0, none⟩ = some (.pointer (some ⟨k, 0, none⟩))
theorem StkR.zero {W : World} {gs s0 : Nat} (h : StkR W gs s0) : StkR W gs 0 := by
  rcases h with ⟨h, -⟩ | ⟨gi, A, l, c, h1, h3, -, h5⟩
  · exact .inl ⟨h, rfl⟩
  · exact .inr ⟨gi, A, l, c, h1, h3, Nat.zero_le _, h5⟩
theorem StkR.below {W W' : World} {gs s0 : Nat} (h : StkR W gs s0) (hb : Below W.heap.size W W') : StkR W' gs s0 := by
  rcases h with ⟨h, e⟩ | ⟨gi, A, l, c, e1, e3, e4, e5⟩
  · exact .inl ⟨h.below hb, e⟩
  · exact .inr ⟨gi, A, l, c, e1.below hb, e3.below hb, e4, e5⟩
/-- Rows of words are none of the stack's own blocks. -/
theorem StkR.fr {W W' : World} {gs s0 : Nat} {S : Nat → Prop} (h : StkR W gs s0) (hf : Fr W W' S) (hS : ∀ k, S k → ∃ cs, Blk W k 145 cs) : StkR W' gs s0 := by
  have no : ∀ {k : Nat} {t : TypeId} {cs : Array Value}, Blk W k t cs → t ≠ 145 → ¬ S k := fun hB ht hk => by
    obtain ⟨cs, hc⟩ := hS _ hk
    exact hB.type_ne hc ht rfl
  rcases h with ⟨h, e⟩ | ⟨gi, A, l, c, e1, e3, e4, e5⟩
  · exact .inl ⟨h.fr hf (no h (by decide)), e⟩
  · exact .inr ⟨gi, A, l, c, e1.fr hf (no e1 (by decide)), e3.fr hf (no e3 (by decide)), e4, e5⟩

theorem save_row (gs gi l c : Nat) (A : Option Addr) (w : World) (h : w.cell? ⟨gs, 0, none⟩ = some (.pointer (some ⟨gi, 0, none⟩))) (h1 : w.cell? ⟨gi, 0, none⟩ = some (.slice A l c)) :
    Calls Tryz.prog 168 #[.pointer (some ⟨gs, 0, none⟩)] w fun e w' => e = .returned (.int .i64 (l : Int)) ∧ w = w' := by
  have Con : Hid (Calls Tryz.prog 195 #[.pointer (some ⟨gi, 0, none⟩)] w fun e w' => e = .returned (.int .i64 (l : Int)) ∧ w = w') := by
    go_enter Tryz.func195, Tryz.ntmps195
    go_wp2
    go_ret
    exact ⟨rfl, rfl⟩
  clear h1
  go_enter Tryz.func168, Tryz.ntmps168
  go_wp2_with fail
  refine (Con.out).mono ?_
  rintro e w1 ⟨rfl, rfl⟩
  go_wp2
  go_ret
  exact ⟨rfl, rfl⟩
theorem sir_any (gi l c s0 : Nat) (A : Option Addr) (w : World) (h1 : Blk w gi 228 #[.slice A l c]) (hs : s0 ≤ c) (hc : c ≤ maxLen) :
    Calls Tryz.prog 194 #[.pointer (some ⟨gi, 0, none⟩), .int .i64 (s0 : Int)] w fun e w' => e = .returned (.tuple #[]) ∧ w' = w.setCell ⟨gi, 0, none⟩ (.slice A s0 c) := by
  have y0 : w.cell? ⟨gi, 0, none⟩ = some (.slice A l c) := h1.cell 0
  have f0 := h1.frozen 0
  have hs63 : s0 ≤ 9223372036854775807 := by unfold maxLen at hc; omega
  clear h1 hc
  go_enter Tryz.func194, Tryz.ntmps194
  go_wp2
  go_end0
  exact ⟨rfl, rfl⟩
theorem restoreR_deferred (gs s0 : Nat) (u : FrameMode) (w : World) (h : StkR w gs s0) :
    CallsD Tryz.prog 167 #[.pointer (some ⟨gs, 0, none⟩), .int .i64 (s0 : Int)] u w fun e u' w' => u' = u ∧ (e = .returned (.tuple #[]) ∧ StkR w' gs 0 ∧ Fr w w' (StkB w gs)) := by
  rcases h with ⟨hk, rfl⟩ | ⟨gi, A, l, c, hk, h1, hs, hc⟩
  · have h : w.cell? ⟨gs, 0, none⟩ = some (.pointer none) := hk.cell 0
    go_enter_d Tryz.func167, Tryz.ntmps167
    go_wp2
    exact bodyPost_ret (results_none rfl _ _ _) rfl ⟨rfl, .inl ⟨hk, rfl⟩, Fr.refl _ _⟩
  · have h : w.cell? ⟨gs, 0, none⟩ = some (.pointer (some ⟨gi, 0, none⟩)) := hk.cell 0
    have Con := hide (sir_any gi l c s0 A w h1 hs hc)
    have HF : Hid (StkR (w.setCell ⟨gi, 0, none⟩ (.slice A s0 c)) gs 0 ∧ Fr w (w.setCell ⟨gi, 0, none⟩ (.slice A s0 c)) (StkB w gs)) := by
      have fr := (Fr.refl w (fun k => k = gi)).setCell (p := ⟨gi, 0, none⟩) (fun _ => rfl) (.slice A s0 c)
      exact ⟨.inr ⟨gi, A, s0, c, hk.fr fr (fun e => (hk.type_ne h1 (by decide)) e), h1.set 0 _, Nat.zero_le _, hc⟩, fr.mono (fun k _ e => by have e : k = gi := e; subst e; exact h)⟩
    clear h1 hs hc hk
    go_enter_d Tryz.func167, Tryz.ntmps167
    go_wp2_with fail
    refine (Con.out).mono ?_
    rintro e w1 ⟨rfl, rfl⟩
    clear Con
    generalize w.setCell ⟨gi, 0, none⟩ (.slice A s0 c) = W1 at HF ⊢
    go_wp2
    go_end0
    exact ⟨rfl, HF.out.1, HF.out.2⟩
theorem freeR_deferred (gs : Nat) (u : FrameMode) (w : World) (h : StkR w gs 0) :
    CallsD Tryz.prog 144 #[.pointer (some ⟨gs, 0, none⟩)] u w fun e u' w' => u' = u ∧ (e = .returned (.tuple #[]) ∧ Fr w w' (StkB w gs)) := by
  rcases h with ⟨hk, -⟩ | ⟨gi, A, l, c, hk, h1, hs, hc⟩
  · have h : w.cell? ⟨gs, 0, none⟩ = some (.pointer none) := hk.cell 0
    go_enter_d Tryz.func144, Tryz.ntmps144
    go_wp2
    go_end0
    exact ⟨rfl, Fr.refl _ _⟩
  · have h : w.cell? ⟨gs, 0, none⟩ = some (.pointer (some ⟨gi, 0, none⟩)) := hk.cell 0
    have y0 : w.cell? ⟨gi, 0, none⟩ = some (.slice A l c) := h1.cell 0
    have f0 := h1.frozen 0
    have Con : Hid (Calls Tryz.prog 166 #[.pointer (some ⟨gi, 0, none⟩)] w fun e w' => e = .returned (.tuple #[]) ∧ w' = w.setCell ⟨gi, 0, none⟩ (.slice A 0 c)) := by
      clear h1 hc h hk
      go_enter Tryz.func166, Tryz.ntmps166
      go_wp2
      go_end0
      exact ⟨rfl, rfl⟩
    have HF : Hid (Fr w (w.setCell ⟨gi, 0, none⟩ (.slice A 0 c)) (StkB w gs)) := by
      have fr := (Fr.refl w (fun k => k = gi)).setCell (p := ⟨gi, 0, none⟩) (fun _ => rfl) (.slice A 0 c)
      exact fr.mono (fun k _ e => by have e : k = gi := e; subst e; exact h)
    clear h1 hs hc y0 f0 hk
    go_enter_d Tryz.func144, Tryz.ntmps144
    go_wp2_with fail
    refine (Con.out).mono ?_
    rintro e w1 ⟨rfl, rfl⟩
    clear Con
    generalize w.setCell ⟨gi, 0, none⟩ (.slice A 0 c) = W1 at HF ⊢
    go_wp2
    go_end0
    exact ⟨rfl, HF.out⟩
/-- Behind the first row of more than four words. -/
def SnI (w : World) (gs n : Nat) (e : Ending) (w' : World) : Prop :=
  ∃ (g gi cap r : Nat) (cur : Array Value), e = .returned (.slice (some ⟨g, 0, none⟩) n n) ∧ (w.heap.size ≤ g ∧ w.heap.size ≤ gi) ∧ Blk w' g 145 cur ∧ cur.size = cap ∧ cap ≤ maxLen ∧ n ≤ r ∧ r ≤ cap ∧ r ≤ 24 ∧
      Blk w' gs 203 #[.pointer (some ⟨gi, 0, none⟩)] ∧ Blk w' gi 228 #[.slice (some ⟨g, 0, none⟩) r cap] ∧ Fr w w' (fun k => k = gs)

set_option maxHeartbeats 1000000 in
set_option maxRecDepth 20000 in
/-- The first row of more than four words: the stack's inner part is made. -/
theorem snatI_nil (gs n : Nat) (w : World) (hs : Blk w gs 203 #[.pointer none]) (h5 : 5 ≤ n) (hn : n ≤ 20) :
    Calls Tryz.prog 170 #[.pointer (some ⟨gs, 0, none⟩), .int .i64 (n : Int)] w (SnI w gs n) := by
  obtain ⟨gi, hgi⟩ : ∃ g, g = w.heap.size := ⟨_, rfl⟩
  obtain ⟨W0, hW0⟩ : ∃ W, W = (w.setCell ⟨gs, 0, none⟩ (.pointer (some ⟨gi, 0, none⟩))).alloc (.cells #[.slice none 0 0] 228) := ⟨_, rfl⟩
  have hsl := hs.lt
  have hB0 : Blk W0 gi 228 #[.slice none 0 0] := by
    have h := Blk.new (w.setCell ⟨gs, 0, none⟩ (.pointer (some ⟨gi, 0, none⟩))) 228 #[.slice none 0 0]
    have e : (w.setCell ⟨gs, 0, none⟩ (.pointer (some ⟨gi, 0, none⟩))).heap.size = w.heap.size := by simp [World.setCell]
    rw [e, ← hgi] at h
    rw [hW0]; exact h
  have hs0 : Blk W0 gs 203 #[.pointer (some ⟨gi, 0, none⟩)] := by rw [hW0]; exact (hs.set 0 _).alloc _
  have hF0 : Fr w W0 (fun k => k = gs) := by rw [hW0]; exact ((Fr.refl w (fun k => k = gs)).setCell (p := ⟨gs, 0, none⟩) (fun _ => rfl) _).alloc _
  obtain ⟨r, hr⟩ : ∃ r, r = (n + 3) / 4 * 4 := ⟨_, rfl⟩
  have con := sin_gen gi 0 n r 0 none (fun g _ => W0.heap.size ≤ g) W0 hB0 (by omega) hn hr (by omega) ((growI_nil r W0 (by omega) (by omega)).mono (fun e w' ⟨g, cap, cur, h1, h2, h3, h4, h5, h6, h7⟩ => ⟨g, cap, cur, h1, h3, by omega, h5, h6, h7, h2⟩))
  unfold SinP at con
  have Con := hide con
  have x0 : w.cell? ⟨gs, 0, none⟩ = some (.pointer none) := hs.cell 0
  have f0 := hs.frozen 0
  have H := hide (And.intro hs0 (And.intro hF0 (And.intro hB0 (show n ≤ r ∧ r ≤ 24 by omega))))
  have d1 : ¬ (n : Int) ≤ 4 := by omega
  have d2 : ¬ n ≤ 4 := by omega
  have hgs : gs ≠ w.heap.size := by omega
  have HGI := hide (show w.heap.size ≤ gi by omega)
  clear con hs hB0 hs0 hF0 hr h5 hn
  go_enter Tryz.func170, Tryz.ntmps170
  go_wp2_with fail
  rw [← hgi, ← hW0]
  clear hgi hW0
  refine (Con.out).mono ?_
  rintro e w1 ⟨g, cap, cur, rfl, hB, hcap, hcm, hcs, hi, hg, hF⟩
  rw [Nat.zero_add] at hcap hi
  have hsz := H.out.2.1.size
  have hFw : Fr w w1 (fun k => k = gs) := Fr.step H.out.2.1 hF (fun i hi h => by have h : i = gi ∨ i = g := h; have := HGI.out; omega)
  have hs1 := H.out.1.fr hF (fun h => by
    rcases h with h | h
    · exact H.out.1.type_ne H.out.2.2.1 (by decide) h
    · have h1 := H.out.1.lt; have h : gs = g := h; omega)
  have HF : Hid (SnI w gs n (.returned (.slice (some ⟨g, 0, none⟩) n n)) w1) :=
    ⟨g, gi, cap, r, _, rfl, ⟨by omega, HGI.out⟩, hB, by simpa using hcs, hcm, H.out.2.2.2.1, hcap, H.out.2.2.2.2, hs1, hi, hFw⟩
  clear hB hcap hcm hcs hi hg hF hFw H Con hsz hs1
  go_wp2
  go_ret
  exact HF.out

/-- Behind a further row: it lies behind the others in the stack's row, or in a new one. -/
def SnJ (w : World) (gs gi gw off n : Nat) (cur : Array Value) (e : Ending) (w' : World) : Prop :=
  ∃ (g cap r : Nat) (cur' : Array Value), e = .returned (.slice (some ⟨g, off, none⟩) n n) ∧ Blk w' g 145 (cur'.setIfInBounds off (.int .u64 1043915)) ∧ cur'.size = cap ∧ cap ≤ maxLen ∧ off + n ≤ off + r ∧ off + r ≤ cap ∧
    ((w.heap.size ≤ g ∧ Fr w w' (fun k => k = gi)) ∨ (g = gw ∧ cur' = cur ∧ Fr w w' (fun k => k = gi ∨ k = gw))) ∧ Blk w' gs 203 #[.pointer (some ⟨gi, 0, none⟩)] ∧ Blk w' gi 228 #[.slice (some ⟨g, 0, none⟩) (off + r) cap]

set_option maxHeartbeats 1000000 in
set_option maxRecDepth 20000 in
theorem snatI_row (gs gi gw off n c : Nat) (cur : Array Value) (w : World) (hs : Blk w gs 203 #[.pointer (some ⟨gi, 0, none⟩)]) (hi : Blk w gi 228 #[.slice (some ⟨gw, 0, none⟩) off c]) (hw : Blk w gw 145 cur) (hcs : cur.size = c) (hoc : off ≤ c) (hcm : c ≤ maxLen) (hoff : off ≤ 100) (hn1 : 1 ≤ n) (hn : n ≤ 20) :
    Calls Tryz.prog 170 #[.pointer (some ⟨gs, 0, none⟩), .int .i64 (n : Int)] w (SnJ w gs gi gw off n cur) := by
  obtain ⟨r, hr⟩ : ∃ r, r = (n + 3) / 4 * 4 := ⟨_, rfl⟩
  have hgiw : gi ≠ gw := hi.type_ne hw (by decide)
  have conG : Calls Tryz.prog 235 #[.slice (some ⟨gw, 0, none⟩) off c, .int .i64 (r : Int)] w (GrI w off r (fun g cu => w.heap.size ≤ g ∨ (g = gw ∧ cu = cur))) := by
    rcases Nat.lt_or_ge c (off + r) with h | h
    · exact (growI_more gw off c r cur w hw hcs hoc h (by omega) (by omega)).mono (fun e w' ⟨g, cap, cur', h1, h2, h3, h4, h5, h6, h7⟩ => ⟨g, cap, cur', h1, h3, h4, h5, h6, h7, .inl h2⟩)
    · exact (growI_room (some ⟨gw, 0, none⟩) off c r w hcm h (by omega) (by omega)).mono (fun e w' ⟨h1, h2⟩ => by subst h2; exact ⟨gw, c, cur, h1, hw, h, hcm, hcs, Below.refl _ _, .inr ⟨rfl, rfl⟩⟩)
  have con := sin_gen gi off n r c (some ⟨gw, 0, none⟩) _ w hi hn1 hn hr hoff conG
  unfold SinP at con
  have Con := hide con
  have x0 : w.cell? ⟨gs, 0, none⟩ = some (.pointer (some ⟨gi, 0, none⟩)) := hs.cell 0
  have H := hide (And.intro hs (And.intro hi (And.intro hw (show n ≤ r by omega))))
  clear con conG hs hi hw hcs hoc hcm hoff hn1 hn hr hgiw
  go_enter Tryz.func170, Tryz.ntmps170
  go_wp2_with fail
  refine (Con.out).mono ?_
  rintro e w1 ⟨g, cap, cur', rfl, hB, hcap, hcm, hcs, hi1, hP, hF⟩
  have hs1 := H.out.1.fr hF (fun h => by
    rcases h with h | h
    · exact H.out.1.type_ne H.out.2.1 (by decide) h
    · rcases hP with h1 | ⟨h1, -⟩
      · have := H.out.1.lt; have h : gs = g := h; omega
      · exact H.out.1.type_ne H.out.2.2.1 (by decide) (h.trans h1))
  have HF : Hid (SnJ w gs gi gw off n cur (.returned (.slice (some ⟨g, off, none⟩) n n)) w1) := by
    refine ⟨g, cap, r, cur', rfl, hB, hcs, hcm, by have := H.out.2.2.2; omega, hcap, ?_, hs1, hi1⟩
    rcases hP with h1 | ⟨h1, h2⟩
    · exact .inl ⟨h1, hF.mono (fun k hk h => by rcases h with h | h; exact h; have h : k = g := h; omega)⟩
    · exact .inr ⟨h1, h2, hF.mono (fun k hk h => by rw [h1] at h; exact h)⟩
  clear hB hcap hcm hcs hi1 hP hF hs1 H Con
  go_wp2
  go_ret
  exact HF.out
end Go.Proofs.YtfkcobdkgjhfaaaGreatDoor
