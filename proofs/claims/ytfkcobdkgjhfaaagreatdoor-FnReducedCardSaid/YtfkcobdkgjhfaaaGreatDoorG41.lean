/- Parts of the proofs: Buf, IntApp. -/
import Derived.Deep.Upon
import Derived.Deep.MidRow
import Derived.Deep.RegionLawGrows
import Derived.Test.YtfkcobdkgjhfaaaGreatDoorG2
import Derived.Test.YtfkcobdkgjhfaaaGreatDoorG21
/- Buffers of bytes: a slice of the call's own, known by its cells; append of whatever is appended. -/
set_option linter.unusedVariables false
set_option linter.unusedSimpArgs false
namespace Go.Proofs.YtfkcobdkgjhfaaaGreatDoor
open Go.RowKit

/-- A slice of bytes of the call's own: what it holds, and its room. -/
def Buf (w : World) (base : Nat) (v : Value) (xs : List Nat) : Prop :=
  ∃ (A : Option Addr) (c : Nat), v = .slice A xs.length c ∧ ((A = none ∧ xs = [] ∧ c = 0) ∨ ∃ g, A = some ⟨g, 0, none⟩ ∧ base ≤ g ∧ g < w.heap.size ∧ xs.length ≤ c ∧ c ≤ maxLen ∧
    (∀ i d, xs[i]? = some d → w.cell? ⟨g, i, none⟩ = some (.int .u8 (d : Nat))) ∧ ∀ i, i < c → (w.cell? ⟨g, i, none⟩).isSome = true ∧ w.frozen? ⟨g, i, none⟩ = false)

theorem Buf.fr {w w' : World} {base : Nat} {v : Value} {xs : List Nat} {S : Nat → Prop} (h : Buf w base v xs) (hf : Fr w w' S) (hs : ∀ k, v.ownBlock = some k → ¬ S k) : Buf w' base v xs := by
  obtain ⟨A, c, rfl, h⟩ := h
  refine ⟨A, c, rfl, ?_⟩
  rcases h with h | ⟨g, rfl, h1, h2, h3, h4, h5, h6⟩
  · exact .inl h
  · have hb := hf.block g h2 (hs g rfl)
    exact .inr ⟨g, rfl, h1, Nat.lt_of_lt_of_le h2 hf.size, h3, h4, fun i d hd => (World.cell?_of_block (a := ⟨g, i, none⟩) hb).trans (h5 i d hd),
      fun i hi => ⟨by rw [World.cell?_of_block (a := ⟨g, i, none⟩) hb]; exact (h6 i hi).1, (World.frozen?_of_block (a := ⟨g, i, none⟩) hb).trans (h6 i hi).2⟩⟩
theorem Buf.below {w w' : World} {base : Nat} {v : Value} {xs : List Nat} (h : Buf w base v xs) (hb : Below w.heap.size w w') : Buf w' base v xs := h.fr (Fr.of_below hb (fun _ => False)) (fun _ _ h => h)
theorem Buf.lt {w : World} {base : Nat} {v : Value} {xs : List Nat} (h : Buf w base v xs) {k : Nat} (hk : v.ownBlock = some k) : base ≤ k ∧ k < w.heap.size := by
  obtain ⟨A, c, rfl, h⟩ := h
  rcases h with ⟨rfl, _⟩ | ⟨g, rfl, h1, h2, _⟩
  · cases hk
  · have e : g = k := by injection hk
    rw [← e]; exact ⟨h1, h2⟩
theorem Buf.slice {w : World} {base : Nat} {v : Value} {xs : List Nat} (h : Buf w base v xs) : ∃ A c, v = .slice A xs.length c := by
  obtain ⟨A, c, rfl, _⟩ := h; exact ⟨A, c, rfl⟩
theorem Buf.rd {w : World} {base : Nat} {v : Value} {xs : List Nat} (h : Buf w base v xs) : RdG .u8 w v xs := by
  obtain ⟨A, c, rfl, h⟩ := h
  rcases h with ⟨rfl, rfl, rfl⟩ | ⟨g, rfl, h1, h2, h3, h4, h5, h6⟩
  · exact .inl ⟨none, 0, rfl, rfl, Nat.zero_le _⟩
  · exact .inr ⟨g, 0, c, rfl, h3, h4, fun i hi => by
      rw [Nat.zero_add]
      have := h5 i (xs[i]) (List.getElem?_eq_getElem hi)
      rw [this, getD_at hi]⟩

theorem tape_setCells (b : Nat) : ∀ (vs : List Value) (o : Nat) (w : World), (w.setCells b o vs).tape = w.tape
  | [], _, _ => rfl
  | _ :: vs, o, w => tape_setCells b vs (o + 1) _
theorem size_setCells (b : Nat) : ∀ (vs : List Value) (o : Nat) (w : World), (w.setCells b o vs).heap.size = w.heap.size
  | [], _, _ => rfl
  | v :: vs, o, w => (size_setCells b vs (o + 1) _).trans (by simp [World.setCell])

/-- What is read can be appended. -/
theorem src_rd {w : World} {v : Value} {ys : List Nat} (h : RdG .u8 w v ys) : Src Tryz.prog 1 136 v ys.length (gv .u8 ys) w := by
  rcases h with ⟨A, c, rfl, rfl, _⟩ | ⟨g, o, c, rfl, h1, h2, h3⟩
  · cases A with
    | none => exact Src.ofNil w Tryz.underlying136 c
    | some a => exact Src.ofSlice w Tryz.underlying136 a 0 c [] (by simp) (by intro j u h; simp at h) (by intro u h; cases h)
  · refine Src.ofSlice w Tryz.underlying136 ⟨g, o, none⟩ ys.length c (gv .u8 ys) (by simp [gv]) (fun j u hj => ?_) (fun u hu => ?_)
    · have hlt : j < ys.length := by
        have := (List.getElem?_eq_some_iff.1 hj).1
        simpa [gv] using this
      rw [Addr.add_lit, h3 j hlt, getD_at hlt]
      rw [gv_at, List.getElem?_eq_getElem hlt] at hj
      simpa using hj
    · simp [gv] at hu
      obtain ⟨d, _, rfl⟩ := hu
      rfl
/-- A text's bytes can be appended. -/
theorem src_text (w : World) (ys : List Nat) (hs : ∀ d ∈ ys, d < 256) : Src Tryz.prog 1 9 (.string ⟨(ys.map UInt8.ofNat).toArray⟩) ys.length (gv .u8 ys) w := by
  have h := Src.ofString (P := Tryz.prog) w Tryz.underlying9 ⟨(ys.map UInt8.ofNat).toArray⟩
  have h1 : (⟨(ys.map UInt8.ofNat).toArray⟩ : ByteArray).size = ys.length := by simp [ByteArray.size]
  have h2 : byteCells ⟨(ys.map UInt8.ofNat).toArray⟩ = gv .u8 ys := by
    simp only [byteCells, gv, List.map_map]
    refine List.map_congr_left (fun d hd => ?_)
    have := hs d hd
    simp [UInt8.toNat_ofNat, Nat.mod_eq_of_lt this]
  rwa [h1, h2] at h

theorem append_buf {tx : TypeId} {ty : TypeId} (i : TypeInfo) (hi : Tryz.prog.info? 5 = some i) (hz : i.zero = some (.int .u8 0)) (hs1 : i.size = 1) (hb1 : i.bytes = 1) {w : World} {base : Nat} {v x : Value} {xs ys : List Nat} (h : Buf w base v xs) (hs : Src Tryz.prog 1 tx x ys.length (gv .u8 ys) w) (hb : base ≤ w.heap.size) (hl : xs.length + ys.length ≤ 1000000) :
    ∃ v' w', (Builtin.append_ #[136, tx] ty #[v, x]).run Tryz.prog w = .ok v' w' ∧ Buf w' base v' (xs ++ ys) ∧ Fr w w' (fun k => v.ownBlock = some k) ∧ ∀ k, v'.ownBlock = some k → v.ownBlock = some k ∨ w.heap.size ≤ k := by
  obtain ⟨A, c, rfl, h⟩ := h
  have hgl : (gv .u8 ys).length = ys.length := by simp [gv]
  have grow : c < xs.length + ys.length → (Builtin.firstCells i.size xs.length (.slice A xs.length c)).run Tryz.prog w.drew = .ok (gv .u8 xs).toArray w.drew →
      ∃ v' w', (Builtin.append_ #[136, tx] ty #[.slice A xs.length c, x]).run Tryz.prog w = .ok v' w' ∧ Buf w' base v' (xs ++ ys) ∧ Fr w w' (fun k => (Value.slice A xs.length c).ownBlock = some k) ∧ ∀ k, v'.ownBlock = some k → (Value.slice A xs.length c).ownBlock = some k ∨ w.heap.size ≤ k := by
    intro hc hold
    have hn := nextslicecap_le (need := xs.length + ys.length) (old := c) hc
    have hrun := run_append_grow_src (P := Tryz.prog) w 136 tx ty 5 i (.int .u8 0) Tryz.underlying136 hi hz A xs.length c (gv .u8 xs) hold x ys.length (gv .u8 ys) (by rw [hs1]; exact hs) hc (by omega) (by rw [hb1]; omega)
    have hge := grownCap_ge w (xs.length + ys.length) c 5
    have hle := grownCap_le_maxLen w (xs.length + ys.length) c 5 (by simp [maxLen]; omega)
    have hsz : ((gv .u8 xs ++ gv .u8 ys).toArray ++ Builtin.zeroCells (Value.int .u8 0).cells (grownCap w (xs.length + ys.length) c 5 - (xs.length + ys.length))).size = grownCap w (xs.length + ys.length) c 5 := by
      rw [Array.size_append, List.size_toArray, List.length_append, size_zeroCells]
      simp [gv, Value.cells]
      omega
    refine ⟨_, _, hrun, ⟨_, _, by rw [List.length_append], .inr ⟨w.heap.size, rfl, hb, by simp, by rw [List.length_append]; exact hge, hle, fun j d hj => ?_, fun j hj => ⟨?_, ?_⟩⟩⟩, ?_, fun k hk => .inr (Nat.le_of_eq (by injection hk))⟩
    · have e1 := World.cell?_alloc_new w.drew (((gv .u8 xs ++ gv .u8 ys).toArray ++ Builtin.zeroCells (Value.int .u8 0).cells (grownCap w (xs.length + ys.length) c 5 - (xs.length + ys.length)))) 5 j
      refine Eq.trans e1 ?_
      have hj' := (List.getElem?_eq_some_iff.1 hj).1
      rw [Array.getElem?_append_left (by simp [gv] at hj' ⊢; omega), List.getElem?_toArray]
      rw [show gv .u8 xs ++ gv .u8 ys = gv .u8 (xs ++ ys) by simp [gv], gv_at, hj]
      rfl
    · have e1 := World.cell?_alloc_new w.drew (((gv .u8 xs ++ gv .u8 ys).toArray ++ Builtin.zeroCells (Value.int .u8 0).cells (grownCap w (xs.length + ys.length) c 5 - (xs.length + ys.length)))) 5 j
      have e2 : (w.drew.alloc (.cells ((gv .u8 xs ++ gv .u8 ys).toArray ++ Builtin.zeroCells (Value.int .u8 0).cells (grownCap w (xs.length + ys.length) c 5 - (xs.length + ys.length))) 5)).cell? ⟨w.heap.size, j, none⟩ = _ := e1
      rw [e2, Array.getElem?_eq_getElem (by rw [hsz]; exact hj)]
      rfl
    · exact World.frozen?_alloc_new w.drew _ _ j
    · exact ((Fr.refl w _).drew).alloc _
  rcases h with ⟨rfl, rfl, rfl⟩ | ⟨g, rfl, h1, h2, h3, h4, h5, h6⟩
  · rcases Nat.eq_zero_or_pos ys.length with h0 | h0
    · have e : ys = [] := List.eq_nil_of_length_eq_zero h0
      subst e
      exact ⟨_, _, run_append_nothing (P := Tryz.prog) w _ tx ty _ i Tryz.underlying136 hi none 0 0 (Nat.le_refl _) x (by rw [hs1]; exact hs), ⟨none, 0, rfl, .inl ⟨rfl, rfl, rfl⟩⟩, Fr.refl _ _, fun k hk => .inl hk⟩
    · exact grow (by simpa using h0) (run_firstCells_none w.drew i.size 0 0 0)
  · by_cases hroom : xs.length + ys.length ≤ c
    · have hsome : ∀ j, j < (gv .u8 ys).length → (w.cell? ⟨g, xs.length + j, none⟩).isSome = true := fun j hj => (h6 _ (by omega)).1
      have hrun := run_append_room_src (P := Tryz.prog) w 136 tx ty 5 i Tryz.underlying136 hi g 0 xs.length c x ys.length (gv .u8 ys) (by rw [hs1]; exact hs) hroom (fun j hj => by rw [hs1, Nat.mul_one, Nat.zero_add]; exact hsome j hj) (fun j hj => by rw [hs1, Nat.mul_one, Nat.zero_add]; exact (h6 _ (by omega)).2)
      rw [hs1, Nat.mul_one, Nat.zero_add] at hrun
      refine ⟨_, _, hrun, ⟨_, c, by rw [List.length_append], .inr ⟨g, rfl, h1, by rw [size_setCells]; exact h2, by rw [List.length_append]; exact hroom, h4, fun j d hj => ?_, fun j hj => ⟨?_, ?_⟩⟩⟩, ?_, fun k hk => .inl hk⟩
      · by_cases hjx : j < xs.length
        · rw [World.cell?_setCells_out g _ _ _ _ (fun _ _ => Or.inl hjx)]
          rw [List.getElem?_append_left hjx] at hj
          exact h5 j d hj
        · have := World.cell?_setCells_in g (gv .u8 ys) xs.length w hsome (j - xs.length) (by
            have := (List.getElem?_eq_some_iff.1 hj).1
            rw [List.length_append] at this
            omega)
          rw [show xs.length + (j - xs.length) = j by omega] at this
          rw [this]
          rw [List.getElem?_append_right (by omega)] at hj
          have hy := (List.getElem?_eq_some_iff.1 hj)
          simp [gv]
          exact_mod_cast hy.2
      · exact World.isSome_setCells g _ _ _ _ (h6 j hj).1
      · rw [World.frozen?_setCells]; exact (h6 j hj).2
      · exact ⟨World.os_setCells _ _ _ _, tape_setCells _ _ _ _, World.output_setCells _ _ _ _, by rw [size_setCells]; exact Nat.le_refl _, fun k hk hne => World.heap_setCells_other _ _ _ _ hk (fun e => hne (by rw [e]; rfl))⟩
    · refine grow (by omega) ?_
      refine run_firstCells_some w.drew i.size xs.length ⟨g, 0, none⟩ xs.length c (gv .u8 xs) (by rw [hs1]; simp [gv]) (fun j u hu => ?_)
      rw [Addr.add_lit, Nat.zero_add]
      have hlt : j < xs.length := by
        have := (List.getElem?_eq_some_iff.1 hu).1
        simpa [gv] using this
      rw [gv_at, List.getElem?_eq_getElem hlt] at hu
      have := h5 j (xs[j]) (List.getElem?_eq_getElem hlt)
      refine Eq.trans this ?_
      simpa using hu

/-- .. for the walk. -/
theorem wp_append_buf (w : World) {ops : Array Oper} {rest : List Oper} {o : Oper} {a : Act} {Q : Exit → Act → World → Prop} (hgd : o.guard = none) (s x : Operand) (tx : TypeId)
    (ho : o.op = .call { callee := .builtin .append, args := #[s, x], argTypes := #[136, tx] })
    (i : TypeInfo) (hi : Tryz.prog.info? 5 = some i) (hz : i.zero = some (.int .u8 0)) (hs1 : i.size = 1) (hb1 : i.bytes = 1) {base : Nat} {v : Value} {xs : List Nat} (hv : a.eval s = v) (h : Buf w base v xs)
    (xv : Value) (ys : List Nat) (hx : a.eval x = xv) (hs : Src Tryz.prog 1 tx xv ys.length (gv .u8 ys) w) (hb : base ≤ w.heap.size) (hl : xs.length + ys.length ≤ 1000000)
    (hK : ∀ v' w', Buf w' base v' (xs ++ ys) → Fr w w' (fun k => v.ownBlock = some k) → (∀ k, v'.ownBlock = some k → v.ownBlock = some k ∨ w.heap.size ≤ k) → wpList Tryz.prog ops Q rest (a.put o.dst v') w') : wpList Tryz.prog ops Q (o :: rest) a w := by
  refine wpList_plain hgd fun K hK' => ?_
  obtain ⟨v', w', hrun, r1, r2, r3⟩ := append_buf (tx := tx) (ty := o.type) i hi hz hs1 hb1 h hs hb hl
  unfold Oper.wp
  simp [execOp, ho, resolve, invoke, builtin, hv, hx, hrun, Result.andThen]
  exact hK' _ _ (hK v' w' r1 r2 r3)

/-- .. as a step of a region that draws. -/
theorem step_append_buf {ops : Array Oper} {o : Oper} {a : Act} {w : World} {K : Act → World → Prop} {Q : Exit → Act → World → Prop} {E : Prop}
    (hg : o.guard = none) (s x : Operand) (tx : TypeId) (hop : o.op = Op.call { callee := Callee.builtin Builtin.append, args := #[s, x], argTypes := #[136, tx] })
    (i : TypeInfo) (hi : Tryz.prog.info? 5 = some i) (hz : i.zero = some (.int .u8 0)) (hs1 : i.size = 1) (hb1 : i.bytes = 1) {base : Nat} {v : Value} {xs : List Nat} (hv : a.eval s = v) (h : Buf w base v xs)
    (xv : Value) (ys : List Nat) (hx : a.eval x = xv) (hs : Src Tryz.prog 1 tx xv ys.length (gv .u8 ys) w) (hb : base ≤ w.heap.size) (hl : xs.length + ys.length ≤ 1000000)
    (hK : ∀ v' w', Buf w' base v' (xs ++ ys) → Fr w w' (fun k => v.ownBlock = some k) → (∀ k, v'.ownBlock = some k → v.ownBlock = some k ∨ w.heap.size ≤ k) → K (a.put o.dst v') w') :
    if Region.wanted o (yielded ops a.tmps) = true then Oper.wp Tryz.prog o a w K Q else E := by
  have hw : Region.wanted o (yielded ops a.tmps) = true := by simp [Region.wanted, hg]
  rw [if_pos hw]
  obtain ⟨v', w', hrun, r1, r2, r3⟩ := append_buf (tx := tx) (ty := o.type) i hi hz hs1 hb1 h hs hb hl
  unfold Oper.wp
  simp [execOp, hop, resolve, invoke, builtin, hv, hx, hrun, Result.andThen]
  exact hK _ _ r1 r2 r3

theorem infoBt : (Tryz.prog.info? 5).map (fun i => (i.zero, i.size, i.bytes)) = some (some (.int .u8 0), 1, 1) := by kernel_rfl
theorem u8_parts : ∃ i, Tryz.prog.info? 5 = some i ∧ i.zero = some (.int .u8 0) ∧ i.size = 1 ∧ i.bytes = 1 := by
  have h := infoBt
  cases hi : Tryz.prog.info? 5 with
  | none => rw [hi] at h; simp at h
  | some i => rw [hi] at h; simp at h; exact ⟨i, rfl, h.1, h.2.1, h.2.2⟩

/-- Behind an append: a buffer that holds ys. -/
def AppP (w : World) (base : Nat) (buf : Value) (ys : List Nat) (e : Ending) (w' : World) : Prop :=
  ∃ v', e = .returned v' ∧ Buf w' base v' ys ∧ Fr w w' (fun k => buf.ownBlock = some k) ∧ ∀ k, v'.ownBlock = some k → buf.ownBlock = some k ∨ w.heap.size ≤ k

/-- A buffer of one byte, cut to none. -/
theorem buf_one {w : World} {base : Nat} {v : Value} {d : Nat} (h : Buf w base v ([] ++ [d])) : ∃ g c, v = .slice (some ⟨g, 0, none⟩) 1 c ∧ 1 ≤ c ∧ Buf w base (.slice (some ⟨g, 0, none⟩) 0 c) [] := by
  obtain ⟨A, c, rfl, h⟩ := h
  rcases h with ⟨_, h, _⟩ | ⟨g, rfl, h1, h2, h3, h4, h5, h6⟩
  · simp at h
  · exact ⟨g, c, rfl, by simpa using h3, _, c, rfl, .inr ⟨g, rfl, h1, h2, Nat.zero_le _, h4, fun i d h => by simp at h, h6⟩⟩
end Go.Proofs.YtfkcobdkgjhfaaaGreatDoor

/- Walks: Int.Append, BigInt.Append. -/
set_option linter.unusedVariables false
set_option linter.unusedSimpArgs false
namespace Go.Proofs.YtfkcobdkgjhfaaaGreatDoor
open Go.RowKit

theorem decB_small {v : Nat} (h : (digs 18446744073709551616 v).length ≤ 8) : (decB v).length ≤ 200 := by
  rw [decB_length]
  unfold figs
  split
  · omega
  · exact digs_length_le (by omega) (Nat.lt_of_lt_of_le (lt_of_digs_length (by omega) h) (by decide))

end Go.Proofs.YtfkcobdkgjhfaaaGreatDoor
