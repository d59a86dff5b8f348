/- Parts of the proofs: KnStk4. -/
import Derived.Test.YtfkcobdkgjhfaaaGreatDoorG17
import Derived.Test.YtfkcobdkgjhfaaaGreatDoorG18
/- Walks: the stack's rows in a division: the divisor's, and the product's behind it. -/
set_option linter.unusedVariables false
set_option linter.unusedSimpArgs false
namespace Go.Proofs.YtfkcobdkgjhfaaaGreatDoor
open Go.RowKit

/-- Behind the stack's nat, while a row of words v lies in the stack or beside it. -/
def NatP (w : World) (gs s0 gv n cv nh : Nat) (vs : List Nat) (B : Nat → Prop) (e : Ending) (w' : World) : Prop :=
  ∃ (gh oh ch : Nat) (Ph row Sh : List Value), e = .returned (.slice (some ⟨gh, oh, none⟩) nh ch) ∧ oh = Ph.length ∧ row.length = nh ∧ nh ≤ ch ∧ ch ≤ maxLen ∧ Blk w' gh 145 (Ph ++ row ++ Sh).toArray ∧ (w.heap.size ≤ gh ∨ (gh = gv ∧ B gv)) ∧ (gv = gh → ∃ pad, Ph = wv vs ++ pad) ∧
    StkR w' gs s0 ∧ (∀ k, StkB w' gs k → B k ∨ w.heap.size ≤ k) ∧ RdW w' (.slice (some ⟨gv, 0, none⟩) n cv) vs ∧ Fr w w' B
theorem StkR.sb {W W' : World} {gs s0 k : Nat} (h : StkR W gs s0) (hf : Fr W W' (StkB W gs)) (hk : StkB W' gs k) : StkB W gs k := by
  have hn : ¬ StkB W gs gs := by
    intro hg
    rcases h with ⟨h, -⟩ | ⟨gi, A, l, c, h1, h3, -, -⟩
    · have h2 := h.cell 0
      unfold StkB at hg
      rw [h2] at hg
      cases hg
    · have h2 := h1.cell 0
      unfold StkB at hg
      rw [h2] at hg
      have e1 := Option.some.inj hg
      injection e1 with e1
      have e2 := Option.some.inj e1
      injection e2 with e3
      exact h1.type_ne h3 (by decide) e3.symm
  have hB : ∃ cs, Blk W gs 203 cs := by
    rcases h with ⟨h, -⟩ | ⟨gi, A, l, c, h1, -, -, -⟩
    · exact ⟨_, h⟩
    · exact ⟨_, h1⟩
  obtain ⟨cs, hB⟩ := hB
  have h1 := hB.fr hf hn
  unfold StkB at hk ⊢
  rw [h1.cell 0, ← hB.cell 0] at hk
  exact hk
theorem StkR.bne {W : World} {gs s0 k g : Nat} {cs : Array Value} (h : StkR W gs s0) (hk : StkB W gs k) (hB : Blk W g 145 cs) : g ≠ k := by
  rcases h with ⟨h, -⟩ | ⟨gi, A, l, c, h1, h3, -, -⟩
  · have h2 := h.cell 0
    unfold StkB at hk
    rw [h2] at hk
    cases hk
  · have h2 := h1.cell 0
    unfold StkB at hk
    rw [h2] at hk
    have e : gi = k := by
      have e1 := Option.some.inj hk
      injection e1 with e1
      have e2 := Option.some.inj e1
      injection e2
    subst e
    exact hB.type_ne h3 (by decide)


/-- The stack, once a division has its divisor's row: none of its own, or one that begins in block gv. -/
def StkV (W : World) (gs gv n cs : Nat) : Prop :=
  (Blk W gs 203 #[.pointer none] ∧ n ≤ 4) ∨ ∃ gi r, Blk W gs 203 #[.pointer (some ⟨gi, 0, none⟩)] ∧ Blk W gi 228 #[.slice (some ⟨gv, 0, none⟩) r cs] ∧ n ≤ r ∧ r ≤ cs ∧ r ≤ 24
theorem StkV.fr {W W' : World} {gs gv n cs : Nat} {S : Nat → Prop} (h : StkV W gs gv n cs) (hf : Fr W W' S) (hS : ∀ k, S k → k < W.heap.size → ∃ cs, Blk W k 145 cs) : StkV W' gs gv n cs := by
  have no : ∀ {k : Nat} {t : TypeId} {cs : Array Value}, Blk W k t cs → t ≠ 145 → ¬ S k := fun hB ht hk => by
    obtain ⟨cs, hc⟩ := hS _ hk hB.lt
    exact hB.type_ne hc ht rfl
  rcases h with ⟨h, e⟩ | ⟨gi, r, e1, e3, e4⟩
  · exact .inl ⟨h.fr hf (no h (by decide)), e⟩
  · exact .inr ⟨gi, r, e1.fr hf (no e1 (by decide)), e3.fr hf (no e3 (by decide)), e4⟩
theorem StkV.sb {W W' : World} {gs gv n cs k : Nat} {S : Nat → Prop} (h : StkV W gs gv n cs) (hf : Fr W W' S) (hS : ∀ k, S k → k < W.heap.size → ∃ cs, Blk W k 145 cs) (hk : StkB W' gs k) : StkB W gs k := by
  have hB : ∃ v, Blk W gs 203 #[v] := by
    rcases h with ⟨h, -⟩ | ⟨gi, r, h1, -⟩
    · exact ⟨_, h⟩
    · exact ⟨_, h1⟩
  obtain ⟨v, hB⟩ := hB
  have h1 := hB.fr hf (fun hk => by
    obtain ⟨cs, hc⟩ := hS _ hk hB.lt
    exact hB.type_ne hc (by decide) rfl)
  unfold StkB at hk ⊢
  rw [h1.cell 0, ← hB.cell 0] at hk
  exact hk
theorem stkB_eq {W : World} {gs gi k : Nat} (h : Blk W gs 203 #[.pointer (some ⟨gi, 0, none⟩)]) (hk : StkB W gs k) : k = gi := by
  unfold StkB at hk
  rw [h.cell 0] at hk
  have e1 := Option.some.inj hk
  injection e1 with e1
  have e2 := Option.some.inj e1
  injection e2 with e3
  exact e3.symm
theorem stkB_nil {W : World} {gs k : Nat} (h : Blk W gs 203 #[.pointer none]) (hk : StkB W gs k) : False := by
  unfold StkB at hk
  rw [h.cell 0] at hk
  cases hk
theorem StkR.sf {W W' : World} {gs s0 k : Nat} {S : Nat → Prop} (h : StkR W gs s0) (hf : Fr W W' S) (hS : ∀ k, S k → k < W.heap.size → ∃ cs, Blk W k 145 cs) (hk : StkB W' gs k) : StkB W gs k := by
  have hB : ∃ v, Blk W gs 203 #[v] := by
    rcases h with ⟨h, -⟩ | ⟨gi, A, l, c, h1, -, -, -⟩
    · exact ⟨_, h⟩
    · exact ⟨_, h1⟩
  obtain ⟨v, hB⟩ := hB
  have h1 := hB.fr hf (fun hk => by
    obtain ⟨cs, hc⟩ := hS _ hk hB.lt
    exact hB.type_ne hc (by decide) rfl)
  unfold StkB at hk ⊢
  rw [h1.cell 0, ← hB.cell 0] at hk
  exact hk
theorem StkV.bne {W : World} {gs gv n c k g : Nat} {cs : Array Value} (h : StkV W gs gv n c) (hk : StkB W gs k) (hB : Blk W g 145 cs) : g ≠ k := by
  rcases h with ⟨h, -⟩ | ⟨gi, r, h1, h3, -⟩
  · exact (stkB_nil h hk).elim
  · rw [stkB_eq h1 hk]
    exact hB.type_ne h3 (by decide)

/-- Behind the row of a division's divisor. -/
def SnV (w : World) (gs n : Nat) (e : Ending) (w' : World) : Prop :=
  ∃ (gv cap : Nat) (cur : Array Value), e = .returned (.slice (some ⟨gv, 0, none⟩) n cap) ∧ w.heap.size ≤ gv ∧ Blk w' gv 145 cur ∧ n ≤ cap ∧ cap ≤ cur.size ∧ cur.size ≤ maxLen ∧ StkV w' gs gv n cur.size ∧ (∀ k, StkB w' gs k → w.heap.size ≤ k) ∧ Fr w w' (fun k => k = gs)

theorem snatV_any (gs n : Nat) (w : World) (hs : Blk w gs 203 #[.pointer none]) (h1 : 1 ≤ n) (hn : n ≤ 14) :
    Calls Tryz.prog 170 #[.pointer (some ⟨gs, 0, none⟩), .int .i64 (n : Int)] w (SnV w gs n) := by
  rcases Nat.lt_or_ge n 5 with h | h
  · refine (snat_few gs n w (hs.cell 0) h1 (by omega)).mono ?_
    rintro e w' ⟨g, cap, cur, rfl, hg, hB, hnc, hcm, hcs, hb⟩
    have hs' := hs.below hb
    exact ⟨g, cap, cur, rfl, hg, hB, hnc, by omega, by omega, .inl ⟨hs', by omega⟩, fun k hk => (stkB_nil hs' hk).elim, Fr.of_below hb _⟩
  · refine (snatI_nil gs n w hs h (by omega)).mono ?_
    rintro e w' ⟨g, gi, cap, r, cur, rfl, ⟨hg, hgi⟩, hB, hcs, hcm, hnr, hrc, hr, h1, h2, hf⟩
    refine ⟨g, n, cur, rfl, hg, hB, Nat.le_refl _, by omega, by omega, .inr ⟨gi, r, h1, by rw [hcs]; exact h2, hnr, by omega, hr⟩, fun k hk => by rw [stkB_eq h1 hk]; exact hgi, hf⟩
theorem natP_any (gs gv n cv : Nat) (vs : List Nat) (Sv : List Value) (W : World) (hst : StkV W gs gv n (vs.length + Sv.length)) (hv : Blk W gv 145 (wv vs ++ Sv).toArray) (hvl : vs.length = n) (hn2 : 2 ≤ n) (hn : n ≤ 14) (hcv : n ≤ cv) (hcm : vs.length + Sv.length ≤ maxLen) (hcvm : cv ≤ maxLen) :
    ∃ s0 : Nat, Calls Tryz.prog 168 #[.pointer (some ⟨gs, 0, none⟩)] W (fun e w' => e = .returned (.int .i64 (s0 : Int)) ∧ W = w') ∧
      Calls Tryz.prog 170 #[.pointer (some ⟨gs, 0, none⟩), .int .i64 ((n + 1 : Nat) : Int)] W (NatP W gs s0 gv n cv (n + 1) vs (fun k => (k = gs ∨ k = gv) ∨ StkB W gs k)) := by
  have hrv : RdW W (.slice (some ⟨gv, 0, none⟩) n cv) vs := rd_part (P := []) (by simpa using hv) rfl hvl.symm hcv hcvm
  have hgl := hv.lt
  rcases hst with ⟨hs, -⟩ | ⟨gi, r, h1, h2, h3, h4, h5⟩
  · have hsv : gs ≠ gv := hs.type_ne hv (by decide)
    refine ⟨0, save_nil gs W (hs.cell 0), ?_⟩
    rcases Nat.lt_or_ge n 4 with h | h
    · refine (snat_few gs (n + 1) W (hs.cell 0) (by omega) (by omega)).mono ?_
      rintro e w' ⟨g, cap, cur, rfl, hg, hB, hnc, hcm, hcs, hb⟩
      have hs' := hs.below hb
      refine ⟨g, 0, cap, [], cur.toList.take (n + 1), cur.toList.drop (n + 1), rfl, rfl, by rw [List.length_take, Array.length_toList]; omega, hnc, hcm, by simpa [List.take_append_drop] using hB, .inl hg, fun h => by omega, .inl ⟨hs', rfl⟩, fun k hk => (stkB_nil hs' hk).elim, RdG.below (k := .u64) hrv hb, Fr.of_below hb _⟩
    · refine (snatI_nil gs (n + 1) W hs (by omega) (by omega)).mono ?_
      rintro e w' ⟨g, gi, cap, r, cur, rfl, ⟨hg, hgi⟩, hB, hcs, hcm, hnr, hrc, hr, h1, h2, hf⟩
      refine ⟨g, 0, n + 1, [], cur.toList.take (n + 1), cur.toList.drop (n + 1), rfl, rfl, by rw [List.length_take, Array.length_toList]; omega, Nat.le_refl _, by unfold maxLen; omega, by simpa [List.take_append_drop] using hB, .inl hg, fun h => by omega, .inr ⟨gi, _, r, cap, h1, h2, Nat.zero_le _, hcm⟩, fun k hk => .inr (by rw [stkB_eq h1 hk]; exact hgi), hrv.fr hf (fun k hk h => by have hk' : gv = k := (by injection hk); have h' : k = gs := h; omega), hf.mono (fun k _ h => .inl (.inl h))⟩
  · refine ⟨r, save_row gs gi r _ _ W (h1.cell 0) (h2.cell 0), ?_⟩
    have hcs : (wv vs ++ Sv).toArray.size = vs.length + Sv.length := by simp [wv_length]
    have hgb : StkB W gs gi := h1.cell 0
    refine (snatI_row gs gi gv r (n + 1) (vs.length + Sv.length) _ W h1 h2 hv hcs h4 hcm (by omega) (by omega) (by omega)).mono ?_
    rintro e w' ⟨g, cap, r', cur', rfl, hB, hcs', hcm', h6, h7, hP, h8, h9⟩
    obtain ⟨cu, hcu⟩ : ∃ cu, cu = cur'.setIfInBounds r (.int .u64 1043915) := ⟨_, rfl⟩
    have hcl : cu.toList.length = cap := by rw [hcu, Array.length_toList, Array.size_setIfInBounds]; exact hcs'
    rw [← hcu] at hB
    have hB2 : Blk w' g 145 (cu.toList.take r ++ (cu.toList.drop r).take (n + 1) ++ cu.toList.drop (r + (n + 1))).toArray := by
      rw [← List.drop_drop, List.append_assoc, List.take_append_drop, List.take_append_drop]
      simpa using hB
    have hpad : g = gv → cur' = (wv vs ++ Sv).toArray → ∃ pad, cu.toList.take r = wv vs ++ pad := by
      intro _ e
      refine ⟨Sv.take (r - n), ?_⟩
      rw [hcu, e, List.setIfInBounds_toArray, List.take_set_of_le (Nat.le_refl _), List.take_append, wv_length, List.take_of_length_le (by rw [wv_length]; omega), hvl]
    have hst' : StkR w' gs r := .inr ⟨gi, _, r + r', cap, h8, h9, by omega, hcm'⟩
    refine ⟨g, r, n + 1, cu.toList.take r, (cu.toList.drop r).take (n + 1), cu.toList.drop (r + (n + 1)), rfl, by rw [List.length_take, hcl]; omega, by rw [List.length_take, List.length_drop, hcl]; omega, Nat.le_refl _, by unfold maxLen; omega, hB2, ?_, ?_, hst', fun k hk => .inl (.inr (by rw [stkB_eq h8 hk]; exact hgb)), ?_, ?_⟩
    · rcases hP with ⟨h, -⟩ | ⟨h, -, -⟩
      · exact .inl h
      · exact .inr ⟨h, .inl (.inr rfl)⟩
    · intro hg
      rcases hP with ⟨h, -⟩ | ⟨h, he, -⟩
      · omega
      · exact hpad h he
    · rcases hP with ⟨h, hf⟩ | ⟨h, he, hf⟩
      · exact hrv.fr hf (fun k hk h => by have hk' : gv = k := (by injection hk); have h' : k = gi := h; have := h2.type_ne hv (by decide); omega)
      · obtain ⟨pad, hp⟩ := hpad h he
        rw [hp, h, List.append_assoc, List.append_assoc] at hB2
        exact rd_part (P := []) (S := pad ++ ((cu.toList.drop r).take (n + 1) ++ cu.toList.drop (r + (n + 1)))) (by simpa [List.append_assoc] using hB2) rfl hvl.symm hcv hcvm
    · rcases hP with ⟨h, hf⟩ | ⟨h, he, hf⟩
      · exact hf.mono (fun k _ hk => .inr (by have hk : k = gi := hk; rw [hk]; exact hgb))
      · exact hf.mono (fun k _ hk => by rcases hk with hk | hk; exact .inr (by rw [hk]; exact hgb); exact .inl (.inr hk))
end Go.Proofs.YtfkcobdkgjhfaaaGreatDoor
