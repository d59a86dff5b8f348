/- Parts of the proofs: Itoa1, KnVarD, KnDiv3. -/
import Derived.Test.YtfkcobdkgjhfaaaGreatDoorG2
import Derived.Test.YtfkcobdkgjhfaaaGreatDoorG13
import Derived.Test.YtfkcobdkgjhfaaaGreatDoorG22
import Derived.Test.YtfkcobdkgjhfaaaGreatDoorG25
import Derived.Test.YtfkcobdkgjhfaaaGreatDoorG26
/- Walks: a number's figures as bytes: maxPow, divisors, convertWords at few words. -/
set_option linter.unusedVariables false
set_option linter.unusedSimpArgs false
namespace Go.Proofs.YtfkcobdkgjhfaaaGreatDoor
open Go.RowKit

set_option maxRecDepth 20000 in
theorem maxPow_ten (w : World) : Calls Tryz.prog 248 #[.int .u64 10] w fun e w' => e = .returned (.tuple #[.int .u64 10000000000000000000, .int .i64 19]) ∧ w = w' := by
  go_enter Tryz.func248, Tryz.ntmps248
  go_wp2
  go_loop [2, 3] (fun p n => ∃ k : Nat, 1 ≤ k ∧ k ≤ 19 ∧ n = .int .i64 (k : Int) ∧ p = .int .u64 ((10 ^ k : Nat) : Int)) (fun _ n => 19 - (intOf n).toNat)
  case atStart => exact ⟨1, by omega, by omega, rfl, rfl⟩
  case round =>
    obtain ⟨k, h1, h2, rfl, rfl⟩ := hrel
    by_cases h : k = 19
    · subst h
      go_wp2
      go_ret2
      exact ⟨rfl, rfl⟩
    · have hp : 10 ^ k ≤ 10 ^ 18 := Nat.pow_le_pow_right (by omega) (by omega)
      have hle : ((10 ^ k : Nat) : Int) ≤ 1844674407370955161 := by omega
      have hw : IntKind.u64.wrap (((10 ^ k : Nat) : Int) * 10) = ((10 ^ (k + 1) : Nat) : Int) := by rw [Nat.pow_succ, IntKind.wrap_u64]; omega
      have hw2 : ((10 ^ k : Nat) : Int) * 10 = ((10 ^ (k + 1) : Nat) : Int) := by rw [Nat.pow_succ]; omega
      obtain ⟨p2, hp2⟩ : ∃ p2, p2 = 10 ^ (k + 1) := ⟨_, rfl⟩
      rw [← hp2] at hw hw2
      have HP := hide hp2
      clear hp2 hp
      generalize 10 ^ k = p at *
      go_wp2
      go_round
      case rel => exact ⟨k + 1, by omega, by omega, by go_num, by rw [← HP.out]⟩
      case measure => simp [intOf]; omega

/-- The thresholds, and how many words are written without a table. -/
structure VarsL (w : World) (base : Nat) : Prop where
  v : Vars w base
  c : w.cell? ⟨6, 0, none⟩ = some (.int .i64 8)
  l : 6 < base
theorem VarsL.fr {w w' : World} {base : Nat} {S : Nat → Prop} (h : VarsL w base) (hf : Fr w w' S) (hs : ∀ k, S k → base ≤ k) : VarsL w' base :=
  ⟨h.v.fr hf hs, hf.cell h.c (fun hk => by have h1 : base ≤ 6 := hs _ hk; have := h.l; omega), h.l⟩
theorem VarsL.below {w w' : World} {base : Nat} (h : VarsL w base) (hb : Below w.heap.size w w') : VarsL w' base := h.fr (Fr.of_below hb (fun _ => False)) (fun _ h => h.elim)
theorem VarsL.raise {w : World} {base b : Nat} (h : VarsL w base) (hb : base ≤ b) : VarsL w b := ⟨h.v.raise hb, h.c, by have := h.l; omega⟩

theorem divisors_few (stk : Value) (m n bb : Int) (w : World) (base : Nat) (hv : VarsL w base) (hm : m ≤ 8) (hm0 : 0 ≤ m) : Calls Tryz.prog 249 #[stk, .int .i64 m, .int .u64 10, .int .i64 n, .int .u64 bb] w fun e w' => e = .returned (.slice none 0 0) ∧ w = w' := by
  have c := hv.c
  clear hv
  have hd : decide (m ≤ 8) = true := decide_eq_true hm
  go_enter Tryz.func249, Tryz.ntmps249
  go_wp2
  go_ret
  exact ⟨rfl, rfl⟩

/-- What is written so far: the figures from place i on, and what is left of the number. -/
structure CvS (w : World) (base gs gq l n i t lq cq : Nat) (W : World) : Prop where
  own : Own W base (.slice (some ⟨gq, 0, none⟩) lq cq) (digs 18446744073709551616 (n / 10 ^ t))
  row : ∃ cs, cs.length = l ∧ OwnG 5 .u8 W base (.slice (some ⟨gs, 0, none⟩) l l) cs ∧ cs.drop i = (itRow l n).drop i
  at_ : i + t = l ∨ (i = 0 ∧ l ≤ t)
  fr : Fr w W (fun k => k = gs ∨ k = gq)

theorem row_step {l n i d : Nat} {cs : List Nat} (hl : cs.length = l) (hi : i < l) (h : cs.drop (i + 1) = (itRow l n).drop (i + 1)) (hd : d = (itRow l n).getD i 0) : (cs.set i d).drop i = (itRow l n).drop i := by
  rw [List.drop_eq_getElem_cons (by simpa [hl] using hi), List.getElem_set_self, List.drop_set_of_lt (by omega), h, hd, getD_at (by rw [itRow_length]; exact hi), ← List.drop_eq_getElem_cons (by rw [itRow_length]; exact hi)]

/-- Within a round: j figures of the word's 19 are written. -/
structure CvI (w : World) (base gs gq l n t i j lq cq r : Nat) (W : World) : Prop where
  own : Own W base (.slice (some ⟨gq, 0, none⟩) lq cq) (digs 18446744073709551616 (n / 10 ^ (t + 19)))
  row : ∃ cs, cs.length = l ∧ OwnG 5 .u8 W base (.slice (some ⟨gs, 0, none⟩) l l) cs ∧ cs.drop i = (itRow l n).drop i
  at_ : i + (t + j) = l
  j19 : j ≤ 19
  rv : r = n / 10 ^ t % 10 ^ 19 / 10 ^ j
  fr : Fr w W (fun k => k = gs ∨ k = gq)

theorem CvI.step {w W : World} {base gs gq l n t i j lq cq r : Nat} (h : CvI w base gs gq l n t (i + 1) j lq cq r W) (hj : j < 19) (hgs : gs ≠ gq) :
    (∃ u, W.cell? ⟨gs, i, none⟩ = some u) ∧ W.frozen? ⟨gs, i, none⟩ = false ∧ CvI w base gs gq l n t i (j + 1) lq cq (r / 10) (W.setCell ⟨gs, i, none⟩ (.int .u8 ((48 + r % 10 : Nat) : Int))) := by
  obtain ⟨cs, hl, ho, hd⟩ := h.row
  have ha := h.at_
  obtain ⟨g, e, _, _, hc, hf⟩ := ho.block (by omega)
  injection e with e; injection e with e
  subst e
  refine ⟨⟨_, hc i (by omega)⟩, hf i, ⟨?_, ⟨_, by simpa using hl, ho.set i _ (by omega), ?_⟩, by omega, hj, ?_, ?_⟩⟩
  · exact h.own.fr (Fr.setCell (Fr.refl W (fun k => k = gs)) (p := ⟨gs, i, none⟩) (fun _ => rfl) _) (fun k hk e => by simp [Value.ownBlock] at hk; omega)
  · refine row_step hl (by omega) hd ?_
    rw [itRow_at (by omega), h.rv, fig_step _ _ _ hj, show l - 1 - i = t + j by omega]
  · rw [h.rv, Nat.div_div_eq_div_mul, ← Nat.pow_succ]
  · exact h.fr.setCell (p := ⟨gs, i, none⟩) (fun _ => .inl rfl) _

theorem CvI.end_ {w W : World} {base gs gq l n t i j lq cq r : Nat} (h : CvI w base gs gq l n t i j lq cq r W) (he : j = 19 ∨ i = 0) : CvS w base gs gq l n i (t + 19) lq cq W := by
  have ha := h.at_
  have hj := h.j19
  refine ⟨h.own, h.row, ?_, h.fr⟩
  rcases he with he | he <;> omega

/-- Behind convertWords: the figures, noughts ahead of them. -/
def CvP (w : World) (base gs gq l n : Nat) (e : Ending) (w' : World) : Prop :=
  e = .returned (.tuple #[]) ∧ OwnG 5 .u8 w' base (.slice (some ⟨gs, 0, none⟩) l l) (itRow l n) ∧ Fr w w' (fun k => k = gs ∨ k = gq)

theorem CvS.pos {w W : World} {base gs gq l n i t lq cq : Nat} (h : CvS w base gs gq l n i t lq cq W) (hn : n < 10 ^ l) (hq : 0 < lq) : i + t = l ∧ 0 < i ∧ 0 < n / 10 ^ t := by
  have hl := (own_caps h.own).1
  have hp : 0 < n / 10 ^ t := by
    rcases Nat.eq_zero_or_pos (n / 10 ^ t) with h0 | h0
    · rw [h0, digs_zero] at hl; simp at hl; omega
    · exact h0
  have hlt : t < l := by
    rcases Nat.lt_or_ge t l with h1 | h1
    · exact h1
    · rw [Nat.div_eq_of_lt (Nat.lt_of_lt_of_le hn (Nat.pow_le_pow_right (by omega) h1))] at hp; omega
  rcases h.at_ with h1 | ⟨h1, h2⟩
  · exact ⟨h1, by omega, hp⟩
  · omega

theorem CvS.begin {w W W1 : World} {base gs gq l n i t lq cq lq1 cq1 r : Nat} (h : CvS w base gs gq l n i t lq cq W) (hit : i + t = l) (hgs : gs ≠ gq) (ho : Own W1 base (.slice (some ⟨gq, 0, none⟩) lq1 cq1) (digs 18446744073709551616 (n / 10 ^ (t + 19)))) (hr : r = n / 10 ^ t % 10 ^ 19) (hf : Fr W W1 (fun k => k = gq)) : CvI w base gs gq l n t i 0 lq1 cq1 r W1 := by
  obtain ⟨cs, h1, h2, h3⟩ := h.row
  refine ⟨ho, ⟨cs, h1, h2.fr hf (fun k hk e => ?_), h3⟩, by omega, by omega, by rw [hr]; simp, Fr.step h.fr hf (fun _ _ e => .inr e)⟩
  simp [Value.ownBlock] at hk; omega

/-- Only noughts are left to write. -/
structure CvZ (w : World) (base gs gq l n i : Nat) (W : World) : Prop where
  row : ∃ cs, cs.length = l ∧ OwnG 5 .u8 W base (.slice (some ⟨gs, 0, none⟩) l l) cs ∧ cs.drop i = (itRow l n).drop i
  zero : ∀ p, p < i → (itRow l n).getD p 0 = 48
  fr : Fr w W (fun k => k = gs ∨ k = gq)
theorem CvS.zeros {w W : World} {base gs gq l n i t lq cq : Nat} (h : CvS w base gs gq l n i t lq cq W) (hi : i ≤ l) (h0 : lq = 0) : CvZ w base gs gq l n i W := by
  have hl := (own_caps h.own).1
  have hp : n / 10 ^ t = 0 := by
    rcases Nat.eq_zero_or_pos (n / 10 ^ t) with h1 | h1
    · exact h1
    · have := List.length_pos_iff.2 (digs_ne_nil (b := 18446744073709551616) (by omega) h1); omega
  refine ⟨h.row, fun p hpi => ?_, h.fr⟩
  rw [itRow_at (by omega)]
  rcases h.at_ with h1 | ⟨h1, h2⟩
  · have : n < 10 ^ t := by rcases (Nat.div_eq_zero_iff).1 hp with h2 | h2; (have := Nat.pow_pos (n := t) (show 0 < 10 by omega); omega); exact h2
    rw [Nat.div_eq_of_lt (Nat.lt_of_lt_of_le this (Nat.pow_le_pow_right (by omega) (by omega)))]
  · omega
theorem CvZ.step {w W : World} {base gs gq l n i : Nat} (h : CvZ w base gs gq l n (i + 1) W) (hi : i + 1 ≤ l) :
    (∃ u, W.cell? ⟨gs, i, none⟩ = some u) ∧ W.frozen? ⟨gs, i, none⟩ = false ∧ CvZ w base gs gq l n i (W.setCell ⟨gs, i, none⟩ (.int .u8 48)) := by
  obtain ⟨cs, hl, ho, hd⟩ := h.row
  obtain ⟨g, e, _, _, hc, hf⟩ := ho.block (by omega)
  injection e with e; injection e with e
  subst e
  refine ⟨⟨_, hc i (by omega)⟩, hf i, ⟨⟨_, by simpa using hl, ho.set i 48 (by omega), row_step hl (by omega) hd (h.zero i (by omega)).symm⟩, fun p hp => h.zero p (by omega), ?_⟩⟩
  exact h.fr.setCell (p := ⟨gs, i, none⟩) (fun _ => .inl rfl) _
theorem CvZ.end_ {w W : World} {base gs gq l n : Nat} (h : CvZ w base gs gq l n 0 W) : CvP w base gs gq l n (.returned (.tuple #[])) W := by
  obtain ⟨cs, hl, ho, hd⟩ := h.row
  rw [List.drop_zero, List.drop_zero] at hd
  subst hd
  exact ⟨rfl, ho, h.fr⟩

theorem fig_facts (r : Nat) (hr : r < 10000000000000000000) : ∃ q m d : Nat, q = r / 10 ∧ d = r % 10 ∧ (r : Int) / 10 = (q : Int) ∧ IntKind.u64.wrap (q : Int) = (q : Int) ∧ (q : Int) * 10 = (m : Int) ∧ IntKind.u64.wrap (m : Int) = (m : Int) ∧ IntKind.u64.wrap ((r : Int) - (m : Int)) = (d : Int) ∧ (r : Int) - (m : Int) = (d : Int) ∧ IntKind.u8.wrap (d : Int) = (d : Int) ∧ IntKind.u8.wrap (48 + (d : Int)) = ((48 + d : Nat) : Int) ∧ d ≤ 9 := by
  refine ⟨r / 10, r / 10 * 10, r % 10, rfl, rfl, by omega, ?_, by omega, ?_, ?_, by omega, ?_, ?_, by omega⟩
  · rw [IntKind.wrap_u64]; omega
  · rw [IntKind.wrap_u64]; omega
  · rw [IntKind.wrap_u64]; omega
  · simp [IntKind.wrap, IntKind.signed, IntKind.bits]; omega
  · simp [IntKind.wrap, IntKind.signed, IntKind.bits]; omega

set_option maxHeartbeats 2000000 in
set_option maxRecDepth 20000 in
theorem convW_any (base gs gq l n lq cq bb : Nat) (stk : Value) (w : World) (hq : Own w base (.slice (some ⟨gq, 0, none⟩) lq cq) (digs 18446744073709551616 n)) (hs : ∃ cs, cs.length = l ∧ OwnG 5 .u8 w base (.slice (some ⟨gs, 0, none⟩) l l) cs) (hne : gs ≠ gq) (hn : n < 10 ^ l) (hl : l ≤ 100000) (hlq : lq ≤ 100000) (hbb : bb = 10000000000000000000) :
    Calls Tryz.prog 250 #[.slice (some ⟨gq, 0, none⟩) lq cq, stk, .slice (some ⟨gs, 0, none⟩) l l, .int .u64 10, .int .i64 19, .int .u64 (bb : Int), .slice none 0 0] w (CvP w base gs gq l n) := by
  have HS0 : Hid (CvS w base gs gq l n l 0 lq cq w) := by
    obtain ⟨cs, h1, h2⟩ := hs
    exact ⟨by simpa using hq, ⟨cs, h1, h2, by rw [List.drop_of_length_le (by omega), List.drop_of_length_le (by rw [itRow_length]; omega)]⟩, .inl (by omega), Fr.refl _ _⟩
  have HN := hide (And.intro hn (And.intro hne hbb))
  clear hq hs hn hne hbb
  go_enter Tryz.func250, Tryz.ntmps250
  go_wp2
  go_loopw [0, 19] (fun vq vi wr => ∃ (i t lq cq : Nat), i ≤ l ∧ lq ≤ 100000 ∧ vi = .int .i64 (i : Int) ∧ vq = .slice (some ⟨gq, 0, none⟩) lq cq ∧ Hid (CvS w base gs gq l n i t lq cq wr)) (fun _ vi _ => (intOf vi).toNat)
  case atStart => exact ⟨l, 0, lq, cq, Nat.le_refl _, hlq, rfl, rfl, HS0⟩
  case round =>
    obtain ⟨i, t, lq', cq', hi, hlq', rfl, rfl, HR⟩ := hrel
    by_cases h0 : lq' = 0
    · have HZ := hide (HR.out.zeros hi h0)
      subst h0
      clear HR HS0
      go_wp2
      go_loopw [19] (fun vi wr => ∃ i : Nat, i ≤ l ∧ vi = .int .i64 (i : Int) ∧ Hid (CvZ w base gs gq l n i wr)) (fun vi _ => (intOf vi).toNat)
      case atStart => exact ⟨i, hi, rfl, HZ⟩
      case round =>
        obtain ⟨i, hi, rfl, HZ⟩ := hrel
        rcases Nat.eq_zero_or_pos i with rfl | hp
        · have HF := hide (HZ.out.end_)
          go_wp2
          go_end0
          exact HF.out
        · obtain ⟨i, rfl⟩ : ∃ j, i = j + 1 := ⟨i - 1, by omega⟩
          obtain ⟨⟨u, k1⟩, k2, hz⟩ := HZ.out.step hi
          have HZ2 := hide hz
          have e1 : ((i + 1 : Nat) : Int) - 1 = (i : Int) := by omega
          clear hz HZ
          go_wp2
          go_roundw
          case rel => exact ⟨i, by omega, by go_num, HZ2⟩
          case measure => simp [intOf]
    · obtain ⟨hit, hip, hnp⟩ := HR.out.pos HN.out.1 (by omega)
      have con := divWi_any base gq lq' cq' bb _ wr HR.out.own (by omega) (by omega) (by have := HN.out.2.2; omega) (by have := HN.out.2.2; omega) (dig_digs (by omega) _)
      rw [dval_digs (by omega)] at con
      have Con := hide con
      have hl0 : (0 : Int) < (lq' : Int) := by omega
      have hl1 : 0 < lq' := by omega
      clear con HS0
      go_wp2_with fail
      refine (Con.out).mono ?_
      rintro e w3 ⟨rfl, hown, hfr⟩
      have e1 : n / 10 ^ t / bb = n / 10 ^ (t + 19) := by rw [HN.out.2.2, Nat.div_div_eq_div_mul, Nat.pow_add]
      have e2 : n / 10 ^ t % bb = n / 10 ^ t % 10 ^ 19 := by rw [HN.out.2.2]
      rw [e1] at hown ⊢
      rw [e2]
      obtain ⟨r, hr⟩ : ∃ r, r = n / 10 ^ t % 10 ^ 19 := ⟨_, rfl⟩
      have hI := HR.out.begin hit HN.out.2.1 hown hr hfr
      have hrl : r < 10000000000000000000 := by rw [hr]; exact Nat.mod_lt _ (by omega)
      have hlq2 : (digs 18446744073709551616 (n / 10 ^ (t + 19))).length ≤ 100000 := by
        have := (own_caps HR.out.own).1
        have h2 : n / 10 ^ (t + 19) ≤ n / 10 ^ t := by rw [← e1]; exact Nat.div_le_self _ _
        have := digs_length_mono (b := 18446744073709551616) (by omega) h2
        omega
      rw [← hr]
      have HI := hide hI
      have HT := hide (And.intro hit hip)
      clear hI hown hfr e1 e2 hr Con HR h0 hl0 hl1 hlq' hit hip hnp
      generalize (digs 18446744073709551616 (n / 10 ^ (t + 19))).length = lq2 at HI hlq2 ⊢
      go_wp2
      go_loopw [19, 20, 21] (fun vi vr vj wr => ∃ (i2 r j : Nat), i2 ≤ l ∧ r < 10000000000000000000 ∧ j ≤ 19 ∧ vi = .int .i64 (i2 : Int) ∧ vr = .int .u64 (r : Int) ∧ vj = .int .i64 (j : Int) ∧ Hid (CvI w base gs gq l n t i2 j lq2 cq' r wr)) (fun _ _ vj _ => 19 - (intOf vj).toNat)
      case atStart => exact ⟨i, r, 0, hi, hrl, by omega, rfl, rfl, rfl, HI⟩
      case round =>
        obtain ⟨i2, r2, j, hi2, hr2, hj, rfl, rfl, rfl, HR⟩ := hrel
        by_cases hend : j = 19 ∨ i2 = 0
        · have HE := hide (HR.out.end_ hend)
          have hdec : i2 < i := by have := HR.out.at_; have := HT.out.1; have := HT.out.2; omega
          clear HI HR HT
          by_cases hj19 : j = 19
          · subst hj19
            clear hend
            go_wp2
            go_roundw
            case rel => exact ⟨i2, t + 19, lq2, cq', hi2, hlq2, rfl, rfl, HE⟩
            case measure => simp [intOf]; omega
          · obtain rfl : i2 = 0 := by omega
            have hjl : (j : Int) < 19 := by omega
            have hjn : j < 19 := by omega
            clear hend hj19
            go_wp2
            go_roundw
            case rel => exact ⟨0, t + 19, lq2, cq', hi2, hlq2, rfl, rfl, HE⟩
            case measure => simp [intOf]; omega
        · obtain ⟨i3, rfl⟩ : ∃ k, i2 = k + 1 := ⟨i2 - 1, by omega⟩
          have hjl : (j : Int) < 19 := by omega
          have hjn : j < 19 := by omega
          obtain ⟨⟨u, k1⟩, k2, hst⟩ := HR.out.step hjn HN.out.2.1
          obtain ⟨q, m, d, hq, hd, f1, f2, f3, f4, f5, f6, f7, f8, f9⟩ := fig_facts r2 hr2
          rw [← hq, ← hd] at hst
          have HST := hide hst
          have hql : q < 10000000000000000000 := by omega
          have e1 : ((i3 + 1 : Nat) : Int) - 1 = (i3 : Int) := by omega
          clear hst HI HR HT hq hd hend
          go_wp2
          go_roundw
          case rel => exact ⟨i3, q, j + 1, by omega, hql, by omega, by go_num, rfl, by go_num, HST⟩
          case measure => simp [intOf]; omega
end Go.Proofs.YtfkcobdkgjhfaaaGreatDoor

/- The variables' cells that the walks of a division by several words read. -/
set_option linter.unusedVariables false
set_option linter.unusedSimpArgs false
namespace Go.Proofs.YtfkcobdkgjhfaaaGreatDoor
open Go.RowKit

structure VarsD (w : World) (base : Nat) : Prop where
  l : VarsL w base
  c : w.cell? ⟨0, 0, none⟩ = some (.int .i64 40)
  b : 0 < base
theorem VarsD.fr {w w' : World} {base : Nat} {S : Nat → Prop} (h : VarsD w base) (hf : Fr w w' S) (hs : ∀ k, S k → base ≤ k) : VarsD w' base :=
  ⟨h.l.fr hf hs, hf.cell h.c (fun hk => by have h1 : base ≤ 0 := hs _ hk; have := h.b; omega), h.b⟩
theorem VarsD.below {w w' : World} {base : Nat} (h : VarsD w base) (hb : Below w.heap.size w w') : VarsD w' base := h.fr (Fr.of_below hb (fun _ => False)) (fun _ h => h.elim)
theorem VarsD.raise {w : World} {base b : Nat} (h : VarsD w base) (hb : base ≤ b) : VarsD w b := ⟨h.l.raise hb, h.c, by have := h.b; omega⟩
end Go.Proofs.YtfkcobdkgjhfaaaGreatDoor

/- Walk: nat.div by any number above 0 of fourteen words at most. -/
set_option linter.unusedVariables false
set_option linter.unusedSimpArgs false
namespace Go.Proofs.YtfkcobdkgjhfaaaGreatDoor
open Go.RowKit

theorem QrS.free {w w1 w3 w8 : World} {base gs a y : Nat} {z z2 : Value} {e : Ending} (hf : Fr w w1 (fun _ => False)) (hg : w.heap.size ≤ gs) (h : QrS w1 base gs z z2 a y e w3) (h8 : Fr w3 w8 (StkB w3 gs)) : QrP w base z z2 a y e w8 := by
  obtain ⟨Q, R, cq, cr, he, h1, h2, h3, h4, h5, hst, hsb, h6⟩ := h
  have hs := hf.size
  refine ⟨Q, R, cq, cr, he, h1.stk hst h8, h2.stk hst h8, h3.imp id (fun ⟨k, a, b⟩ => ⟨k, a, by omega⟩), h4.imp id (fun ⟨k, a, b⟩ => ⟨k, a, by omega⟩), h5, Fr.step (Fr.step (hf.mono (fun _ _ h => h.elim)) h6 (fun k hk h => ?_)) h8 (fun k hk h => ?_)⟩
  · rcases h with h | h
    · exact h
    · omega
  · rcases hsb k h with h | h <;> omega

theorem rd_block {w : World} {A : Option Addr} {n c : Nat} {xs : List Nat} {k : Nat} (h : RdW w (.slice A n c) xs) (hl : 0 < xs.length) (hk : (Value.slice A n c).ownBlock = some k) : k < w.heap.size := by
  obtain ⟨g, o, e1, h1, -⟩ := RdG.at_ (k := .u64) h 0 hl
  subst e1
  have e : g = k := (by injection hk)
  omega

set_option maxHeartbeats 1000000 in
set_option maxRecDepth 20000 in
theorem divGe_gen (base : Nat) (z z2 : Value) (mz m2 y : Nat) (A B : Option Addr) (c cv a : Nat) (w : World) (hz : Room w base z mz) (hz2 : Room w base z2 m2) (hzz : ∀ k, z.ownBlock = some k → z2.ownBlock ≠ some k) (hb : base ≤ w.heap.size) (hna : (digs 18446744073709551616 a).length ≤ 900) (hn2 : 2 ≤ (digs 18446744073709551616 y).length) (hn3 : (digs 18446744073709551616 y).length ≤ 14) (hge : y ≤ a)
    (hx : RdW w (.slice A (digs 18446744073709551616 a).length c) (digs 18446744073709551616 a)) (hxb : ∀ k, (Value.slice A (digs 18446744073709551616 a).length c).ownBlock = some k → z.ownBlock ≠ some k ∧ z2.ownBlock ≠ some k) (hy : RdW w (.slice B (digs 18446744073709551616 y).length cv) (digs 18446744073709551616 y)) (hyb : ∀ k, (Value.slice B (digs 18446744073709551616 y).length cv).ownBlock = some k → z.ownBlock ≠ some k ∧ z2.ownBlock ≠ some k)
    (hvar : w.cell? ⟨0, 0, none⟩ = some (.int .i64 40)) (hvb : 0 < base) :
    Calls Tryz.prog 123 #[z, .pointer none, z2, .slice A (digs 18446744073709551616 a).length c, .slice B (digs 18446744073709551616 y).length cv] w (QrP w base z z2 a y) := by
  have con1 := ncmp_any A B c cv a y w hx hy (by omega) (by omega)
  unfold CmpP at con1
  obtain ⟨i, hi⟩ : ∃ i, i = cmpI a y := ⟨_, rfl⟩
  have hi0 : 0 ≤ i := by rw [hi]; unfold cmpI; rw [if_neg (by omega)]; split <;> omega
  rw [← hi] at con1
  have hly : (digs 18446744073709551616 y).length ≤ (digs 18446744073709551616 a).length := digs_length_mono (by omega) hge
  have con3 : ∀ W gs, Below w.heap.size w W → w.heap.size ≤ gs → Blk W gs 203 #[.pointer none] → Calls Tryz.prog 145 #[z, .pointer (some ⟨gs, 0, none⟩), z2, .slice A (digs 18446744073709551616 a).length c, .slice B (digs 18446744073709551616 y).length cv] W (QrS W base gs z z2 a y) := fun W gs hW h1 h3 =>
    divLarge_gen base gs z z2 mz m2 _ _ A B c cv a y W h3 (Nat.le_trans hb h1) ⟨fun k hk => by have := rd_block hx (by omega) hk; omega, fun k hk => by have := rd_block hy (by omega) hk; omega⟩ (hz.fr (Fr.of_below hW (fun _ => False)) (fun _ _ h => h)) (hz2.fr (Fr.of_below hW (fun _ => False)) (fun _ _ h => h)) hzz (Nat.le_trans hb hW.size) rfl rfl hn2 hn3 hly hna (RdG.below (k := .u64) hx hW) hxb (RdG.below (k := .u64) hy hW) hyb (hW.cell (World.block_lt_of_cell? _ _ hvar) |>.trans hvar) hvb
  have Con1 := hide con1
  have Con3 := hide con3
  obtain ⟨l, hl⟩ : ∃ l, l = (digs 18446744073709551616 y).length := ⟨_, rfl⟩
  have b1 : ((l : Int) == 0) = false := beq_eq_false_iff_ne.2 (by omega)
  have b2 : ((l : Int) == 1) = false := beq_eq_false_iff_ne.2 (by omega)
  have hi1 : ¬ i < 0 := by omega
  rw [← hl] at Con1 Con3 ⊢
  obtain ⟨la, hla⟩ : ∃ l, l = (digs 18446744073709551616 a).length := ⟨_, rfl⟩
  rw [← hla] at Con1 Con3 ⊢
  clear con1 con3 hz hz2 hzz hb hna hn2 hn3 hge hx hxb hy hyb hvar hvb hl hla hly hi
  go_enter_defers Tryz.func123, Tryz.ntmps123
  go_wp2_with fail
  refine (Con1.out).mono ?_
  rintro e w1 ⟨rfl, hb1⟩
  have HB := hide hb1
  clear Con1 hb1
  have ConS := hide (getStack_any w1)
  go_wp2_with fail
  refine (ConS.out).mono ?_
  rintro e w2 ⟨rfl, hw2⟩
  have hb2 : Below w.heap.size w w2 := by rw [hw2]; exact below_al HB.out _
  have hst : Blk w2 w1.heap.size 203 #[.pointer none] := by rw [hw2]; exact Blk.new _ _ _
  have hsg := HB.out.size
  obtain ⟨gs, hgs⟩ : ∃ g, g = w1.heap.size := ⟨_, rfl⟩
  rw [← hgs] at hst hsg ⊢
  have Con4 := hide (Con3.out w2 gs hb2 hsg hst)
  have HS := hide (And.intro hst (And.intro hb2 hsg))
  clear hst hb2 hsg hw2 Con3 ConS hgs
  go_wp2_with fail
  refine (Con4.out).mono ?_
  rintro e w3 hq
  have HQ := hide (fun w8 h8 => QrS.free (w8 := w8) (Fr.of_below HS.out.2.1 (fun _ => False)) HS.out.2.2 hq h8)
  obtain ⟨Q, R, cq, cr, rfl, -, -, -, -, -, hst3, -, -⟩ := hq
  have ConX := hide (freeR_deferred gs .returning w3 hst3)
  clear hst3 HS Con4
  generalize (digs 18446744073709551616 (a / y)).length = nq at *
  generalize (digs 18446744073709551616 (a % y)).length = nr at *
  go_wp2
  refine leaves_cons (f := 144) (args := #[.pointer (some ⟨gs, 0, none⟩)]) (by simp) (by simp [go_sem]) ?_
  refine (ConX.out).mono ?_
  rintro e1 u' w8 ⟨rfl, rfl, h8⟩
  exact ⟨_, results_tmp2 (t := 10) (u := 11) rfl _ _ _, HQ.out _ h8⟩

/-- A division by a number above 0 of fourteen words at most. -/
theorem div_any (base : Nat) (z z2 : Value) (mz m2 y : Nat) (A B : Option Addr) (c cv a : Nat) (w : World) (hz : Room w base z mz) (hz2 : Room w base z2 m2) (hzz : ∀ k, z.ownBlock = some k → z2.ownBlock ≠ some k) (hb : base ≤ w.heap.size) (hna : (digs 18446744073709551616 a).length ≤ 900) (hy0 : 0 < y) (h3 : (digs 18446744073709551616 y).length ≤ 14)
    (hx : RdW w (.slice A (digs 18446744073709551616 a).length c) (digs 18446744073709551616 a)) (hxb : ∀ k, (Value.slice A (digs 18446744073709551616 a).length c).ownBlock = some k → z.ownBlock ≠ some k ∧ z2.ownBlock ≠ some k) (hy : RdW w (.slice B (digs 18446744073709551616 y).length cv) (digs 18446744073709551616 y)) (hyb : ∀ k, (Value.slice B (digs 18446744073709551616 y).length cv).ownBlock = some k → z.ownBlock ≠ some k ∧ z2.ownBlock ≠ some k)
    (hvar : w.cell? ⟨0, 0, none⟩ = some (.int .i64 40)) (hvb : 0 < base) :
    Calls Tryz.prog 123 #[z, .pointer none, z2, .slice A (digs 18446744073709551616 a).length c, .slice B (digs 18446744073709551616 y).length cv] w (QrP w base z z2 a y) := by
  have hn1 : 1 ≤ (digs 18446744073709551616 y).length := List.length_pos_iff.2 (digs_ne_nil (by omega) hy0)
  rcases Nat.lt_or_ge (digs 18446744073709551616 y).length 2 with h | h
  · have h2 : y < 18446744073709551616 := by
      have := lt_of_digs_length (b := 18446744073709551616) (k := 1) (by omega) (show (digs 18446744073709551616 y).length ≤ 1 by omega)
      omega
    obtain ⟨gv, ov, e1, -, hc⟩ := RdG.at_ (k := .u64) hy 0 (by omega)
    subst e1
    rw [digs_word h2 (by omega)] at hc ⊢
    have hv : w.cell? ⟨gv, ov, none⟩ = some (.int .u64 (y : Int)) := hc
    rcases Nat.lt_or_ge 1 y with h1 | h1
    · rcases Nat.eq_zero_or_pos a with h0 | h0
      · subst h0
        refine divQR_gen base z z2 mz m2 y A c 0 gv ov cv w hz hz2 hzz hb ?_ hv hy0 h2
        rw [digs_zero]
        exact divW_nil base z mz y A c w hz h1
      · exact divQR_any base z z2 mz m2 y A c a gv ov cv w hz hz2 hzz hb (by omega) h0 hx (fun k hk => (hxb k hk).1) hv h1 h2
    · obtain rfl : y = 1 := by omega
      exact divQR_gen base z z2 mz m2 1 A c a gv ov cv w hz hz2 hzz hb (divW_one base z mz A c a w hz hb (by omega) hx) hv hy0 h2
  · rcases Nat.lt_or_ge a y with h1 | h1
    · exact divLt_any base z z2 mz m2 y A B c cv a w hz hz2 hzz hb (by omega) (by omega) h h1 hx hy
    · exact divGe_gen base z z2 mz m2 y A B c cv a w hz hz2 hzz hb hna h h3 h1 hx hxb hy hyb hvar hvb
end Go.Proofs.YtfkcobdkgjhfaaaGreatDoor
