/- Parts of the proofs: KnSh2. -/
import Derived.Test.YtfkcobdkgjhfaaaGreatDoorG16
/- Walk: rshVU in place, by 1 to 63 bits. -/
set_option linter.unusedVariables false
set_option linter.unusedSimpArgs false
namespace Go.Proofs.YtfkcobdkgjhfaaaGreatDoor
open Go.RowKit

/-- What rshVU holds: the row is shifted up to place k. -/
structure RhS (w : World) (g s k : Nat) (P S : List Value) (xs : List Nat) (W : World) : Prop where
  blk : Blk W g 145 (P ++ wv ((shrL s xs).take k) ++ wv (xs.drop k) ++ S).toArray
  fr : Fr w W (fun k => k = g)
theorem RhS.drew {w : World} {g s k : Nat} {P S : List Value} {xs : List Nat} {W : World} (h : RhS w g s k P S xs W) : RhS w g s k P S xs W.drew := ⟨h.blk, h.fr.drew⟩
theorem RhS.step {w : World} {g s k o : Nat} {P S : List Value} {xs : List Nat} {W : World} (h : RhS w g s k P S xs W) (ho : o = P.length) (hk : k < xs.length) :
    W.cell? ⟨g, o + k, none⟩ = some (.int .u64 (xs.getD k 0 : Nat)) ∧ (k + 1 < xs.length → W.cell? ⟨g, o + (k + 1), none⟩ = some (.int .u64 (xs.getD (k + 1) 0 : Nat))) ∧ W.frozen? ⟨g, o + k, none⟩ = false ∧ ∀ v, v = (shrL s xs).getD k 0 → RhS w g s (k + 1) P S xs (W.setCell ⟨g, o + k, none⟩ (.int .u64 (v : Int))) := by
  have hB := h.blk
  have hl : ((shrL s xs).take k).length = k := by rw [List.length_take, shrL_length]; omega
  have hB1 := hB
  rw [drop_getD hk, wv_cons, List.append_assoc, List.cons_append] at hB1
  have hpl : o + k = (P ++ wv ((shrL s xs).take k)).length := by rw [List.length_append, wv_length, hl, ho]
  obtain ⟨h1, h2, h3⟩ := hB1.part hpl
  refine ⟨h1, fun hk1 => ?_, h2, fun v hv => ⟨?_, h.fr.setCell (p := ⟨g, o + k, none⟩) (fun _ => rfl) _⟩⟩
  · have hB2 := hB1
    rw [drop_getD hk1, wv_cons] at hB2
    have hB3 : Blk W g 145 ((P ++ wv ((shrL s xs).take k) ++ [Value.int IntKind.u64 ((xs.getD k 0 : Nat) : Int)]) ++ Value.int IntKind.u64 ((xs.getD (k + 1) 0 : Nat) : Int) :: (wv (xs.drop (k + 1 + 1)) ++ S)).toArray := by simpa [List.append_assoc] using hB2
    exact (hB3.part (i := o + (k + 1)) (by rw [List.length_append, ← hpl]; simp; omega)).1
  · subst hv
    have := h3 (.int .u64 (((shrL s xs).getD k 0 : Nat) : Int))
    rw [take_snoc_getD (by rw [shrL_length]; exact hk : k < (shrL s xs).length), wv_append, ← List.append_assoc]
    simpa [wv, List.append_assoc] using this
/-- Behind rshVU. -/
def RhP (w : World) (g s : Nat) (P S : List Value) (xs : List Nat) (e : Ending) (w' : World) : Prop :=
  ∃ v, e = .returned v ∧ Blk w' g 145 (P ++ wv (shrL s xs) ++ S).toArray ∧ Fr w w' (fun k => k = g)

set_option maxHeartbeats 1000000 in
set_option maxRecDepth 20000 in
theorem rshg_any (g o n c1 c2 s : Nat) (P S : List Value) (xs : List Nat) (w : World) (hb : Blk w g 145 (P ++ wv xs ++ S).toArray) (ho : o = P.length) (hn : n = xs.length) (hn1 : 1 ≤ n) (hnb : n ≤ 1099511627776) (hc1 : n ≤ c1) (hc2 : n ≤ c2) (hs1 : 1 ≤ s) (hs63 : s ≤ 63) (hdx : Dig 18446744073709551616 xs) :
    Calls Tryz.prog 206 #[.slice (some ⟨g, o, none⟩) n c1, .slice (some ⟨g, o, none⟩) n c2, .int .u64 (s : Int)] w (RhP w g s P S xs) := by
  have hdig : ∀ i, i < n → xs.getD i 0 < 18446744073709551616 := fun i hi => hdx _ (by rw [getD_at (by omega)]; exact List.getElem_mem _)
  have HS0 : Hid (RhS w g s 0 P S xs w) := ⟨by simpa [wv] using hb, Fr.refl _ _⟩
  have x0 : w.cell? ⟨g, o, none⟩ = some (.int .u64 (xs.getD 0 0 : Nat)) := (HS0.out.step ho (by omega)).1
  obtain ⟨t, ht⟩ : ∃ t, t = 64 - s := ⟨_, rfl⟩
  have a1 : bits .and .u64 (s : Int) 63 = (s : Int) := by
    rw [show (63 : Int) = ((63 : Nat) : Int) from rfl, u64_and_nat s 63 (by omega) (by omega), show (63 : Nat) = 2 ^ 6 - 1 from rfl, Nat.and_two_pow_sub_one_eq_mod, Nat.mod_eq_of_lt (by omega)]
  have a2 : IntKind.u64.wrap (64 - (s : Int)) = (t : Int) := by rw [IntKind.wrap_u64]; omega
  have a2' : (64 : Int) - (s : Int) = (t : Int) := by omega
  have a3 : bits .and .u64 (t : Int) 63 = (t : Int) := by
    rw [show (63 : Int) = ((63 : Nat) : Int) from rfl, u64_and_nat t 63 (by omega) (by omega), show (63 : Nat) = 2 ^ 6 - 1 from rfl, Nat.and_two_pow_sub_one_eq_mod, Nat.mod_eq_of_lt (by omega)]
  have ht63 : t ≤ 63 := by omega
  have hs0 : ((s : Int) == 0) = false := beq_eq_false_iff_ne.2 (by omega)
  have hn0 : ((n : Int) == 0) = false := beq_eq_false_iff_ne.2 (by omega)
  obtain ⟨c0, hc0⟩ : ∃ c0 : Nat, IntKind.u64.wrap (((xs.getD 0 0 : Nat) : Int) * 2 ^ t) = (c0 : Int) := ⟨_, by
    rw [show (((xs.getD 0 0 : Nat) : Int) * 2 ^ t) = ((xs.getD 0 0 * 2 ^ t : Nat) : Int) from by rw [Int.natCast_mul, Int.natCast_pow]; rfl, wrpN]⟩
  generalize xs.getD 0 0 = xj at x0 hc0
  have HZ := hide (And.intro ho (And.intro hn (And.intro hdig (And.intro hs63 (And.intro hs1 ht)))))
  have hn1' : 0 < n := hn1
  clear hb hdig ho hn hdx ht hs1
  go_enter Tryz.func206, Tryz.ntmps206
  go_wp2_with fail
  clear x0 hc0 hn0
  go_loopw [8] (fun vi wr => ∃ i k : Nat, vi = .int .i64 (i : Int) ∧ i ≤ n ∧ k < i ∧ Hid (i = k + 1 ∧ RhS w g s k P S xs wr)) (fun vi _ => n - (intOf vi).toNat)
  case atStart => exact ⟨1, 0, by go_num, hn1, by omega, ⟨rfl, HS0.out⟩⟩
  case round =>
    obtain ⟨i, k, rfl, hin, hki, HR⟩ := hrel
    clear HS0
    obtain ⟨hik, HRs⟩ := HR.out
    have hkn : k < xs.length := by have := HZ.out.2.1; omega
    have w1 : IntKind.i64.wrap ((i : Int) - 1) = (k : Int) := by simp [IntKind.wrap, IntKind.signed, IntKind.bits]; omega
    have w2 : (i : Int) - 1 = (k : Int) := by omega
    by_cases hp : i < n
    · obtain ⟨xk, xi, hf, hst⟩ := HRs.drew.step HZ.out.1 hkn
      obtain ⟨yk, yi, hf2, -⟩ := HRs.step HZ.out.1 hkn
      have xi := xi (by have := HZ.out.2.1; omega)
      have yi := yi (by have := HZ.out.2.1; omega)
      rw [← hik] at xi yi
      obtain ⟨a, ha⟩ : ∃ a, a = xs.getD k 0 / 2 ^ s := ⟨_, rfl⟩
      obtain ⟨b, hb⟩ : ∃ b, b = xs.getD i 0 * 2 ^ (64 - s) % 18446744073709551616 := ⟨_, rfl⟩
      have v1 : ((xs.getD k 0 : Nat) : Int) / 2 ^ s = (a : Int) := by rw [ha, Int.natCast_ediv, Int.natCast_pow]; rfl
      have v2 : IntKind.u64.wrap (((xs.getD i 0 : Nat) : Int) * 2 ^ t) = (b : Int) := by
        rw [hb, HZ.out.2.2.2.2.2, show (((xs.getD i 0 : Nat) : Int) * 2 ^ (64 - s)) = ((xs.getD i 0 * 2 ^ (64 - s) : Nat) : Int) from by rw [Int.natCast_mul, Int.natCast_pow]; rfl, wrpN]
      obtain ⟨d, hd⟩ : ∃ d, d = a + b := ⟨_, rfl⟩
      have v3 : bits .or .u64 (a : Int) (b : Int) = (d : Int) := by
        rw [hd, ha, hb]; exact (shr_or (by have := HZ.out.2.2.2.1; omega) (HZ.out.2.2.1 k (by omega))).1
      have HN := hide (hst d (by rw [hd, ha, hb, shrL_getD s xs k hkn, hik]))
      have w3 : IntKind.i64.wrap ((i : Int) + 1) = ((i + 1 : Nat) : Int) := by simp [IntKind.wrap, IntKind.signed, IntKind.bits]; omega
      have HM : Hid (i + 1 ≤ n ∧ k + 1 < i + 1 ∧ i + 1 = k + 1 + 1) := ⟨by omega, by omega, by omega⟩
      generalize xs.getD i 0 = xi0 at xi yi v2
      generalize xs.getD k 0 = xk0 at xk yk v1
      clear hst HRs HR ha hb hd hik hki hkn HZ hf2
      go_wp2_with fail
      go_region
      all_goals go_wp2
      all_goals go_roundw
      case rel => exact ⟨i + 1, k + 1, by go_num, HM.out.1, HM.out.2.1, ⟨HM.out.2.2, HN.out⟩⟩
      case measure => simp [intOf]; omega
    · obtain rfl : i = n := by omega
      obtain ⟨yk, -, hf2, hst⟩ := HRs.step HZ.out.1 hkn
      obtain ⟨a, ha⟩ : ∃ a, a = xs.getD k 0 / 2 ^ s := ⟨_, rfl⟩
      have v1 : ((xs.getD k 0 : Nat) : Int) / 2 ^ s = (a : Int) := by rw [ha, Int.natCast_ediv, Int.natCast_pow]; rfl
      have HE : Hid (∀ v, RhP w g s P S xs (.returned v) (wr.setCell ⟨g, o + k, none⟩ (.int .u64 (a : Int)))) := fun v => by
        have h := hst a (by rw [ha, shrL_getD s xs k hkn, List.getD_eq_getElem?_getD (l := xs) (i := k + 1), List.getElem?_eq_none (by have := HZ.out.2.1; omega)]; simp)
        have h1 := h.blk
        rw [List.take_of_length_le (by rw [shrL_length]; have := HZ.out.2.1; omega), List.drop_of_length_le (by have := HZ.out.2.1; omega)] at h1
        exact ⟨v, rfl, by simpa [wv] using h1, h.fr⟩
      generalize xs.getD k 0 = xk0 at yk v1
      clear hst HRs HR ha hik hp HZ
      go_wp2
      go_ret
      exact HE.out _
theorem rsh_any (g o n c1 c2 s : Nat) (P S : List Value) (xs : List Nat) (w : World) (hb : Blk w g 145 (P ++ wv xs ++ S).toArray) (ho : o = P.length) (hn : n = xs.length) (hn1 : 1 ≤ n) (hnb : n ≤ 1099511627776) (hc1 : n ≤ c1) (hc2 : n ≤ c2) (hs1 : 1 ≤ s) (hs63 : s ≤ 63) (hdx : Dig 18446744073709551616 xs) :
    Calls Tryz.prog 175 #[.slice (some ⟨g, o, none⟩) n c1, .slice (some ⟨g, o, none⟩) n c2, .int .u64 (s : Int)] w (RhP w g s P S xs) := by
  have Con := hide (rshg_any g o n c1 c2 s P S xs w hb ho hn hn1 hnb hc1 hc2 hs1 hs63 hdx)
  clear hb ho hn hdx
  go_enter Tryz.func175, Tryz.ntmps175
  go_wp2_with fail
  refine (Con.out).mono ?_
  rintro e w1 ⟨v, rfl, h⟩
  have Fin : Hid (RhP w g s P S xs (.returned v) w1) := ⟨v, rfl, h⟩
  clear h Con
  go_wp2
  go_ret
  exact Fin.out
end Go.Proofs.YtfkcobdkgjhfaaaGreatDoor
