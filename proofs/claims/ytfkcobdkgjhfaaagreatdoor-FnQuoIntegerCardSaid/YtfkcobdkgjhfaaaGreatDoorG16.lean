/- Parts of the proofs: Sh1, Sh2, Lsh1, KnSh, KnLg, KnLg2. -/
import Derived.Test.YtfkcobdkgjhfaaaGreatDoorG3
import Derived.Test.YtfkcobdkgjhfaaaGreatDoorG10
import Derived.Test.YtfkcobdkgjhfaaaGreatDoorG11
import Derived.Test.YtfkcobdkgjhfaaaGreatDoorG12
import Derived.Test.YtfkcobdkgjhfaaaGreatDoorG15
/- Walks: a row of words shifted to the left: lshVU. -/
set_option linter.unusedVariables false
set_option linter.unusedSimpArgs false
namespace Go.Proofs.YtfkcobdkgjhfaaaGreatDoor
open Go.RowKit

theorem shv_length (s : Nat) (xs : List Nat) : (shv s xs).length = xs.length := by rw [shv, amul_length _ _ _ (by simp)]
theorem shv_dig (s : Nat) (xs : List Nat) : Dig 18446744073709551616 (shv s xs) := amul_dig (by omega) _
theorem shv_val (s : Nat) (xs : List Nat) : dval 18446744073709551616 (shv s xs ++ [shc s xs]) = dval 18446744073709551616 xs * 2 ^ s := by
  rw [dval_append, shv_length, dval_cons, dval_nil]
  have := amul_val 18446744073709551616 (2 ^ s) (zs := List.replicate xs.length 0) (xs := xs) 0 (by simp)
  rw [dval_replicate_zero] at this
  simpa [shv, shc] using this

/-- What a round of lshVU holds: the rows from k upward are done. -/
structure ShS (w : World) (g s k : Nat) (P S us : List Value) (xs : List Nat) (W : World) : Prop where
  blk : Blk W g 145 (P ++ us.take k ++ wv ((shv s xs).drop k) ++ S).toArray
  fr : Fr w W (fun k => k = g)
theorem ShS.drew {w : World} {g s k : Nat} {P S us : List Value} {xs : List Nat} {W : World} (h : ShS w g s k P S us xs W) : ShS w g s k P S us xs W.drew := ⟨h.blk, h.fr.drew⟩
theorem ShS.step {w : World} {g s k o : Nat} {P S us : List Value} {xs : List Nat} {W : World} (h : ShS w g s (k + 1) P S us xs W) (ho : o = P.length) (hu : us.length = xs.length) (hk : k < xs.length) :
    (∃ u, us[k]? = some u ∧ W.cell? ⟨g, o + k, none⟩ = some u) ∧ W.frozen? ⟨g, o + k, none⟩ = false ∧
      ∀ v, v = (shv s xs).getD k 0 → ShS w g s k P S us xs (W.setCell ⟨g, o + k, none⟩ (.int .u64 (v : Int))) := by
  have hk2 : k < us.length := by omega
  have hB := h.blk
  rw [List.take_succ_eq_append_getElem hk2, List.append_assoc, List.append_assoc, List.append_assoc] at hB
  have hpl : o + k = (P ++ us.take k).length := by rw [List.length_append, List.length_take, ho]; omega
  rw [← List.append_assoc, List.singleton_append] at hB
  obtain ⟨h1, h2, h3⟩ := hB.part hpl
  refine ⟨⟨_, List.getElem?_eq_getElem hk2, h1⟩, h2, fun v hv => ⟨?_, h.fr.setCell (p := ⟨g, o + k, none⟩) (fun _ => rfl) _⟩⟩
  have := h3 (.int .u64 (v : Int))
  rw [drop_getD (xs := shv s xs) (k := k) (by rw [shv_length]; exact hk), wv_cons, ← hv]
  simpa [List.append_assoc] using this

/-- Behind lshVU. -/
def ShP (w : World) (g s : Nat) (P S : List Value) (xs : List Nat) (e : Ending) (w' : World) : Prop :=
  ∃ q : Nat, e = .returned (.int .u64 (q : Int)) ∧ Hid (q = shc s xs) ∧ Blk w' g 145 (P ++ wv (shv s xs) ++ S).toArray ∧ Fr w w' (fun k => k = g)

/-- The words of the shifted row, as the walk makes them. -/
theorem sh_word {s : Nat} (h1 : 1 ≤ s) (h63 : s ≤ 63) {xs : List Nat} (hd : Dig 18446744073709551616 xs) {i : Nat} (hi : i + 1 < xs.length) :
    ∃ a b v : Nat, IntKind.u64.wrap ((xs.getD (i + 1) 0 : Nat) * 2 ^ s : Int) = (a : Int) ∧ ((xs.getD i 0 : Nat) : Int) / 2 ^ (64 - s) = (b : Int) ∧ bits .or .u64 (a : Int) (b : Int) = (v : Int) ∧ v = (shv s xs).getD (i + 1) 0 := by
  have hx : xs.getD i 0 < 18446744073709551616 := hd _ (by rw [getD_at (by omega)]; exact List.getElem_mem _)
  have hb : xs.getD i 0 / 2 ^ (64 - s) < 2 ^ s := sh_carry_lt (by omega) hx
  have hp : (2 : Nat) ^ s ≤ 2 ^ 63 := Nat.pow_le_pow_right (by omega) h63
  have ha : xs.getD (i + 1) 0 * 2 ^ s % 18446744073709551616 % 2 ^ s = 0 := by
    have hdv : 2 ^ s ∣ 18446744073709551616 := ⟨2 ^ (64 - s), by rw [← Nat.pow_add, show s + (64 - s) = 64 by omega]⟩
    rw [Nat.mod_mod_of_dvd _ hdv]; exact Nat.mul_mod_left _ _
  refine ⟨xs.getD (i + 1) 0 * 2 ^ s % 18446744073709551616, xs.getD i 0 / 2 ^ (64 - s), _, ?_, ?_, u64_or_nat _ _ (by omega) (by omega), ?_⟩
  · rw [show (((xs.getD (i + 1) 0 : Nat) : Int) * 2 ^ s) = ((xs.getD (i + 1) 0 * 2 ^ s : Nat) : Int) from by rw [Int.natCast_mul, Int.natCast_pow]; rfl, wrpN]
  · rw [Int.natCast_ediv, Int.natCast_pow]; rfl
  · rw [nat_join s _ _ ha hb, shv, (amul_sh (s := s) (by omega) xs 0 (Nat.two_pow_pos s) hd).1 (i + 1) hi]
    simp only [Nat.add_sub_cancel, if_neg (Nat.succ_ne_zero i)]
    have : (xs.getD (i + 1) 0 * 2 ^ s % 18446744073709551616 + xs.getD i 0 / 2 ^ (64 - s)) < 18446744073709551616 := by
      have e : (18446744073709551616 : Nat) = 2 ^ (64 - s) * 2 ^ s := by rw [← Nat.pow_add, show 64 - s + s = 64 by omega]
      rw [e, Nat.mul_mod_mul_right]
      have h : xs.getD (i + 1) 0 % 2 ^ (64 - s) + 1 ≤ 2 ^ (64 - s) := Nat.mod_lt _ (Nat.two_pow_pos _)
      have := Nat.mul_le_mul_right (2 ^ s) h
      rw [Nat.add_mul, Nat.one_mul] at this
      omega
    rw [Nat.add_mod, Nat.mod_eq_of_lt (show xs.getD i 0 / 2 ^ (64 - s) < 18446744073709551616 by omega), Nat.mod_eq_of_lt this]
theorem sh_word0 {s : Nat} (h63 : s ≤ 63) {xs : List Nat} (hd : Dig 18446744073709551616 xs) (hi : 0 < xs.length) :
    ∃ v : Nat, IntKind.u64.wrap ((xs.getD 0 0 : Nat) * 2 ^ s : Int) = (v : Int) ∧ v = (shv s xs).getD 0 0 := by
  refine ⟨xs.getD 0 0 * 2 ^ s % 18446744073709551616, ?_, ?_⟩
  · rw [show (((xs.getD 0 0 : Nat) : Int) * 2 ^ s) = ((xs.getD 0 0 * 2 ^ s : Nat) : Int) from by rw [Int.natCast_mul, Int.natCast_pow]; rfl, wrpN]
  · rw [shv, (amul_sh (s := s) (by omega) xs 0 (Nat.two_pow_pos s) hd).1 0 hi]; simp

end Go.Proofs.YtfkcobdkgjhfaaaGreatDoor

/- Walks: a row of words shifted to the left: lshVU. -/
set_option linter.unusedVariables false
set_option linter.unusedSimpArgs false
namespace Go.Proofs.YtfkcobdkgjhfaaaGreatDoor
open Go.RowKit

set_option maxHeartbeats 1000000 in
set_option maxRecDepth 20000 in
theorem lshg_any (g o n c1 s : Nat) (P S us : List Value) (A : Option Addr) (c : Nat) (xs : List Nat) (w : World) (hb : Blk w g 145 (P ++ us ++ S).toArray) (ho : o = P.length) (hu : us.length = xs.length) (hn : n = xs.length) (hnb : n ≤ 1099511627776) (hc1 : n ≤ c1)
    (hx : RdW w (.slice A n c) xs) (hxb : ∀ k, (Value.slice A n c).ownBlock = some k → k ≠ g) (hdx : Dig 18446744073709551616 xs) (hs1 : 1 ≤ s) (hs63 : s ≤ 63) (hn1 : 1 ≤ n) :
    Calls Tryz.prog 199 #[.slice (some ⟨g, o, none⟩) n c1, .slice A n c, .int .u64 (s : Int)] w (ShP w g s P S xs) := by
  obtain ⟨m, rfl⟩ : ∃ m, n = m + 1 := ⟨n - 1, by omega⟩
  obtain ⟨t, ht⟩ : ∃ t, t = 64 - s := ⟨_, rfl⟩
  have HS0 : Hid (ShS w g s (m + 1) P S us xs w) := ⟨by rw [List.take_of_length_le (by omega), List.drop_of_length_le (by rw [shv_length]; omega)]; simpa [wv] using hb, Fr.refl _ _⟩
  have hx2 : ∀ k W q, k < m + 1 → ShS w g s q P S us xs W → ∃ gx o', A = some ⟨gx, o', none⟩ ∧ W.cell? ⟨gx, o' + k, none⟩ = some (.int .u64 (xs.getD k 0 : Nat)) := by
    intro k W q hk hS
    obtain ⟨gx, o', e1, _, e2⟩ := RdG.at_ (k := .u64) hx k (by omega)
    exact ⟨gx, o', e1, hS.fr.cell e2 (hxb gx (by rw [e1]; rfl))⟩
  obtain ⟨q, hq⟩ : ∃ q, q = xs.getD m 0 / 2 ^ t := ⟨_, rfl⟩
  have hqc : q = shc s xs := by
    rw [shc, (amul_sh (s := s) (by omega) xs 0 (Nat.two_pow_pos s) hdx).2, if_neg (by omega), hq, ht, ← hn]; rfl
  have hqi : ((xs.getD m 0 : Nat) : Int) / 2 ^ t = (q : Int) := by rw [hq, Int.natCast_ediv, Int.natCast_pow]; rfl
  have fin : ∀ W, ShS w g s 0 P S us xs W → ShP w g s P S xs (.returned (.int .u64 (q : Int))) W := fun W h => ⟨q, rfl, hqc, by simpa using h.blk, h.fr⟩
  have words : ∀ i, i + 1 < m + 1 → ∃ a b v : Nat, IntKind.u64.wrap ((xs.getD (i + 1) 0 : Nat) * 2 ^ s : Int) = (a : Int) ∧ ((xs.getD i 0 : Nat) : Int) / 2 ^ t = (b : Int) ∧ bits .or .u64 (a : Int) (b : Int) = (v : Int) ∧ v = (shv s xs).getD (i + 1) 0 := by
    intro i hi; rw [ht]; exact sh_word hs1 hs63 hdx (by omega)
  have word0 := sh_word0 hs63 hdx (by omega)
  have HX := hide hx2
  have Fin := hide fin
  have HW := hide words
  have HW0 := hide word0
  have HZ := hide (And.intro ho (And.intro hu hn))
  obtain ⟨gx, ox, rfl, hc0⟩ := hx2 m w (m + 1) (by omega) HS0.out
  have a1 : bits .and .u64 (s : Int) 63 = (s : Int) := by
    rw [show (63 : Int) = ((63 : Nat) : Int) from rfl, u64_and_nat s 63 (by omega) (by omega), show (63 : Nat) = 2 ^ 6 - 1 from rfl, Nat.and_two_pow_sub_one_eq_mod, Nat.mod_eq_of_lt (by omega)]
  have a2 : IntKind.u64.wrap (64 - (s : Int)) = (t : Int) := by rw [IntKind.wrap_u64]; omega
  have a2' : (64 : Int) - (s : Int) = (t : Int) := by omega
  have a3 : bits .and .u64 (t : Int) 63 = (t : Int) := by
    rw [show (63 : Int) = ((63 : Nat) : Int) from rfl, u64_and_nat t 63 (by omega) (by omega), show (63 : Nat) = 2 ^ 6 - 1 from rfl, Nat.and_two_pow_sub_one_eq_mod, Nat.mod_eq_of_lt (by omega)]
  have ht63 : t ≤ 63 := by omega
  have hs0 : ((s : Int) == 0) = false := beq_eq_false_iff_ne.2 (by omega)
  clear hb hx hxb hx2 fin ho hu hn hdx hq hqc words word0 ht
  generalize xs.getD m 0 = top at *
  go_enter Tryz.func199, Tryz.ntmps199
  go_wp2
  go_loopw [8] (fun vi wr => ∃ k : Nat, k ≤ m ∧ vi = .int .i64 (k : Int) ∧ Hid (ShS w g s (k + 1) P S us xs wr)) (fun vi _ => (intOf vi).toNat)
  case atStart => exact ⟨m, Nat.le_refl _, by go_num, HS0⟩
  case round =>
    obtain ⟨k, hk, rfl, HR⟩ := hrel
    obtain ⟨⟨u, _, hcz⟩, hfz, hst⟩ := HR.out.step HZ.out.1 HZ.out.2.1 (by have := HZ.out.2.2; omega)
    have HST := hide hst
    clear hst HS0 hc0
    obtain ⟨gx', ox', e, hck⟩ := HX.out k wr (k + 1) (by omega) HR.out
    injection e with e; injection e with e1 e2; subst e1 e2
    by_cases h0 : k = 0
    · subst h0
      obtain ⟨v, w1, hv⟩ := HW0.out
      have HF := hide (Fin.out _ (HST.out v hv))
      have hcza : wr.cell? ⟨g, o, none⟩ = some u := hcz
      have hfza : wr.frozen? ⟨g, o, none⟩ = false := hfz
      have hcka : wr.cell? ⟨gx, ox, none⟩ = some (.int .u64 (xs.getD 0 0 : Nat)) := hck
      clear HST HW HW0 HX HR Fin hv HZ
      generalize xs.getD 0 0 = x at *
      go_wp2
      go_ret
      exact HF.out
    · obtain ⟨k, rfl⟩ : ∃ j, k = j + 1 := ⟨k - 1, by omega⟩
      obtain ⟨gx', ox', e, hckl⟩ := HX.out k wr (k + 1 + 1) (by omega) HR.out
      injection e with e; injection e with e1 e2; subst e1 e2
      obtain ⟨a, b, v, w1, w2, w3, hv⟩ := HW.out k (by omega)
      have HN := hide ((HST.out v hv).drew)
      have g1 : ((k + 1 : Nat) : Int) - 1 = (k : Int) := by omega
      clear HST HW HW0 HX HR Fin hv HZ hqi
      generalize xs.getD (k + 1) 0 = x at *
      generalize xs.getD k 0 = y at *
      go_wp2
      go_region
      all_goals go_wp2
      all_goals go_roundw
      case rel => exact ⟨_, _, _, _, _, _, _, _, _, _, _, _, _, _, _, _, _, _, _, _, _, _, ⟨k, by omega, by go_num, HN⟩, rfl⟩
      case measure => simp [intOf]
theorem lsh_any (g o n c1 s : Nat) (P S us : List Value) (A : Option Addr) (c : Nat) (xs : List Nat) (w : World) (hb : Blk w g 145 (P ++ us ++ S).toArray) (ho : o = P.length) (hu : us.length = xs.length) (hn : n = xs.length) (hnb : n ≤ 1099511627776) (hc1 : n ≤ c1)
    (hx : RdW w (.slice A n c) xs) (hxb : ∀ k, (Value.slice A n c).ownBlock = some k → k ≠ g) (hdx : Dig 18446744073709551616 xs) (hs1 : 1 ≤ s) (hs63 : s ≤ 63) (hn1 : 1 ≤ n) :
    Calls Tryz.prog 171 #[.slice (some ⟨g, o, none⟩) n c1, .slice A n c, .int .u64 (s : Int)] w (ShP w g s P S xs) := by
  have Con := hide (lshg_any g o n c1 s P S us A c xs w hb ho hu hn hnb hc1 hx hxb hdx hs1 hs63 hn1)
  clear hb ho hu hn hx hdx hxb
  go_enter Tryz.func171, Tryz.ntmps171
  go_wp2_with fail
  refine (Con.out).mono ?_
  rintro e w1 ⟨q, rfl, h⟩
  have Fin : Hid (ShP w g s P S xs (.returned (.int .u64 (q : Int))) w1) := ⟨q, rfl, h⟩
  clear h Con
  go_wp2
  go_ret
  exact Fin.out
end Go.Proofs.YtfkcobdkgjhfaaaGreatDoor

/- Walks: a number of one word shifted to the left: same, nat.lsh. -/
set_option linter.unusedVariables false
set_option linter.unusedSimpArgs false
namespace Go.Proofs.YtfkcobdkgjhfaaaGreatDoor
open Go.RowKit

theorem same_self (g o n c : Nat) (w : World) (hn : 0 < n) (hc : n ≤ c) (hnb : n ≤ 1099511627776) :
    Calls Tryz.prog 220 #[.slice (some ⟨g, o, none⟩) n c, .slice (some ⟨g, o, none⟩) n c] w fun e w' => e = .returned (.bool true) ∧ w' = w.drew := by
  obtain ⟨j, hj, hs⟩ := Option.map_eq_some_iff.1 sizeWord
  have hcmp : ∀ w, (binOp .eql 230 (.pointer (some ⟨g, o, none⟩)) (.pointer (some ⟨g, o, none⟩))).run Tryz.prog w = .ok (.bool true) w := fun w => run_eql_ptr_same w ⟨g, o, none⟩ Tryz.underlying230 hj
  have h1 := hcmp w
  have h2 := hcmp w.drew
  have hn0 : (0 : Int) < (n : Int) := by omega
  go_enter Tryz.func220, Tryz.ntmps220
  go_wp2
  go_region
  all_goals go_wp2
  all_goals go_ret
  all_goals exact ⟨rfl, rfl⟩
set_option maxRecDepth 20000 in
/-- One word; z and x may lie in one block. -/
theorem lshg_one (g o c1 g2 o2 c s x : Nat) (u : Value) (w : World) (hz : w.cell? ⟨g, o, none⟩ = some u) (hf : w.frozen? ⟨g, o, none⟩ = false) (hx : w.cell? ⟨g2, o2, none⟩ = some (.int .u64 (x : Int))) (hs1 : 1 ≤ s) (hs63 : s ≤ 63) (hc1 : 1 ≤ c1) (hc : 1 ≤ c) :
    Calls Tryz.prog 199 #[.slice (some ⟨g, o, none⟩) 1 c1, .slice (some ⟨g2, o2, none⟩) 1 c, .int .u64 (s : Int)] w fun e w' => e = .returned (.int .u64 ((x / 2 ^ (64 - s) : Nat) : Int)) ∧ w' = w.setCell ⟨g, o, none⟩ (.int .u64 ((x * 2 ^ s % 18446744073709551616 : Nat) : Int)) := by
  obtain ⟨t, ht⟩ : ∃ t, t = 64 - s := ⟨_, rfl⟩
  have hqi : (x : Int) / 2 ^ t = ((x / 2 ^ t : Nat) : Int) := by rw [Int.natCast_ediv, Int.natCast_pow]; rfl
  have hv : IntKind.u64.wrap ((x : Int) * 2 ^ s) = ((x * 2 ^ s % 18446744073709551616 : Nat) : Int) := by
    rw [show ((x : Int) * 2 ^ s) = ((x * 2 ^ s : Nat) : Int) from by rw [Int.natCast_mul, Int.natCast_pow]; rfl, wrpN]
  have a1 : bits .and .u64 (s : Int) 63 = (s : Int) := by
    rw [show (63 : Int) = ((63 : Nat) : Int) from rfl, u64_and_nat s 63 (by omega) (by omega), show (63 : Nat) = 2 ^ 6 - 1 from rfl, Nat.and_two_pow_sub_one_eq_mod, Nat.mod_eq_of_lt (by omega)]
  have a2 : IntKind.u64.wrap (64 - (s : Int)) = (t : Int) := by rw [IntKind.wrap_u64]; omega
  have a2' : (64 : Int) - (s : Int) = (t : Int) := by omega
  have a3 : bits .and .u64 (t : Int) 63 = (t : Int) := by
    rw [show (63 : Int) = ((63 : Nat) : Int) from rfl, u64_and_nat t 63 (by omega) (by omega), show (63 : Nat) = 2 ^ 6 - 1 from rfl, Nat.and_two_pow_sub_one_eq_mod, Nat.mod_eq_of_lt (by omega)]
  have ht63 : t ≤ 63 := by omega
  have hs0 : ((s : Int) == 0) = false := beq_eq_false_iff_ne.2 (by omega)
  rw [← ht]
  clear ht
  generalize x / 2 ^ t = q at *
  generalize x * 2 ^ s % 18446744073709551616 = v at *
  go_enter Tryz.func199, Tryz.ntmps199
  go_wp2
  refine wp_loop_rounds 1 ?_
  rw [rounds_succ]
  go_wp2
  go_ret
  exact ⟨rfl, rfl⟩
theorem lsh_one (g o c1 g2 o2 c s x : Nat) (u : Value) (w : World) (hz : w.cell? ⟨g, o, none⟩ = some u) (hf : w.frozen? ⟨g, o, none⟩ = false) (hx : w.cell? ⟨g2, o2, none⟩ = some (.int .u64 (x : Int))) (hs1 : 1 ≤ s) (hs63 : s ≤ 63) (hc1 : 1 ≤ c1) (hc : 1 ≤ c) :
    Calls Tryz.prog 171 #[.slice (some ⟨g, o, none⟩) 1 c1, .slice (some ⟨g2, o2, none⟩) 1 c, .int .u64 (s : Int)] w fun e w' => e = .returned (.int .u64 ((x / 2 ^ (64 - s) : Nat) : Int)) ∧ w' = w.setCell ⟨g, o, none⟩ (.int .u64 ((x * 2 ^ s % 18446744073709551616 : Nat) : Int)) := by
  have Con := hide (lshg_one g o c1 g2 o2 c s x u w hz hf hx hs1 hs63 hc1 hc)
  clear hz hf hx
  generalize x / 2 ^ (64 - s) = q at *
  generalize x * 2 ^ s % 18446744073709551616 = v at *
  go_enter Tryz.func171, Tryz.ntmps171
  go_wp2_with fail
  refine (Con.out).mono ?_
  rintro e w1 ⟨rfl, rfl⟩
  go_wp2
  go_ret
  exact ⟨rfl, rfl⟩
end Go.Proofs.YtfkcobdkgjhfaaaGreatDoor

/- Plain: a row shifted to the right. -/
set_option linter.unusedVariables false
set_option linter.unusedSimpArgs false
namespace Go.Proofs.YtfkcobdkgjhfaaaGreatDoor
open Go.RowKit

/-! ### plain -/
theorem shl_split {s : Nat} (hs : s ≤ 64) (x : Nat) : x * 2 ^ s = x * 2 ^ s % 18446744073709551616 + 18446744073709551616 * (x / 2 ^ (64 - s)) := by
  have hp : 0 < 2 ^ s := Nat.two_pow_pos s
  have e : 2 ^ (64 - s) * 2 ^ s = 18446744073709551616 := by rw [← Nat.pow_add, show 64 - s + s = 64 by omega]
  have h := Nat.mod_add_div (x * 2 ^ s) 18446744073709551616
  have h2 : x * 2 ^ s / 18446744073709551616 = x / 2 ^ (64 - s) := by rw [← e, Nat.mul_div_mul_right _ _ hp]
  rw [h2] at h
  exact h.symm
theorem shl_dig {s x p : Nat} (hs : s ≤ 64) (hp : p < 18446744073709551616) : x * 2 ^ s % 18446744073709551616 + p / 2 ^ (64 - s) < 18446744073709551616 := by
  have hq : 0 < 2 ^ (64 - s) := Nat.two_pow_pos _
  have e : 2 ^ (64 - s) * 2 ^ s = 18446744073709551616 := by rw [← Nat.pow_add, show 64 - s + s = 64 by omega]
  have h1 : p / 2 ^ (64 - s) < 2 ^ s := by rw [Nat.div_lt_iff_lt_mul hq, Nat.mul_comm, e]; exact hp
  have h2 : x * 2 ^ s % 18446744073709551616 = x % 2 ^ (64 - s) * 2 ^ s := by rw [← e, Nat.mul_mod_mul_right]
  have h3 : (x % 2 ^ (64 - s) + 1) * 2 ^ s ≤ 2 ^ (64 - s) * 2 ^ s := Nat.mul_le_mul_right _ (Nat.mod_lt _ hq)
  have h4 : (x % 2 ^ (64 - s) + 1) * 2 ^ s = x % 2 ^ (64 - s) * 2 ^ s + 2 ^ s := by grind
  rw [h2]; omega
theorem shl_or {s x p : Nat} (hs : s ≤ 64) (hp : p < 18446744073709551616) : bits .or .u64 ((x * 2 ^ s % 18446744073709551616 : Nat) : Int) ((p / 2 ^ (64 - s) : Nat) : Int) = ((x * 2 ^ s % 18446744073709551616 + p / 2 ^ (64 - s) : Nat) : Int) := by
  have hq : 0 < 2 ^ (64 - s) := Nat.two_pow_pos _
  have e : 2 ^ (64 - s) * 2 ^ s = 18446744073709551616 := by rw [← Nat.pow_add, show 64 - s + s = 64 by omega]
  have h1 : p / 2 ^ (64 - s) < 2 ^ s := by rw [Nat.div_lt_iff_lt_mul hq, Nat.mul_comm, e]; exact hp
  have h2 : x * 2 ^ s % 18446744073709551616 = x % 2 ^ (64 - s) * 2 ^ s := by rw [← e, Nat.mul_mod_mul_right]
  have h3 := shl_dig (x := x) hs hp
  rw [u64_or_nat _ _ (by omega) (by omega), nat_join s _ _ (by rw [h2]; exact Nat.mul_mod_left _ _) h1]
def shrL (s : Nat) : List Nat → List Nat
  | [] => []
  | x :: xs => (x / 2 ^ s + xs.getD 0 0 * 2 ^ (64 - s) % 18446744073709551616) :: shrL s xs
theorem shrL_length (s : Nat) : ∀ (xs : List Nat), (shrL s xs).length = xs.length
  | [] => rfl
  | x :: xs => by simp [shrL, shrL_length s xs]
theorem shr_or {s x p : Nat} (hs : s ≤ 64) (hx : x < 18446744073709551616) : bits .or .u64 ((x / 2 ^ s : Nat) : Int) ((p * 2 ^ (64 - s) % 18446744073709551616 : Nat) : Int) = ((x / 2 ^ s + p * 2 ^ (64 - s) % 18446744073709551616 : Nat) : Int) ∧ x / 2 ^ s + p * 2 ^ (64 - s) % 18446744073709551616 < 18446744073709551616 := by
  have e0 : 64 - (64 - s) = s := by omega
  have h := shl_or (s := 64 - s) (x := p) (p := x) (by omega) hx
  have h2 := shl_dig (s := 64 - s) (x := p) (p := x) (by omega) hx
  rw [e0] at h h2
  refine ⟨?_, by omega⟩
  rw [u64_or_nat _ _ (by omega) (by omega)] at h ⊢
  rw [Nat.or_comm, h, Nat.add_comm]
theorem shrL_dig {s : Nat} (hs : s ≤ 64) : ∀ {xs : List Nat}, Dig 18446744073709551616 xs → Dig 18446744073709551616 (shrL s xs)
  | [], _ => fun e he => by simp [shrL] at he
  | x :: xs, hx => by
    intro e he
    rcases List.mem_cons.1 he with rfl | he
    · exact (shr_or hs (hx x (by simp))).2
    · exact shrL_dig hs (fun e he => hx e (by simp [he])) e he
theorem shrL_val {s : Nat} (hs : s ≤ 64) : ∀ (xs : List Nat), dval 18446744073709551616 (shrL s xs) = dval 18446744073709551616 xs / 2 ^ s
  | [] => by simp [shrL, dval]
  | [x] => by simp [shrL, dval]
  | x :: y :: r => by
    have ih := shrL_val hs (y :: r)
    have hp : 0 < 2 ^ s := Nat.two_pow_pos s
    have e : 2 ^ (64 - s) * 2 ^ s = 18446744073709551616 := by rw [← Nat.pow_add, show 64 - s + s = 64 by omega]
    have h1 : dval 18446744073709551616 (y :: r) * 2 ^ (64 - s) = y * 2 ^ (64 - s) % 18446744073709551616 + 18446744073709551616 * (dval 18446744073709551616 (y :: r) / 2 ^ s) := by
      have a1 := Nat.mod_add_div (dval 18446744073709551616 (y :: r) * 2 ^ (64 - s)) 18446744073709551616
      have a2 : dval 18446744073709551616 (y :: r) * 2 ^ (64 - s) % 18446744073709551616 = y * 2 ^ (64 - s) % 18446744073709551616 := by
        rw [dval_cons, Nat.add_mul, Nat.mul_assoc, Nat.add_mul_mod_self_left]
      have a3 : dval 18446744073709551616 (y :: r) * 2 ^ (64 - s) / 18446744073709551616 = dval 18446744073709551616 (y :: r) / 2 ^ s := by
        rw [← e, Nat.mul_comm (2 ^ (64 - s)) (2 ^ s), Nat.mul_div_mul_right _ _ (Nat.two_pow_pos _)]
      rw [a2, a3] at a1
      exact a1.symm
    have h2 : (x + 18446744073709551616 * dval 18446744073709551616 (y :: r)) / 2 ^ s = x / 2 ^ s + dval 18446744073709551616 (y :: r) * 2 ^ (64 - s) := by
      have : x + 18446744073709551616 * dval 18446744073709551616 (y :: r) = x + 2 ^ s * (dval 18446744073709551616 (y :: r) * 2 ^ (64 - s)) := by
        rw [← e]; grind
      rw [this, Nat.add_mul_div_left _ _ hp]
    show (x / 2 ^ s + y * 2 ^ (64 - s) % 18446744073709551616) + 18446744073709551616 * dval 18446744073709551616 (shrL s (y :: r)) = (x + 18446744073709551616 * dval 18446744073709551616 (y :: r)) / 2 ^ s
    rw [ih, h2, h1]
    omega
theorem shrL_getD (s : Nat) : ∀ (xs : List Nat) (k : Nat), k < xs.length → (shrL s xs).getD k 0 = xs.getD k 0 / 2 ^ s + xs.getD (k + 1) 0 * 2 ^ (64 - s) % 18446744073709551616
  | [], _, h => by simp at h
  | x :: xs, 0, _ => by simp [shrL]
  | x :: xs, k + 1, h => by
    have := shrL_getD s xs k (by simpa using h)
    simp only [shrL, List.getD_cons_succ]
    rw [this]
end Go.Proofs.YtfkcobdkgjhfaaaGreatDoor

/- Plain: the numbers of nat.divLarge: both operands shifted, and the rest shifted back. No program in sight. -/
set_option linter.unusedVariables false
set_option linter.unusedSimpArgs false
namespace Go.Proofs.YtfkcobdkgjhfaaaGreatDoor
open Go.RowKit

theorem lg_num {a y s Q R : Nat} (h : a * 2 ^ s = Q * (y * 2 ^ s) + R) (hlt : R < y * 2 ^ s) : Q = a / y ∧ R / 2 ^ s = a % y := by
  have hp : 0 < 2 ^ s := Nat.two_pow_pos s
  have e : Q * (y * 2 ^ s) = Q * y * 2 ^ s := by rw [Nat.mul_assoc]
  rw [e] at h
  have h1 : Q * y ≤ a := Nat.le_of_mul_le_mul_right (by omega : Q * y * 2 ^ s ≤ a * 2 ^ s) hp
  obtain ⟨r, hr⟩ : ∃ r, a = Q * y + r := ⟨a - Q * y, by omega⟩
  have h2 : R = r * 2 ^ s := by
    have : a * 2 ^ s = Q * y * 2 ^ s + r * 2 ^ s := by rw [hr, Nat.add_mul]
    omega
  have h3 : r < y := Nat.lt_of_mul_lt_mul_right (by rw [← h2]; exact hlt : r * 2 ^ s < y * 2 ^ s)
  obtain ⟨h4, h5⟩ := dww_fix (X := a) (d := y) (q := Q) (r := r) (by omega) (by rw [hr, Nat.mul_comm y Q]) h3
  exact ⟨h4, by rw [h2, Nat.mul_div_cancel _ hp]; exact h5⟩
/-- The first words of what is shifted are below the divisor. -/
theorem lg_lt {a y s m n U V : Nat} {us0 : List Nat} (hm : 1 ≤ m) (hn : 1 ≤ n) (hl : us0.length = m + n) (hu : dval 18446744073709551616 us0 = a * 2 ^ s) (ha : a < 18446744073709551616 ^ (m + n - 1)) (hy : 18446744073709551616 ^ (n - 1) ≤ y) (hV : V = y * 2 ^ s) (hU : U = dval 18446744073709551616 (us0.drop m)) : U < V := by
  have h1 := dval_split 18446744073709551616 m us0 (by omega)
  have hp : 0 < 2 ^ s := Nat.two_pow_pos s
  have hq : 0 < 18446744073709551616 ^ m := Nat.pow_pos (by omega)
  have h2 : 18446744073709551616 ^ m * U ≤ a * 2 ^ s := by rw [hU, ← hu]; omega
  have h3 : a * 2 ^ s < 18446744073709551616 ^ (m + n - 1) * 2 ^ s := Nat.mul_lt_mul_of_pos_right ha hp
  have h4 : 18446744073709551616 ^ (m + n - 1) = 18446744073709551616 ^ m * 18446744073709551616 ^ (n - 1) := by rw [← Nat.pow_add, show m + (n - 1) = m + n - 1 by omega]
  have h5 : 18446744073709551616 ^ (n - 1) * 2 ^ s ≤ V := by rw [hV]; exact Nat.mul_le_mul_right _ hy
  have h6 : 18446744073709551616 ^ m * U < 18446744073709551616 ^ m * (18446744073709551616 ^ (n - 1) * 2 ^ s) := by
    rw [h4, Nat.mul_assoc] at h3
    omega
  have := Nat.lt_of_mul_lt_mul_left h6
  omega
/-- What divBasic leaves is what the division asks. -/
theorem lg_end {a y s m n : Nat} {us0 vs us qk : List Nat} (h : KnN m n 0 us0 vs us qk) (hu : dval 18446744073709551616 us0 = a * 2 ^ s) (hv : dval 18446744073709551616 vs = y * 2 ^ s) : dval 18446744073709551616 qk = a / y ∧ dval 18446744073709551616 us / 2 ^ s = a % y := by
  have h1 := h.val
  have h2 := h.lt
  rw [List.drop_zero, List.drop_zero, hu, hv] at h1
  rw [List.drop_zero, hv] at h2
  exact lg_num h1 h2
end Go.Proofs.YtfkcobdkgjhfaaaGreatDoor

/- Plain: a divisor that is shifted until its first bit is set. No program in sight. -/
set_option linter.unusedVariables false
set_option linter.unusedSimpArgs false
namespace Go.Proofs.YtfkcobdkgjhfaaaGreatDoor
open Go.RowKit

theorem shc_eq {s : Nat} (hs : s ≤ 64) {xs : List Nat} (hd : Dig 18446744073709551616 xs) (hn : 1 ≤ xs.length) : shc s xs = xs.getD (xs.length - 1) 0 / 2 ^ (64 - s) := by
  have h := (amul_sh hs xs 0 (Nat.two_pow_pos s) hd).2
  rw [if_neg (by omega)] at h
  exact h
theorem shc_lt {s : Nat} (hs : s ≤ 64) {xs : List Nat} (hd : Dig 18446744073709551616 xs) (hn : 1 ≤ xs.length) : shc s xs < 2 ^ s := by
  rw [shc_eq hs hd hn]
  exact sh_carry_lt hs (dig_getD (by omega) hd _)
/-- The top word of a row whose number is great. -/
theorem top_of {n K : Nat} {vs : List Nat} (hl : vs.length = n + 1) (hd : Dig 18446744073709551616 vs) (h : 18446744073709551616 ^ n * K ≤ dval 18446744073709551616 vs) : K ≤ vs.getD n 0 := by
  have h1 := dval_split 18446744073709551616 n vs (by omega)
  rw [dval_drop1, List.drop_of_length_le (by omega : vs.length ≤ n + 1), dval_nil, Nat.mul_zero, Nat.add_zero] at h1
  have h2 := dval_lt (b := 18446744073709551616) (by omega) (dig_take hd n)
  rw [List.length_take, hl, Nat.min_eq_left (by omega)] at h2
  have h3 : 18446744073709551616 ^ n * K < 18446744073709551616 ^ n * (vs.getD n 0 + 1) := by
    rw [Nat.mul_add, Nat.mul_one]; omega
  have := Nat.lt_of_mul_lt_mul_left h3
  omega
theorem lg_sh {s n : Nat} {ys : List Nat} (hl : ys.length = n + 1) (hd : Dig 18446744073709551616 ys) (hs : s ≤ 63) (h1 : 9223372036854775808 ≤ ys.getD n 0 * 2 ^ s) (h2 : ys.getD n 0 * 2 ^ s < 18446744073709551616) :
    dval 18446744073709551616 (shv s ys) = dval 18446744073709551616 ys * 2 ^ s ∧ 9223372036854775808 ≤ (shv s ys).getD n 0 := by
  have hc : shc s ys = 0 := by
    rw [shc_eq (by omega) hd (by omega), hl, Nat.add_sub_cancel]
    refine Nat.div_eq_of_lt ?_
    have e : 2 ^ (64 - s) * 2 ^ s = 18446744073709551616 := by rw [← Nat.pow_add, show 64 - s + s = 64 by omega]
    rw [← e] at h2
    exact Nat.lt_of_mul_lt_mul_right h2
  have hv := shv_val s ys
  rw [hc, dval_append, dval_cons, dval_nil] at hv
  have hv' : dval 18446744073709551616 (shv s ys) = dval 18446744073709551616 ys * 2 ^ s := by simpa using hv
  refine ⟨hv', top_of (by rw [shv_length, hl]) (shv_dig s ys) ?_⟩
  have h3 := dval_split 18446744073709551616 n ys (by omega)
  rw [dval_drop1] at h3
  have h4 : 18446744073709551616 ^ n * ys.getD n 0 ≤ dval 18446744073709551616 ys := by
    rw [h3]
    exact Nat.le_trans (Nat.mul_le_mul_left _ (Nat.le_add_right _ _)) (Nat.le_add_left _ _)
  rw [hv']
  calc 18446744073709551616 ^ n * 9223372036854775808 ≤ 18446744073709551616 ^ n * (ys.getD n 0 * 2 ^ s) := Nat.mul_le_mul_left _ h1
    _ = 18446744073709551616 ^ n * ys.getD n 0 * 2 ^ s := by rw [Nat.mul_assoc]
    _ ≤ dval 18446744073709551616 ys * 2 ^ s := Nat.mul_le_mul_right _ h4
end Go.Proofs.YtfkcobdkgjhfaaaGreatDoor
