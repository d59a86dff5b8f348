/- Parts of the proofs: ModfN, KnMath, KnVV. -/
import Derived.Test.YtfkcobdkgjhfaaaGreatDoorG3
import Derived.Test.YtfkcobdkgjhfaaaGreatDoorG5
import Derived.Test.YtfkcobdkgjhfaaaGreatDoorG30
/- Plain: what Modf parts a decimal into. No program in sight. -/
set_option linter.unusedVariables false
set_option linter.unusedSimpArgs false
namespace Go.Proofs.YtfkcobdkgjhfaaaGreatDoor
open Go.RowKit

/-- The parts: all of it whole, or its whole part and what is left. -/
def ModN (a : Nat) (e : Int) (p : Nat) (ep : Int) (q : Nat) (eq : Int) : Prop :=
  (0 < e ∧ p = a ∧ ep = e ∧ q = 0 ∧ eq = 0) ∨ (e ≤ 0 ∧ ep = 0 ∧ eq = e ∧ p * 10 ^ e.natAbs + q = a ∧ q < 10 ^ e.natAbs)

theorem lt_figs (a : Nat) : a < 10 ^ figs a := by
  unfold figs
  by_cases h0 : a = 0
  · simp [h0]
  · rw [if_neg h0]; exact lt_of_digs_length (by omega) (Nat.le_refl _)
theorem figs_few {a : Nat} (h : (digs 18446744073709551616 a).length ≤ 3) : figs a ≤ 60 := by
  unfold figs
  by_cases h0 : a = 0
  · simp [h0]
  · rw [if_neg h0]
    refine digs_length_le (by omega) ?_
    exact Nat.lt_of_lt_of_le (lt_of_digs_length (b := 18446744073709551616) (by omega) h) (by decide)
theorem modN_up {a : Nat} {e : Int} (h : 0 < e) : ModN a e a e 0 0 := .inl ⟨h, rfl, rfl, rfl, rfl⟩
theorem modN_small {a k : Nat} {e : Int} (hk : (k : Int) = -e) (h : figs a < k) : ModN a e 0 0 a e := by
  refine .inr ⟨by omega, rfl, rfl, by omega, ?_⟩
  have e1 : e.natAbs = k := by omega
  rw [e1]
  exact Nat.lt_of_lt_of_le (lt_figs a) (Nat.pow_le_pow_right (by omega) (by omega))
theorem modN_part {a k : Nat} {e : Int} (hk : (k : Int) = -e) : ModN a e (a / 10 ^ k) 0 (a % 10 ^ k) e := by
  have e1 : e.natAbs = k := by omega
  refine .inr ⟨by omega, rfl, rfl, ?_, ?_⟩
  · rw [e1, Nat.mul_comm]; exact Nat.div_add_mod a (10 ^ k)
  · rw [e1]; exact Nat.mod_lt _ (Nat.pow_pos (by omega))
/-- A power of 10 up to 10 ^ 57 has three words at most; a greater one is greater than any number of three words. -/
theorem pow_few {a k : Nat} (h3 : (digs 18446744073709551616 a).length ≤ 3) : a < 10 ^ k ∨ (digs 18446744073709551616 (10 ^ k)).length ≤ 3 := by
  have h1 := lt_of_digs_length (b := 18446744073709551616) (by omega) h3
  rcases Nat.lt_or_ge (10 ^ k) (18446744073709551616 ^ 3) with h | h
  · exact .inr (digs_length_le (by omega) h)
  · exact .inl (by omega)
theorem pow_words {k : Nat} (hk : k ≤ 60) : (digs 18446744073709551616 (10 ^ k)).length ≤ 4 := by
  refine digs_length_le (by omega) ?_
  exact Nat.lt_of_le_of_lt (Nat.pow_le_pow_right (by omega) hk) (by decide)
theorem pow_half {k : Nat} (hk : k ≤ 60) : 10 ^ (k / 2) < 18446744073709551616 ^ 11 :=
  Nat.lt_of_le_of_lt (Nat.pow_le_pow_right (by omega) (by omega : k / 2 ≤ 30)) (by decide)
end Go.Proofs.YtfkcobdkgjhfaaaGreatDoor

/- Plain: the school method of division by a number of several words: a digit's guess and what it leaves; rows less rows. No program in sight. -/
set_option linter.unusedVariables false
set_option linter.unusedSimpArgs false
namespace Go.Proofs.YtfkcobdkgjhfaaaGreatDoor

/-- What is borrowed. -/
def bow (x y : Nat) : Nat := if x < y then 1 else 0
theorem bow_le (x y : Nat) : bow x y ≤ 1 := by unfold bow; split <;> omega

/-- zs - ys - c, digit by digit, and what is borrowed. -/
def subL (b : Nat) : List Nat → List Nat → Nat → List Nat × Nat
  | z :: zs, y :: ys, c => ((z + b - y - c) % b :: (subL b zs ys (bow z (y + c))).1, (subL b zs ys (bow z (y + c))).2)
  | _, _, c => ([], c)
theorem subL_cons (b z y c : Nat) (zs ys : List Nat) : subL b (z :: zs) (y :: ys) c = ((z + b - y - c) % b :: (subL b zs ys (bow z (y + c))).1, (subL b zs ys (bow z (y + c))).2) := rfl
theorem subL_length (b : Nat) : ∀ {zs ys : List Nat} (c : Nat), zs.length = ys.length → (subL b zs ys c).1.length = ys.length
  | [], [], _, _ => rfl
  | [], _ :: _, _, h => by simp at h
  | _ :: _, [], _, h => by simp at h
  | z :: zs, y :: ys, c, h => by simp [subL_cons, subL_length b (zs := zs) (ys := ys) _ (by simpa using h)]
theorem subL_snoc (b z y : Nat) : ∀ {zs ys : List Nat} (c : Nat), zs.length = ys.length →
    subL b (zs ++ [z]) (ys ++ [y]) c = ((subL b zs ys c).1 ++ [(z + b - y - (subL b zs ys c).2) % b], bow z (y + (subL b zs ys c).2))
  | [], [], _, _ => rfl
  | [], _ :: _, _, h => by simp at h
  | _ :: _, [], _, h => by simp at h
  | z' :: zs, y' :: ys, c, h => by
    simp only [List.cons_append, subL_cons]
    rw [subL_snoc b z y (zs := zs) (ys := ys) _ (by simpa using h)]
theorem subL_dig {b : Nat} (hb : 0 < b) : ∀ {zs ys : List Nat} (c : Nat), Dig b (subL b zs ys c).1
  | [], _, _ => fun e he => by simp [subL] at he
  | _ :: _, [], _ => fun e he => by simp [subL] at he
  | z :: zs, y :: ys, c => by
    intro e he
    rw [subL_cons] at he
    rcases List.mem_cons.1 he with rfl | he
    · exact Nat.mod_lt _ hb
    · exact subL_dig hb _ e he
theorem subL_borrow {b : Nat} : ∀ {zs ys : List Nat} (c : Nat), c ≤ 1 → (subL b zs ys c).2 ≤ 1
  | [], _, _, hc => by simpa [subL] using hc
  | _ :: _, [], _, hc => by simpa [subL] using hc
  | z :: zs, y :: ys, c, hc => by
    rw [subL_cons]
    exact subL_borrow _ (bow_le _ _)
theorem sub_one {b z y c : Nat} (hz : z < b) (hy : y < b) (hc : c ≤ 1) : (z + b - y - c) % b + y + c = z + b * bow z (y + c) := by
  unfold bow
  split
  · rw [Nat.mod_eq_of_lt (by omega)]; omega
  · have e : z + b - y - c = (z - y - c) + b := by omega
    rw [e, Nat.add_mod_right, Nat.mod_eq_of_lt (by omega)]; omega
theorem subL_val {b : Nat} : ∀ {zs ys : List Nat} (c : Nat), zs.length = ys.length → Dig b zs → Dig b ys → c ≤ 1 →
    dval b (subL b zs ys c).1 + dval b ys + c = dval b zs + b ^ ys.length * (subL b zs ys c).2
  | [], [], _, _, _, _, _ => by simp [subL, dval]
  | [], _ :: _, _, h, _, _, _ => by simp at h
  | _ :: _, [], _, h, _, _, _ => by simp at h
  | z :: zs, y :: ys, c, h, hz, hy, hc => by
    have ih := subL_val (b := b) (zs := zs) (ys := ys) (bow z (y + c)) (by simpa using h) (fun e he => hz e (by simp [he])) (fun e he => hy e (by simp [he])) (bow_le _ _)
    have h1 := sub_one (hz z (by simp)) (hy y (by simp)) hc
    rw [subL_cons]
    simp only [dval_cons, List.length_cons, Nat.pow_succ]
    generalize (subL b zs ys (bow z (y + c))).1 = p at *
    generalize (subL b zs ys (bow z (y + c))).2 = q at *
    generalize (z + b - y - c) % b = u at *
    generalize bow z (y + c) = t at *
    generalize dval b p = D at *
    generalize dval b zs = Z at *
    generalize dval b ys = Y at *
    generalize b ^ ys.length = Bn at *
    have e1 : Bn * b * q = b * (Bn * q) := by grind
    have e2 : b * (D + Y + t) = b * (Z + Bn * q) := by rw [ih]
    have e3 : b * (D + Y + t) = b * D + b * Y + b * t := by grind
    have e4 : b * (Z + Bn * q) = b * Z + b * (Bn * q) := by grind
    rw [e1]
    omega

/-! ### the guess -/
section
variable {B P V2 v V U U3 qh v1 v2 T u2 r : Nat}
/-- Not too great by more than one .. -/
theorem kn_hi (hV : V = V2 * P + v) (hv : v ≤ P) (hBP : B * P ≤ V) (hU : U3 * P ≤ U) (hq : qh ≤ B) (h : qh * V2 ≤ U3) : qh * V ≤ U + V := by
  have h1 : qh * V2 * P ≤ U3 * P := Nat.mul_le_mul_right P h
  have h2 : qh * v ≤ B * P := Nat.mul_le_mul hq hv
  have e : qh * V = qh * V2 * P + qh * v := by rw [hV]; grind
  omega
/-- .. nor too small. -/
theorem kn_lo (hV : V2 * P ≤ V) (hU : U < (U3 + 1) * P) (h : U3 < (qh + 1) * V2) : U < (qh + 1) * V := by
  have h1 : (U3 + 1) * P ≤ (qh + 1) * V2 * P := Nat.mul_le_mul_right P h
  have h2 : (qh + 1) * (V2 * P) ≤ (qh + 1) * V := Nat.mul_le_mul_left _ hV
  have e : (qh + 1) * (V2 * P) = (qh + 1) * V2 * P := by grind
  omega
/-- The greatest digit, where the first words are alike. -/
theorem kn_top (hV : V = V2 * P + v) (hv : v ≤ P) (h2 : V2 = v1 * B + v2) (hb : v2 < B) (h1 : B ≤ 2 * v1) (hU : v1 * B * B * P ≤ U) (hB : 0 < B) : (B - 1) * V ≤ U + V := by
  have a1 : V ≤ (v1 * B + B) * P := by
    have : V2 * P + P = (V2 + 1) * P := by grind
    have : (V2 + 1) * P ≤ (v1 * B + B) * P := Nat.mul_le_mul_right P (by omega)
    omega
  have a2 : B * V ≤ v1 * B * B * P + B * B * P := by
    have : B * V ≤ B * ((v1 * B + B) * P) := Nat.mul_le_mul_left B a1
    have e : B * ((v1 * B + B) * P) = v1 * B * B * P + B * B * P := by grind
    omega
  have a3 : B * B * P ≤ 2 * V := by
    have h3 : B * B * P ≤ 2 * v1 * B * P := by
      have : B * B ≤ 2 * v1 * B := Nat.mul_le_mul_right B h1
      exact Nat.mul_le_mul_right P this
    have h4 : v1 * B * P ≤ V2 * P := Nat.mul_le_mul_right P (by omega)
    have e : 2 * v1 * B * P = 2 * (v1 * B * P) := by grind
    omega
  have e : (B - 1) * V + V = B * V := by
    obtain ⟨b, rfl⟩ : ∃ b, B = b + 1 := ⟨B - 1, by omega⟩
    have : b + 1 - 1 = b := by omega
    rw [this]; grind
  omega
/-- What the guess's test asks. -/
theorem kn_cond (h2 : V2 = v1 * B + v2) (h3 : U3 = T * B + u2) (hr : qh * v1 + r = T) : r * B + u2 < qh * v2 ↔ U3 < qh * V2 := by
  have e1 : qh * V2 = qh * v1 * B + qh * v2 := by rw [h2]; grind
  have e2 : U3 = qh * v1 * B + r * B + u2 := by rw [h3, ← hr]; grind
  omega
theorem kn_break (h2 : V2 = v1 * B + v2) (h3 : U3 = T * B + u2) (hr : qh * v1 + r = T) (hb : B ≤ r) (hq : qh < B) (hv : v2 < B) : qh * V2 ≤ U3 := by
  have e1 : qh * V2 = qh * v1 * B + qh * v2 := by rw [h2]; grind
  have e2 : U3 = qh * v1 * B + r * B + u2 := by rw [h3, ← hr]; grind
  have h4 : qh * v2 ≤ B * B := Nat.mul_le_mul (by omega) (by omega)
  have h5 : B * B ≤ r * B := Nat.mul_le_mul_right B hb
  omega
theorem kn_first (h2 : V2 = v1 * B + v2) (h3 : U3 = T * B + u2) (hu : u2 < B) (hv : 0 < v1) (hq : qh = T / v1) : U3 < (qh + 1) * V2 := by
  have h4 : T < (qh + 1) * v1 := by
    have := Nat.div_add_mod T v1
    have := Nat.mod_lt T hv
    have e : (qh + 1) * v1 = v1 * (T / v1) + v1 := by rw [hq]; grind
    omega
  have h5 : (T + 1) * B ≤ (qh + 1) * v1 * B := Nat.mul_le_mul_right B h4
  have e1 : (qh + 1) * V2 = (qh + 1) * v1 * B + (qh + 1) * v2 := by rw [h2]; grind
  have e2 : (T + 1) * B = T * B + B := by grind
  omega
/-- What is left by the right digit. -/
theorem kn_left {q : Nat} (h1 : q * V ≤ U) (h2 : U < (q + 1) * V) : U - q * V < V := by
  have e : (q + 1) * V = q * V + V := by grind
  omega
theorem kn_dec (h1 : U < qh * V) (h2 : qh * V ≤ U + V) : ∃ q, qh = q + 1 ∧ q * V ≤ U ∧ U < (q + 1) * V := by
  rcases Nat.eq_zero_or_pos qh with h | h
  · subst h; omega
  · obtain ⟨q, rfl⟩ : ∃ q, qh = q + 1 := ⟨qh - 1, by omega⟩
    have e : (q + 1) * V = q * V + V := by grind
    exact ⟨q, rfl, by omega, h1⟩
end
end Go.Proofs.YtfkcobdkgjhfaaaGreatDoor

/- Walks: rows less rows and rows plus rows, in place: subVV, addVV. -/
set_option linter.unusedVariables false
set_option linter.unusedSimpArgs false
namespace Go.Proofs.YtfkcobdkgjhfaaaGreatDoor
open Go.RowKit

/-- What a round of subVV holds. -/
structure SbS (w : World) (g k : Nat) (P S us : List Value) (zs xs : List Nat) (c : Nat) (W : World) : Prop where
  carry : c = (subL 18446744073709551616 (zs.take k) (xs.take k) 0).2
  blk : Blk W g 145 (P ++ wv (subL 18446744073709551616 (zs.take k) (xs.take k) 0).1 ++ us.drop k ++ S).toArray
  fr : Fr w W (fun k => k = g)
theorem SbS.drew {w : World} {g k : Nat} {P S us : List Value} {zs xs : List Nat} {c : Nat} {W : World} (h : SbS w g k P S us zs xs c W) : SbS w g k P S us zs xs c W.drew := ⟨h.carry, h.blk, h.fr.drew⟩
theorem SbS.step {w : World} {g k o : Nat} {P S us : List Value} {zs xs : List Nat} {c : Nat} {W : World} (h : SbS w g k P S us zs xs c W) (ho : o = P.length) (hu : us.length = xs.length) (hz : zs.length = xs.length) (hk : k < xs.length) :
    (∃ u, us[k]? = some u ∧ W.cell? ⟨g, o + k, none⟩ = some u) ∧ W.frozen? ⟨g, o + k, none⟩ = false ∧
      ∀ v c', v = (zs.getD k 0 + 18446744073709551616 - xs.getD k 0 - c) % 18446744073709551616 ∧ c' = bow (zs.getD k 0) (xs.getD k 0 + c) → SbS w g (k + 1) P S us zs xs c' (W.setCell ⟨g, o + k, none⟩ (.int .u64 (v : Int))) := by
  have hl : (zs.take k).length = (xs.take k).length := by simp [List.length_take, hz]
  have hB := h.blk
  have hk2 : k < us.length := by omega
  rw [List.drop_eq_getElem_cons hk2, List.append_assoc, List.cons_append] at hB
  have hpl : o + k = (P ++ wv (subL 18446744073709551616 (zs.take k) (xs.take k) 0).1).length := by
    rw [List.length_append, wv_length, subL_length _ _ hl, List.length_take, ho]; omega
  obtain ⟨h1, h2, h3⟩ := hB.part hpl
  refine ⟨⟨_, List.getElem?_eq_getElem hk2, h1⟩, h2, fun v c' hvc => ?_⟩
  obtain ⟨rfl, rfl⟩ := hvc
  have e := subL_snoc 18446744073709551616 (zs.getD k 0) (xs.getD k 0) (zs := zs.take k) (ys := xs.take k) 0 hl
  rw [← h.carry] at e
  refine ⟨?_, ?_, h.fr.setCell (p := ⟨g, o + k, none⟩) (fun _ => rfl) _⟩
  · rw [take_snoc_getD hk, take_snoc_getD (by omega : k < zs.length), e]
  · rw [take_snoc_getD hk, take_snoc_getD (by omega : k < zs.length), e]
    have := h3 (.int .u64 (((zs.getD k 0 + 18446744073709551616 - xs.getD k 0 - c) % 18446744073709551616 : Nat) : Int))
    rw [wv_append, ← List.append_assoc]
    simpa [wv, List.append_assoc] using this

/-- Behind subVV. -/
def SbVP (w : World) (g : Nat) (P S : List Value) (zs xs : List Nat) (e : Ending) (w' : World) : Prop :=
  ∃ q : Nat, e = .returned (.int .u64 (q : Int)) ∧ Hid (q = (subL 18446744073709551616 zs xs 0).2) ∧ Blk w' g 145 (P ++ wv (subL 18446744073709551616 zs xs 0).1 ++ S).toArray ∧ Fr w w' (fun k => k = g)

set_option maxHeartbeats 1000000 in
set_option maxRecDepth 20000 in
theorem subg_any (g o n c1 c2 : Nat) (P S : List Value) (A : Option Addr) (c : Nat) (zs xs : List Nat) (w : World) (hb : Blk w g 145 (P ++ wv zs ++ S).toArray) (ho : o = P.length) (hz : zs.length = xs.length) (hn : n = xs.length) (hnb : n ≤ 1099511627776) (hc1 : n ≤ c1) (hc2 : n ≤ c2)
    (hx : RdW w (.slice A n c) xs) (hxb : ∀ k, (Value.slice A n c).ownBlock = some k → k ≠ g) :
    Calls Tryz.prog 237 #[.slice (some ⟨g, o, none⟩) n c1, .slice (some ⟨g, o, none⟩) n c2, .slice A n c] w (SbVP w g P S zs xs) := by
  have HS0 : Hid (SbS w g 0 P S (wv zs) zs xs 0 w) := ⟨rfl, by simpa [subL, wv] using hb, Fr.refl _ _⟩
  have hx2 : ∀ i, i < n → ∃ gx q, A = some ⟨gx, q, none⟩ ∧ gx ≠ g ∧ w.cell? ⟨gx, q + i, none⟩ = some (.int .u64 (xs.getD i 0 : Nat)) := by
    intro i hi
    obtain ⟨gx, q, e1, _, e2⟩ := RdG.at_ (k := .u64) hx i (by omega)
    exact ⟨gx, q, e1, hxb gx (by rw [e1]; rfl), e2⟩
  have HX := hide hx2
  have HZ := hide (And.intro ho (And.intro hz hn))
  have fin : ∀ (q : Nat) (W : World), SbS w g n P S (wv zs) zs xs q W → SbVP w g P S zs xs (.returned (.int .u64 (q : Int))) W := by
    intro q W h
    have e1 : zs.take n = zs := List.take_of_length_le (by omega)
    have e2 : xs.take n = xs := List.take_of_length_le (by omega)
    have e3 : (wv zs).drop n = [] := List.drop_of_length_le (by rw [wv_length]; omega)
    have h1 := h.carry
    have h2 := h.blk
    rw [e1, e2] at h1 h2
    rw [e3] at h2
    exact ⟨q, rfl, h1, by simpa [wv] using h2, h.fr⟩
  have Fin := hide fin
  clear hb hx hxb hx2 fin ho hz hn
  go_enter Tryz.func237, Tryz.ntmps237
  go_wp2
  go_loopw [6, 25] (fun vc vi wr => ∃ (k q : Nat), k ≤ n ∧ vi = .int .i64 (k : Int) ∧ vc = .int .u64 (q : Int) ∧ q ≤ 1 ∧ Hid (SbS w g k P S (wv zs) zs xs q wr)) (fun _ vi _ => n - (intOf vi).toNat)
  case atStart => exact ⟨0, 0, Nat.zero_le _, by go_num, by go_num, by omega, HS0⟩
  case round =>
    obtain ⟨k, q, hk, rfl, rfl, hq, HR⟩ := hrel
    by_cases hlt : k < n
    · obtain ⟨gx, ox, rfl, hgx, hcell⟩ := HX.out k hlt
      have hcx : wr.cell? ⟨gx, ox + k, none⟩ = some (.int .u64 (xs.getD k 0 : Nat)) := HR.out.fr.cell hcell hgx
      obtain ⟨⟨u, hu, hcz⟩, hfz, hst⟩ := HR.out.drew.step HZ.out.1 (by rw [wv_length]; exact HZ.out.2.1) HZ.out.2.1 (by rw [← HZ.out.2.2]; exact hlt)
      have hzk : k < zs.length := by have := HZ.out.2.1; have := HZ.out.2.2; omega
      rw [wv_at, List.getElem?_eq_getElem hzk, Option.map_some] at hu
      obtain rfl := Option.some.inj hu
      rw [← getD_at hzk] at hcz
      have HST := hide hst
      clear hst hcell hu hzk
      generalize xs.getD k 0 = x at hcx HST
      generalize zs.getD k 0 = z at hcz HST
      have Con := hide (fun W => sub_any z x q hq W)
      clear HS0 Fin HR
      go_wp2_with fail
      go_region_held3 (fun W => W.cell? ⟨gx, ox + k, none⟩ = some (.int .u64 (x : Int)) ∧ W.cell? ⟨g, o + k, none⟩ = some (.int .u64 (z : Int))) (first | exact ⟨hcx, hcz⟩ | go_keep)
        (first | (go_at_call 234; go_loud (refine (Con.out _).mono ?_; rintro e w3 ⟨h, l, rfl, hp, rfl⟩)))
      have HN := hide (HST.out h l hp.out)
      have hl1 : l ≤ 1 := by rw [hp.out.2]; exact bow_le _ _
      clear hp HST Con
      go_wp2
      go_roundw
      case rel => exact ⟨k + 1, l, by omega, by go_num, rfl, hl1, HN⟩
      case measure => simp [intOf]; omega
    · obtain rfl : k = n := by omega
      have HF := hide (Fin.out q wr HR.out)
      clear HS0 HR Fin
      go_wp2
      go_ret
      exact HF.out
theorem subvv_any (g o n c1 c2 : Nat) (P S : List Value) (A : Option Addr) (c : Nat) (zs xs : List Nat) (w : World) (hb : Blk w g 145 (P ++ wv zs ++ S).toArray) (ho : o = P.length) (hz : zs.length = xs.length) (hn : n = xs.length) (hnb : n ≤ 1099511627776) (hc1 : n ≤ c1) (hc2 : n ≤ c2)
    (hx : RdW w (.slice A n c) xs) (hxb : ∀ k, (Value.slice A n c).ownBlock = some k → k ≠ g) :
    Calls Tryz.prog 203 #[.slice (some ⟨g, o, none⟩) n c1, .slice (some ⟨g, o, none⟩) n c2, .slice A n c] w (SbVP w g P S zs xs) := by
  have Con := hide (subg_any g o n c1 c2 P S A c zs xs w hb ho hz hn hnb hc1 hc2 hx hxb)
  clear hb ho hz hn hx hxb
  go_enter Tryz.func203, Tryz.ntmps203
  go_wp2_with fail
  refine (Con.out).mono ?_
  rintro e w1 ⟨q, rfl, h⟩
  have Fin : Hid (SbVP w g P S zs xs (.returned (.int .u64 (q : Int))) w1) := ⟨q, rfl, h⟩
  clear h Con
  go_wp2
  go_ret
  exact Fin.out
set_option maxHeartbeats 1000000 in
set_option maxRecDepth 20000 in
theorem addg_any (g o n c1 c2 : Nat) (P S : List Value) (A : Option Addr) (c : Nat) (zs xs : List Nat) (w : World) (hb : Blk w g 145 (P ++ wv zs ++ S).toArray) (ho : o = P.length) (hz : zs.length = xs.length) (hn : n = xs.length) (hnb : n ≤ 1099511627776) (hc1 : n ≤ c1) (hc2 : n ≤ c2)
    (hx : RdW w (.slice A n c) xs) (hxb : ∀ k, (Value.slice A n c).ownBlock = some k → k ≠ g) (hdz : Dig 18446744073709551616 zs) (hdx : Dig 18446744073709551616 xs) :
    Calls Tryz.prog 238 #[.slice (some ⟨g, o, none⟩) n c1, .slice (some ⟨g, o, none⟩) n c2, .slice A n c] w (AmP w g 0 1 P S zs xs) := by
  have HS0 : Hid (AmS w g 0 1 0 P S (wv zs) zs xs 0 w) := ⟨rfl, by simpa [amul, wv] using hb, Fr.refl _ _⟩
  have hx2 : ∀ i, i < n → ∃ gx q, A = some ⟨gx, q, none⟩ ∧ gx ≠ g ∧ w.cell? ⟨gx, q + i, none⟩ = some (.int .u64 (xs.getD i 0 : Nat)) := by
    intro i hi
    obtain ⟨gx, q, e1, _, e2⟩ := RdG.at_ (k := .u64) hx i (by omega)
    exact ⟨gx, q, e1, hxb gx (by rw [e1]; rfl), e2⟩
  have HX := hide hx2
  have HZ := hide (And.intro ho (And.intro hz (And.intro hn (And.intro hdz hdx))))
  have fin : ∀ (q : Nat) (W : World), AmS w g 0 1 n P S (wv zs) zs xs q W → AmP w g 0 1 P S zs xs (.returned (.int .u64 (q : Int))) W := by
    intro q W h
    have e1 : zs.take n = zs := List.take_of_length_le (by omega)
    have e2 : xs.take n = xs := List.take_of_length_le (by omega)
    have e3 : (wv zs).drop n = [] := List.drop_of_length_le (by rw [wv_length]; omega)
    have h1 := h.carry
    have h2 := h.blk
    rw [e1, e2] at h1 h2
    rw [e3] at h2
    exact ⟨q, rfl, h1, by simpa [wv] using h2, h.fr⟩
  have Fin := hide fin
  clear hb hx hxb hx2 fin ho hz hn hdz hdx
  go_enter Tryz.func238, Tryz.ntmps238
  go_wp2
  go_loopw [6, 25] (fun vc vi wr => ∃ (k q : Nat), k ≤ n ∧ vi = .int .i64 (k : Int) ∧ vc = .int .u64 (q : Int) ∧ q ≤ 1 ∧ Hid (AmS w g 0 1 k P S (wv zs) zs xs q wr)) (fun _ vi _ => n - (intOf vi).toNat)
  case atStart => exact ⟨0, 0, Nat.zero_le _, by go_num, by go_num, by omega, HS0⟩
  case round =>
    obtain ⟨k, q, hk, rfl, rfl, hq, HR⟩ := hrel
    by_cases hlt : k < n
    · obtain ⟨gx, ox, rfl, hgx, hcell⟩ := HX.out k hlt
      have hcx : wr.cell? ⟨gx, ox + k, none⟩ = some (.int .u64 (xs.getD k 0 : Nat)) := HR.out.fr.cell hcell hgx
      obtain ⟨⟨u, hu, hcz⟩, hfz, hst⟩ := HR.out.drew.step HZ.out.1 (by rw [wv_length]; exact HZ.out.2.1) HZ.out.2.1 (by rw [← HZ.out.2.2.1]; exact hlt)
      have hzk : k < zs.length := by have := HZ.out.2.1; have := HZ.out.2.2.1; omega
      rw [wv_at, List.getElem?_eq_getElem hzk, Option.map_some] at hu
      obtain rfl := Option.some.inj hu
      rw [← getD_at hzk] at hcz
      have hxl : xs.getD k 0 < 18446744073709551616 := HZ.out.2.2.2.2 _ (by rw [getD_at (by have := HZ.out.2.2.1; omega)]; exact List.getElem_mem _)
      have hzl : zs.getD k 0 < 18446744073709551616 := HZ.out.2.2.2.1 _ (by rw [getD_at (by have := HZ.out.2.1; have := HZ.out.2.2.1; omega)]; exact List.getElem_mem _)
      rw [Nat.mul_one] at hst
      have HST := hide hst
      clear hst hcell hu hzk
      generalize xs.getD k 0 = x at hcx hxl HST
      generalize zs.getD k 0 = z at hcz hzl HST
      have Con := hide (fun W => add_any z x q hq W)
      have HL := hide (And.intro hxl (And.intro hzl hq))
      clear HS0 Fin HR hxl hzl
      go_wp2_with fail
      go_region_held3 (fun W => W.cell? ⟨gx, ox + k, none⟩ = some (.int .u64 (x : Int)) ∧ W.cell? ⟨g, o + k, none⟩ = some (.int .u64 (z : Int))) (first | exact ⟨hcx, hcz⟩ | go_keep)
        (first | (go_at_call 233; go_loud (refine (Con.out _).mono ?_; rintro e w3 ⟨h, l, rfl, hp, rfl⟩)))
      have HN := hide (HST.out h l hp.out)
      have hl1 : l ≤ 1 := by rw [hp.out.2]; have := HL.out; omega
      clear hp HST Con HL hq
      go_wp2
      go_roundw
      case rel => exact ⟨k + 1, l, by omega, by go_num, rfl, hl1, HN⟩
      case measure => simp [intOf]; omega
    · obtain rfl : k = n := by omega
      have HF := hide (Fin.out q wr HR.out)
      clear HS0 HR Fin
      go_wp2
      go_ret
      exact HF.out
theorem addvv_any (g o n c1 c2 : Nat) (P S : List Value) (A : Option Addr) (c : Nat) (zs xs : List Nat) (w : World) (hb : Blk w g 145 (P ++ wv zs ++ S).toArray) (ho : o = P.length) (hz : zs.length = xs.length) (hn : n = xs.length) (hnb : n ≤ 1099511627776) (hc1 : n ≤ c1) (hc2 : n ≤ c2)
    (hx : RdW w (.slice A n c) xs) (hxb : ∀ k, (Value.slice A n c).ownBlock = some k → k ≠ g) (hdz : Dig 18446744073709551616 zs) (hdx : Dig 18446744073709551616 xs) :
    Calls Tryz.prog 204 #[.slice (some ⟨g, o, none⟩) n c1, .slice (some ⟨g, o, none⟩) n c2, .slice A n c] w (AmP w g 0 1 P S zs xs) := by
  have Con := hide (addg_any g o n c1 c2 P S A c zs xs w hb ho hz hn hnb hc1 hc2 hx hxb hdz hdx)
  clear hb ho hz hn hx hxb hdz hdx
  go_enter Tryz.func204, Tryz.ntmps204
  go_wp2_with fail
  refine (Con.out).mono ?_
  rintro e w1 ⟨q, rfl, h⟩
  have Fin : Hid (AmP w g 0 1 P S zs xs (.returned (.int .u64 (q : Int))) w1) := ⟨q, rfl, h⟩
  clear h Con
  go_wp2
  go_ret
  exact Fin.out
end Go.Proofs.YtfkcobdkgjhfaaaGreatDoor
