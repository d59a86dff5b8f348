/- Parts of the proofs: ModfN, KnMath, KnVV, KnList, KnStk, KnMem, KnFin. -/
import Derived.Lib.AppendZeros
import Derived.Test.YtfkcobdkgjhfaaaGreatDoorG3
import Derived.Test.YtfkcobdkgjhfaaaGreatDoorG5
import Derived.Test.YtfkcobdkgjhfaaaGreatDoorG14
import Derived.Test.YtfkcobdkgjhfaaaGreatDoorG30
/- Plain: what Modf parts a decimal into. No program in sight. -/
set_option linter.unusedVariables false
set_option linter.unusedSimpArgs false
namespace Go.Proofs.YtfkcobdkgjhfaaaGreatDoor
open Go.RowKit

/-- The parts: all of it whole, or its whole part and what is left. -/
def ModN (a : Nat) (e : Int) (p : Nat) (ep : Int) (q : Nat) (eq : Int) : Prop :=
  (0 < e ∧ p = a ∧ ep = e ∧ q = 0 ∧ eq = 0) ∨ (e ≤ 0 ∧ ep = 0 ∧ eq = e ∧ p * 10 ^ e.natAbs + q = a ∧ q < 10 ^ e.natAbs)

theorem lt_figs (a : Nat) : a < 10 ^ figs a := by
  unfold figs
  by_cases h0 : a = 0
  · simp [h0]
  · rw [if_neg h0]; exact lt_of_digs_length (by omega) (Nat.le_refl _)
theorem figs_few {a : Nat} (h : (digs 18446744073709551616 a).length ≤ 3) : figs a ≤ 60 := by
  unfold figs
  by_cases h0 : a = 0
  · simp [h0]
  · rw [if_neg h0]
    refine digs_length_le (by omega) ?_
    exact Nat.lt_of_lt_of_le (lt_of_digs_length (b := 18446744073709551616) (by omega) h) (by decide)
theorem modN_up {a : Nat} {e : Int} (h : 0 < e) : ModN a e a e 0 0 := .inl ⟨h, rfl, rfl, rfl, rfl⟩
theorem modN_small {a k : Nat} {e : Int} (hk : (k : Int) = -e) (h : figs a < k) : ModN a e 0 0 a e := by
  refine .inr ⟨by omega, rfl, rfl, by omega, ?_⟩
  have e1 : e.natAbs = k := by omega
  rw [e1]
  exact Nat.lt_of_lt_of_le (lt_figs a) (Nat.pow_le_pow_right (by omega) (by omega))
theorem modN_part {a k : Nat} {e : Int} (hk : (k : Int) = -e) : ModN a e (a / 10 ^ k) 0 (a % 10 ^ k) e := by
  have e1 : e.natAbs = k := by omega
  refine .inr ⟨by omega, rfl, rfl, ?_, ?_⟩
  · rw [e1, Nat.mul_comm]; exact Nat.div_add_mod a (10 ^ k)
  · rw [e1]; exact Nat.mod_lt _ (Nat.pow_pos (by omega))
/-- A power of 10 up to 10 ^ 57 has three words at most; a greater one is greater than any number of three words. -/
theorem pow_few {a k : Nat} (h3 : (digs 18446744073709551616 a).length ≤ 3) : a < 10 ^ k ∨ (digs 18446744073709551616 (10 ^ k)).length ≤ 3 := by
  have h1 := lt_of_digs_length (b := 18446744073709551616) (by omega) h3
  rcases Nat.lt_or_ge (10 ^ k) (18446744073709551616 ^ 3) with h | h
  · exact .inr (digs_length_le (by omega) h)
  · exact .inl (by omega)
theorem pow_words {k : Nat} (hk : k ≤ 60) : (digs 18446744073709551616 (10 ^ k)).length ≤ 4 := by
  refine digs_length_le (by omega) ?_
  exact Nat.lt_of_le_of_lt (Nat.pow_le_pow_right (by omega) hk) (by decide)
theorem pow_half {k : Nat} (hk : k ≤ 60) : 10 ^ (k / 2) < 18446744073709551616 ^ 11 :=
  Nat.lt_of_le_of_lt (Nat.pow_le_pow_right (by omega) (by omega : k / 2 ≤ 30)) (by decide)
end Go.Proofs.YtfkcobdkgjhfaaaGreatDoor

/- Plain: the school method of division by a number of several words: a digit's guess and what it leaves; rows less rows. No program in sight. -/
set_option linter.unusedVariables false
set_option linter.unusedSimpArgs false
namespace Go.Proofs.YtfkcobdkgjhfaaaGreatDoor

/-- What is borrowed. -/
def bow (x y : Nat) : Nat := if x < y then 1 else 0
theorem bow_le (x y : Nat) : bow x y ≤ 1 := by unfold bow; split <;> omega

/-- zs - ys - c, digit by digit, and what is borrowed. -/
def subL (b : Nat) : List Nat → List Nat → Nat → List Nat × Nat
  | z :: zs, y :: ys, c => ((z + b - y - c) % b :: (subL b zs ys (bow z (y + c))).1, (subL b zs ys (bow z (y + c))).2)
  | _, _, c => ([], c)
theorem subL_cons (b z y c : Nat) (zs ys : List Nat) : subL b (z :: zs) (y :: ys) c = ((z + b - y - c) % b :: (subL b zs ys (bow z (y + c))).1, (subL b zs ys (bow z (y + c))).2) := rfl
theorem subL_length (b : Nat) : ∀ {zs ys : List Nat} (c : Nat), zs.length = ys.length → (subL b zs ys c).1.length = ys.length
  | [], [], _, _ => rfl
  | [], _ :: _, _, h => by simp at h
  | _ :: _, [], _, h => by simp at h
  | z :: zs, y :: ys, c, h => by simp [subL_cons, subL_length b (zs := zs) (ys := ys) _ (by simpa using h)]
theorem subL_snoc (b z y : Nat) : ∀ {zs ys : List Nat} (c : Nat), zs.length = ys.length →
    subL b (zs ++ [z]) (ys ++ [y]) c = ((subL b zs ys c).1 ++ [(z + b - y - (subL b zs ys c).2) % b], bow z (y + (subL b zs ys c).2))
  | [], [], _, _ => rfl
  | [], _ :: _, _, h => by simp at h
  | _ :: _, [], _, h => by simp at h
  | z' :: zs, y' :: ys, c, h => by
    simp only [List.cons_append, subL_cons]
    rw [subL_snoc b z y (zs := zs) (ys := ys) _ (by simpa using h)]
theorem subL_dig {b : Nat} (hb : 0 < b) : ∀ {zs ys : List Nat} (c : Nat), Dig b (subL b zs ys c).1
  | [], _, _ => fun e he => by simp [subL] at he
  | _ :: _, [], _ => fun e he => by simp [subL] at he
  | z :: zs, y :: ys, c => by
    intro e he
    rw [subL_cons] at he
    rcases List.mem_cons.1 he with rfl | he
    · exact Nat.mod_lt _ hb
    · exact subL_dig hb _ e he
theorem subL_borrow {b : Nat} : ∀ {zs ys : List Nat} (c : Nat), c ≤ 1 → (subL b zs ys c).2 ≤ 1
  | [], _, _, hc => by simpa [subL] using hc
  | _ :: _, [], _, hc => by simpa [subL] using hc
  | z :: zs, y :: ys, c, hc => by
    rw [subL_cons]
    exact subL_borrow _ (bow_le _ _)
theorem sub_one {b z y c : Nat} (hz : z < b) (hy : y < b) (hc : c ≤ 1) : (z + b - y - c) % b + y + c = z + b * bow z (y + c) := by
  unfold bow
  split
  · rw [Nat.mod_eq_of_lt (by omega)]; omega
  · have e : z + b - y - c = (z - y - c) + b := by omega
    rw [e, Nat.add_mod_right, Nat.mod_eq_of_lt (by omega)]; omega
theorem subL_val {b : Nat} : ∀ {zs ys : List Nat} (c : Nat), zs.length = ys.length → Dig b zs → Dig b ys → c ≤ 1 →
    dval b (subL b zs ys c).1 + dval b ys + c = dval b zs + b ^ ys.length * (subL b zs ys c).2
  | [], [], _, _, _, _, _ => by simp [subL, dval]
  | [], _ :: _, _, h, _, _, _ => by simp at h
  | _ :: _, [], _, h, _, _, _ => by simp at h
  | z :: zs, y :: ys, c, h, hz, hy, hc => by
    have ih := subL_val (b := b) (zs := zs) (ys := ys) (bow z (y + c)) (by simpa using h) (fun e he => hz e (by simp [he])) (fun e he => hy e (by simp [he])) (bow_le _ _)
    have h1 := sub_one (hz z (by simp)) (hy y (by simp)) hc
    rw [subL_cons]
    simp only [dval_cons, List.length_cons, Nat.pow_succ]
    generalize (subL b zs ys (bow z (y + c))).1 = p at *
    generalize (subL b zs ys (bow z (y + c))).2 = q at *
    generalize (z + b - y - c) % b = u at *
    generalize bow z (y + c) = t at *
    generalize dval b p = D at *
    generalize dval b zs = Z at *
    generalize dval b ys = Y at *
    generalize b ^ ys.length = Bn at *
    have e1 : Bn * b * q = b * (Bn * q) := by grind
    have e2 : b * (D + Y + t) = b * (Z + Bn * q) := by rw [ih]
    have e3 : b * (D + Y + t) = b * D + b * Y + b * t := by grind
    have e4 : b * (Z + Bn * q) = b * Z + b * (Bn * q) := by grind
    rw [e1]
    omega

/-! ### the guess -/
section
variable {B P V2 v V U U3 qh v1 v2 T u2 r : Nat}
/-- Not too great by more than one .. -/
theorem kn_hi (hV : V = V2 * P + v) (hv : v ≤ P) (hBP : B * P ≤ V) (hU : U3 * P ≤ U) (hq : qh ≤ B) (h : qh * V2 ≤ U3) : qh * V ≤ U + V := by
  have h1 : qh * V2 * P ≤ U3 * P := Nat.mul_le_mul_right P h
  have h2 : qh * v ≤ B * P := Nat.mul_le_mul hq hv
  have e : qh * V = qh * V2 * P + qh * v := by rw [hV]; grind
  omega
/-- .. nor too small. -/
theorem kn_lo (hV : V2 * P ≤ V) (hU : U < (U3 + 1) * P) (h : U3 < (qh + 1) * V2) : U < (qh + 1) * V := by
  have h1 : (U3 + 1) * P ≤ (qh + 1) * V2 * P := Nat.mul_le_mul_right P h
  have h2 : (qh + 1) * (V2 * P) ≤ (qh + 1) * V := Nat.mul_le_mul_left _ hV
  have e : (qh + 1) * (V2 * P) = (qh + 1) * V2 * P := by grind
  omega
/-- The greatest digit, where the first words are alike. -/
theorem kn_top (hV : V = V2 * P + v) (hv : v ≤ P) (h2 : V2 = v1 * B + v2) (hb : v2 < B) (h1 : B ≤ 2 * v1) (hU : v1 * B * B * P ≤ U) (hB : 0 < B) : (B - 1) * V ≤ U + V := by
  have a1 : V ≤ (v1 * B + B) * P := by
    have : V2 * P + P = (V2 + 1) * P := by grind
    have : (V2 + 1) * P ≤ (v1 * B + B) * P := Nat.mul_le_mul_right P (by omega)
    omega
  have a2 : B * V ≤ v1 * B * B * P + B * B * P := by
    have : B * V ≤ B * ((v1 * B + B) * P) := Nat.mul_le_mul_left B a1
    have e : B * ((v1 * B + B) * P) = v1 * B * B * P + B * B * P := by grind
    omega
  have a3 : B * B * P ≤ 2 * V := by
    have h3 : B * B * P ≤ 2 * v1 * B * P := by
      have : B * B ≤ 2 * v1 * B := Nat.mul_le_mul_right B h1
      exact Nat.mul_le_mul_right P this
    have h4 : v1 * B * P ≤ V2 * P := Nat.mul_le_mul_right P (by omega)
    have e : 2 * v1 * B * P = 2 * (v1 * B * P) := by grind
    omega
  have e : (B - 1) * V + V = B * V := by
    obtain ⟨b, rfl⟩ : ∃ b, B = b + 1 := ⟨B - 1, by omega⟩
    have : b + 1 - 1 = b := by omega
    rw [this]; grind
  omega
/-- What the guess's test asks. -/
theorem kn_cond (h2 : V2 = v1 * B + v2) (h3 : U3 = T * B + u2) (hr : qh * v1 + r = T) : r * B + u2 < qh * v2 ↔ U3 < qh * V2 := by
  have e1 : qh * V2 = qh * v1 * B + qh * v2 := by rw [h2]; grind
  have e2 : U3 = qh * v1 * B + r * B + u2 := by rw [h3, ← hr]; grind
  omega
theorem kn_break (h2 : V2 = v1 * B + v2) (h3 : U3 = T * B + u2) (hr : qh * v1 + r = T) (hb : B ≤ r) (hq : qh < B) (hv : v2 < B) : qh * V2 ≤ U3 := by
  have e1 : qh * V2 = qh * v1 * B + qh * v2 := by rw [h2]; grind
  have e2 : U3 = qh * v1 * B + r * B + u2 := by rw [h3, ← hr]; grind
  have h4 : qh * v2 ≤ B * B := Nat.mul_le_mul (by omega) (by omega)
  have h5 : B * B ≤ r * B := Nat.mul_le_mul_right B hb
  omega
theorem kn_first (h2 : V2 = v1 * B + v2) (h3 : U3 = T * B + u2) (hu : u2 < B) (hv : 0 < v1) (hq : qh = T / v1) : U3 < (qh + 1) * V2 := by
  have h4 : T < (qh + 1) * v1 := by
    have := Nat.div_add_mod T v1
    have := Nat.mod_lt T hv
    have e : (qh + 1) * v1 = v1 * (T / v1) + v1 := by rw [hq]; grind
    omega
  have h5 : (T + 1) * B ≤ (qh + 1) * v1 * B := Nat.mul_le_mul_right B h4
  have e1 : (qh + 1) * V2 = (qh + 1) * v1 * B + (qh + 1) * v2 := by rw [h2]; grind
  have e2 : (T + 1) * B = T * B + B := by grind
  omega
/-- What is left by the right digit. -/
theorem kn_left {q : Nat} (h1 : q * V ≤ U) (h2 : U < (q + 1) * V) : U - q * V < V := by
  have e : (q + 1) * V = q * V + V := by grind
  omega
theorem kn_dec (h1 : U < qh * V) (h2 : qh * V ≤ U + V) : ∃ q, qh = q + 1 ∧ q * V ≤ U ∧ U < (q + 1) * V := by
  rcases Nat.eq_zero_or_pos qh with h | h
  · subst h; omega
  · obtain ⟨q, rfl⟩ : ∃ q, qh = q + 1 := ⟨qh - 1, by omega⟩
    have e : (q + 1) * V = q * V + V := by grind
    exact ⟨q, rfl, by omega, h1⟩
end
end Go.Proofs.YtfkcobdkgjhfaaaGreatDoor

/- Walks: rows less rows and rows plus rows, in place: subVV, addVV. -/
set_option linter.unusedVariables false
set_option linter.unusedSimpArgs false
namespace Go.Proofs.YtfkcobdkgjhfaaaGreatDoor
open Go.RowKit

/-- What a round of subVV holds. -/
structure SbS (w : World) (g k : Nat) (P S us : List Value) (zs xs : List Nat) (c : Nat) (W : World) : Prop where
  carry : c = (subL 18446744073709551616 (zs.take k) (xs.take k) 0).2
  blk : Blk W g 145 (P ++ wv (subL 18446744073709551616 (zs.take k) (xs.take k) 0).1 ++ us.drop k ++ S).toArray
  fr : Fr w W (fun k => k = g)
theorem SbS.drew {w : World} {g k : Nat} {P S us : List Value} {zs xs : List Nat} {c : Nat} {W : World} (h : SbS w g k P S us zs xs c W) : SbS w g k P S us zs xs c W.drew := ⟨h.carry, h.blk, h.fr.drew⟩
theorem SbS.step {w : World} {g k o : Nat} {P S us : List Value} {zs xs : List Nat} {c : Nat} {W : World} (h : SbS w g k P S us zs xs c W) (ho : o = P.length) (hu : us.length = xs.length) (hz : zs.length = xs.length) (hk : k < xs.length) :
    (∃ u, us[k]? = some u ∧ W.cell? ⟨g, o + k, none⟩ = some u) ∧ W.frozen? ⟨g, o + k, none⟩ = false ∧
      ∀ v c', v = (zs.getD k 0 + 18446744073709551616 - xs.getD k 0 - c) % 18446744073709551616 ∧ c' = bow (zs.getD k 0) (xs.getD k 0 + c) → SbS w g (k + 1) P S us zs xs c' (W.setCell ⟨g, o + k, none⟩ (.int .u64 (v : Int))) := by
  have hl : (zs.take k).length = (xs.take k).length := by simp [List.length_take, hz]
  have hB := h.blk
  have hk2 : k < us.length := by omega
  rw [List.drop_eq_getElem_cons hk2, List.append_assoc, List.cons_append] at hB
  have hpl : o + k = (P ++ wv (subL 18446744073709551616 (zs.take k) (xs.take k) 0).1).length := by
    rw [List.length_append, wv_length, subL_length _ _ hl, List.length_take, ho]; omega
  obtain ⟨h1, h2, h3⟩ := hB.part hpl
  refine ⟨⟨_, List.getElem?_eq_getElem hk2, h1⟩, h2, fun v c' hvc => ?_⟩
  obtain ⟨rfl, rfl⟩ := hvc
  have e := subL_snoc 18446744073709551616 (zs.getD k 0) (xs.getD k 0) (zs := zs.take k) (ys := xs.take k) 0 hl
  rw [← h.carry] at e
  refine ⟨?_, ?_, h.fr.setCell (p := ⟨g, o + k, none⟩) (fun _ => rfl) _⟩
  · rw [take_snoc_getD hk, take_snoc_getD (by omega : k < zs.length), e]
  · rw [take_snoc_getD hk, take_snoc_getD (by omega : k < zs.length), e]
    have := h3 (.int .u64 (((zs.getD k 0 + 18446744073709551616 - xs.getD k 0 - c) % 18446744073709551616 : Nat) : Int))
    rw [wv_append, ← List.append_assoc]
    simpa [wv, List.append_assoc] using this

/-- Behind subVV. -/
def SbVP (w : World) (g : Nat) (P S : List Value) (zs xs : List Nat) (e : Ending) (w' : World) : Prop :=
  ∃ q : Nat, e = .returned (.int .u64 (q : Int)) ∧ Hid (q = (subL 18446744073709551616 zs xs 0).2) ∧ Blk w' g 145 (P ++ wv (subL 18446744073709551616 zs xs 0).1 ++ S).toArray ∧ Fr w w' (fun k => k = g)

set_option maxHeartbeats 1000000 in
set_option maxRecDepth 20000 in
theorem subg_any (g o n c1 c2 : Nat) (P S : List Value) (A : Option Addr) (c : Nat) (zs xs : List Nat) (w : World) (hb : Blk w g 145 (P ++ wv zs ++ S).toArray) (ho : o = P.length) (hz : zs.length = xs.length) (hn : n = xs.length) (hnb : n ≤ 1099511627776) (hc1 : n ≤ c1) (hc2 : n ≤ c2)
    (hx : RdW w (.slice A n c) xs) (hxb : ∀ k, (Value.slice A n c).ownBlock = some k → k ≠ g) :
    Calls Tryz.prog 237 #[.slice (some ⟨g, o, none⟩) n c1, .slice (some ⟨g, o, none⟩) n c2, .slice A n c] w (SbVP w g P S zs xs) := by
  have HS0 : Hid (SbS w g 0 P S (wv zs) zs xs 0 w) := ⟨rfl, by simpa [subL, wv] using hb, Fr.refl _ _⟩
  have hx2 : ∀ i, i < n → ∃ gx q, A = some ⟨gx, q, none⟩ ∧ gx ≠ g ∧ w.cell? ⟨gx, q + i, none⟩ = some (.int .u64 (xs.getD i 0 : Nat)) := by
    intro i hi
    obtain ⟨gx, q, e1, _, e2⟩ := RdG.at_ (k := .u64) hx i (by omega)
    exact ⟨gx, q, e1, hxb gx (by rw [e1]; rfl), e2⟩
  have HX := hide hx2
  have HZ := hide (And.intro ho (And.intro hz hn))
  have fin : ∀ (q : Nat) (W : World), SbS w g n P S (wv zs) zs xs q W → SbVP w g P S zs xs (.returned (.int .u64 (q : Int))) W := by
    intro q W h
    have e1 : zs.take n = zs := List.take_of_length_le (by omega)
    have e2 : xs.take n = xs := List.take_of_length_le (by omega)
    have e3 : (wv zs).drop n = [] := List.drop_of_length_le (by rw [wv_length]; omega)
    have h1 := h.carry
    have h2 := h.blk
    rw [e1, e2] at h1 h2
    rw [e3] at h2
    exact ⟨q, rfl, h1, by simpa [wv] using h2, h.fr⟩
  have Fin := hide fin
  clear hb hx hxb hx2 fin ho hz hn
  go_enter Tryz.func237, Tryz.ntmps237
  go_wp2
  go_loopw [6, 25] (fun vc vi wr => ∃ (k q : Nat), k ≤ n ∧ vi = .int .i64 (k : Int) ∧ vc = .int .u64 (q : Int) ∧ q ≤ 1 ∧ Hid (SbS w g k P S (wv zs) zs xs q wr)) (fun _ vi _ => n - (intOf vi).toNat)
  case atStart => exact ⟨0, 0, Nat.zero_le _, by go_num, by go_num, by omega, HS0⟩
  case round =>
    obtain ⟨k, q, hk, rfl, rfl, hq, HR⟩ := hrel
    by_cases hlt : k < n
    · obtain ⟨gx, ox, rfl, hgx, hcell⟩ := HX.out k hlt
      have hcx : wr.cell? ⟨gx, ox + k, none⟩ = some (.int .u64 (xs.getD k 0 : Nat)) := HR.out.fr.cell hcell hgx
      obtain ⟨⟨u, hu, hcz⟩, hfz, hst⟩ := HR.out.drew.step HZ.out.1 (by rw [wv_length]; exact HZ.out.2.1) HZ.out.2.1 (by rw [← HZ.out.2.2]; exact hlt)
      have hzk : k < zs.length := by have := HZ.out.2.1; have := HZ.out.2.2; omega
      rw [wv_at, List.getElem?_eq_getElem hzk, Option.map_some] at hu
      obtain rfl := Option.some.inj hu
      rw [← getD_at hzk] at hcz
      have HST := hide hst
      clear hst hcell hu hzk
      generalize xs.getD k 0 = x at hcx HST
      generalize zs.getD k 0 = z at hcz HST
      have Con := hide (fun W => sub_any z x q hq W)
      clear HS0 Fin HR
      go_wp2_with fail
      go_region_held3 (fun W => W.cell? ⟨gx, ox + k, none⟩ = some (.int .u64 (x : Int)) ∧ W.cell? ⟨g, o + k, none⟩ = some (.int .u64 (z : Int))) (first | exact ⟨hcx, hcz⟩ | go_keep)
        (first | (go_at_call 234; go_loud (refine (Con.out _).mono ?_; rintro e w3 ⟨h, l, rfl, hp, rfl⟩)))
      have HN := hide (HST.out h l hp.out)
      have hl1 : l ≤ 1 := by rw [hp.out.2]; exact bow_le _ _
      clear hp HST Con
      go_wp2
      go_roundw
      case rel => exact ⟨k + 1, l, by omega, by go_num, rfl, hl1, HN⟩
      case measure => simp [intOf]; omega
    · obtain rfl : k = n := by omega
      have HF := hide (Fin.out q wr HR.out)
      clear HS0 HR Fin
      go_wp2
      go_ret
      exact HF.out
theorem subvv_any (g o n c1 c2 : Nat) (P S : List Value) (A : Option Addr) (c : Nat) (zs xs : List Nat) (w : World) (hb : Blk w g 145 (P ++ wv zs ++ S).toArray) (ho : o = P.length) (hz : zs.length = xs.length) (hn : n = xs.length) (hnb : n ≤ 1099511627776) (hc1 : n ≤ c1) (hc2 : n ≤ c2)
    (hx : RdW w (.slice A n c) xs) (hxb : ∀ k, (Value.slice A n c).ownBlock = some k → k ≠ g) :
    Calls Tryz.prog 203 #[.slice (some ⟨g, o, none⟩) n c1, .slice (some ⟨g, o, none⟩) n c2, .slice A n c] w (SbVP w g P S zs xs) := by
  have Con := hide (subg_any g o n c1 c2 P S A c zs xs w hb ho hz hn hnb hc1 hc2 hx hxb)
  clear hb ho hz hn hx hxb
  go_enter Tryz.func203, Tryz.ntmps203
  go_wp2_with fail
  refine (Con.out).mono ?_
  rintro e w1 ⟨q, rfl, h⟩
  have Fin : Hid (SbVP w g P S zs xs (.returned (.int .u64 (q : Int))) w1) := ⟨q, rfl, h⟩
  clear h Con
  go_wp2
  go_ret
  exact Fin.out
set_option maxHeartbeats 1000000 in
set_option maxRecDepth 20000 in
theorem addg_any (g o n c1 c2 : Nat) (P S : List Value) (A : Option Addr) (c : Nat) (zs xs : List Nat) (w : World) (hb : Blk w g 145 (P ++ wv zs ++ S).toArray) (ho : o = P.length) (hz : zs.length = xs.length) (hn : n = xs.length) (hnb : n ≤ 1099511627776) (hc1 : n ≤ c1) (hc2 : n ≤ c2)
    (hx : RdW w (.slice A n c) xs) (hxb : ∀ k, (Value.slice A n c).ownBlock = some k → k ≠ g) (hdz : Dig 18446744073709551616 zs) (hdx : Dig 18446744073709551616 xs) :
    Calls Tryz.prog 238 #[.slice (some ⟨g, o, none⟩) n c1, .slice (some ⟨g, o, none⟩) n c2, .slice A n c] w (AmP w g 0 1 P S zs xs) := by
  have HS0 : Hid (AmS w g 0 1 0 P S (wv zs) zs xs 0 w) := ⟨rfl, by simpa [amul, wv] using hb, Fr.refl _ _⟩
  have hx2 : ∀ i, i < n → ∃ gx q, A = some ⟨gx, q, none⟩ ∧ gx ≠ g ∧ w.cell? ⟨gx, q + i, none⟩ = some (.int .u64 (xs.getD i 0 : Nat)) := by
    intro i hi
    obtain ⟨gx, q, e1, _, e2⟩ := RdG.at_ (k := .u64) hx i (by omega)
    exact ⟨gx, q, e1, hxb gx (by rw [e1]; rfl), e2⟩
  have HX := hide hx2
  have HZ := hide (And.intro ho (And.intro hz (And.intro hn (And.intro hdz hdx))))
  have fin : ∀ (q : Nat) (W : World), AmS w g 0 1 n P S (wv zs) zs xs q W → AmP w g 0 1 P S zs xs (.returned (.int .u64 (q : Int))) W := by
    intro q W h
    have e1 : zs.take n = zs := List.take_of_length_le (by omega)
    have e2 : xs.take n = xs := List.take_of_length_le (by omega)
    have e3 : (wv zs).drop n = [] := List.drop_of_length_le (by rw [wv_length]; omega)
    have h1 := h.carry
    have h2 := h.blk
    rw [e1, e2] at h1 h2
    rw [e3] at h2
    exact ⟨q, rfl, h1, by simpa [wv] using h2, h.fr⟩
  have Fin := hide fin
  clear hb hx hxb hx2 fin ho hz hn hdz hdx
  go_enter Tryz.func238, Tryz.ntmps238
  go_wp2
  go_loopw [6, 25] (fun vc vi wr => ∃ (k q : Nat), k ≤ n ∧ vi = .int .i64 (k : Int) ∧ vc = .int .u64 (q : Int) ∧ q ≤ 1 ∧ Hid (AmS w g 0 1 k P S (wv zs) zs xs q wr)) (fun _ vi _ => n - (intOf vi).toNat)
  case atStart => exact ⟨0, 0, Nat.zero_le _, by go_num, by go_num, by omega, HS0⟩
  case round =>
    obtain ⟨k, q, hk, rfl, rfl, hq, HR⟩ := hrel
    by_cases hlt : k < n
    · obtain ⟨gx, ox, rfl, hgx, hcell⟩ := HX.out k hlt
      have hcx : wr.cell? ⟨gx, ox + k, none⟩ = some (.int .u64 (xs.getD k 0 : Nat)) := HR.out.fr.cell hcell hgx
      obtain ⟨⟨u, hu, hcz⟩, hfz, hst⟩ := HR.out.drew.step HZ.out.1 (by rw [wv_length]; exact HZ.out.2.1) HZ.out.2.1 (by rw [← HZ.out.2.2.1]; exact hlt)
      have hzk : k < zs.length := by have := HZ.out.2.1; have := HZ.out.2.2.1; omega
      rw [wv_at, List.getElem?_eq_getElem hzk, Option.map_some] at hu
      obtain rfl := Option.some.inj hu
      rw [← getD_at hzk] at hcz
      have hxl : xs.getD k 0 < 18446744073709551616 := HZ.out.2.2.2.2 _ (by rw [getD_at (by have := HZ.out.2.2.1; omega)]; exact List.getElem_mem _)
      have hzl : zs.getD k 0 < 18446744073709551616 := HZ.out.2.2.2.1 _ (by rw [getD_at (by have := HZ.out.2.1; have := HZ.out.2.2.1; omega)]; exact List.getElem_mem _)
      rw [Nat.mul_one] at hst
      have HST := hide hst
      clear hst hcell hu hzk
      generalize xs.getD k 0 = x at hcx hxl HST
      generalize zs.getD k 0 = z at hcz hzl HST
      have Con := hide (fun W => add_any z x q hq W)
      have HL := hide (And.intro hxl (And.intro hzl hq))
      clear HS0 Fin HR hxl hzl
      go_wp2_with fail
      go_region_held3 (fun W => W.cell? ⟨gx, ox + k, none⟩ = some (.int .u64 (x : Int)) ∧ W.cell? ⟨g, o + k, none⟩ = some (.int .u64 (z : Int))) (first | exact ⟨hcx, hcz⟩ | go_keep)
        (first | (go_at_call 233; go_loud (refine (Con.out _).mono ?_; rintro e w3 ⟨h, l, rfl, hp, rfl⟩)))
      have HN := hide (HST.out h l hp.out)
      have hl1 : l ≤ 1 := by rw [hp.out.2]; have := HL.out; omega
      clear hp HST Con HL hq
      go_wp2
      go_roundw
      case rel => exact ⟨k + 1, l, by omega, by go_num, rfl, hl1, HN⟩
      case measure => simp [intOf]; omega
    · obtain rfl : k = n := by omega
      have HF := hide (Fin.out q wr HR.out)
      clear HS0 HR Fin
      go_wp2
      go_ret
      exact HF.out
theorem addvv_any (g o n c1 c2 : Nat) (P S : List Value) (A : Option Addr) (c : Nat) (zs xs : List Nat) (w : World) (hb : Blk w g 145 (P ++ wv zs ++ S).toArray) (ho : o = P.length) (hz : zs.length = xs.length) (hn : n = xs.length) (hnb : n ≤ 1099511627776) (hc1 : n ≤ c1) (hc2 : n ≤ c2)
    (hx : RdW w (.slice A n c) xs) (hxb : ∀ k, (Value.slice A n c).ownBlock = some k → k ≠ g) (hdz : Dig 18446744073709551616 zs) (hdx : Dig 18446744073709551616 xs) :
    Calls Tryz.prog 204 #[.slice (some ⟨g, o, none⟩) n c1, .slice (some ⟨g, o, none⟩) n c2, .slice A n c] w (AmP w g 0 1 P S zs xs) := by
  have Con := hide (addg_any g o n c1 c2 P S A c zs xs w hb ho hz hn hnb hc1 hc2 hx hxb hdz hdx)
  clear hb ho hz hn hx hxb hdz hdx
  go_enter Tryz.func204, Tryz.ntmps204
  go_wp2_with fail
  refine (Con.out).mono ?_
  rintro e w1 ⟨q, rfl, h⟩
  have Fin : Hid (AmP w g 0 1 P S zs xs (.returned (.int .u64 (q : Int))) w1) := ⟨q, rfl, h⟩
  clear h Con
  go_wp2
  go_ret
  exact Fin.out
end Go.Proofs.YtfkcobdkgjhfaaaGreatDoor

/- Plain: the school method of division on lists of digits: what a round holds. No program in sight. -/
set_option linter.unusedVariables false
set_option linter.unusedSimpArgs false
namespace Go.Proofs.YtfkcobdkgjhfaaaGreatDoor
open Go.RowKit

/-- The numbers of a round: the places from k on are done. -/
structure KnN (m n k : Nat) (us0 vs us qk : List Nat) : Prop where
  hu : us.length = m + n
  du : Dig 18446744073709551616 us
  tk : us.take k = us0.take k
  lt : dval 18446744073709551616 (us.drop k) < dval 18446744073709551616 vs
  hq : qk.length = m - k
  dq : Dig 18446744073709551616 qk
  val : dval 18446744073709551616 (us0.drop k) = dval 18446744073709551616 qk * dval 18446744073709551616 vs + dval 18446744073709551616 (us.drop k)

theorem dval_split (b k : Nat) (xs : List Nat) (hk : k ≤ xs.length) : dval b xs = dval b (xs.take k) + b ^ k * dval b (xs.drop k) := by
  have h := dval_append b (xs.take k) (xs.drop k)
  rw [List.take_append_drop, List.length_take, Nat.min_eq_left hk] at h
  exact h
theorem dval_drop1 (b : Nat) (xs : List Nat) (k : Nat) : dval b (xs.drop k) = xs.getD k 0 + b * dval b (xs.drop (k + 1)) := by
  rcases Nat.lt_or_ge k xs.length with h | h
  · rw [drop_getD h, dval_cons]
  · rw [List.drop_of_length_le h, List.drop_of_length_le (by omega), dval_nil, List.getD_eq_getElem?_getD, List.getElem?_eq_none h]; simp
theorem dig_take {b : Nat} {xs : List Nat} (h : Dig b xs) (k : Nat) : Dig b (xs.take k) := fun e he => h e (List.mem_of_mem_take he)
theorem dig_drop {b : Nat} {xs : List Nat} (h : Dig b xs) (k : Nat) : Dig b (xs.drop k) := fun e he => h e (List.mem_of_mem_drop he)
theorem dig_append {b : Nat} {xs ys : List Nat} (h : Dig b xs) (k : Dig b ys) : Dig b (xs ++ ys) := fun e he => (List.mem_append.1 he).elim (h e) (k e)
theorem dig_getD {b : Nat} (hb : 0 < b) {xs : List Nat} (h : Dig b xs) (k : Nat) : xs.getD k 0 < b := by
  rcases Nat.lt_or_ge k xs.length with h1 | h1
  · rw [getD_at h1]; exact h _ (List.getElem_mem _)
  · rw [List.getD_eq_getElem?_getD, List.getElem?_eq_none h1]; simpa using hb

/-- What is left times the base, and the next word: less than base times divisor. -/
theorem KnN.u_lt {m n j : Nat} {us0 vs us qk : List Nat} (h : KnN m n (j + 1) us0 vs us qk) : dval 18446744073709551616 (us.drop j) < 18446744073709551616 * dval 18446744073709551616 vs := by
  have h1 := dval_drop1 18446744073709551616 us j
  have h2 := dig_getD (by omega) h.du j
  have h3 := h.lt
  omega
theorem KnN.high {m n j : Nat} {us0 vs us qk : List Nat} (h : KnN m n (j + 1) us0 vs us qk) (hv : vs.length = n) (hdv : Dig 18446744073709551616 vs) (hj : j + n ≤ m + n) : dval 18446744073709551616 (us.drop (j + n)) = us.getD (j + n) 0 ∧ dval 18446744073709551616 (us.drop (j + n + 1)) = 0 := by
  have h1 := h.u_lt
  have h2 := dval_lt (b := 18446744073709551616) (by omega) hdv
  rw [hv] at h2
  have h3 := dval_split 18446744073709551616 n (us.drop j) (by rw [List.length_drop, h.hu]; omega)
  rw [List.drop_drop] at h3
  have h4 := dval_drop1 18446744073709551616 us (j + n)
  generalize dval 18446744073709551616 (us.drop (j + n)) = D at *
  generalize dval 18446744073709551616 (us.drop (j + n + 1)) = E at *
  generalize dval 18446744073709551616 (us.drop j) = U at *
  generalize dval 18446744073709551616 ((us.drop j).take n) = L at *
  generalize dval 18446744073709551616 vs = V at *
  have h5 : 18446744073709551616 ^ n * D < 18446744073709551616 ^ n * 18446744073709551616 := by
    have : 18446744073709551616 * V ≤ 18446744073709551616 * 18446744073709551616 ^ n := Nat.mul_le_mul_left _ (Nat.le_of_lt h2)
    have e : 18446744073709551616 * 18446744073709551616 ^ n = 18446744073709551616 ^ n * 18446744073709551616 := Nat.mul_comm _ _
    omega
  have h6 : D < 18446744073709551616 := Nat.lt_of_mul_lt_mul_left h5
  omega

theorem kn_v {B P v1 v2 vl V : Nat} (h : V = vl + P * (v2 + B * (v1 + B * 0))) (h1 : 1 ≤ v1) : V = (v1 * B + v2) * P + vl ∧ B * P ≤ V := by
  have h2 : 1 * (B * P) ≤ v1 * (B * P) := Nat.mul_le_mul_right _ h1
  refine ⟨by rw [h]; grind, ?_⟩
  have : V = v1 * (B * P) + v2 * P + vl := by rw [h]; grind
  omega
theorem kn_u {B P t u1 u2 ul U : Nat} (h : U = ul + P * (u2 + B * (u1 + B * t))) (h1 : ul < P) : ((t * B + u1) * B + u2) * P ≤ U ∧ U < ((t * B + u1) * B + u2 + 1) * P := by
  have e : U = ((t * B + u1) * B + u2) * P + ul := by rw [h]; grind
  have e2 : ((t * B + u1) * B + u2 + 1) * P = ((t * B + u1) * B + u2) * P + P := by grind
  omega
theorem kn_t {B P t v1 v2 vl V R cl : Nat} (hv : V = vl + P * (v2 + B * (v1 + B * 0))) (h1 : vl < P) (h2 : v2 < B) (hR : R = cl + P * B * t) (h : R < V) : t ≤ v1 := by
  have h3 : P * v2 + P ≤ P * B := by
    have : P * (v2 + 1) ≤ P * B := Nat.mul_le_mul_left P h2
    have e : P * (v2 + 1) = P * v2 + P := by grind
    omega
  have h4 : t * (P * B) < (v1 + 1) * (P * B) := by
    have e1 : t * (P * B) = P * B * t := by grind
    have e2 : (v1 + 1) * (P * B) = P * B * v1 + P * B := by grind
    have e3 : V = vl + P * v2 + P * B * v1 := by rw [hv]; grind
    omega
  have := Nat.lt_of_mul_lt_mul_right h4
  omega

/-- The first words of the number that is left and of the divisor. -/
theorem KnN.words {m n j : Nat} {us0 vs us qk : List Nat} (h : KnN m n (j + 1) us0 vs us qk) (hv : vs.length = n) (hn : 2 ≤ n) (hdv : Dig 18446744073709551616 vs) (hj : j ≤ m) (hnorm : 18446744073709551616 ≤ 2 * vs.getD (n - 1) 0) :
    ∃ P v, dval 18446744073709551616 vs = (vs.getD (n - 1) 0 * 18446744073709551616 + vs.getD (n - 2) 0) * P + v ∧ v ≤ P ∧ 18446744073709551616 * P ≤ dval 18446744073709551616 vs ∧
      ((us.getD (j + n) 0 * 18446744073709551616 + us.getD (j + n - 1) 0) * 18446744073709551616 + us.getD (j + n - 2) 0) * P ≤ dval 18446744073709551616 (us.drop j) ∧
      dval 18446744073709551616 (us.drop j) < ((us.getD (j + n) 0 * 18446744073709551616 + us.getD (j + n - 1) 0) * 18446744073709551616 + us.getD (j + n - 2) 0 + 1) * P ∧ us.getD (j + n) 0 ≤ vs.getD (n - 1) 0 ∧ 0 < P := by
  obtain ⟨i, rfl⟩ : ∃ i, n = i + 2 := ⟨n - 2, by omega⟩
  have hh := (h.high hv hdv (by omega)).1
  have hlt := h.lt
  have hp : 0 < 18446744073709551616 ^ i := Nat.pow_pos (by omega)
  have e1 : i + 2 - 1 = i + 1 := by omega
  have e2 : i + 2 - 2 = i := by omega
  have e3 : j + (i + 2) - 1 = j + i + 1 := by omega
  have e4 : j + (i + 2) - 2 = j + i := by omega
  rw [e1] at hnorm
  rw [e1, e2, e3, e4]
  have a1 := dval_split 18446744073709551616 i vs (by omega)
  have a4 : dval 18446744073709551616 (vs.drop (i + 1 + 1)) = 0 := by rw [List.drop_of_length_le (by omega), dval_nil]
  rw [dval_drop1 18446744073709551616 vs i, dval_drop1 18446744073709551616 vs (i + 1), a4] at a1
  have a5 := dval_lt (b := 18446744073709551616) (by omega) (dig_take hdv i)
  have a6 : 18446744073709551616 ^ (vs.take i).length ≤ 18446744073709551616 ^ i := Nat.pow_le_pow_right (by omega) (by rw [List.length_take]; omega)
  have b1 := dval_split 18446744073709551616 i (us.drop j) (by rw [List.length_drop, h.hu]; omega)
  rw [List.drop_drop, dval_drop1 18446744073709551616 us (j + i), dval_drop1 18446744073709551616 us (j + i + 1), show j + i + 1 + 1 = j + (i + 2) by omega, hh] at b1
  have b5 := dval_lt (b := 18446744073709551616) (by omega) (dig_take (dig_drop h.du j) i)
  have b6 : 18446744073709551616 ^ ((us.drop j).take i).length ≤ 18446744073709551616 ^ i := Nat.pow_le_pow_right (by omega) (by rw [List.length_take]; omega)
  have c1 := dval_split 18446744073709551616 (i + 1) (us.drop (j + 1)) (by rw [List.length_drop, h.hu]; omega)
  rw [List.drop_drop, show j + 1 + (i + 1) = j + (i + 2) by omega, hh, Nat.pow_succ] at c1
  obtain ⟨k1, k2⟩ := kn_v a1 (by omega)
  obtain ⟨k3, k4⟩ := kn_u b1 (by omega)
  exact ⟨18446744073709551616 ^ i, dval 18446744073709551616 (vs.take i), k1, by omega, k2, k3, k4, kn_t a1 (by omega) (dig_getD (by omega) hdv i) c1 hlt, hp⟩

/-- A round's end: the window holds what the digit q leaves. -/
theorem KnN.step {m n j q : Nat} {us0 vs us qk rd : List Nat} (h : KnN m n (j + 1) us0 vs us qk) (hv : vs.length = n) (hdv : Dig 18446744073709551616 vs) (hj : j < m) (h0 : us0.length = m + n) (hl : rd.length = n + 1) (hd : Dig 18446744073709551616 rd) (hq : q < 18446744073709551616)
    (hU : dval 18446744073709551616 (us.drop j) = q * dval 18446744073709551616 vs + dval 18446744073709551616 rd) (hR : dval 18446744073709551616 rd < dval 18446744073709551616 vs) : KnN m n j us0 vs (us.take j ++ rd ++ us.drop (j + n + 1)) (q :: qk) := by
  have hhi := (h.high hv hdv (by omega)).2
  have hlt : (us.take j).length = j := by rw [List.length_take, h.hu]; omega
  have hdr : dval 18446744073709551616 ((us.take j ++ rd ++ us.drop (j + n + 1)).drop j) = dval 18446744073709551616 rd := by
    rw [List.append_assoc, List.drop_append_of_le_length (by omega), List.drop_of_length_le (by omega : (us.take j).length ≤ j), List.nil_append, dval_append, hhi]; simp
  refine ⟨?_, dig_append (dig_append (dig_take h.du j) hd) (dig_drop h.du _), ?_, by rw [hdr]; exact hR, ?_, ?_, ?_⟩
  · simp only [List.length_append, List.length_drop, hlt, hl, h.hu]; omega
  · rw [List.append_assoc, List.take_append_of_le_length (by omega), List.take_take, Nat.min_self]
    have := congrArg (List.take j) h.tk
    rwa [List.take_take, List.take_take, Nat.min_eq_left (by omega)] at this
  · rw [List.length_cons, h.hq]; omega
  · intro e he
    rcases List.mem_cons.1 he with rfl | he
    · exact hq
    · exact h.dq e he
  · rw [hdr]
    have a1 := dval_drop1 18446744073709551616 us0 j
    have a2 := dval_drop1 18446744073709551616 us j
    have a3 := h.val
    have a4 : us0.getD j 0 = us.getD j 0 := by
      have e : (us.take (j + 1)).getD j 0 = (us0.take (j + 1)).getD j 0 := by rw [h.tk]
      have g : ∀ l : List Nat, j + 1 ≤ l.length → (l.take (j + 1)).getD j 0 = l.getD j 0 := fun l hl => by
        rw [List.getD_eq_getElem?_getD, List.getD_eq_getElem?_getD, List.getElem?_take_of_lt (by omega)]
      rw [g us (by rw [h.hu]; omega), g us0 (by omega)] at e
      exact e.symm
    rw [dval_cons]
    generalize dval 18446744073709551616 vs = V at *
    generalize dval 18446744073709551616 rd = R at *
    generalize dval 18446744073709551616 qk = Q at *
    rw [a1, a4, a3]
    have e1 : (q + 18446744073709551616 * Q) * V = q * V + 18446744073709551616 * (Q * V) := by grind
    rw [e1]
    omega
/-- The first round: nothing is taken. -/
theorem KnN.last {m n : Nat} {us0 vs us sd : List Nat} (h : KnN m n (m + 1) us0 vs us []) (h0 : us0.length = m + n) (hl : sd.length = n) (hd : Dig 18446744073709551616 sd) (hU : dval 18446744073709551616 sd = dval 18446744073709551616 (us.drop m))
    (hlt : dval 18446744073709551616 (us0.drop m) < dval 18446744073709551616 vs) : KnN m n m us0 vs (us.take m ++ sd) [] := by
  have hltk : (us.take m).length = m := by rw [List.length_take, h.hu]; omega
  have hdr : dval 18446744073709551616 ((us.take m ++ sd).drop m) = dval 18446744073709551616 sd := by
    rw [List.drop_append_of_le_length (by omega), List.drop_of_length_le (by omega : (us.take m).length ≤ m), List.nil_append]
  have hUU : dval 18446744073709551616 (us.drop m) = dval 18446744073709551616 (us0.drop m) := by
    have a1 := dval_drop1 18446744073709551616 us0 m
    have a2 := dval_drop1 18446744073709551616 us m
    have a3 := h.val
    have a4 : us0.getD m 0 = us.getD m 0 := by
      have e : (us.take (m + 1)).getD m 0 = (us0.take (m + 1)).getD m 0 := by rw [h.tk]
      have g : ∀ l : List Nat, (l.take (m + 1)).getD m 0 = l.getD m 0 := fun l => by
        rw [List.getD_eq_getElem?_getD, List.getD_eq_getElem?_getD, List.getElem?_take_of_lt (by omega)]
      rw [g us, g us0] at e
      exact e.symm
    rw [dval_nil, Nat.zero_mul, Nat.zero_add] at a3
    omega
  refine ⟨?_, dig_append (dig_take h.du m) hd, ?_, by rw [hdr, hU, hUU]; exact hlt, by simp, fun e he => by simp at he, ?_⟩
  · rw [List.length_append, hltk, hl]
  · rw [List.take_append_of_le_length (by omega), List.take_take, Nat.min_self]
    have := congrArg (List.take m) h.tk
    rwa [List.take_take, List.take_take, Nat.min_eq_left (by omega)] at this
  · rw [hdr, hU, hUU, dval_nil]; simp
/-- The add-back: the window's carry goes into its last word. -/
theorem kn_back {n V R : Nat} {sd ad : List Nat} {c : Nat} (hl : sd.length = n + 1) (hal : ad.length = n) (hda : Dig 18446744073709551616 ad) (h1 : dval 18446744073709551616 ad + 18446744073709551616 ^ n * c = dval 18446744073709551616 (sd.take n) + V)
    (h2 : dval 18446744073709551616 sd + V = R + 18446744073709551616 ^ (n + 1)) (hR : R < 18446744073709551616 ^ n) : sd.getD n 0 + c = 18446744073709551616 ∧ dval 18446744073709551616 ad = R := by
  have a1 := dval_split 18446744073709551616 n sd (by omega)
  rw [dval_drop1, List.drop_of_length_le (by omega : sd.length ≤ n + 1), dval_nil] at a1
  have a2 := dval_lt (b := 18446744073709551616) (by omega) hda
  rw [hal] at a2
  rw [Nat.pow_succ] at h2
  generalize dval 18446744073709551616 sd = S at *
  generalize dval 18446744073709551616 (sd.take n) = T at *
  generalize dval 18446744073709551616 ad = A at *
  generalize sd.getD n 0 = x at *
  generalize 18446744073709551616 ^ n = Bn at *
  have e1 : A + Bn * (x + c) = R + Bn * 18446744073709551616 := by
    have : Bn * (x + c) = Bn * x + Bn * c := Nat.mul_add _ _ _
    have : Bn * (x + 18446744073709551616 * 0) = Bn * x := by simp
    omega
  have e2 : x + c = 18446744073709551616 := by
    rcases Nat.lt_trichotomy (x + c) 18446744073709551616 with h | h | h
    · have : Bn * (x + c + 1) ≤ Bn * 18446744073709551616 := Nat.mul_le_mul_left _ h
      have e : Bn * (x + c + 1) = Bn * (x + c) + Bn := by grind
      omega
    · exact h
    · have : Bn * (18446744073709551616 + 1) ≤ Bn * (x + c) := Nat.mul_le_mul_left _ h
      have e : Bn * (18446744073709551616 + 1) = Bn * 18446744073709551616 + Bn := by grind
      omega
  rw [e2] at e1
  exact ⟨e2, by omega⟩
end Go.Proofs.YtfkcobdkgjhfaaaGreatDoor

/- Walks: the temporary stack without its inner part: save, restore, rows of four words at most. -/
set_option linter.unusedVariables false
set_option linter.unusedSimpArgs false
namespace Go.Proofs.YtfkcobdkgjhfaaaGreatDoor
open Go.RowKit

theorem save_nil (g : Nat) (w : World) (h : w.cell? ⟨g, 0, none⟩ = some (.pointer none)) :
    Calls Tryz.prog 168 #[.pointer (some ⟨g, 0, none⟩)] w fun e w' => e = .returned (.int .i64 0) ∧ w = w' := by
  go_enter Tryz.func168, Tryz.ntmps168
  go_wp2
  go_ret
  exact ⟨rfl, rfl⟩
theorem restore_deferred (g : Nat) (u : FrameMode) (w : World) (h : w.cell? ⟨g, 0, none⟩ = some (.pointer none)) :
    CallsD Tryz.prog 167 #[.pointer (some ⟨g, 0, none⟩), .int .i64 0] u w fun e u' w' => u' = u ∧ (e = .returned (.tuple #[]) ∧ w' = w) := by
  go_enter_d Tryz.func167, Tryz.ntmps167
  go_wp2
  exact bodyPost_ret (results_none rfl _ _ _) rfl ⟨rfl, rfl⟩
/-- A new row of the call's own, of n words. -/
def NewRow (w : World) (n : Nat) (e : Ending) (w' : World) : Prop :=
  ∃ (g cap : Nat) (cur : Array Value), e = .returned (.slice (some ⟨g, 0, none⟩) n cap) ∧ w.heap.size ≤ g ∧ Blk w' g 145 cur ∧ n ≤ cap ∧ cap ≤ maxLen ∧ cur.size = cap ∧ Below w.heap.size w w'

set_option maxHeartbeats 1000000 in
set_option maxRecDepth 20000 in
theorem grow_nil (n : Nat) (w : World) (h1 : 1 ≤ n) (h4 : n ≤ 1000) :
    Calls Tryz.prog 197 #[.slice none 0 0, .int .i64 (n : Int)] w fun e w' => ∃ (g cap : Nat) (cur : Array Value), e = .returned (.slice (some ⟨g, 0, none⟩) 0 cap) ∧ w.heap.size ≤ g ∧ Blk w' g 145 cur ∧ n ≤ cap ∧ cap ≤ maxLen ∧ cur.size = cap ∧ Below w.heap.size w w' := by
  obtain ⟨i0, hi, hz0, hz1, hz2⟩ := info_parts infoWord
  have happ := Lib.run_append_nil_zeros (P := Tryz.prog) w 65 3 65 145 i0 (.int .u64 0) .i64 .i64 Tryz.underlying65 Tryz.underlying3 hi hz0 n (by omega) (by omega) (by omega) (by rw [hz2]; omega)
  have hcap : n ≤ grownCap w n 0 145 := grownCap_ge w n 0 145
  have hcap2 : grownCap w n 0 145 ≤ maxLen := grownCap_le_maxLen w n 0 145 (by simp only [maxLen]; omega)
  generalize grownCap w n 0 145 = cap at happ hcap hcap2
  obtain ⟨Z, hZ⟩ : ∃ Z, Z = Builtin.zeroCells (Value.int .u64 0).cells n ++ Builtin.zeroCells (Value.int .u64 0).cells (cap - n) := ⟨_, rfl⟩
  rw [← hZ] at happ
  have hZs : Z.size = cap := by rw [hZ]; simp [size_zeroCells, Value.cells]; omega
  have HF : Hid (∃ (g cap' : Nat) (cur : Array Value), Ending.returned (.slice (some ⟨w.heap.size, 0, none⟩) 0 cap) = .returned (.slice (some ⟨g, 0, none⟩) 0 cap') ∧ w.heap.size ≤ g ∧ Blk (w.drew.alloc (.cells Z 145)) g 145 cur ∧ n ≤ cap' ∧ cap' ≤ maxLen ∧ cur.size = cap' ∧ Below w.heap.size w (w.drew.alloc (.cells Z 145))) :=
    ⟨w.heap.size, cap, Z, rfl, Nat.le_refl _, Blk.new w.drew _ _, hcap, hcap2, hZs, (Below.mk rfl rfl rfl (Nat.le_refl _) (fun _ _ => rfl) : Below w.heap.size w w.drew).alloc (Nat.le_refl _) _⟩
  have hn0 : (0 : Int) < (n : Int) := by omega
  have hn1 : 0 < n := by omega
  have hc0 : 0 ≤ cap := Nat.zero_le _
  have HA := hide happ
  clear hi hz0 hz1 hz2 hZ hZs happ
  go_enter Tryz.func197, Tryz.ntmps197
  go_wp2_with (at_builtin; refine Lib.wpList_append_run _ rfl _ _ _ _ rfl _ _ rfl rfl _ _ HA.out ?_)
  go_ret
  exact HF.out

set_option maxRecDepth 20000 in
theorem snat_few (gs n : Nat) (w : World) (hs : w.cell? ⟨gs, 0, none⟩ = some (.pointer none)) (h1 : 1 ≤ n) (h4 : n ≤ 4) :
    Calls Tryz.prog 170 #[.pointer (some ⟨gs, 0, none⟩), .int .i64 (n : Int)] w (NewRow w n) := by
  have Con := hide (grow_nil n w h1 (by omega))
  have q1 : (n : Int) ≤ 4 := by omega
  have q2 : n ≤ 4 := h4
  have q3 : 0 < n := h1
  have hcapI : ∀ cap : Nat, n ≤ cap → (n : Int) ≤ (cap : Int) := fun _ h => by omega
  go_enter Tryz.func170, Tryz.ntmps170
  go_wp2_with fail
  refine (Con.out).mono ?_
  rintro e w1 ⟨g, cap, cur, rfl, hg, hB, hn, hm, hs1, hb⟩
  have c0 : ∃ u, w1.cell? ⟨g, 0, none⟩ = some u := ⟨_, (hB.cell 0).trans (Array.getElem?_eq_getElem (by omega))⟩
  obtain ⟨u, c0⟩ := c0
  have f0 := hB.frozen 0
  have hF := (Fr.refl w1 (fun k => k = g)).setCell (p := ⟨g, 0, none⟩) (fun _ => rfl) (.int .u64 11259375)
  have HE : Hid (NewRow w n (.returned (.slice (some ⟨g, 0, none⟩) n cap)) (w1.setCell ⟨g, 0, none⟩ (.int .u64 11259375))) :=
    ⟨g, cap, _, rfl, hg, hB.set 0 _, hn, hm, by simpa using hs1, (Fr.step (Fr.of_below hb (fun k => w.heap.size ≤ k)) hF (fun i _ hi => by subst hi; exact hg)).below (Nat.le_refl _) (fun _ h => h)⟩
  clear hB hs1 hb hF Con hs hcapI
  go_wp2
  go_ret
  exact HE.out
end Go.Proofs.YtfkcobdkgjhfaaaGreatDoor

/- What a round of the division by several words holds in memory, and what its calls leave. -/
set_option linter.unusedVariables false
set_option linter.unusedSimpArgs false
namespace Go.Proofs.YtfkcobdkgjhfaaaGreatDoor
open Go.RowKit

theorem rd_part {w : World} {g o c n : Nat} {P S : List Value} {xs : List Nat} (h : Blk w g 145 (P ++ wv xs ++ S).toArray) (ho : o = P.length) (hn : n = xs.length) (hc : n ≤ c) (hm : c ≤ maxLen) : RdW w (.slice (some ⟨g, o, none⟩) n c) xs := by
  subst hn
  refine .inr ⟨g, o, c, rfl, hc, hm, WordsAt.of_blk h (fun i hi => ?_)⟩
  subst ho
  rw [List.getElem?_toArray, List.append_assoc, List.getElem?_append_right (by omega), Nat.add_sub_cancel_left, List.getElem?_append_left (by rw [wv_length]; exact hi), wv_at, List.getElem?_eq_getElem hi, getD_at hi]
  rfl
theorem wv_set (xs : List Nat) (i x : Nat) : wv (xs.set i x) = (wv xs).set i (.int .u64 (x : Int)) := by simp [wv]

/-- The rows of a round. -/
structure KnW (w : World) (gu gv gq gh n cv : Nat) (vs : List Nat) (Su Sq Sh qa : List Value) (k : Nat) (us qk : List Nat) (hl : List Value) (W : World) : Prop where
  u : Blk W gu 145 (wv us ++ Su).toArray
  q : Blk W gq 145 (qa.take k ++ wv qk ++ Sq).toArray
  h : Blk W gh 145 (hl ++ Sh).toArray
  v : RdW W (.slice (some ⟨gv, 0, none⟩) n cv) vs
  fr : Fr w W (fun k => k = gu ∨ k = gq ∨ w.heap.size ≤ k)

section
variable {w : World} {gu gv gq gh n cv : Nat} {vs : List Nat} {Su Sq Sh qa : List Value} {k : Nat} {us qk : List Nat} {hl : List Value} {W : World}

/-- The rows lie apart. -/
structure KnA (w : World) (gu gv gq gh : Nat) : Prop where
  uq : gu ≠ gq
  uv : gu ≠ gv
  qv : gq ≠ gv
  h : w.heap.size ≤ gh
  u : gu < w.heap.size
  v : gv < w.heap.size
  q : gq < w.heap.size

theorem KnW.below (h : KnW w gu gv gq gh n cv vs Su Sq Sh qa k us qk hl W) {W' : World} (hb : Below W.heap.size W W') : KnW w gu gv gq gh n cv vs Su Sq Sh qa k us qk hl W' :=
  ⟨h.u.below hb, h.q.below hb, h.h.below hb, RdG.below (k := .u64) h.v hb, Fr.step h.fr (Fr.of_below hb (fun _ => False)) (fun _ _ h => h.elim)⟩
theorem KnW.drew (h : KnW w gu gv gq gh n cv vs Su Sq Sh qa k us qk hl W) : KnW w gu gv gq gh n cv vs Su Sq Sh qa k us qk hl W.drew := ⟨h.u, h.q, h.h, h.v, h.fr.drew⟩
theorem KnW.ucell (h : KnW w gu gv gq gh n cv vs Su Sq Sh qa k us qk hl W) {i : Nat} (hi : i < us.length) : W.cell? ⟨gu, i, none⟩ = some (.int .u64 (us.getD i 0 : Nat)) := by
  rw [h.u.cell, List.getElem?_toArray, List.getElem?_append_left (by rw [wv_length]; exact hi), wv_at, List.getElem?_eq_getElem hi, getD_at hi]
  rfl
theorem KnW.vcell (h : KnW w gu gv gq gh n cv vs Su Sq Sh qa k us qk hl W) {i : Nat} (hi : i < vs.length) : W.cell? ⟨gv, i, none⟩ = some (.int .u64 (vs.getD i 0 : Nat)) := by
  obtain ⟨g, o, e1, _, e2⟩ := RdG.at_ (k := .u64) h.v i hi
  injection e1 with e1
  injection e1 with e3 e4
  subst e3 e4
  rw [Nat.zero_add] at e2
  exact e2

theorem KnW.mav (h : KnW w gu gv gq gh n cv vs Su Sq Sh qa k us qk hl W) (ha : KnA w gu gv gq gh) (hv : vs.length = n) (hdv : Dig 18446744073709551616 vs) (hn : n ≤ 1000) (hll : hl.length = n + 1) (c1 qh : Nat) (hc1 : n ≤ c1) (hq : qh < 18446744073709551616) :
    Calls Tryz.prog 202 #[.slice (some ⟨gh, 0, none⟩) n c1, .slice (some ⟨gv, 0, none⟩) n cv, .int .u64 (qh : Int), .int .u64 0] W fun e W' => ∃ c : Nat, e = .returned (.int .u64 (c : Int)) ∧ Hid (c = (amul 18446744073709551616 qh (List.replicate n 0) vs 0).2) ∧
      KnW w gu gv gq gh n cv vs Su Sq Sh qa k us qk (wv (amul 18446744073709551616 qh (List.replicate n 0) vs 0).1 ++ hl.drop n) W' := by
  have hB : Blk W gh 145 ([] ++ hl.take n ++ (hl.drop n ++ Sh)).toArray := by
    have e : [] ++ hl.take n ++ (hl.drop n ++ Sh) = hl ++ Sh := by rw [List.nil_append, ← List.append_assoc, List.take_append_drop]
    rw [e]; exact h.h
  have con := mav_any gh 0 n c1 0 qh [] (hl.drop n ++ Sh) (hl.take n) (some ⟨gv, 0, none⟩) cv vs W hB rfl (by rw [List.length_take, hll, hv]; omega) hv.symm (by omega) hc1 (.inl ⟨h.v, fun k hk => by have hk' : gv = k := (by injection hk); have := ha.h; have := ha.v; omega⟩) (by omega) hq hdv
  have hx : ((0 : Nat) : Int) = 0 := rfl
  rw [hx] at con
  refine con.mono ?_
  rintro e W' ⟨c, rfl, hc, hB', hF⟩
  refine ⟨c, rfl, hc, h.u.fr hF (fun e => by have := ha.h; have := ha.u; omega), h.q.fr hF (fun e => by have := ha.h; have := ha.q; omega), ?_, h.v.fr hF (fun k hk e => by have hk' : gv = k := (by injection hk); have := ha.h; have := ha.v; omega), Fr.step h.fr hF (fun i hi e => by have := ha.h; omega)⟩
  simpa [List.append_assoc] using hB'

theorem KnW.seth (h : KnW w gu gv gq gh n cv vs Su Sq Sh qa k us qk hl W) (ha : KnA w gu gv gq gh) (v : Value) {i : Nat} (hi : i < hl.length) : (∃ u, W.cell? ⟨gh, i, none⟩ = some u) ∧ W.frozen? ⟨gh, i, none⟩ = false ∧ KnW w gu gv gq gh n cv vs Su Sq Sh qa k us qk (hl.set i v) (W.setCell ⟨gh, i, none⟩ v) := by
  have hF := (Fr.refl W (fun k => k = gh)).setCell (p := ⟨gh, i, none⟩) (fun _ => rfl) v
  refine ⟨⟨_, (h.h.cell i).trans (by rw [List.getElem?_toArray, List.getElem?_append_left hi, List.getElem?_eq_getElem hi])⟩, h.h.frozen _, h.u.fr hF (fun e => by have := ha.h; have := ha.u; omega), h.q.fr hF (fun e => by have := ha.h; have := ha.q; omega), ?_, h.v.fr hF (fun k hk e => by have hk' : gv = k := (by injection hk); have := ha.h; have := ha.v; omega), Fr.step h.fr hF (fun i hi e => by have := ha.h; omega)⟩
  have := h.h.set i v
  rwa [List.setIfInBounds_toArray, List.set_append_left _ _ hi] at this

theorem KnW.setu (h : KnW w gu gv gq gh n cv vs Su Sq Sh qa k us qk hl W) (ha : KnA w gu gv gq gh) (x : Nat) {i : Nat} (hi : i < us.length) : W.frozen? ⟨gu, i, none⟩ = false ∧ KnW w gu gv gq gh n cv vs Su Sq Sh qa k (us.set i x) qk hl (W.setCell ⟨gu, i, none⟩ (.int .u64 (x : Int))) := by
  have hF := (Fr.refl W (fun k => k = gu)).setCell (p := ⟨gu, i, none⟩) (fun _ => rfl) (.int .u64 (x : Int))
  refine ⟨h.u.frozen _, ?_, h.q.fr hF (fun e => ha.uq e.symm), h.h.fr hF (fun e => by have := ha.h; have := ha.u; omega), h.v.fr hF (fun k hk e => by have hk' : gv = k := (by injection hk); exact ha.uv (by omega)), Fr.step h.fr hF (fun i hi e => .inl e)⟩
  have := h.u.set i (.int .u64 (x : Int))
  rwa [List.setIfInBounds_toArray, List.set_append_left _ _ (by rw [wv_length]; exact hi), ← wv_set] at this

theorem KnW.setq {j : Nat} (h : KnW w gu gv gq gh n cv vs Su Sq Sh qa (j + 1) us qk hl W) (ha : KnA w gu gv gq gh) (x : Nat) (hj : j < qa.length) : (∃ u, W.cell? ⟨gq, j, none⟩ = some u) ∧ W.frozen? ⟨gq, j, none⟩ = false ∧ KnW w gu gv gq gh n cv vs Su Sq Sh qa j us (x :: qk) hl (W.setCell ⟨gq, j, none⟩ (.int .u64 (x : Int))) := by
  have hF := (Fr.refl W (fun k => k = gq)).setCell (p := ⟨gq, j, none⟩) (fun _ => rfl) (.int .u64 (x : Int))
  have hB := h.q
  rw [List.take_succ_eq_append_getElem hj, List.append_assoc, List.append_assoc, List.singleton_append] at hB
  obtain ⟨h1, h2, h3⟩ := hB.part (i := j) (by rw [List.length_take]; omega)
  refine ⟨⟨_, h1⟩, h2, h.u.fr hF (fun e => ha.uq e), ?_, h.h.fr hF (fun e => by have := ha.h; have := ha.q; omega), h.v.fr hF (fun k hk e => by have hk' : gv = k := (by injection hk); exact ha.qv (by omega)), Fr.step h.fr hF (fun i hi e => .inr (.inl e))⟩
  have := h3 (.int .u64 (x : Int))
  rw [wv_cons]
  simpa [List.append_assoc] using this

theorem KnW.sub (h : KnW w gu gv gq gh n cv vs Su Sq Sh qa k us qk hl W) (ha : KnA w gu gv gq gh) (j l c1 c2 ch : Nat) (xs : List Nat) (hx : RdW W (.slice (some ⟨gh, 0, none⟩) l ch) xs) (hl1 : l = xs.length) (hl2 : j + l ≤ us.length) (hlb : l ≤ 1000) (hc1 : l ≤ c1) (hc2 : l ≤ c2) :
    Calls Tryz.prog 203 #[.slice (some ⟨gu, j, none⟩) l c1, .slice (some ⟨gu, j, none⟩) l c2, .slice (some ⟨gh, 0, none⟩) l ch] W fun e W' => ∃ q : Nat, e = .returned (.int .u64 (q : Int)) ∧ Hid (q = (subL 18446744073709551616 ((us.drop j).take l) xs 0).2) ∧
      KnW w gu gv gq gh n cv vs Su Sq Sh qa k (us.take j ++ (subL 18446744073709551616 ((us.drop j).take l) xs 0).1 ++ us.drop (j + l)) qk hl W' := by
  have hB : Blk W gu 145 (wv (us.take j) ++ wv ((us.drop j).take l) ++ (wv (us.drop (j + l)) ++ Su)).toArray := by
    have e : us = us.take j ++ ((us.drop j).take l ++ us.drop (j + l)) := by rw [← List.drop_drop, List.take_append_drop, List.take_append_drop]
    have := h.u
    rw [e] at this
    simpa [wv_append, List.append_assoc] using this
  have con := subvv_any gu j l c1 c2 (wv (us.take j)) (wv (us.drop (j + l)) ++ Su) (some ⟨gh, 0, none⟩) ch ((us.drop j).take l) xs W hB (by rw [wv_length, List.length_take]; omega) (by rw [List.length_take, List.length_drop]; omega) hl1 (by omega) hc1 hc2 hx (fun k hk e => by have hk' : gh = k := (by injection hk); have := ha.h; have := ha.u; omega)
  refine con.mono ?_
  rintro e W' ⟨q, rfl, hq, hB', hF⟩
  refine ⟨q, rfl, hq, ?_, h.q.fr hF (fun e => ha.uq e.symm), h.h.fr hF (fun e => by have := ha.h; have := ha.u; omega), h.v.fr hF (fun k hk e => by have hk' : gv = k := (by injection hk); exact ha.uv (by omega)), Fr.step h.fr hF (fun i hi e => .inl e)⟩
  rw [wv_append, wv_append]
  simpa [List.append_assoc] using hB'

theorem KnW.add (h : KnW w gu gv gq gh n cv vs Su Sq Sh qa k us qk hl W) (ha : KnA w gu gv gq gh) (hv : vs.length = n) (hdv : Dig 18446744073709551616 vs) (hdu : Dig 18446744073709551616 us) (j c1 c2 : Nat) (hl2 : j + n ≤ us.length) (hlb : n ≤ 1000) (hc1 : n ≤ c1) (hc2 : n ≤ c2) :
    Calls Tryz.prog 204 #[.slice (some ⟨gu, j, none⟩) n c1, .slice (some ⟨gu, j, none⟩) n c2, .slice (some ⟨gv, 0, none⟩) n cv] W fun e W' => ∃ q : Nat, e = .returned (.int .u64 (q : Int)) ∧ Hid (q = (amul 18446744073709551616 1 ((us.drop j).take n) vs 0).2) ∧
      KnW w gu gv gq gh n cv vs Su Sq Sh qa k (us.take j ++ (amul 18446744073709551616 1 ((us.drop j).take n) vs 0).1 ++ us.drop (j + n)) qk hl W' := by
  have hB : Blk W gu 145 (wv (us.take j) ++ wv ((us.drop j).take n) ++ (wv (us.drop (j + n)) ++ Su)).toArray := by
    have e : us = us.take j ++ ((us.drop j).take n ++ us.drop (j + n)) := by rw [← List.drop_drop, List.take_append_drop, List.take_append_drop]
    have := h.u
    rw [e] at this
    simpa [wv_append, List.append_assoc] using this
  have con := addvv_any gu j n c1 c2 (wv (us.take j)) (wv (us.drop (j + n)) ++ Su) (some ⟨gv, 0, none⟩) cv ((us.drop j).take n) vs W hB (by rw [wv_length, List.length_take]; omega) (by rw [List.length_take, List.length_drop]; omega) hv.symm (by omega) hc1 hc2 h.v (fun k hk e => by have hk' : gv = k := (by injection hk); exact ha.uv (by omega)) (dig_take (dig_drop hdu _) _) hdv
  refine con.mono ?_
  rintro e W' ⟨q, rfl, hq, hB', hF⟩
  refine ⟨q, rfl, hq, ?_, h.q.fr hF (fun e => ha.uq e.symm), h.h.fr hF (fun e => by have := ha.h; have := ha.u; omega), h.v.fr hF (fun k hk e => by have hk' : gv = k := (by injection hk); exact ha.uv (by omega)), Fr.step h.fr hF (fun i hi e => .inl e)⟩
  rw [wv_append, wv_append]
  simpa [List.append_assoc] using hB'
end

theorem gt_any (x1 x2 y1 y2 : Nat) (hx2 : x2 < 18446744073709551616) (hy2 : y2 < 18446744073709551616) (w : World) :
    Calls Tryz.prog 201 #[.int .u64 (x1 : Int), .int .u64 (x2 : Int), .int .u64 (y1 : Int), .int .u64 (y2 : Int)] w fun e w' => e = .returned (.bool (decide (y1 * 18446744073709551616 + y2 < x1 * 18446744073709551616 + x2))) ∧ w = w' := by
  rcases Nat.lt_trichotomy y1 x1 with h | h | h
  · have hd : decide (y1 * 18446744073709551616 + y2 < x1 * 18446744073709551616 + x2) = true := decide_eq_true (by omega)
    have q1 : decide ((y1 : Int) < (x1 : Int)) = true := decide_eq_true (by omega)
    have q2 : decide (y1 < x1) = true := decide_eq_true h
    rw [hd]
    clear hd hx2 hy2
    go_enter Tryz.func201, Tryz.ntmps201
    go_wp2
    go_ret
    exact ⟨rfl, rfl⟩
  · subst h
    have hd : decide (y1 * 18446744073709551616 + y2 < y1 * 18446744073709551616 + x2) = decide (y2 < x2) := decide_eq_decide.2 (by omega)
    rw [hd]
    clear hd hx2 hy2
    by_cases h2 : y2 < x2
    · have q3 : decide (y2 < x2) = true := decide_eq_true h2
      go_enter Tryz.func201, Tryz.ntmps201
      go_wp2
      go_ret
      exact ⟨by simp [h2], rfl⟩
    · have q3 : decide (y2 < x2) = false := decide_eq_false h2
      go_enter Tryz.func201, Tryz.ntmps201
      go_wp2
      go_ret
      exact ⟨by simp [h2], rfl⟩
  · have hd : decide (y1 * 18446744073709551616 + y2 < x1 * 18446744073709551616 + x2) = false := decide_eq_false (by omega)
    have q1 : decide ((y1 : Int) < (x1 : Int)) = false := decide_eq_false (by omega)
    have q2 : decide (y1 < x1) = false := decide_eq_false (by omega)
    have q3 : ((x1 : Int) == (y1 : Int)) = false := beq_eq_false_iff_ne.2 (by omega)
    have q4 : (x1 == y1) = false := beq_eq_false_iff_ne.2 (by omega)
    rw [hd]
    clear hd hx2 hy2
    go_enter Tryz.func201, Tryz.ntmps201
    go_wp2
    go_ret
    exact ⟨rfl, rfl⟩
end Go.Proofs.YtfkcobdkgjhfaaaGreatDoor

/- Plain: a round of the division by several words ends: with the guess, or with the guess less one. No program in sight. -/
set_option linter.unusedVariables false
set_option linter.unusedSimpArgs false
namespace Go.Proofs.YtfkcobdkgjhfaaaGreatDoor
open Go.RowKit

/-- The guess that a round takes. -/
def KnG (U V q : Nat) : Prop := q < 18446744073709551616 ∧ U < (q + 1) * V ∧ q * V ≤ U + V

theorem kn_l1 {us sd : List Nat} {j n : Nat} (hj : j ≤ us.length) (hs : sd.length = n + 1) :
    (us.take j ++ sd ++ us.drop (j + (n + 1))).take j = us.take j ∧ ((us.take j ++ sd ++ us.drop (j + (n + 1))).drop j).take n = sd.take n ∧ (us.take j ++ sd ++ us.drop (j + (n + 1))).drop (j + n) = sd.getD n 0 :: us.drop (j + (n + 1)) := by
  have hl : (us.take j).length = j := by rw [List.length_take]; omega
  have hd : (us.take j ++ sd ++ us.drop (j + (n + 1))).drop j = sd ++ us.drop (j + (n + 1)) := by
    rw [List.append_assoc, List.drop_append_of_le_length (by omega), List.drop_of_length_le (by omega : (us.take j).length ≤ j), List.nil_append]
  refine ⟨?_, ?_, ?_⟩
  · rw [List.append_assoc, List.take_append_of_le_length (by omega), List.take_take, Nat.min_self]
  · rw [hd, List.take_append_of_le_length (by omega)]
  · rw [← List.drop_drop, hd, List.drop_append_of_le_length (by omega), drop_getD (by omega : n < sd.length), List.drop_of_length_le (by omega : sd.length ≤ n + 1)]
    rfl
theorem kn_l2 {us ad tl : List Nat} {j n x : Nat} (hj : j ≤ us.length) (ha : ad.length = n) : (us.take j ++ ad ++ x :: tl).getD (j + n) 0 = x ∧ (us.take j ++ ad ++ x :: tl).set (j + n) 0 = us.take j ++ (ad ++ [0]) ++ tl := by
  have hl : (us.take j ++ ad).length = j + n := by rw [List.length_append, List.length_take, ha]; omega
  refine ⟨?_, ?_⟩
  · rw [List.getD_eq_getElem?_getD, List.getElem?_append_right (by omega), hl, Nat.sub_self]; rfl
  · rw [List.set_append_right _ _ (by omega), hl, Nat.sub_self]
    simp [List.append_assoc]

theorem kn_sub {m n j q : Nat} {us0 vs us qk ph : List Nat} (h : KnN m n (j + 1) us0 vs us qk) (hv : vs.length = n) (hdv : Dig 18446744073709551616 vs) (hj : j < m) (hpl : ph.length = n + 1) (hpd : Dig 18446744073709551616 ph) (hpv : dval 18446744073709551616 ph = dval 18446744073709551616 vs * q) :
    (subL 18446744073709551616 ((us.drop j).take (n + 1)) ph 0).1.length = n + 1 ∧ Dig 18446744073709551616 (subL 18446744073709551616 ((us.drop j).take (n + 1)) ph 0).1 ∧ (subL 18446744073709551616 ((us.drop j).take (n + 1)) ph 0).2 ≤ 1 ∧
      dval 18446744073709551616 (subL 18446744073709551616 ((us.drop j).take (n + 1)) ph 0).1 + q * dval 18446744073709551616 vs = dval 18446744073709551616 (us.drop j) + 18446744073709551616 ^ (n + 1) * (subL 18446744073709551616 ((us.drop j).take (n + 1)) ph 0).2 ∧
      dval 18446744073709551616 (subL 18446744073709551616 ((us.drop j).take (n + 1)) ph 0).1 < 18446744073709551616 ^ (n + 1) := by
  have hzl : ((us.drop j).take (n + 1)).length = ph.length := by rw [List.length_take, List.length_drop, h.hu, hpl]; omega
  have h1 := subL_val (b := 18446744073709551616) 0 hzl (dig_take (dig_drop h.du _) _) hpd (by omega)
  have h2 := dval_split 18446744073709551616 (n + 1) (us.drop j) (by rw [List.length_drop, h.hu]; omega)
  rw [List.drop_drop, show j + (n + 1) = j + n + 1 by omega, (h.high hv hdv (by omega)).2, Nat.mul_zero, Nat.add_zero] at h2
  have h3 := subL_length 18446744073709551616 0 hzl
  have h4 := subL_dig (b := 18446744073709551616) (by omega) (zs := (us.drop j).take (n + 1)) (ys := ph) 0
  have h5 := dval_lt (b := 18446744073709551616) (by omega) h4
  rw [h3, hpl] at h5
  refine ⟨h3.trans hpl, h4, subL_borrow 0 (by omega), ?_, h5⟩
  rw [← h2, hpv, Nat.add_zero, hpl, Nat.mul_comm (dval 18446744073709551616 vs) q] at h1
  exact h1

theorem kn_fin0 {m n j q : Nat} {us0 vs us qk sd : List Nat} (h : KnN m n (j + 1) us0 vs us qk) (hv : vs.length = n) (hdv : Dig 18446744073709551616 vs) (hj : j < m) (h0 : us0.length = m + n) (hG : KnG (dval 18446744073709551616 (us.drop j)) (dval 18446744073709551616 vs) q)
    (hl : sd.length = n + 1) (hd : Dig 18446744073709551616 sd) (hs : dval 18446744073709551616 sd + q * dval 18446744073709551616 vs = dval 18446744073709551616 (us.drop j)) : KnN m n j us0 vs (us.take j ++ sd ++ us.drop (j + n + 1)) (q :: qk) := by
  have h1 := hG.2.1
  have e : (q + 1) * dval 18446744073709551616 vs = q * dval 18446744073709551616 vs + dval 18446744073709551616 vs := by rw [Nat.succ_mul]
  exact h.step hv hdv hj h0 hl hd hG.1 (by omega) (by omega)

theorem kn_fin1 {m n j q c : Nat} {us0 vs us qk sd ad : List Nat} (h : KnN m n (j + 1) us0 vs us qk) (hv : vs.length = n) (hdv : Dig 18446744073709551616 vs) (hj : j < m) (h0 : us0.length = m + n) (hG : KnG (dval 18446744073709551616 (us.drop j)) (dval 18446744073709551616 vs) q)
    (hl : sd.length = n + 1) (hs : dval 18446744073709551616 sd + q * dval 18446744073709551616 vs = dval 18446744073709551616 (us.drop j) + 18446744073709551616 ^ (n + 1)) (hlt : dval 18446744073709551616 sd < 18446744073709551616 ^ (n + 1))
    (hal : ad.length = n) (had : Dig 18446744073709551616 ad) (hav : dval 18446744073709551616 ad + 18446744073709551616 ^ n * c = dval 18446744073709551616 (sd.take n) + dval 18446744073709551616 vs) :
    ∃ q', q = q' + 1 ∧ sd.getD n 0 + c = 18446744073709551616 ∧ KnN m n j us0 vs (us.take j ++ (ad ++ [0]) ++ us.drop (j + n + 1)) (q' :: qk) := by
  obtain ⟨q', hq, h1, h2⟩ := kn_dec (show dval 18446744073709551616 (us.drop j) < q * dval 18446744073709551616 vs by omega) hG.2.2
  subst hq
  have e : (q' + 1) * dval 18446744073709551616 vs = q' * dval 18446744073709551616 vs + dval 18446744073709551616 vs := by rw [Nat.succ_mul]
  have hV := dval_lt (b := 18446744073709551616) (by omega) hdv
  rw [hv] at hV
  obtain ⟨R, hR⟩ : ∃ R, R = dval 18446744073709551616 (us.drop j) - q' * dval 18446744073709551616 vs := ⟨_, rfl⟩
  have hRV : R < dval 18446744073709551616 vs := by omega
  obtain ⟨b1, b2⟩ := kn_back hl hal had hav (R := R) (by omega) (by omega)
  refine ⟨q', rfl, b1, h.step hv hdv hj h0 (by rw [List.length_append, hal]; rfl) (dig_append had (fun d hd => by rw [List.mem_singleton.1 hd]; omega)) (by have := hG.1; omega) ?_ ?_⟩
  · rw [dval_append, dval_cons, dval_nil, b2]; simp; omega
  · rw [dval_append, dval_cons, dval_nil, b2]; simpa using hRV
end Go.Proofs.YtfkcobdkgjhfaaaGreatDoor
