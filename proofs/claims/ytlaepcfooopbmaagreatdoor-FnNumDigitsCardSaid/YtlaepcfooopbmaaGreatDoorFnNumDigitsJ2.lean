/- Parts of the proof of 'laws.FnNumDigits': Row, DivMath, MulMath, ShMath, Bits1. -/
import Derived.Test.YtlaepcfooopbmaaGreatDoorRows
import Derived.ProofKit
import Derived.OpenShut
import Derived.ChangeOld
import Derived.Lib.SmallJoins
import Derived.Test.YtlaepcfooopbmaaGreatDoorShelf
import Derived.Laws.Externs
import Derived.Test.YtlaepcfooopbmaaGreatDoorFnNumDigitsJ1
/- A Dec that came in as an argument, opened. -/
set_option linter.unusedVariables false
set_option linter.unusedSimpArgs false
namespace Go.Proofs.YtlaepcfooopbmaaGreatDoor
open Go.ChangeShapes Go.WideShapes Go.ChangeAt Go.RowKit Go.Joins

theorem own : ownKnob Tryz.prog.godebug = none := by kernel_rfl
theorem laidOut : laidOutB Tryz.prog = true := by kernel_rfl
theorem cellsDec : Tryz.prog.cellsOf 31 = 4 := by kernel_rfl

theorem u64_nat {n : Int} (h : (Lit.int .u64 n).wf = true) : 0 ≤ n ∧ n < 18446744073709551616 := by
  simp [Lit.wf, IntKind.min, IntKind.max, IntKind.signed, IntKind.bits] at h
  omega

theorem row_open {w : World} {a : Addr} {len cap : Nat} {zs : List Int} (hl : len ≤ cap) (hm : cap ≤ maxLen) (hz : zs.length = cap) (hcell : ∀ i, i < zs.length → w.cell? (a.add i) = some (.int .u64 (zs.getD i 0)))
    (hwz : ∀ n ∈ zs, (Lit.int .u64 n).wf = true) :
    ∃ xs : List Nat, xs.length = len ∧ Dig 18446744073709551616 xs ∧ RdG .u64 w (.slice (some a) xs.length cap) xs := by
  have hlen : ((zs.take len).map Int.toNat).length = len := by simp; omega
  refine ⟨(zs.take len).map Int.toNat, hlen, ?_, ?_⟩
  · intro d hd
    simp only [List.mem_map] at hd
    obtain ⟨z, hz1, rfl⟩ := hd
    have := u64_nat (hwz z (List.mem_of_mem_take hz1))
    omega
  · rw [hlen]
    by_cases h0 : len = 0
    · subst h0
      exact .inl ⟨_, _, rfl, by simp, hm⟩
    · obtain ⟨b, o, s⟩ := a
      obtain rfl : s = none := by simpa [Addr.add] using World.cell?_spot (hcell 0 (by omega))
      refine .inr ⟨b, o, cap, by rw [hlen], by rw [hlen]; exact hl, hm, fun i hi => ?_⟩
      rw [hlen] at hi
      have h1 := hcell i (by omega)
      have h2 := u64_nat (hwz (zs.getD i 0) (by rw [List.getD_eq_getElem?_getD, List.getElem?_eq_getElem (by omega)]; exact List.getElem_mem _))
      have h3 : (((zs.take len).map Int.toNat).getD i 0 : Nat) = (zs.getD i 0).toNat := by
        simp [List.getD_eq_getElem?_getD, List.getElem?_take, hi]
        cases zs[i]? <;> simp
      rw [h3, Int.toNat_of_nonneg h2.1]
      have h4 : (⟨b, o, none⟩ : Addr).add i = ⟨b, o + i, none⟩ := by cases i <;> simp [Addr.add]
      rw [← h4]
      exact h1

section
variable {H : Type} {enc : TypeId × Value → H} {w : World}
set_option maxRecDepth 100000 in
theorem dec_open {v : Value} {d : DataW H} {p : List MemPlace} (hv : Value.okWide Tryz.prog w .any 0 31 v) (h : DataW.Trod enc Tryz.prog w 0 (fun _ => true) true 31 v d p) :
    ∃ (form : Int) (neg : Bool) (A : Option Addr) (c : Nat) (xs : List Nat) (exp : Int), v = .agg #[.int .i64 form, .bool neg, .slice A xs.length c, .int .i64 exp] ∧
      RdG .u64 w (.slice A xs.length c) xs ∧ Dig 18446744073709551616 xs ∧ (Lit.int .i64 form).wf = true ∧ (Lit.int .i64 exp).wf = true := by
  obtain ⟨c0, c1, c2, c3, y0, y1, y2, y3, m, rfl, -, -, hy0, hy1, hy2, hy3⟩ := open_agg4 Tryz.underlying31 (by kernel_rfl) cellsDec hv h
  obtain ⟨form, e0, -, wa⟩ := DataW.trod_int Tryz.underlying3 hy0
  obtain ⟨neg, e1, -⟩ := DataW.trod_bool Tryz.underlying4 hy1
  obtain ⟨exp, e3, -, wb⟩ := DataW.trod_int Tryz.underlying3 hy3
  simp at e0 e1 e3
  subst e0 e1 e3
  rcases open_ints Tryz.underlying22 Tryz.underlying51 (by kernel_rfl) hy2 with ⟨hcs, -⟩ | ⟨x, l, c, zs, hcs, -, hl, hm, hz, -, hcell, hwz⟩
  · simp at hcs
    subst hcs
    exact ⟨form, neg, none, 0, [], exp, rfl, .inl ⟨_, _, rfl, rfl, Nat.zero_le _⟩, fun d hd => by simp at hd, wa, wb⟩
  · simp at hcs
    subst hcs
    obtain ⟨xs, rfl, hd, hr⟩ := row_open hl hm (by simpa using hz) hcell hwz
    exact ⟨form, neg, _, c, xs, exp, rfl, hr, hd, wa, wb⟩

set_option maxRecDepth 100000 in
theorem uints_open {v : Value} {d : DataW H} {p : List MemPlace} (hv : Value.okWide Tryz.prog w .any 0 22 v) (h : DataW.Trod enc Tryz.prog w 0 (fun _ => true) true 22 v d p) :
    ∃ (A : Option Addr) (c : Nat) (xs : List Nat), v = .slice A xs.length c ∧ RdG .u64 w (.slice A xs.length c) xs ∧ Dig 18446744073709551616 xs := by
  obtain ⟨a, len, cap, rfl⟩ := okWide_slice Tryz.underlying22 hv
  obtain ⟨fuel, hf⟩ := h
  have hc1 : Tryz.prog.cellsOf 51 = 1 := by kernel_rfl
  rcases open_ints Tryz.underlying22 Tryz.underlying51 hc1 hf with ⟨hcs, -⟩ | ⟨x, l, c, zs, hcs, -, hl, hm, hz, -, hcell, hwz⟩
  · simp [Value.cells] at hcs
    obtain ⟨rfl, rfl, rfl⟩ := hcs
    exact ⟨none, 0, [], rfl, .inl ⟨_, _, rfl, rfl, Nat.zero_le _⟩, fun d hd => by simp at hd⟩
  · simp [Value.cells] at hcs
    obtain ⟨rfl, rfl, rfl⟩ := hcs
    obtain ⟨xs, rfl, hd, hr⟩ := row_open hl hm (by simpa using hz) hcell hwz
    exact ⟨_, cap, xs, rfl, hr, hd⟩

theorem trodVars_len {P : Program} {sp : Nat → Bool} : ∀ {ns : List String} {gs : List (DataW H)} {ps : List MemPlace}, DataW.TrodVars enc P w sp ns gs ps → gs.length = ns.length
  | [], [], _, _ => rfl
  | [], _ :: _, _, h => h.elim
  | _ :: _, [], _, h => h.elim
  | _ :: ns, _ :: gs, _, h => by
    obtain ⟨_, _, _, _, _, _, _, _, _, _, h2, _⟩ := h
    simp [trodVars_len h2]
end
end Go.Proofs.YtlaepcfooopbmaaGreatDoor

/- Plain arithmetic under the division of words: a quotient by a reciprocal, and the school method on halves. No program in sight. -/
set_option linter.unusedVariables false
set_option linter.unusedSimpArgs false
namespace Go.Proofs.YtlaepcfooopbmaaGreatDoor

/-- The guess is not too great. -/
theorem dww_le {B d M x1 x0 t : Nat} (hB : 0 < B) (hd : d ≤ B) (hM : d * M ≤ B * B) (ht : t * B ≤ M * x1 + x0) : d * t ≤ x1 * B + x0 := by
  apply Nat.le_of_mul_le_mul_right _ hB
  have h1 : d * (t * B) ≤ d * (M * x1 + x0) := Nat.mul_le_mul_left d ht
  have h3 : d * M * x1 ≤ B * B * x1 := Nat.mul_le_mul_right x1 hM
  have h4 : d * x0 ≤ B * x0 := Nat.mul_le_mul_right x0 hd
  have e1 : d * (M * x1 + x0) = d * M * x1 + d * x0 := by rw [Nat.mul_add, Nat.mul_assoc]
  have e2 : (x1 * B + x0) * B = B * B * x1 + B * x0 := by grind
  have e3 : d * t * B = d * (t * B) := Nat.mul_assoc _ _ _
  omega

/-- .. nor too small by much. -/
theorem dww_lt {B d M x1 x0 t : Nat} (hB : 0 < B) (hd : d ≤ B) (hM : B * B ≤ d * M + d) (h0 : x0 < B) (h1 : x1 < d) (ht : M * x1 + x0 < (t + 1) * B) : x1 * B + x0 < d * t + d + B := by
  apply Nat.lt_of_mul_lt_mul_right (a := B)
  have a1 : d * (M * x1 + x0 + 1) ≤ d * ((t + 1) * B) := Nat.mul_le_mul_left d ht
  have a2 : B * B * x1 ≤ (d * M + d) * x1 := Nat.mul_le_mul_right x1 hM
  have a3 : (B - d) * x0 ≤ (B - d) * (B - 1) := Nat.mul_le_mul_left _ (by omega)
  have a4 : d * x1 ≤ d * (d - 1) := Nat.mul_le_mul_left _ (by omega)
  obtain ⟨c, rfl⟩ : ∃ c, B = d + c := ⟨B - d, by omega⟩
  obtain ⟨e, rfl⟩ : ∃ e, d = e + 1 := ⟨d - 1, by omega⟩
  simp only [Nat.add_sub_cancel_left, Nat.add_sub_cancel] at a3 a4
  have e4 : e + 1 + c - 1 = e + c := by omega
  rw [e4] at a3
  grind

/-- The two corrections. -/
theorem dww_fix {X d q r : Nat} (hd : 0 < d) (h : X = d * q + r) (hr : r < d) : q = X / d ∧ r = X % d := by
  subst h
  rw [Nat.mul_add_div hd, Nat.div_eq_of_lt hr, Nat.mul_add_mod, Nat.mod_eq_of_lt hr]
  omega

/-! The school method on halves: K is half a word's base, d = y1 * K + y0, u < d, n1 < K. -/
section
variable {K d y1 y0 u n1 q r : Nat}
theorem half_lt (hu : u < d) (h1 : n1 < K) : (u * K + n1) / d < K := by
  rw [Nat.div_lt_iff_lt_mul (by omega)]
  have : (u + 1) * K ≤ d * K := Nat.mul_le_mul_right K hu
  grind
theorem half_init (hd : d = y1 * K + y0) (hy : 0 < y1) (hu : u < d) (h1 : n1 < K) : (u * K + n1) / d ≤ u / y1 := by
  rw [Nat.le_div_iff_mul_le hy]
  have h2 : (u * K + n1) / d * d ≤ u * K + n1 := Nat.div_mul_le_self _ _
  generalize (u * K + n1) / d = Q at *
  subst hd
  have h3 : Q * y1 * K ≤ u * K + n1 := by
    have : Q * (y1 * K + y0) = Q * y1 * K + Q * y0 := by grind
    omega
  have h4 : Q * y1 * K < (u + 1) * K := by grind
  have h5 : Q * y1 < u + 1 := Nat.lt_of_mul_lt_mul_right h4
  omega
theorem half_init2 (hd : d = y1 * K + y0) (hK : K ≤ 2 * y1) (h0 : y0 < K) (hu : u < d) (hy : 0 < y1) : u / y1 ≤ K + 1 := by
  have : u < (K + 2) * y1 := by
    have e : (K + 2) * y1 = y1 * K + 2 * y1 := by grind
    omega
  have := (Nat.div_lt_iff_lt_mul hy).2 this
  omega
theorem half_dec (hd : d = y1 * K + y0) (hr : q * y1 + r = u) (hu : u < d) (h1 : n1 < K) (hQ : (u * K + n1) / d ≤ q) (hc : K ≤ q ∨ K * r + n1 < q * y0) : 1 ≤ q ∧ (u * K + n1) / d ≤ q - 1 := by
  have hl := half_lt hu h1
  rcases hc with hc | hc
  · omega
  · have h2 : u * K + n1 < q * d := by
      subst hd hr
      have e1 : q * (y1 * K + y0) = q * y1 * K + q * y0 := by grind
      have e2 : (q * y1 + r) * K + n1 = q * y1 * K + (K * r + n1) := by grind
      omega
    have h3 := (Nat.div_lt_iff_lt_mul (by omega : 0 < d)).2 h2
    generalize (u * K + n1) / d = Q at *
    omega
theorem half_exit (hd : d = y1 * K + y0) (hd0 : 0 < d) (hr : q * y1 + r = u) (hQ : (u * K + n1) / d ≤ q) (hc : q * y0 ≤ K * r + n1) : q = (u * K + n1) / d := by
  apply Nat.le_antisymm _ hQ
  rw [Nat.le_div_iff_mul_le hd0]
  subst hd hr
  have e1 : q * (y1 * K + y0) = q * y1 * K + q * y0 := by grind
  have e2 : (q * y1 + r) * K + n1 = q * y1 * K + (K * r + n1) := by grind
  omega
theorem half_break (hd : d = y1 * K + y0) (hd0 : 0 < d) (h0 : y0 < K) (hr : q * y1 + r = u) (hQ : (u * K + n1) / d ≤ q) (hq : q ≤ K) (hc : K ≤ r) : q = (u * K + n1) / d := by
  apply half_exit hd hd0 hr hQ
  have a1 : q * y0 ≤ K * y0 := Nat.mul_le_mul_right y0 hq
  have a2 : K * y0 ≤ K * r := Nat.mul_le_mul_left K (by omega)
  omega
end

theorem knuth_join {K N y p d u n1 n0 q1 u2 q2 rr : Nat} (hp : 0 < p) (hy : 0 < y) (hd : d = y * p) (hT : (u * K + n1) * K + n0 = N * p)
    (hq1 : q1 = (u * K + n1) / d) (hu2 : u2 = (u * K + n1) % d) (hq2 : q2 = (u2 * K + n0) / d) (hrr : rr = (u2 * K + n0) % d) : q1 * K + q2 = N / y ∧ rr / p = N % y := by
  have hd0 : 0 < d := by rw [hd]; exact Nat.mul_pos hy hp
  have e1 : u * K + n1 = d * q1 + u2 := by rw [hq1, hu2]; exact (Nat.div_add_mod _ _).symm
  have e2 : u2 * K + n0 = d * q2 + rr := by rw [hq2, hrr]; exact (Nat.div_add_mod _ _).symm
  have e3 : N * p = d * (q1 * K + q2) + rr := by
    rw [← hT, e1]
    have : (d * q1 + u2) * K + n0 = d * q1 * K + (u2 * K + n0) := by grind
    rw [this, e2]
    grind
  have hlt : rr < d := by rw [hrr]; exact Nat.mod_lt _ hd0
  obtain ⟨f1, f2⟩ := dww_fix hd0 e3 hlt
  rw [hd, Nat.mul_div_mul_right _ _ hp] at f1
  rw [hd, Nat.mul_mod_mul_right] at f2
  exact ⟨f1, by rw [f2, Nat.mul_div_cancel _ hp]⟩

theorem divww_math {u l d m th tl s1 c t dq1 dq0 r0 b r1 : Nat} (hd : 9223372036854775808 ≤ d) (hd1 : d < 18446744073709551616) (hu : u < d) (hl : l < 18446744073709551616)
    (hm : m = 340282366920938463463374607431768211455 / d - 18446744073709551616) (h1 : th = m * u / 18446744073709551616 ∧ tl = m * u % 18446744073709551616)
    (h2 : s1 = (tl + l + 0) % 18446744073709551616 ∧ c = (tl + l + 0) / 18446744073709551616) (h3 : t = (th + u + c) % 18446744073709551616)
    (h4 : dq1 = d * t / 18446744073709551616 ∧ dq0 = d * t % 18446744073709551616) (h5 : r0 = (l + 18446744073709551616 - dq0 - 0) % 18446744073709551616) (hb : b = if l < dq0 + 0 then 1 else 0)
    (h6 : r1 = (u + 18446744073709551616 - dq1 - b) % 18446744073709551616) :
    t < 18446744073709551616 ∧ ∃ r, u * 18446744073709551616 + l = d * t + r ∧ r < d + 18446744073709551616 ∧ r0 = r % 18446744073709551616 ∧ r1 = r / 18446744073709551616 := by
  obtain ⟨M, hM⟩ : ∃ M, M = 340282366920938463463374607431768211455 / d := ⟨_, rfl⟩
  have hM0 := Nat.div_add_mod 340282366920938463463374607431768211455 d
  have hM1 := Nat.mod_lt 340282366920938463463374607431768211455 (show 0 < d by omega)
  rw [← hM] at hM0 hm
  have hMB : 18446744073709551616 ≤ M := by
    rw [hM, Nat.le_div_iff_mul_le (by omega)]
    omega
  have hm2 : M = m + 18446744073709551616 := by omega
  have e1 : M * u + l = (th + u + c) * 18446744073709551616 + s1 := by
    rw [hm2, Nat.add_mul]
    generalize m * u = P at *
    omega
  have hs1 : s1 < 18446744073709551616 := by omega
  have b1 : (th + u + c) * 18446744073709551616 ≤ M * u + l := by omega
  have b2 : M * u + l < (th + u + c + 1) * 18446744073709551616 := by omega
  have a0 : 18446744073709551616 * 18446744073709551616 = 340282366920938463463374607431768211456 := by simp
  have a1 : d * M ≤ 18446744073709551616 * 18446744073709551616 := by rw [a0]; generalize d * M = P at *; omega
  have a2 : 18446744073709551616 * 18446744073709551616 ≤ d * M + d := by rw [a0]; generalize d * M = P at *; omega
  have p0 : 0 < 18446744073709551616 := by simp
  have c1 := dww_le p0 (Nat.le_of_lt hd1) a1 b1
  have c2 := dww_lt p0 (Nat.le_of_lt hd1) a2 hl hu b2
  have c3 : th + u + c < 18446744073709551616 := by
    have : d * (th + u + c) < d * 18446744073709551616 := by omega
    exact Nat.lt_of_mul_lt_mul_left this
  have e2 : t = th + u + c := by omega
  rw [← e2] at c1 c2
  refine ⟨by omega, u * 18446744073709551616 + l - d * t, by omega, by omega, ?_, ?_⟩
  · generalize d * t = P at *
    split at hb <;> omega
  · generalize d * t = P at *
    split at hb <;> omega
end Go.Proofs.YtlaepcfooopbmaaGreatDoor

/- Plain arithmetic under the multiplication of rows of digits: no program is in sight. -/
set_option linter.unusedVariables false
set_option linter.unusedSimpArgs false
namespace Go.Proofs.YtlaepcfooopbmaaGreatDoor

/-- zs + xs * d + c, digit by digit (base b), and what is carried out. -/
def amul (b d : Nat) : List Nat → List Nat → Nat → List Nat × Nat
  | z :: zs, x :: xs, c => ((z + x * d + c) % b :: (amul b d zs xs ((z + x * d + c) / b)).1, (amul b d zs xs ((z + x * d + c) / b)).2)
  | _, _, c => ([], c)

theorem amul_nil (b d c : Nat) : amul b d [] [] c = ([], c) := rfl
theorem amul_cons (b d z x c : Nat) (zs xs : List Nat) : amul b d (z :: zs) (x :: xs) c = ((z + x * d + c) % b :: (amul b d zs xs ((z + x * d + c) / b)).1, (amul b d zs xs ((z + x * d + c) / b)).2) := rfl
theorem amul_length (b d : Nat) : ∀ {zs xs : List Nat} (c : Nat), zs.length = xs.length → (amul b d zs xs c).1.length = xs.length
  | [], [], _, _ => rfl
  | [], _ :: _, _, h => by simp at h
  | _ :: _, [], _, h => by simp at h
  | z :: zs, x :: xs, c, h => by simp [amul_cons, amul_length b d (zs := zs) (xs := xs) _ (by simpa using h)]
theorem amul_snoc (b d z x : Nat) : ∀ {zs xs : List Nat} (c : Nat), zs.length = xs.length →
    amul b d (zs ++ [z]) (xs ++ [x]) c = ((amul b d zs xs c).1 ++ [(z + x * d + (amul b d zs xs c).2) % b], (z + x * d + (amul b d zs xs c).2) / b)
  | [], [], _, _ => rfl
  | [], _ :: _, _, h => by simp at h
  | _ :: _, [], _, h => by simp at h
  | z' :: zs, x' :: xs, c, h => by
    simp only [List.cons_append, amul_cons]
    rw [amul_snoc b d z x (zs := zs) (xs := xs) _ (by simpa using h)]
theorem amul_dig {b d : Nat} (hb : 0 < b) : ∀ {zs xs : List Nat} (c : Nat), Dig b (amul b d zs xs c).1
  | [], _, _ => fun e he => by simp [amul] at he
  | _ :: _, [], _ => fun e he => by simp [amul] at he
  | z :: zs, x :: xs, c => by
    intro e he
    rw [amul_cons] at he
    rcases List.mem_cons.1 he with rfl | he
    · exact Nat.mod_lt _ hb
    · exact amul_dig hb _ e he
theorem amul_carry {b d : Nat} (hd : d < b) : ∀ {zs xs : List Nat} (c : Nat), Dig b zs → Dig b xs → c < b → (amul b d zs xs c).2 < b
  | [], _, _, _, _, hc => by simpa [amul] using hc
  | _ :: _, [], _, _, _, hc => by simpa [amul] using hc
  | z :: zs, x :: xs, c, hz, hx, hc => by
    rw [amul_cons]
    refine amul_carry hd _ (fun e he => hz e (by simp [he])) (fun e he => hx e (by simp [he])) ?_
    have h1 : z < b := hz z (by simp)
    have h2 : x < b := hx x (by simp)
    exact carry_lt h1 h2 hd hc
where
  carry_lt {b z x d c : Nat} (hz : z < b) (hx : x < b) (hd : d < b) (hc : c < b) : (z + x * d + c) / b < b := by
    rw [Nat.div_lt_iff_lt_mul (by omega)]
    obtain ⟨e, rfl⟩ : ∃ e, b = e + 1 := ⟨b - 1, by omega⟩
    have : x * d ≤ e * e := Nat.mul_le_mul (by omega) (by omega)
    have e2 : (e + 1) * (e + 1) = e * e + 2 * e + 1 := by grind
    omega
theorem amul_val (b d : Nat) : ∀ {zs xs : List Nat} (c : Nat), zs.length = xs.length →
    dval b (amul b d zs xs c).1 + b ^ xs.length * (amul b d zs xs c).2 = dval b zs + dval b xs * d + c
  | [], [], _, _ => by simp [amul, dval]
  | [], _ :: _, _, h => by simp at h
  | _ :: _, [], _, h => by simp at h
  | z :: zs, x :: xs, c, h => by
    have ih := amul_val b d (zs := zs) (xs := xs) ((z + x * d + c) / b) (by simpa using h)
    have h2 := Nat.div_add_mod (z + x * d + c) b
    rw [amul_cons]
    simp only [dval_cons, List.length_cons, Nat.pow_succ]
    generalize (amul b d zs xs ((z + x * d + c) / b)).1 = p at *
    generalize (amul b d zs xs ((z + x * d + c) / b)).2 = q at *
    generalize (z + x * d + c) / b = t at *
    generalize (z + x * d + c) % b = u at *
    generalize dval b p = P at *
    generalize dval b zs = Z at *
    generalize dval b xs = X at *
    generalize b ^ xs.length = Bn at *
    have e1 : Bn * b * q = b * (Bn * q) := by grind
    have e2 : (x + b * X) * d = x * d + b * (X * d) := by grind
    have e3 : b * (P + Bn * q) = b * (Z + X * d + t) := by rw [ih]
    have e4 : b * (P + Bn * q) = b * P + b * (Bn * q) := by grind
    have e5 : b * (Z + X * d + t) = b * Z + b * (X * d) + b * t := by grind
    rw [e1, e2]
    omega

/-! ### one round of the school method -/
/-- R has m + i digits: x times y's first i digits. The next one: the window from i on takes x * d. -/
theorem school_step {b d i : Nat} {xs ys R : List Nat} (hb : 1 < b) (hx : Dig b xs) (hd : d < b) (hR : Dig b R) (hl : R.length = xs.length + i) (hv : dval b R = dval b xs * dval b (ys.take i)) (hi : i < ys.length) (hyd : ys.getD i 0 = d) :
    (R.take i ++ (amul b d (R.drop i) xs 0).1 ++ [(amul b d (R.drop i) xs 0).2]).length = xs.length + (i + 1) ∧ Dig b (R.take i ++ (amul b d (R.drop i) xs 0).1 ++ [(amul b d (R.drop i) xs 0).2]) ∧
      dval b (R.take i ++ (amul b d (R.drop i) xs 0).1 ++ [(amul b d (R.drop i) xs 0).2]) = dval b xs * dval b (ys.take (i + 1)) := by
  have hdl : (R.drop i).length = xs.length := by rw [List.length_drop]; omega
  have htl : (R.take i).length = i := by rw [List.length_take]; omega
  have hal := amul_length b d (zs := R.drop i) (xs := xs) 0 hdl
  have hval := amul_val b d (zs := R.drop i) (xs := xs) 0 hdl
  have hc := amul_carry hd (zs := R.drop i) (xs := xs) 0 (fun e he => hR e (List.mem_of_mem_drop he)) hx (by omega)
  have hdg := amul_dig (b := b) (d := d) (by omega) (zs := R.drop i) (xs := xs) 0
  refine ⟨by simp [hal]; omega, ?_, ?_⟩
  · intro e he
    rcases List.mem_append.1 he with he | he
    · rcases List.mem_append.1 he with he | he
      · exact hR e (List.mem_of_mem_take he)
      · exact hdg e he
    · rw [List.mem_singleton.1 he]; exact hc
  · have e1 : dval b R = dval b (R.take i) + b ^ i * dval b (R.drop i) := by
      have := dval_append b (R.take i) (R.drop i)
      rwa [List.take_append_drop, htl] at this
    have hyt : ys.take (i + 1) = ys.take i ++ [d] := by
      rw [List.take_succ_eq_append_getElem hi, ← hyd, List.getD_eq_getElem?_getD, List.getElem?_eq_getElem hi]; rfl
    have e2 : dval b (ys.take (i + 1)) = dval b (ys.take i) + b ^ i * d := by
      rw [hyt, dval_append, List.length_take, Nat.min_eq_left (by omega)]
      simp [dval]
    rw [dval_append, dval_append, List.length_append, htl, hal, e2]
    simp only [dval_cons, dval_nil]
    generalize (amul b d (R.drop i) xs 0).1 = p at *
    generalize (amul b d (R.drop i) xs 0).2 = q at *
    generalize dval b p = P at *
    generalize dval b (R.drop i) = D at *
    generalize dval b (R.take i) = T at *
    generalize dval b xs = X at *
    generalize dval b (ys.take i) = Y at *
    rw [Nat.pow_add]
    generalize b ^ i = Bi at *
    generalize b ^ xs.length = Bn at *
    have e3 : Bi * (P + Bn * q) = Bi * (D + X * d + 0) := by rw [hval]
    grind

/-- A digit 0 leaves all as it was. -/
theorem amul_zero {b : Nat} (hb : 0 < b) : ∀ {zs xs : List Nat}, zs.length = xs.length → Dig b zs → amul b 0 zs xs 0 = (zs, 0)
  | [], [], _, _ => rfl
  | [], _ :: _, h, _ => by simp at h
  | _ :: _, [], h, _ => by simp at h
  | z :: zs, x :: xs, h, hz => by
    have h1 : z < b := hz z (by simp)
    rw [amul_cons]
    have e1 : z + x * 0 + 0 = z := by omega
    rw [e1, Nat.mod_eq_of_lt h1, Nat.div_eq_of_lt h1, amul_zero hb (by simpa using h) (fun e he => hz e (by simp [he]))]

/-! ### lists with a window -/
theorem set_window {α : Type} (P S : List α) (a v : α) : (P ++ a :: S).set P.length v = P ++ v :: S := by
  rw [List.set_append_right _ _ (Nat.le_refl _), Nat.sub_self]; rfl
theorem getElem?_window {α : Type} (P S : List α) (a : α) : (P ++ a :: S)[P.length]? = some a := by
  rw [List.getElem?_append_right (Nat.le_refl _), Nat.sub_self]; rfl

theorem mul_word_bound {x y c : Nat} (hx : x < 18446744073709551616) (hy : y < 18446744073709551616) (hc : c < 18446744073709551616) : x * y / 18446744073709551616 + (x * y % 18446744073709551616 + c) / 18446744073709551616 < 18446744073709551616 ∧
    (x * y % 18446744073709551616 + c) % 18446744073709551616 = (x * y + c) % 18446744073709551616 ∧ x * y / 18446744073709551616 + (x * y % 18446744073709551616 + c) / 18446744073709551616 = (x * y + c) / 18446744073709551616 := by
  have h : x * y ≤ 18446744073709551615 * 18446744073709551615 := Nat.mul_le_mul (by omega) (by omega)
  generalize x * y = p at *
  omega
theorem am_join {x d z q h l s k : Nat} (hx : x < 18446744073709551616) (hd : d < 18446744073709551616) (hz : z < 18446744073709551616) (hq : q < 18446744073709551616)
    (h1 : h = (x * d + z) / 18446744073709551616 ∧ l = (x * d + z) % 18446744073709551616) (h2 : s = (l + q + 0) % 18446744073709551616 ∧ k = (l + q + 0) / 18446744073709551616) :
    s = (z + x * d + q) % 18446744073709551616 ∧ k + h = (z + x * d + q) / 18446744073709551616 ∧ k + h < 18446744073709551616 := by
  have hp : x * d ≤ 18446744073709551615 * 18446744073709551615 := Nat.mul_le_mul (by omega) (by omega)
  generalize x * d = p at *
  omega
end Go.Proofs.YtlaepcfooopbmaaGreatDoor

/- Plain: a row of words shifted by a part of a word. -/
set_option linter.unusedVariables false
set_option linter.unusedSimpArgs false
namespace Go.Proofs.YtlaepcfooopbmaaGreatDoor

/-- What a word hands to the next one. -/
theorem sh_carry {x s c : Nat} (hs : s ≤ 64) (hc : c < 2 ^ s) : (x * 2 ^ s + c) / 18446744073709551616 = x / 2 ^ (64 - s) := by
  have e : (18446744073709551616 : Nat) = 2 ^ s * 2 ^ (64 - s) := by rw [← Nat.pow_add, show s + (64 - s) = 64 by omega]
  rw [e, ← Nat.div_div_eq_div_mul, Nat.add_comm, Nat.add_mul_div_right _ _ (Nat.two_pow_pos s), Nat.div_eq_of_lt hc, Nat.zero_add]
theorem sh_carry_lt {x s : Nat} (hs : s ≤ 64) (hx : x < 18446744073709551616) : x / 2 ^ (64 - s) < 2 ^ s := by
  rw [Nat.div_lt_iff_lt_mul (Nat.two_pow_pos _), ← Nat.pow_add, show s + (64 - s) = 64 by omega]
  exact hx

/-- The shifted row: times 2 to the s. -/
def shv (s : Nat) (xs : List Nat) : List Nat := (amul 18446744073709551616 (2 ^ s) (List.replicate xs.length 0) xs 0).1
def shc (s : Nat) (xs : List Nat) : Nat := (amul 18446744073709551616 (2 ^ s) (List.replicate xs.length 0) xs 0).2

theorem amul_sh {s : Nat} (hs : s ≤ 64) : ∀ (xs : List Nat) (a : Nat), a < 2 ^ s → Dig 18446744073709551616 xs →
    (∀ i, i < xs.length → (amul 18446744073709551616 (2 ^ s) (List.replicate xs.length 0) xs a).1.getD i 0 = (xs.getD i 0 * 2 ^ s + (if i = 0 then a else xs.getD (i - 1) 0 / 2 ^ (64 - s))) % 18446744073709551616) ∧
      (amul 18446744073709551616 (2 ^ s) (List.replicate xs.length 0) xs a).2 = (if xs.length = 0 then a else xs.getD (xs.length - 1) 0 / 2 ^ (64 - s))
  | [], a, ha, _ => ⟨fun i h => by simp at h, by simp [amul]⟩
  | x :: r, a, ha, hd => by
    have hx := hd x (by simp)
    have hc := sh_carry (x := x) hs ha
    obtain ⟨h1, h2⟩ := amul_sh hs r (x / 2 ^ (64 - s)) (sh_carry_lt hs hx) (fun d h => hd d (by simp [h]))
    simp only [List.length_cons, List.replicate_succ, amul, Nat.zero_add, hc]
    refine ⟨fun i hi => ?_, ?_⟩
    · cases i with
      | zero => simp
      | succ i =>
        have := h1 i (by omega)
        cases i with
        | zero => simpa using this
        | succ i => simpa using this
    · rw [h2]
      cases r with
      | nil => simp
      | cons y t => simp
end Go.Proofs.YtlaepcfooopbmaaGreatDoor

/- Walks: math/bits' Add, Sub (with carry), Mul, LeadingZeros as this program calls them. -/
set_option linter.unusedVariables false
set_option linter.unusedSimpArgs false
namespace Go.Proofs.YtlaepcfooopbmaaGreatDoor
open Go.RowKit

theorem add64_run (x y c : Nat) (hc : c ≤ 1) (w : World) : (callFunc 210 #[.int .u64 (x : Int), .int .u64 (y : Int), .int .u64 (c : Int)]).run Tryz.prog w =
    .ok (.value (.tuple #[.int .u64 (((x + y + c) % 18446744073709551616 : Nat) : Int), .int .u64 (((x + y + c) / 18446744073709551616 : Nat) : Int)])) w := by
  rw [run_callFunc_extern Tryz.func210 (by kernel_rfl) (by kernel_rfl) (by kernel_rfl) (e := add64Entry) (by kernel_rfl), run_add64 x y c (by omega) (by omega) (by omega) (by omega)]
  simp only [Result.andThen]
  congr 5 <;> omega

def sub64E : Array Value → Sem Value := fun args => do
  let (x, y, b) ← Extern.MathBitsCarry.three "Sub64" args
  pure (Extern.MathBitsCarry.pair ((x + Extern.MathBitsCarry.m64 - y - b) % Extern.MathBitsCarry.m64) (if x < y + b then 1 else 0))

/-- The borrow. -/
def bor (x y : Nat) : Nat := if x < y then 1 else 0

theorem sub64_run (x y b : Nat) (hb : b ≤ 1) (w : World) : (callFunc 200 #[.int .u64 (x : Int), .int .u64 (y : Int), .int .u64 (b : Int)]).run Tryz.prog w =
    .ok (.value (.tuple #[.int .u64 (((x + 18446744073709551616 - y - b) % 18446744073709551616 : Nat) : Int), .int .u64 ((bor x (y + b) : Nat) : Int)])) w := by
  have h : (sub64E #[.int .u64 x, .int .u64 y, .int .u64 b]).run Tryz.prog w = .ok (.tuple #[.int .u64 (((x + 18446744073709551616 - y - b) % 18446744073709551616 : Nat) : Int), .int .u64 ((bor x (y + b) : Nat) : Int)]) w := by
    have : b = 0 ∨ b = 1 := by omega
    rcases this with rfl | rfl <;> rfl
  rw [run_callFunc_extern Tryz.func200 (by kernel_rfl) (by kernel_rfl) (by kernel_rfl) (e := sub64E) (by kernel_rfl), h]
  rfl

/-- A pair of words. -/
def PairP (P : Nat → Nat → Prop) (w : World) (e : Ending) (w' : World) : Prop := ∃ a b : Nat, e = .returned (.tuple #[.int .u64 (a : Int), .int .u64 (b : Int)]) ∧ Hid (P a b) ∧ w' = w

set_option maxRecDepth 20000 in
theorem add_any (x y c : Nat) (hc : c ≤ 1) (w : World) : Calls Tryz.prog 190 #[.int .u64 (x : Int), .int .u64 (y : Int), .int .u64 (c : Int)] w (PairP (fun s k => s = (x + y + c) % 18446744073709551616 ∧ k = (x + y + c) / 18446744073709551616) w) := by
  have h := add64_run x y c hc w
  obtain ⟨s, hs⟩ : ∃ s, s = (x + y + c) % 18446744073709551616 := ⟨_, rfl⟩
  obtain ⟨k, hk⟩ : ∃ k, k = (x + y + c) / 18446744073709551616 := ⟨_, rfl⟩
  rw [← hs, ← hk] at h
  have H := hide (And.intro hs hk)
  clear hs hk
  go_enter Tryz.func190, Tryz.ntmps190
  go_wp2
  go_ret2
  exact ⟨s, k, rfl, H.out, rfl⟩
set_option maxRecDepth 20000 in
theorem sub_any (x y b : Nat) (hb : b ≤ 1) (w : World) : Calls Tryz.prog 177 #[.int .u64 (x : Int), .int .u64 (y : Int), .int .u64 (b : Int)] w (PairP (fun s k => s = (x + 18446744073709551616 - y - b) % 18446744073709551616 ∧ k = bor x (y + b)) w) := by
  have h := sub64_run x y b hb w
  obtain ⟨s, hs⟩ : ∃ s, s = (x + 18446744073709551616 - y - b) % 18446744073709551616 := ⟨_, rfl⟩
  obtain ⟨k, hk⟩ : ∃ k, k = bor x (y + b) := ⟨_, rfl⟩
  rw [← hs, ← hk] at h
  have H := hide (And.intro hs hk)
  clear hs hk
  go_enter Tryz.func177, Tryz.ntmps177
  go_wp2
  go_ret2
  exact ⟨s, k, rfl, H.out, rfl⟩
theorem mul_any (x y : Nat) (hx : x < 18446744073709551616) (hy : y < 18446744073709551616) (w : World) : Calls Tryz.prog 154 #[.int .u64 (x : Int), .int .u64 (y : Int)] w (PairP (fun h l => h = x * y / 18446744073709551616 ∧ l = x * y % 18446744073709551616) w) :=
  (Tryz.bits_Mul x y hx hy w).mono fun _ _ ⟨he, hw⟩ => ⟨_, _, he, ⟨rfl, rfl⟩, hw⟩
/-- How far a word is shifted. -/
def nlzN (x : Nat) : Nat := 64 - Lib.bitLen x
theorem nlz_any (x : Nat) (hx : x < 18446744073709551616) (w : World) : Calls Tryz.prog 138 #[.int .u64 (x : Int)] w fun e w' => e = .returned (.int .u64 (nlzN x : Int)) ∧ w' = w := by
  have hb : Lib.bitLen x ≤ 64 := Lib.bitLen_le x 64 (Nat.le_refl _) (by omega)
  have Con := hide (Tryz.bits_LeadingZeros (x : Int) w (by omega) (by omega))
  have e1 : (64 - (Lib.bitLen (x : Int).toNat : Int)) = (nlzN x : Int) := by simp [nlzN]; omega
  rw [e1] at Con
  have hn : nlzN x ≤ 64 := by unfold nlzN; omega
  clear e1
  generalize nlzN x = n at Con hn
  go_enter Tryz.func138, Tryz.ntmps138
  go_wp2_with fail
  refine (Con.out).mono ?_
  rintro e w1 ⟨rfl, rfl⟩
  go_wp2
  go_ret
  exact ⟨rfl, rfl⟩
end Go.Proofs.YtlaepcfooopbmaaGreatDoor
