/- Parts of the proofs: NumD2, DecNd, Dec2, Sign. -/
import Derived.Test.YtfkcobdkgjhfaaaGreatDoorG7
import Derived.Test.YtfkcobdkgjhfaaaGreatDoorG31
import Derived.Test.YtfkcobdkgjhfaaaGreatDoorG33
import Derived.Test.YtfkcobdkgjhfaaaGreatDoorG36
/- Walks: apd.NumDigits of a number of more than 128 bits; whatever the number. -/
set_option linter.unusedVariables false
set_option linter.unusedSimpArgs false
namespace Go.Proofs.YtfkcobdkgjhfaaaGreatDoor
open Go.RowKit

theorem len_of_blen {v k : Nat} (h : blen v ≤ 64 * k) : (digs 18446744073709551616 v).length ≤ k := by
  refine digs_length_le (by omega) (Nat.lt_of_lt_of_le (blen_hi v) ?_)
  have : (2 : Nat) ^ blen v ≤ 2 ^ (64 * k) := Nat.pow_le_pow_right (by omega) h
  rwa [Nat.pow_mul] at this

theorem pow_len {i v k : Nat} (hi : 1 ≤ i) (h : 10 ^ (i - 1) ≤ v) (hk : (digs 18446744073709551616 v).length ≤ k) : (digs 18446744073709551616 (10 ^ i)).length ≤ k + 1 := by
  have h1 := lt_of_digs_length (b := 18446744073709551616) (by omega) hk
  refine digs_length_le (by omega) ?_
  rw [show i = i - 1 + 1 by omega, Nat.pow_succ, Nat.pow_succ]
  omega

set_option maxHeartbeats 2000000 in
set_option maxRecDepth 100000 in
theorem numD_high (g o : Nat) (t : TypeId) (cs : Array Value) (A : Option Addr) (c v : Nat) (w : World) (hx : BigAt w g o t cs A c v) (hbl : 128 < blen v) (hbh : blen v ≤ 1280) (hv : VarsL w w.heap.size) :
    Calls Tryz.prog 92 #[.pointer (some ⟨g, o, none⟩)] w (FigP w v) := by
  have hv0 : 0 < v := by
    rcases Nat.eq_zero_or_pos v with h | h
    · rw [h, blen_zero] at hbl; omega
    · exact h
  have hlv : (digs 18446744073709551616 v).length ≤ 20 := len_of_blen (by omega)
  have con := bbitLen_any g o A _ c _ w ((hx.blk.cell _).trans hx.c1) hx.rd rfl (by omega) (dig_digs (by omega) _) (canon_digs (by omega) _)
  rw [dval_digs (by omega)] at con
  obtain ⟨q, i, hq, hi, hlo, hhi, hib, hi1, hi4⟩ := fq_spec (b := blen v) hbh
  have hip := hi1 (by omega)
  clear hi1
  have h1 : 10 ^ (i - 1) ≤ v := Nat.le_trans hlo (blen_lo hv0)
  have h2 : v < 10 ^ (i + 1) := Nat.lt_of_lt_of_le (blen_hi v) hhi
  have hf : figs v = (digs 10 v).length := by rw [figs, if_neg (by omega)]
  have a1 : ∀ W, (binOp .quo 174 (.float .f64 (floatOfInt .f64 ((blen v : Nat) : Int))) (.float .f64 4614662735865160561)).run Tryz.prog W = .ok (.float .f64 q) W := fun W => run_float_arith W .quo _ .f64 _ _ _ hq
  have a2 : ∀ W, (convert 174 2 (.float .f64 q)).run Tryz.prog W = .ok (.int .i64 (i : Int)) W := fun W => run_convert_float_int W _ _ .f64 .i64 _ _ (by rw [Tryz.underlying174]; rfl) Tryz.underlying2 hi
  have Con := hide con
  obtain ⟨gt, hgt⟩ : ∃ g, g = w.heap.size := ⟨_, rfl⟩
  obtain ⟨W1, hW1⟩ : ∃ W1, W1 = w.alloc (.cells #[.bool false, .slice none 0 0, .bool false] 69) := ⟨_, rfl⟩
  have hb1 : Below w.heap.size w W1 := by rw [hW1]; exact below_al (Below.refl _ _) _
  have hB1 : Blk W1 gt 69 #[.bool false, .slice none 0 0, .bool false] := by rw [hW1, hgt]; exact Blk.new w _ _
  have hsz : 10 ^ (i / 2) < 18446744073709551616 ^ 11 := Nat.lt_of_le_of_lt (Nat.pow_le_pow_right (by omega) (show i / 2 ≤ 200 by omega)) (by decide)
  have Con2 := hide (tabExp_any w.heap.size gt false false (.slice none 0 0) 0 i W1 hB1 (Own.nil _ _).room hb1.size (by omega) (by omega) hsz (hv.v.below hb1))
  have HX := hide (And.intro hx (And.intro hb1 (And.intro hgt hlv)))
  have HW := hide hW1
  have HM := hide (And.intro h1 (And.intro h2 hf))
  have b0 : (((blen v : Nat) : Int) == 0) = false := beq_eq_false_iff_ne.2 (by omega)
  have hbl' : ¬ ((blen v : Nat) : Int) ≤ 128 := by omega
  have hvl : 0 < (digs 18446744073709551616 v).length := List.length_pos_iff.2 (digs_ne_nil (by omega) hv0)
  have hi4' : (i : Int) ≤ 400 := by omega
  clear con hx hq hi hlo hhi hib h1 h2 hf hb1 hB1 hsz hv hgt hlv hW1
  generalize blen v = b at *
  go_enter Tryz.func92, Tryz.ntmps92
  go_wp2_with fail
  refine (Con.out).mono ?_
  rintro e w0 ⟨rfl, hw0⟩
  rw [hw0]
  clear Con hw0
  go_wp2_with fail
  rw [← HW.out, ← HX.out.2.2.1]
  refine (Con2.out).mono ?_
  rintro e w2 ⟨rfl, A2, c2, ho2, hk2, hB2, hF2⟩
  have hb2 : Below w.heap.size w w2 := HX.out.2.1.trans (hF2.below HX.out.2.1.size (fun k hk => by
    rcases hk with rfl | hk
    · exact Nat.le_of_eq HX.out.2.2.1.symm
    · cases hk))
  have hd21 : (digs 18446744073709551616 (10 ^ i)).length ≤ 21 := pow_len hip HM.out.1 HX.out.2.2.2
  have hx2 := HX.out.1.below hb2
  have Sg := hide (bsign_any g o false A (digs 18446744073709551616 v).length c w2 ((hx2.blk.cell _).trans hx2.c0) ((hx2.blk.cell _).trans hx2.c1) ((hx2.blk.cell _).trans hx2.c2))
  rw [sgnI_pos (Nat.ne_of_gt hvl)] at Sg
  have Cm := hide (bigcmp_any g o gt 0 _ _ _ _ _ _ _ _ v (10 ^ i) w2 hx2 ⟨hB2, rfl, rfl, rfl, ho2.rd⟩ (by
    intro e
    injection e with e1
    have := HX.out.1.blk.lt
    have := HX.out.2.2.1
    omega) (by have := HX.out.2.2.2; omega) (by omega))
  have H2 := hide hb2
  clear hb2 hd21 hx2 ho2 hk2 hB2 hF2 Con2
  go_wp2_with fail
  refine (Sg.out).mono ?_
  rintro e w3 ⟨rfl, rfl⟩
  clear Sg
  go_wp2_with fail
  refine (Cm.out).mono ?_
  rintro e w3 ⟨rfl, hb3⟩
  have HB3 := hide (below_next H2.out hb3)
  clear hb3 Cm H2 HX HW
  by_cases hlt : v < 10 ^ i
  · rw [cmpI_lt hlt]
    have Fin : Hid (FigP w v (.returned (.int .i64 (i : Int))) w3) := ⟨by
      rw [HM.out.2.2]
      have := digs_length_of (b := 10) (k := i - 1) (by omega) HM.out.1 (by rw [show i - 1 + 1 = i by omega]; exact hlt)
      rw [this, show i - 1 + 1 = i by omega], HB3.out⟩
    clear HM hlt HB3
    go_wp2
    go_ret
    exact Fin.out
  · obtain ⟨r0, r1⟩ := cmpI_ge hlt
    have Fin : Hid (FigP w v (.returned (.int .i64 ((i : Int) + 1))) w3) := ⟨by
      rw [HM.out.2.2]
      have := digs_length_of (b := 10) (k := i) (by omega) (by omega) HM.out.2.1
      rw [this]; rfl, HB3.out⟩
    clear HM hlt HB3
    generalize cmpI v (10 ^ i) = r at *
    go_wp2
    go_ret
    exact Fin.out

theorem numD_any (g o : Nat) (t : TypeId) (cs : Array Value) (A : Option Addr) (c v : Nat) (w : World) (hx : BigAt w g o t cs A c v) (hbh : blen v ≤ 1280) (hv : VarsL w w.heap.size) :
    Calls Tryz.prog 92 #[.pointer (some ⟨g, o, none⟩)] w (FigP w v) := by
  rcases Nat.eq_zero_or_pos v with rfl | h0
  · exact numD_zero g o t cs A c w hx
  by_cases hbl : blen v ≤ 128
  · exact numD_low g o t cs A c v w hx h0 hbl hv
  · exact numD_high g o t cs A c v w hx (by omega) hbh hv
end Go.Proofs.YtfkcobdkgjhfaaaGreatDoor

/- Walks: Decimal.NumDigits, the thin package's Digits. -/
set_option linter.unusedVariables false
set_option linter.unusedSimpArgs false
namespace Go.Proofs.YtfkcobdkgjhfaaaGreatDoor
open Go.RowKit

theorem BigAt.dec {w : World} {g : Nat} {form : Int} {neg : Bool} {exp : Int} {A : Option Addr} {c v : Nat} (hB : Blk w g 71 (decC form neg exp false (.slice A (digs 18446744073709551616 v).length c) false)) (hr : RdW w (.slice A (digs 18446744073709551616 v).length c) (digs 18446744073709551616 v)) :
    BigAt w g 3 71 (decC form neg exp false (.slice A (digs 18446744073709551616 v).length c) false) A c v := ⟨hB, rfl, rfl, rfl, hr⟩

theorem dnumD_any (g : Nat) (t : TypeId) (cs : Array Value) (A : Option Addr) (c v : Nat) (w : World) (hx : BigAt w g 3 t cs A c v) (hbh : blen v ≤ 1280) (hv : VarsL w w.heap.size) :
    Calls Tryz.prog 52 #[.pointer (some ⟨g, 0, none⟩)] w (FigP w v) := by
  have Con := hide (numD_any g 3 t cs A c v w hx hbh hv)
  clear hx hbh hv
  go_enter Tryz.func52, Tryz.ntmps52
  go_wp2_with fail
  refine (Con.out).mono ?_
  rintro e w1 ⟨rfl, hb⟩
  have HF : Hid (FigP w v (.returned (.int .i64 (figs v : Int))) w1) := ⟨rfl, hb⟩
  clear hb Con
  generalize figs v = q at *
  go_wp2
  go_ret
  exact HF.out
end Go.Proofs.YtfkcobdkgjhfaaaGreatDoor

/- Walks: told of the thin package, of finite decimals; made and told of the others. -/
set_option linter.unusedVariables false
set_option linter.unusedSimpArgs false
namespace Go.Proofs.YtfkcobdkgjhfaaaGreatDoor
open Go.RowKit

/-- What 'told' answers of a finite decimal. -/
def ToldFin (w : World) (neg : Bool) (exp : Int) (xs : List Nat) (e : Ending) (w' : World) : Prop :=
  ∃ A c, e = .returned (.agg #[.int .i64 0, .bool neg, .slice A xs.length c, .int .i64 exp]) ∧ OwnU w' w.heap.size (.slice A xs.length c) xs ∧ Below w.heap.size w w'

theorem OwnU.fr {w w' : World} {base : Nat} {v : Value} {xs : List Nat} {S : Nat → Prop} (h : OwnU w base v xs) (hf : Fr w w' S) (hs : ∀ k, v.ownBlock = some k → ¬ S k) : OwnU w' base v xs := by
  obtain ⟨h1, h2⟩ := h
  refine ⟨h1, ?_⟩
  rcases h2 with h2 | ⟨g, cap, cur, rfl, hg, hh, r⟩
  · exact .inl h2
  · exact .inr ⟨g, cap, cur, rfl, hg, Blk.fr (t := 46) hh hf (hs g rfl), r⟩
theorem OwnU.ne_blk {w : World} {base g : Nat} {xs : List Nat} {t : TypeId} {cs : Array Value} {v : Value} (h : OwnU w base v xs) (hb : Blk w g t cs) (ht : t ≠ 46) : ∀ k, v.ownBlock = some k → k ≠ g := by
  intro k hk
  rcases h.form with ⟨rfl, _⟩ | ⟨g', cap, cur, rfl, _, hh, _⟩
  · cases hk
  · obtain rfl : g' = k := by simpa [Value.ownBlock] using hk
    exact hh.type_ne hb (Ne.symm ht)
theorem OwnU.lower {w : World} {base base' : Nat} {v : Value} {xs : List Nat} (h : OwnU w base v xs) (hb : base' ≤ base) : OwnU w base' v xs := by
  obtain ⟨h1, h2⟩ := h
  refine ⟨h1, ?_⟩
  rcases h2 with h2 | ⟨g, cap, cur, rfl, hg, r⟩
  · exact .inl h2
  · exact .inr ⟨g, cap, cur, rfl, Nat.le_trans hb hg, r⟩

theorem told_result (n : Nat) (tmps : Array Value) (h : tmps.getD 2 undef = .pointer (some ⟨n, 0, none⟩)) (W : World) (a b c d : Value) (c0 : W.cell? ⟨n, 0, none⟩ = some a) (c1 : W.cell? ⟨n, 1, none⟩ = some b) (c2 : W.cell? ⟨n, 2, none⟩ = some c) (c3 : W.cell? ⟨n, 3, none⟩ = some d) :
    (results Tryz.f30 tmps).run Tryz.prog W = .ok (.agg #[a, b, c, d]) W := by
  have h2 : tmps[2]?.getD undef = .pointer (some ⟨n, 0, none⟩) := by simpa using h
  simp [results, Tryz.results30, go_sem, h2, c0, c1, c2, c3]

set_option maxHeartbeats 1000000 in
theorem told_fin (g : Nat) (neg : Bool) (exp : Int) (vneg minus : Bool) (v : Value) (xs : List Nat) (w : World) (hd : Blk w g 71 (decC 0 neg exp vneg v minus)) (hv : RdW w v xs) (hn : xs.length ≤ 1048576) (he0 : -2147483648 ≤ exp) (he1 : exp ≤ 2147483647) :
    Calls Tryz.prog 30 #[.pointer (some ⟨g, 0, none⟩)] w (ToldFin w neg exp xs) := by
  have c0 : w.cell? ⟨g, 0, none⟩ = some (.int .i8 0) := hd.cell 0
  have c1 : w.cell? ⟨g, 1, none⟩ = some (.bool neg) := hd.cell 1
  have hg : g < w.heap.size := hd.lt
  have HD := hide (And.intro hd hv)
  clear hd hv
  go_enter Tryz.func30, Tryz.ntmps30
  go_wp2_with fail
  have hs : ((w.alloc (.cells #[.int .i64 0, .bool false, .slice none 0 0, .int .i64 0] 24)).alloc (.cells #[.int .i64 0, .bool neg, .slice none 0 0, .int .i64 0] 24)).heap.size = w.heap.size + 2 := by simp
  have hf : Fr w ((w.alloc (.cells #[.int .i64 0, .bool false, .slice none 0 0, .int .i64 0] 24)).alloc (.cells #[.int .i64 0, .bool neg, .slice none 0 0, .int .i64 0] 24)) (fun _ => False) := ((Fr.refl w _).alloc _).alloc _
  have hb0 : Blk ((w.alloc (.cells #[.int .i64 0, .bool false, .slice none 0 0, .int .i64 0] 24)).alloc (.cells #[.int .i64 0, .bool neg, .slice none 0 0, .int .i64 0] 24)) w.heap.size 24 #[.int .i64 0, .bool false, .slice none 0 0, .int .i64 0] := (Blk.new w _ _).alloc _
  have hb1 : Blk ((w.alloc (.cells #[.int .i64 0, .bool false, .slice none 0 0, .int .i64 0] 24)).alloc (.cells #[.int .i64 0, .bool neg, .slice none 0 0, .int .i64 0] 24)) (w.heap.size + 1) 24 #[.int .i64 0, .bool neg, .slice none 0 0, .int .i64 0] := by
    have := Blk.new (w.alloc (.cells #[.int .i64 0, .bool false, .slice none 0 0, .int .i64 0] 24)) 24 #[.int .i64 0, .bool neg, .slice none 0 0, .int .i64 0]
    simpa using this
  generalize ((w.alloc (.cells #[.int .i64 0, .bool false, .slice none 0 0, .int .i64 0] 24)).alloc (.cells #[.int .i64 0, .bool neg, .slice none 0 0, .int .i64 0] 24)) = W at hs hf hb0 hb1 ⊢
  have hdW := HD.out.1.fr hf (fun h => h)
  have hvW := HD.out.2.fr hf (fun _ _ h => h)
  have cx : W.cell? ⟨g, 2, none⟩ = some (.int .i32 exp) := hdW.cell 2
  have con : ∀ W1 : World, W1.heap = W.heap → W1.os = W.os → W1.tape = W.tape → W1.output = W.output → Calls Tryz.prog 56 #[.pointer (some ⟨g, 3, none⟩)] W1 (fun e w1 => ∃ A c, e = .returned (.slice A xs.length c) ∧ Hid (OwnU w1 W.heap.size (.slice A xs.length c) xs ∧ Blk w1 w.heap.size 24 #[.int .i64 0, .bool false, .slice none 0 0, .int .i64 0] ∧ Blk w1 (w.heap.size + 1) 24 #[.int .i64 0, .bool neg, .slice none 0 0, .int .i64 0] ∧ Fr w w1 (fun _ => False)) ∧
      w1.cell? ⟨g, 2, none⟩ = some (.int .i32 exp) ∧ (w1.cell? ⟨w.heap.size + 1, 0, none⟩ = some (.int .i64 0) ∧ w1.cell? ⟨w.heap.size + 1, 1, none⟩ = some (.bool neg) ∧ w1.cell? ⟨w.heap.size + 1, 2, none⟩ = some (.slice none 0 0) ∧ w1.cell? ⟨w.heap.size + 1, 3, none⟩ = some (.int .i64 0)) ∧ (w1.frozen? ⟨w.heap.size + 1, 2, none⟩ = false ∧ w1.frozen? ⟨w.heap.size + 1, 3, none⟩ = false) ∧
      (w1.cell? ⟨w.heap.size, 0, none⟩ = some (.int .i64 0) ∧ w1.cell? ⟨w.heap.size, 1, none⟩ = some (.bool false) ∧ w1.cell? ⟨w.heap.size, 2, none⟩ = some (.slice none 0 0) ∧ w1.cell? ⟨w.heap.size, 3, none⟩ = some (.int .i64 0)) ∧ w1.frozen? ⟨w.heap.size, 0, none⟩ = false ∧ w1.frozen? ⟨w.heap.size, 1, none⟩ = false ∧ w1.frozen? ⟨w.heap.size, 2, none⟩ = false ∧ w1.frozen? ⟨w.heap.size, 3, none⟩ = false) := by
    intro W1 q1 q2 q3 q4
    have fr : Fr W W1 (fun _ => False) := ⟨q2, q3, q4, by rw [q1]; exact Nat.le_refl _, fun _ _ _ => by rw [q1]⟩
    refine (words_any g 3 71 (decC 0 neg exp vneg v minus) vneg v xs W1 (hdW.fr fr (fun h => h)) rfl rfl (hvW.fr fr (fun _ _ h => h)) (by decide) hn).mono ?_
    rintro e w1 ⟨A, c, rfl, hown, hbel⟩
    have fr1 : Fr W w1 (fun _ => False) := Fr.step fr (Fr.of_below hbel (fun _ => False)) (fun _ _ h => h)
    have hb1' := hb1.fr fr1 (fun h => h)
    have hb0' := hb0.fr fr1 (fun h => h)
    refine ⟨A, c, rfl, ⟨by rw [q1] at hown; exact hown, hb0.fr fr1 (fun h => h), hb1', Fr.step hf fr1 (fun _ _ h => h)⟩, (hdW.fr fr1 (fun h => h)).cell 2, ⟨hb1'.cell 0, hb1'.cell 1, hb1'.cell 2, hb1'.cell 3⟩, ⟨hb1'.frozen 2, hb1'.frozen 3⟩, ⟨hb0'.cell 0, hb0'.cell 1, hb0'.cell 2, hb0'.cell 3⟩, hb0'.frozen 0, hb0'.frozen 1, hb0'.frozen 2, hb0'.frozen 3⟩
  have Con := hide con
  have HS := hide hs
  clear con hf hb0 hb1 hdW hvW HD hs
  go_region_with (go_at_call 56; go_loud (refine (Con.out _ ?_ ?_ ?_ ?_).mono ?_; rfl; rfl; rfl; rfl; rintro e w1 ⟨A, c, rfl, HX, k1, ⟨k2, k3, k4, k5⟩, ⟨k6, k7⟩, ⟨l0, l1, l2, l3⟩, m0, m1, m2, m3⟩))
  all_goals go_wp2
  all_goals
    have hB := ((((((HX.out.2.1).far (p := ⟨w.heap.size + 1, 2, none⟩) (by simp) (.slice A xs.length c)).far (p := ⟨w.heap.size + 1, 3, none⟩) (by simp) (.int .i64 exp)).set 0 (.int .i64 0)).set 1 (.bool neg)).set 2 (.slice A xs.length c)).set 3 (.int .i64 exp)
    have hn0 := HX.out.1.ne_blk HX.out.2.1 (by decide)
    have hn1 := HX.out.1.ne_blk HX.out.2.2.1 (by decide)
    have fr := ((((((Fr.refl w1 (fun k => k = w.heap.size ∨ k = w.heap.size + 1)).setCell (p := ⟨w.heap.size + 1, 2, none⟩) (fun _ => .inr rfl) (.slice A xs.length c)).setCell (p := ⟨w.heap.size + 1, 3, none⟩) (fun _ => .inr rfl) (.int .i64 exp)).setCell (p := ⟨w.heap.size, 0, none⟩) (fun _ => .inl rfl) (.int .i64 0)).setCell (p := ⟨w.heap.size, 1, none⟩) (fun _ => .inl rfl) (.bool neg)).setCell (p := ⟨w.heap.size, 2, none⟩) (fun _ => .inl rfl) (.slice A xs.length c)).setCell (p := ⟨w.heap.size, 3, none⟩) (fun _ => .inl rfl) (.int .i64 exp)
    refine bodyPost_ret (told_result w.heap.size _ rfl _ (.int .i64 0) (.bool neg) (.slice A xs.length c) (.int .i64 exp) (hB.cell 0) (hB.cell 1) (hB.cell 2) (hB.cell 3)) rfl ?_
    refine ⟨A, c, rfl, (HX.out.1.fr fr (fun k hk h => by rcases h with h | h; exact hn0 k hk h; exact hn1 k hk h)).lower (by rw [HS.out]; omega), ?_⟩
    exact (Fr.step (S := fun k => w.heap.size ≤ k) (HX.out.2.2.2.mono (fun _ _ h => h.elim)) fr (fun i _ h => by omega)).below (Nat.le_refl _) (fun k h => h)
end Go.Proofs.YtfkcobdkgjhfaaaGreatDoor

/- Walks: the Sign functions of Decimal and of the reference; IsZero. -/
set_option linter.unusedVariables false
set_option linter.unusedSimpArgs false
namespace Go.Proofs.YtfkcobdkgjhfaaaGreatDoor
open Go.RowKit

theorem dsign_any (g : Nat) (neg : Bool) (exp : Int) (A : Option Addr) (n c : Nat) (w : World) (h : Blk w g 71 (decC 0 neg exp false (.slice A n c) false)) :
    Calls Tryz.prog 61 #[.pointer (some ⟨g, 0, none⟩)] w fun e w' => e = .returned (.int .i64 (sgnI neg n)) ∧ w = w' := by
  have Con := hide (bsign_any g 3 false A n c w (h.cell 3) (h.cell 4) (h.cell 5))
  have c0 : w.cell? ⟨g, 0, none⟩ = some (.int .i8 0) := h.cell 0
  have c1 : w.cell? ⟨g, 1, none⟩ = some (.bool neg) := h.cell 1
  have hq := sgnI_beq false n
  clear h
  by_cases hn : n = 0
  · subst hn
    have fin := hide (sgnI_zero neg)
    go_enter Tryz.func61, Tryz.ntmps61
    go_wp2_with fail
    refine (Con.out).mono ?_
    rintro e w1 ⟨rfl, rfl⟩
    go_wp2
    go_ret
    exact ⟨by rw [fin.out]; rfl, rfl⟩
  · have hb : (sgnI false n == 0) = false := by rw [hq]; simp [hn]
    have fin : sgnI neg n = if neg then -1 else 1 := by simp [sgnI, hn]
    have Fin := hide fin
    clear hn hq fin
    go_enter Tryz.func61, Tryz.ntmps61
    go_wp2_with fail
    refine (Con.out).mono ?_
    rintro e w1 ⟨rfl, rfl⟩
    cases neg
    · go_wp2
      go_ret
      exact ⟨by rw [Fin.out]; rfl, rfl⟩
    · go_wp2
      go_ret
      exact ⟨by rw [Fin.out]; rfl, rfl⟩

theorem dzero_any (g : Nat) (neg : Bool) (exp : Int) (A : Option Addr) (n c : Nat) (w : World) (h : Blk w g 71 (decC 0 neg exp false (.slice A n c) false)) :
    Calls Tryz.prog 79 #[.pointer (some ⟨g, 0, none⟩)] w fun e w' => e = .returned (.bool (decide (n = 0))) ∧ w = w' := by
  have Con := hide (dsign_any g neg exp A n c w h)
  have hq := hide (sgnI_beq neg n)
  clear h
  go_enter Tryz.func79, Tryz.ntmps79
  go_wp2_with fail
  refine (Con.out).mono ?_
  rintro e w1 ⟨rfl, rfl⟩
  go_wp2
  go_ret
  exact ⟨by rw [← hq.out]; rfl, rfl⟩

theorem ssign_any (neg : Bool) (A : Option Addr) (n c : Nat) (exp : Int) (w : World) :
    Calls Tryz.prog 14 #[.agg #[.bool neg, .slice A n c, .int .i64 exp]] w fun e w' => e = .returned (.int .i64 (sgnI neg n)) ∧ Below w.heap.size w w' := by
  have hb0 := hide (below_al (Below.refl w.heap.size w) (.cells #[.bool neg, .slice A n c, .int .i64 exp] 29))
  by_cases hn : n = 0
  · subst hn
    have fin := sgnI_zero neg
    go_enter Tryz.func14, Tryz.ntmps14
    go_wp2
    go_ret
    exact ⟨by rw [fin]; rfl, hb0.out⟩
  · have hb : ((n : Int) == 0) = false := beq_eq_false_iff_ne.2 (by omega)
    cases neg
    · have fin := hide (sgnI_pos hn)
      clear hn
      go_enter Tryz.func14, Tryz.ntmps14
      go_wp2
      go_ret
      exact ⟨by rw [fin.out]; rfl, hb0.out⟩
    · have fin := hide (sgnI_neg hn)
      clear hn
      go_enter Tryz.func14, Tryz.ntmps14
      go_wp2
      go_ret
      exact ⟨by rw [fin.out]; rfl, hb0.out⟩
end Go.Proofs.YtfkcobdkgjhfaaaGreatDoor
