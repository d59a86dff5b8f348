/- Walks: Decimal.Neg, DecNeg of the thin package, Opposite of the reference. -/
import Derived.Test.YtmomgnogncpglaaDec4
import Derived.Test.YtmomgnogncpglaaSign
set_option linter.unusedVariables false
set_option linter.unusedSimpArgs false
namespace Go.Proofs.Ytmomgnogncpglaa
open Go.RowKit

/-- The sign behind 'Neg'. -/
def negT (neg : Bool) (n : Nat) : Bool := if n = 0 then false else !neg
theorem negT_zero (neg : Bool) : negT neg 0 = false := rfl
theorem negT_pos {n : Nat} (neg : Bool) (h : n ≠ 0) : negT neg n = !neg := by simp [negT, h]

set_option maxHeartbeats 1000000 in
theorem dneg_any (base gz gx : Nat) (fz : Int) (nz : Bool) (ez : Int) (bz : Bool) (vz : Value) (mz : Bool) (fx : Int) (nx : Bool) (ex : Int) (bx : Bool) (vx : Value) (mx : Bool) (m : Nat) (xs : List Nat) (w : World)
    (hz : Blk w gz 60 (decC fz nz ez bz vz mz)) (hzr : Room w base vz m) (hx : Blk w gx 60 (decC fx nx ex bx vx mx)) (hxr : RdW w vx xs) (hxb : ∀ k, vx.ownBlock = some k → k ≠ gz)
    (hne : gz ≠ gx) (hb : base ≤ w.heap.size) (hn : xs.length ≤ 1099511627776) (hf : fx = 0 := by rfl) (hbx : bx = false := by rfl) (hmx : mx = false := by rfl) :
    Calls Try.prog 31 #[.pointer (some ⟨gz, 0, none⟩), .pointer (some ⟨gx, 0, none⟩)] w (DsetP w base gz fx (negT nx xs.length) ex bx vz mx xs) := by
  subst hf hbx hmx
  have Con := hide (dset_any base gz gx fz nz ez bz vz mz 0 nx ex false vx false m xs w hz hzr hx hxr hxb hne hb hn)
  clear hz hzr hx hxr
  go_enter Try.func31, Try.ntmps31
  go_wp2_with fail
  refine (Con.out).mono ?_
  rintro e w1 ⟨rfl, A, c, hr, hrb, hB, hF⟩
  have c1 : w1.cell? ⟨gz, 1, none⟩ = some (.bool nx) := hB.cell 1
  have f1 := hB.frozen 1
  have hg : ∀ k, (Value.slice A xs.length c).ownBlock = some k → k ≠ gz := hr.room.ne_blk hB (by decide)
  have fin : ∀ b : Bool, negT nx xs.length = b → DsetP w base gz 0 (negT nx xs.length) ex false vz false xs (.returned (.pointer (some ⟨gz, 0, none⟩))) (w1.setCell ⟨gz, 1, none⟩ (.bool b)) := by
    rintro b rfl
    exact ⟨rfl, A, c, hr.fr ((Fr.refl w1 (fun k => k = gz)).setCell (p := ⟨gz, 1, none⟩) (fun _ => rfl) _) hg, hrb, hB.set 1 _, hF.setCell (p := ⟨gz, 1, none⟩) (fun _ => .inl rfl) _⟩
  have Fin := hide fin
  have Con2 := hide (dzero_any gz nx ex A xs.length c w1 hB)
  clear fin hr hrb hB hF hg Con
  by_cases h0 : xs.length = 0
  · have Fin2 := hide (Fin.out false (by rw [h0]; rfl))
    rw [h0] at Con2
    clear Fin h0
    go_wp2_with fail
    refine (Con2.out).mono ?_
    rintro e w2 ⟨rfl, rfl⟩
    go_wp2
    go_ret
    exact Fin2.out
  · have Fin2 := hide (Fin.out (!nx) (negT_pos nx h0))
    rw [show decide (xs.length = 0) = false from decide_eq_false h0] at Con2
    clear Fin h0
    go_wp2_with fail
    refine (Con2.out).mono ?_
    rintro e w2 ⟨rfl, rfl⟩
    go_wp2
    go_ret
    exact Fin2.out
theorem decNeg_result (n : Nat) (tmps : Array Value) (h : tmps.getD 2 undef = .pointer (some ⟨n, 0, none⟩)) (W : World) (a b c d : Value) (c0 : W.cell? ⟨n, 0, none⟩ = some a) (c1 : W.cell? ⟨n, 1, none⟩ = some b) (c2 : W.cell? ⟨n, 2, none⟩ = some c) (c3 : W.cell? ⟨n, 3, none⟩ = some d) :
    (results Try.f19 tmps).run Try.prog W = .ok (.agg #[a, b, c, d]) W := by
  have h2 : tmps[2]?.getD undef = .pointer (some ⟨n, 0, none⟩) := by simpa using h
  simp [results, Try.results19, go_sem, h2, c0, c1, c2, c3]

set_option maxHeartbeats 1000000 in
theorem decNeg_fin (neg : Bool) (A : Option Addr) (c : Nat) (xs : List Nat) (exp : Int) (w : World) (hv : RdW w (.slice A xs.length c) xs) (hn : xs.length ≤ 1048576) (he0 : -2147483648 ≤ exp) (he1 : exp ≤ 2147483647) (hcan : trimz xs = xs) :
    Calls Try.prog 19 #[.agg #[.int .i64 0, .bool neg, .slice A xs.length c, .int .i64 exp]] w (ToldFin w (negT neg xs.length) exp xs) := by
  have HV := hide (And.intro hv hcan)
  clear hv hcan
  obtain ⟨W, hW⟩ : ∃ W, W = (((w.alloc (.cells #[.int .i64 0, .bool neg, .slice A xs.length c, .int .i64 exp] 24)).alloc (.cells #[.int .i64 0, .bool false, .slice none 0 0, .int .i64 0] 24)).alloc (.cells (decC 0 false 0 false (.slice none 0 0) false) 60)) := ⟨_, rfl⟩
  have hs : W.heap.size = w.heap.size + 3 := by rw [hW]; simp
  have hf : Fr w W (fun _ => False) := by rw [hW]; exact (((Fr.refl w _).alloc _).alloc _).alloc _
  have hbx : Blk W w.heap.size 24 #[.int .i64 0, .bool neg, .slice A xs.length c, .int .i64 exp] := by rw [hW]; exact ((Blk.new w _ _).alloc _).alloc _
  have hbv : Blk W (w.heap.size + 1) 24 #[.int .i64 0, .bool false, .slice none 0 0, .int .i64 0] := by
    have := Blk.new (w.alloc (.cells #[.int .i64 0, .bool neg, .slice A xs.length c, .int .i64 exp] 24)) 24 #[.int .i64 0, .bool false, .slice none 0 0, .int .i64 0]
    rw [hW]; simpa using this.alloc _
  have hbz : Blk W (w.heap.size + 2) 60 (decC 0 false 0 false (.slice none 0 0) false) := by
    have := Blk.new ((w.alloc (.cells #[.int .i64 0, .bool neg, .slice A xs.length c, .int .i64 exp] 24)).alloc (.cells #[.int .i64 0, .bool false, .slice none 0 0, .int .i64 0] 24)) 60 (decC 0 false 0 false (.slice none 0 0) false)
    rw [hW]; simpa using this
  have HH := hide (And.intro hs (And.intro hf (And.intro hbv hbz)))
  obtain ⟨a0, a1, a2, a3⟩ : W.cell? ⟨w.heap.size, 0, none⟩ = some (.int .i64 0) ∧ W.cell? ⟨w.heap.size, 1, none⟩ = some (.bool neg) ∧ W.cell? ⟨w.heap.size, 2, none⟩ = some (.slice A xs.length c) ∧ W.cell? ⟨w.heap.size, 3, none⟩ = some (.int .i64 exp) := ⟨hbx.cell 0, hbx.cell 1, hbx.cell 2, hbx.cell 3⟩
  unfold decC at hW
  have HW := hide hW
  clear hs hf hbx hbv hbz hW
  go_enter Try.func19, Try.ntmps19
  go_wp2_with fail
  rw [← HW.out]
  go_wp2_with fail
  refine (made_fin 0 neg (.slice A xs.length c) xs exp W (HV.out.1.fr HH.out.2.1 (fun _ _ h => h)) hn (by decide) (by decide) (by decide) he0 he1).mono ?_
  rintro e w1 ⟨g, A1, c1, rfl, hg, hown, hB, hbel⟩
  rw [HV.out.2] at hown hB
  have H1 := hide (And.intro hg (And.intro hown (And.intro hB hbel)))
  clear hg hown hB hbel a0 a1 a2 a3 HW
  go_wp2_with fail
  refine (dneg_any w.heap.size (w.heap.size + 2) g 0 false 0 false (.slice none 0 0) false 0 neg exp false (.slice A1 xs.length c1) false 0 xs w1 (HH.out.2.2.2.below H1.out.2.2.2) (Own.nil _ _).room H1.out.2.2.1 H1.out.2.1.rd (fun k hk => by have := (H1.out.2.1.lt hk).1; have := HH.out.1; omega) (by have := H1.out.1; have := HH.out.1; omega) (by have := H1.out.2.2.2.size; have := HH.out.1; omega) (by omega)).mono ?_
  rintro e w2 ⟨rfl, A2, c2, hown2, hrb2, hB2, hF2⟩
  have H2 := hide (And.intro hown2 (And.intro hB2 hF2))
  clear hown2 hrb2 hB2 hF2
  go_wp2_with fail
  refine (told_fin (w.heap.size + 2) (negT neg xs.length) exp false false (.slice A2 xs.length c2) xs w2 H2.out.2.1 H2.out.1.rd hn he0 he1).mono ?_
  rintro e w3 ⟨A3, c3, rfl, hown3, hbel3⟩
  have hS : ∀ k, (k = w.heap.size + 2 ∨ (Value.slice none 0 0).ownBlock = some k) → w.heap.size ≤ k := by rintro k (h | h); omega; cases h
  have hb3 : Below w.heap.size w w3 := (Fr.step (S := fun k => w.heap.size ≤ k) (Fr.step (S := fun k => w.heap.size ≤ k) (Fr.step (S := fun k => w.heap.size ≤ k) (HH.out.2.1.mono (fun _ _ h => h.elim)) (Fr.of_below H1.out.2.2.2 (fun _ => False)) (fun _ _ h => h.elim)) H2.out.2.2 (fun k _ h => hS k h)) (Fr.of_below hbel3 (fun _ => False)) (fun _ _ h => h.elim)).below (Nat.le_refl _) (fun _ h => h)
  have hbv3 : Blk w3 (w.heap.size + 1) 24 #[.int .i64 0, .bool false, .slice none 0 0, .int .i64 0] := ((HH.out.2.2.1.below H1.out.2.2.2).fr H2.out.2.2 (fun h => by rcases h with h | h; omega; cases h)).below hbel3
  obtain ⟨hBB, hT⟩ := store_dec (neg := negT neg xs.length) (exp := exp) (by omega) hbv3 hb3 w2.heap.size (by have := H1.out.2.2.2.size; have := HH.out.1; have := H2.out.2.2.size; omega) hown3
  have y0 : w3.cell? ⟨w.heap.size + 1, 0, none⟩ = some (.int .i64 0) := hbv3.cell 0
  have y1 : w3.cell? ⟨w.heap.size + 1, 1, none⟩ = some (.bool false) := hbv3.cell 1
  have y2 : w3.cell? ⟨w.heap.size + 1, 2, none⟩ = some (.slice none 0 0) := hbv3.cell 2
  have y3 : w3.cell? ⟨w.heap.size + 1, 3, none⟩ = some (.int .i64 0) := hbv3.cell 3
  have z0 := hbv3.frozen 0
  have z1 := hbv3.frozen 1
  have z2 := hbv3.frozen 2
  have z3 := hbv3.frozen 3
  have HT := hide (And.intro hBB hT)
  clear hBB hT hown3 hbel3 hb3 hbv3 HH H1 H2 hS
  go_wp2
  exact bodyPost_ret (decNeg_result (w.heap.size + 1) _ rfl _ (.int .i64 0) (.bool (negT neg xs.length)) (.slice A3 xs.length c3) (.int .i64 exp) (HT.out.1.cell 0) (HT.out.1.cell 1) (HT.out.1.cell 2) (HT.out.1.cell 3)) rfl HT.out.2

theorem opposite_result (n : Nat) (tmps : Array Value) (h : tmps.getD 2 undef = .pointer (some ⟨n, 0, none⟩)) (W : World) (a b c : Value) (c0 : W.cell? ⟨n, 0, none⟩ = some a) (c1 : W.cell? ⟨n, 1, none⟩ = some b) (c2 : W.cell? ⟨n, 2, none⟩ = some c) :
    (results Try.f20 tmps).run Try.prog W = .ok (.agg #[a, b, c]) W := by
  have h2 : tmps[2]?.getD undef = .pointer (some ⟨n, 0, none⟩) := by simpa using h
  simp [results, Try.results20, go_sem, h2, c0, c1, c2]

theorem opposite_any (neg : Bool) (A : Option Addr) (n c : Nat) (exp : Int) (w : World) :
    Calls Try.prog 20 #[.agg #[.bool neg, .slice A n c, .int .i64 exp]] w fun e w' => e = .returned (.agg #[.bool (!neg), .slice A n c, .int .i64 exp]) ∧ Below w.heap.size w w' := by
  have hb0 := hide (below_al (below_al (Below.refl w.heap.size w) (.cells #[.bool neg, .slice A n c, .int .i64 exp] 29)) (.cells #[.bool (!neg), .slice A n c, .int .i64 exp] 29))
  have hB : Blk ((w.alloc (.cells #[.bool neg, .slice A n c, .int .i64 exp] 29)).alloc (.cells #[.bool (!neg), .slice A n c, .int .i64 exp] 29)) (w.heap.size + 1) 29 #[.bool (!neg), .slice A n c, .int .i64 exp] := by
    have := Blk.new (w.alloc (.cells #[.bool neg, .slice A n c, .int .i64 exp] 29)) 29 #[.bool (!neg), .slice A n c, .int .i64 exp]
    simpa using this
  have HB := hide hB
  clear hB
  go_enter Try.func20, Try.ntmps20
  go_wp2
  exact bodyPost_ret (opposite_result (w.heap.size + 1) _ rfl _ (.bool (!neg)) (.slice A n c) (.int .i64 exp) (HB.out.cell 0) (HB.out.cell 1) (HB.out.cell 2)) rfl ⟨rfl, hb0.out⟩
end Go.Proofs.Ytmomgnogncpglaa
