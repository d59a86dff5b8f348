/- Parts of the proofs: IQuo, MulMath, KnMath. -/
import Derived.Deep.RegionWith
import Derived.Deep.DeepCutAuto
import Derived.BigRegion
import Derived.Test.YtfkcobdkgjhfaaaGreatDoorG2
import Derived.Test.YtfkcobdkgjhfaaaGreatDoorG7
import Derived.Test.YtfkcobdkgjhfaaaGreatDoorG8
/- Walks: Int.Quo, BigInt.Quo of two numbers that are not below 0, by a contract of nat.div. -/
set_option linter.unusedVariables false
set_option linter.unusedSimpArgs false
namespace Go.Proofs.YtfkcobdkgjhfaaaGreatDoor
open Go.RowKit

/-- Behind the division: the quotient stands in z, its sign not yet. -/
def QuM (w : World) (base gz oz : Nat) (tz : TypeId) (cz : Array Value) (vz : Value) (a y : Nat) (W : World) : Prop :=
  ∃ (Q : Option Addr) (cq : Nat),
    Own W base (.slice Q (digs 18446744073709551616 (a / y)).length cq) (digs 18446744073709551616 (a / y)) ∧
    ((Value.slice Q (digs 18446744073709551616 (a / y)).length cq).ownBlock = vz.ownBlock ∨ ∃ k, (Value.slice Q (digs 18446744073709551616 (a / y)).length cq).ownBlock = some k ∧ w.heap.size ≤ k) ∧
    Blk W gz tz (cz.setIfInBounds (oz + 1) (.slice Q (digs 18446744073709551616 (a / y)).length cq)) ∧
    Fr w W (fun k => k = gz ∨ vz.ownBlock = some k)
/-- What the walk takes of the division's call. -/
def QuC (gz oz : Nat) (vz : Value) (Rel : World → Prop) (e : Ending) (w1 : World) : Prop :=
  ∃ (Q R : Option Addr) (nq nr cq c2 : Nat), e = .returned (.tuple #[.slice Q nq cq, .slice R nr c2]) ∧ w1.cell? ⟨gz, oz + 1, none⟩ = some vz ∧ w1.frozen? ⟨gz, oz + 1, none⟩ = false ∧
    Hid (Rel (w1.setCell ⟨gz, oz + 1, none⟩ (.slice Q nq cq)))
/-- Behind Quo: the quotient in z. -/
def QuI (w : World) (base gz oz : Nat) (tz : TypeId) (cz : Array Value) (vz : Value) (a y : Nat) (e : Ending) (w' : World) : Prop :=
  e = .returned (.pointer (some ⟨gz, oz, none⟩)) ∧ ∃ (Q : Option Addr) (cq : Nat),
    Own w' base (.slice Q (digs 18446744073709551616 (a / y)).length cq) (digs 18446744073709551616 (a / y)) ∧
    ((Value.slice Q (digs 18446744073709551616 (a / y)).length cq).ownBlock = vz.ownBlock ∨ ∃ k, (Value.slice Q (digs 18446744073709551616 (a / y)).length cq).ownBlock = some k ∧ w.heap.size ≤ k) ∧
    Blk w' gz tz (setInt cz oz false (.slice Q (digs 18446744073709551616 (a / y)).length cq)) ∧
    Fr w w' (fun k => k = gz ∨ vz.ownBlock = some k)

theorem qu_mid (base gz oz : Nat) (tz : TypeId) (cz : Array Value) (vz : Value) (m a y : Nat) (w : World)
    (hz : Blk w gz tz cz) (hz1 : cz[oz + 1]? = some vz) (hzr : Room w base vz m) (htz : tz ≠ 145) (e : Ending) (w1 : World) (h : QrP w.drew base vz (.slice none 0 0) a y e w1) :
    QuC gz oz vz (QuM w base gz oz tz cz vz a y) e w1 := by
  obtain ⟨Q, R, cq, c2, rfl, hoq, hor, hbq, hbr, hqr, hf⟩ := h
  have hf1 : Fr w w1 (fun k => vz.ownBlock = some k) := ⟨hf.os, hf.tape, hf.output, hf.size, fun i hi h => hf.block i hi (fun h1 => h1.elim h (fun h2 => by cases h2))⟩
  have b1 : Blk w1 gz tz cz := hz.fr hf1 (fun h => hzr.ne_blk hz htz gz h rfl)
  have b1' := b1.set (oz + 1) (.slice Q (digs 18446744073709551616 (a / y)).length cq)
  refine ⟨Q, R, _, _, cq, c2, rfl, (b1.cell _).trans hz1, b1.frozen _, ?_⟩
  have fa : Fr w1 (w1.setCell ⟨gz, oz + 1, none⟩ (.slice Q (digs 18446744073709551616 (a / y)).length cq)) (fun k => k = gz) := (Fr.refl w1 (fun k => k = gz)).setCell (p := ⟨gz, oz + 1, none⟩) (fun _ => rfl) _
  exact ⟨Q, cq, hoq.fr fa (hoq.room.ne_blk b1 htz), hbq, b1', Fr.step (hf1.mono (fun _ _ h => .inr h)) fa (fun _ _ h => .inl h)⟩

theorem qu_end (base gz oz : Nat) (tz : TypeId) (cz : Array Value) (vz : Value) (a y : Nat) (w W : World) (htz : tz ≠ 145) (h : QuM w base gz oz tz cz vz a y W) :
    QuI w base gz oz tz cz vz a y (.returned (.pointer (some ⟨gz, oz, none⟩))) (W.setCell ⟨gz, oz, none⟩ (.bool false)) := by
  obtain ⟨Q, cq, hoq, hbq, b1, hf⟩ := h
  have fa : Fr W (W.setCell ⟨gz, oz, none⟩ (.bool false)) (fun k => k = gz) := (Fr.refl W (fun k => k = gz)).setCell (p := ⟨gz, oz, none⟩) (fun _ => rfl) _
  exact ⟨rfl, Q, cq, hoq.fr fa (hoq.room.ne_blk b1 htz), hbq, b1.set oz _, Fr.step hf fa (fun _ _ h => .inl h)⟩

theorem qui_drew {w : World} {base gz oz : Nat} {tz : TypeId} {cz : Array Value} {vz : Value} {a y : Nat} {e : Ending} {W : World} (h : QuI w base gz oz tz cz vz a y e W) : QuI w base gz oz tz cz vz a y e W.drew := by
  obtain ⟨he, Q, cq, hoq, hbq, b1, hf⟩ := h
  exact ⟨he, Q, cq, hoq.fr (Fr.refl W (fun _ => False)).drew (fun _ _ h => h), hbq, b1.drew, hf.drew⟩

set_option maxHeartbeats 4000000 in
set_option maxRecDepth 20000 in
theorem iquo_gen (base gz oz gx ox gy oy : Nat) (tz : TypeId) (cz : Array Value) (bz : Bool) (vz vx vy : Value) (m a y : Nat) (w : World)
    (hz : Blk w gz tz cz) (hz0 : cz[oz]? = some (.bool bz)) (hz1 : cz[oz + 1]? = some vz) (hzr : Room w base vz m) (htz : tz ≠ 145)
    (hx0 : w.cell? ⟨gx, ox, none⟩ = some (.bool false)) (hx1 : w.cell? ⟨gx, ox + 1, none⟩ = some vx) (hy0 : w.cell? ⟨gy, oy, none⟩ = some (.bool false)) (hy1 : w.cell? ⟨gy, oy + 1, none⟩ = some vy)
    (hxk : gx ≠ gz ∧ vz.ownBlock ≠ some gx) (hyk : gy ≠ gz ∧ vz.ownBlock ≠ some gy)
    (con : Calls Tryz.prog 123 #[vz, .pointer none, .slice none 0 0, vx, vy] w.drew (QrP w.drew base vz (.slice none 0 0) a y)) :
    Calls Tryz.prog 95 #[.pointer (some ⟨gz, oz, none⟩), .pointer (some ⟨gx, ox, none⟩), .pointer (some ⟨gy, oy, none⟩)] w (QuI w base gz oz tz cz vz a y) := by
  have c1 : w.cell? ⟨gz, oz + 1, none⟩ = some vz := (hz.cell _).trans hz1
  have lz : oz < cz.size := (Array.getElem?_eq_some_iff.1 hz0).1
  have lz1 : oz + 1 < cz.size := (Array.getElem?_eq_some_iff.1 hz1).1
  have Con := hide (con.mono (fun e w1 h => qu_mid base gz oz tz cz vz m a y w hz hz1 hzr htz e w1 h))
  unfold QuC at Con
  have End := hide (fun W h => qu_end base gz oz tz cz vz a y w W htz h)
  have Cells : Hid (∀ W, QuM w base gz oz tz cz vz a y W → ∃ Q nq cq, W.cell? ⟨gz, oz + 1, none⟩ = some (.slice Q nq cq) ∧ W.cell? ⟨gx, ox, none⟩ = some (.bool false) ∧ W.cell? ⟨gy, oy, none⟩ = some (.bool false) ∧ W.cell? ⟨gz, oz, none⟩ = some (.bool bz) ∧ W.frozen? ⟨gz, oz, none⟩ = false) := by
    rintro W ⟨Q, cq, -, -, b1, hf⟩
    refine ⟨Q, (digs 18446744073709551616 (a / y)).length, cq, ?_, hf.cell hx0 (fun h => h.elim hxk.1 hxk.2), hf.cell hy0 (fun h => h.elim hyk.1 hyk.2), ?_, b1.frozen _⟩
    · rw [b1.cell]; simp [Array.getElem?_setIfInBounds, lz1]
    · rw [b1.cell, getElem?_set_ne (by omega)]; exact hz0
  clear hz hz0 hz1 hzr htz hxk hyk con lz lz1 hx0 hy0
  go_enter Tryz.func95, Tryz.ntmps95
  go_upto_region 1 with fail
  go_cut [] (fun wx => Hid (QuM w base gz oz tz cz vz a y wx))
  case first =>
    clear Cells End
    go_region_with (go_at_call 123; refine (Con.out).mono ?_; rintro e w1 ⟨Q, R, nq, nr, cq, c2, rfl, z1, fz, HM⟩; clear Con)
    all_goals (go_wp2_with fail; go_meet; exact HM)
  case rest =>
    obtain ⟨Q, nq, cq, z1, x0, y0, z0, fz⟩ := Cells.out _ hcut.out
    have HE := hide (End.out _ hcut.out)
    clear c1 hx1 hy1 Con Cells End hcut
    generalize wc = W at *
    rcases Nat.eq_zero_or_pos nq with hq | hq
    · subst hq
      go_wp2_with fail
      go_region
      all_goals go_wp2
      all_goals go_ret
      all_goals exact qui_drew HE.out
    · have hq2 : decide (0 < nq) = true := decide_eq_true hq
      go_wp2_with fail
      go_region
      all_goals go_wp2
      all_goals go_ret
      all_goals exact qui_drew HE.out
/-- Behind BigInt.Quo: the quotient in z. -/
def QuB (w : World) (base gz oz : Nat) (tz : TypeId) (cz : Array Value) (vz : Value) (a y : Nat) (e : Ending) (w' : World) : Prop :=
  e = .returned (.pointer (some ⟨gz, oz, none⟩)) ∧ ∃ (Q : Option Addr) (cq : Nat),
    Own w' base (.slice Q (digs 18446744073709551616 (a / y)).length cq) (digs 18446744073709551616 (a / y)) ∧
    ((Value.slice Q (digs 18446744073709551616 (a / y)).length cq).ownBlock = vz.ownBlock ∨ ∃ k, (Value.slice Q (digs 18446744073709551616 (a / y)).length cq).ownBlock = some k ∧ w.heap.size ≤ k) ∧
    Blk w' gz tz (setBig cz oz false (.slice Q (digs 18446744073709551616 (a / y)).length cq) false) ∧
    Fr w w' (fun k => k = gz ∨ vz.ownBlock = some k)

set_option maxHeartbeats 2000000 in
set_option maxRecDepth 20000 in
theorem bquo_gen (base gz oz gx ox gy oy : Nat) (tz : TypeId) (cz : Array Value) (bz mz : Bool) (vz vx vy : Value) (m a y : Nat) (w : World)
    (hz : Blk w gz tz cz) (hz0 : cz[oz]? = some (.bool bz)) (hz1 : cz[oz + 1]? = some vz) (hz2 : cz[oz + 2]? = some (.bool mz)) (hzr : Room w base vz m) (htz : tz ≠ 145)
    (hx0 : w.cell? ⟨gx, ox, none⟩ = some (.bool false)) (hx1 : w.cell? ⟨gx, ox + 1, none⟩ = some vx) (hy0 : w.cell? ⟨gy, oy, none⟩ = some (.bool false)) (hy1 : w.cell? ⟨gy, oy + 1, none⟩ = some vy)
    (hxk : gx ≠ gz ∧ vz.ownBlock ≠ some gx) (hyk : gy ≠ gz ∧ vz.ownBlock ≠ some gy)
    (con : ∀ W, Fr w W (fun k => k = gz) → Calls Tryz.prog 123 #[vz, .pointer none, .slice none 0 0, vx, vy] W (QrP W base vz (.slice none 0 0) a y)) :
    Calls Tryz.prog 55 #[.pointer (some ⟨gz, oz, none⟩), .pointer (some ⟨gx, ox, none⟩), .pointer (some ⟨gy, oy, none⟩)] w (QuB w base gz oz tz cz vz a y) := by
  obtain ⟨W2, hW2⟩ : ∃ W, W = (w.setCell ⟨gz, oz + 2, none⟩ (.bool false)).drew := ⟨_, rfl⟩
  have c1 : w.cell? ⟨gz, oz + 2, none⟩ = some (.bool mz) := (hz.cell _).trans hz2
  have f1 : w.frozen? ⟨gz, oz + 2, none⟩ = false := hz.frozen _
  have hF : Fr w W2 (fun k => k = gz) := by rw [hW2]; exact ((Fr.refl w (fun k => k = gz)).setCell (p := ⟨gz, oz + 2, none⟩) (fun _ => rfl) _).drew
  have bz2 : Blk W2 gz tz (cz.setIfInBounds (oz + 2) (.bool false)) := by rw [hW2]; exact (hz.set _ _).drew
  have hxs : ¬ gx = gz := hxk.1
  have hys : ¬ gy = gz := hyk.1
  have hs2 : w.heap.size = W2.heap.size := by rw [hW2]; simp
  have con2 := iquo_gen base gz oz gx ox gy oy tz (cz.setIfInBounds (oz + 2) (.bool false)) bz vz vx vy m a y W2
    bz2 (by rw [getElem?_set_ne (by omega)]; exact hz0) (by rw [getElem?_set_ne (by omega)]; exact hz1) (hzr.fr hF (fun k hk h => hzr.ne_blk hz htz k hk h)) htz
    (hF.cell hx0 hxs) (hF.cell hx1 hxs) (hF.cell hy0 hys) (hF.cell hy1 hys) hxk hyk (con W2.drew hF.drew)
  have Fin : Hid (∀ e w', QuI W2 base gz oz tz (cz.setIfInBounds (oz + 2) (.bool false)) vz a y e w' → QuB w base gz oz tz cz vz a y e w') := by
    rintro e w' ⟨he, Q, cq, hoq, hbq, b1, hf⟩
    exact ⟨he, Q, cq, hoq, by rw [hs2]; exact hbq, b1, Fr.step (hF.mono (fun _ _ h => .inl h)) hf (fun _ _ h => h)⟩
  have Con := hide con2
  rw [hW2] at Con
  clear hz hz0 hz1 hz2 hzr htz hx0 hx1 hy0 hy1 hxk hyk con con2 hF bz2 hxs hys hs2
  go_enter Tryz.func55, Tryz.ntmps55
  go_wp2_with fail
  go_region_with (go_at_call 95; go_loud (refine (Con.out).mono ?_; rw [← hW2]; rintro e w1 HI; have HI2 := hide (Fin.out _ _ HI); obtain ⟨rfl, _⟩ := HI; clear Con Fin))
  all_goals go_wp2
  all_goals go_ret
  all_goals exact HI2.out
end Go.Proofs.YtfkcobdkgjhfaaaGreatDoor

/- Plain arithmetic under the multiplication of rows of digits: no program is in sight. -/
set_option linter.unusedVariables false
set_option linter.unusedSimpArgs false
namespace Go.Proofs.YtfkcobdkgjhfaaaGreatDoor

/-- zs + xs * d + c, digit by digit (base b), and what is carried out. -/
def amul (b d : Nat) : List Nat → List Nat → Nat → List Nat × Nat
  | z :: zs, x :: xs, c => ((z + x * d + c) % b :: (amul b d zs xs ((z + x * d + c) / b)).1, (amul b d zs xs ((z + x * d + c) / b)).2)
  | _, _, c => ([], c)

theorem amul_nil (b d c : Nat) : amul b d [] [] c = ([], c) := rfl
theorem amul_cons (b d z x c : Nat) (zs xs : List Nat) : amul b d (z :: zs) (x :: xs) c = ((z + x * d + c) % b :: (amul b d zs xs ((z + x * d + c) / b)).1, (amul b d zs xs ((z + x * d + c) / b)).2) := rfl
theorem amul_length (b d : Nat) : ∀ {zs xs : List Nat} (c : Nat), zs.length = xs.length → (amul b d zs xs c).1.length = xs.length
  | [], [], _, _ => rfl
  | [], _ :: _, _, h => by simp at h
  | _ :: _, [], _, h => by simp at h
  | z :: zs, x :: xs, c, h => by simp [amul_cons, amul_length b d (zs := zs) (xs := xs) _ (by simpa using h)]
theorem amul_snoc (b d z x : Nat) : ∀ {zs xs : List Nat} (c : Nat), zs.length = xs.length →
    amul b d (zs ++ [z]) (xs ++ [x]) c = ((amul b d zs xs c).1 ++ [(z + x * d + (amul b d zs xs c).2) % b], (z + x * d + (amul b d zs xs c).2) / b)
  | [], [], _, _ => rfl
  | [], _ :: _, _, h => by simp at h
  | _ :: _, [], _, h => by simp at h
  | z' :: zs, x' :: xs, c, h => by
    simp only [List.cons_append, amul_cons]
    rw [amul_snoc b d z x (zs := zs) (xs := xs) _ (by simpa using h)]
theorem amul_dig {b d : Nat} (hb : 0 < b) : ∀ {zs xs : List Nat} (c : Nat), Dig b (amul b d zs xs c).1
  | [], _, _ => fun e he => by simp [amul] at he
  | _ :: _, [], _ => fun e he => by simp [amul] at he
  | z :: zs, x :: xs, c => by
    intro e he
    rw [amul_cons] at he
    rcases List.mem_cons.1 he with rfl | he
    · exact Nat.mod_lt _ hb
    · exact amul_dig hb _ e he
theorem amul_carry {b d : Nat} (hd : d < b) : ∀ {zs xs : List Nat} (c : Nat), Dig b zs → Dig b xs → c < b → (amul b d zs xs c).2 < b
  | [], _, _, _, _, hc => by simpa [amul] using hc
  | _ :: _, [], _, _, _, hc => by simpa [amul] using hc
  | z :: zs, x :: xs, c, hz, hx, hc => by
    rw [amul_cons]
    refine amul_carry hd _ (fun e he => hz e (by simp [he])) (fun e he => hx e (by simp [he])) ?_
    have h1 : z < b := hz z (by simp)
    have h2 : x < b := hx x (by simp)
    exact carry_lt h1 h2 hd hc
where
  carry_lt {b z x d c : Nat} (hz : z < b) (hx : x < b) (hd : d < b) (hc : c < b) : (z + x * d + c) / b < b := by
    rw [Nat.div_lt_iff_lt_mul (by omega)]
    obtain ⟨e, rfl⟩ : ∃ e, b = e + 1 := ⟨b - 1, by omega⟩
    have : x * d ≤ e * e := Nat.mul_le_mul (by omega) (by omega)
    have e2 : (e + 1) * (e + 1) = e * e + 2 * e + 1 := by grind
    omega
theorem amul_val (b d : Nat) : ∀ {zs xs : List Nat} (c : Nat), zs.length = xs.length →
    dval b (amul b d zs xs c).1 + b ^ xs.length * (amul b d zs xs c).2 = dval b zs + dval b xs * d + c
  | [], [], _, _ => by simp [amul, dval]
  | [], _ :: _, _, h => by simp at h
  | _ :: _, [], _, h => by simp at h
  | z :: zs, x :: xs, c, h => by
    have ih := amul_val b d (zs := zs) (xs := xs) ((z + x * d + c) / b) (by simpa using h)
    have h2 := Nat.div_add_mod (z + x * d + c) b
    rw [amul_cons]
    simp only [dval_cons, List.length_cons, Nat.pow_succ]
    generalize (amul b d zs xs ((z + x * d + c) / b)).1 = p at *
    generalize (amul b d zs xs ((z + x * d + c) / b)).2 = q at *
    generalize (z + x * d + c) / b = t at *
    generalize (z + x * d + c) % b = u at *
    generalize dval b p = P at *
    generalize dval b zs = Z at *
    generalize dval b xs = X at *
    generalize b ^ xs.length = Bn at *
    have e1 : Bn * b * q = b * (Bn * q) := by grind
    have e2 : (x + b * X) * d = x * d + b * (X * d) := by grind
    have e3 : b * (P + Bn * q) = b * (Z + X * d + t) := by rw [ih]
    have e4 : b * (P + Bn * q) = b * P + b * (Bn * q) := by grind
    have e5 : b * (Z + X * d + t) = b * Z + b * (X * d) + b * t := by grind
    rw [e1, e2]
    omega

/-! ### one round of the school method -/
/-- R has m + i digits: x times y's first i digits. The next one: the window from i on takes x * d. -/
theorem school_step {b d i : Nat} {xs ys R : List Nat} (hb : 1 < b) (hx : Dig b xs) (hd : d < b) (hR : Dig b R) (hl : R.length = xs.length + i) (hv : dval b R = dval b xs * dval b (ys.take i)) (hi : i < ys.length) (hyd : ys.getD i 0 = d) :
    (R.take i ++ (amul b d (R.drop i) xs 0).1 ++ [(amul b d (R.drop i) xs 0).2]).length = xs.length + (i + 1) ∧ Dig b (R.take i ++ (amul b d (R.drop i) xs 0).1 ++ [(amul b d (R.drop i) xs 0).2]) ∧
      dval b (R.take i ++ (amul b d (R.drop i) xs 0).1 ++ [(amul b d (R.drop i) xs 0).2]) = dval b xs * dval b (ys.take (i + 1)) := by
  have hdl : (R.drop i).length = xs.length := by rw [List.length_drop]; omega
  have htl : (R.take i).length = i := by rw [List.length_take]; omega
  have hal := amul_length b d (zs := R.drop i) (xs := xs) 0 hdl
  have hval := amul_val b d (zs := R.drop i) (xs := xs) 0 hdl
  have hc := amul_carry hd (zs := R.drop i) (xs := xs) 0 (fun e he => hR e (List.mem_of_mem_drop he)) hx (by omega)
  have hdg := amul_dig (b := b) (d := d) (by omega) (zs := R.drop i) (xs := xs) 0
  refine ⟨by simp [hal]; omega, ?_, ?_⟩
  · intro e he
    rcases List.mem_append.1 he with he | he
    · rcases List.mem_append.1 he with he | he
      · exact hR e (List.mem_of_mem_take he)
      · exact hdg e he
    · rw [List.mem_singleton.1 he]; exact hc
  · have e1 : dval b R = dval b (R.take i) + b ^ i * dval b (R.drop i) := by
      have := dval_append b (R.take i) (R.drop i)
      rwa [List.take_append_drop, htl] at this
    have hyt : ys.take (i + 1) = ys.take i ++ [d] := by
      rw [List.take_succ_eq_append_getElem hi, ← hyd, List.getD_eq_getElem?_getD, List.getElem?_eq_getElem hi]; rfl
    have e2 : dval b (ys.take (i + 1)) = dval b (ys.take i) + b ^ i * d := by
      rw [hyt, dval_append, List.length_take, Nat.min_eq_left (by omega)]
      simp [dval]
    rw [dval_append, dval_append, List.length_append, htl, hal, e2]
    simp only [dval_cons, dval_nil]
    generalize (amul b d (R.drop i) xs 0).1 = p at *
    generalize (amul b d (R.drop i) xs 0).2 = q at *
    generalize dval b p = P at *
    generalize dval b (R.drop i) = D at *
    generalize dval b (R.take i) = T at *
    generalize dval b xs = X at *
    generalize dval b (ys.take i) = Y at *
    rw [Nat.pow_add]
    generalize b ^ i = Bi at *
    generalize b ^ xs.length = Bn at *
    have e3 : Bi * (P + Bn * q) = Bi * (D + X * d + 0) := by rw [hval]
    grind

/-- A digit 0 leaves all as it was. -/
theorem amul_zero {b : Nat} (hb : 0 < b) : ∀ {zs xs : List Nat}, zs.length = xs.length → Dig b zs → amul b 0 zs xs 0 = (zs, 0)
  | [], [], _, _ => rfl
  | [], _ :: _, h, _ => by simp at h
  | _ :: _, [], h, _ => by simp at h
  | z :: zs, x :: xs, h, hz => by
    have h1 : z < b := hz z (by simp)
    rw [amul_cons]
    have e1 : z + x * 0 + 0 = z := by omega
    rw [e1, Nat.mod_eq_of_lt h1, Nat.div_eq_of_lt h1, amul_zero hb (by simpa using h) (fun e he => hz e (by simp [he]))]

/-! ### lists with a window -/
theorem set_window {α : Type} (P S : List α) (a v : α) : (P ++ a :: S).set P.length v = P ++ v :: S := by
  rw [List.set_append_right _ _ (Nat.le_refl _), Nat.sub_self]; rfl
theorem getElem?_window {α : Type} (P S : List α) (a : α) : (P ++ a :: S)[P.length]? = some a := by
  rw [List.getElem?_append_right (Nat.le_refl _), Nat.sub_self]; rfl

theorem mul_word_bound {x y c : Nat} (hx : x < 18446744073709551616) (hy : y < 18446744073709551616) (hc : c < 18446744073709551616) : x * y / 18446744073709551616 + (x * y % 18446744073709551616 + c) / 18446744073709551616 < 18446744073709551616 ∧
    (x * y % 18446744073709551616 + c) % 18446744073709551616 = (x * y + c) % 18446744073709551616 ∧ x * y / 18446744073709551616 + (x * y % 18446744073709551616 + c) / 18446744073709551616 = (x * y + c) / 18446744073709551616 := by
  have h : x * y ≤ 18446744073709551615 * 18446744073709551615 := Nat.mul_le_mul (by omega) (by omega)
  generalize x * y = p at *
  omega
theorem am_join {x d z q h l s k : Nat} (hx : x < 18446744073709551616) (hd : d < 18446744073709551616) (hz : z < 18446744073709551616) (hq : q < 18446744073709551616)
    (h1 : h = (x * d + z) / 18446744073709551616 ∧ l = (x * d + z) % 18446744073709551616) (h2 : s = (l + q + 0) % 18446744073709551616 ∧ k = (l + q + 0) / 18446744073709551616) :
    s = (z + x * d + q) % 18446744073709551616 ∧ k + h = (z + x * d + q) / 18446744073709551616 ∧ k + h < 18446744073709551616 := by
  have hp : x * d ≤ 18446744073709551615 * 18446744073709551615 := Nat.mul_le_mul (by omega) (by omega)
  generalize x * d = p at *
  omega
end Go.Proofs.YtfkcobdkgjhfaaaGreatDoor

/- Plain: the school method of division by a number of several words: a digit's guess and what it leaves; rows less rows. No program in sight. -/
set_option linter.unusedVariables false
set_option linter.unusedSimpArgs false
namespace Go.Proofs.YtfkcobdkgjhfaaaGreatDoor

/-- What is borrowed. -/
def bow (x y : Nat) : Nat := if x < y then 1 else 0
theorem bow_le (x y : Nat) : bow x y ≤ 1 := by unfold bow; split <;> omega

/-- zs - ys - c, digit by digit, and what is borrowed. -/
def subL (b : Nat) : List Nat → List Nat → Nat → List Nat × Nat
  | z :: zs, y :: ys, c => ((z + b - y - c) % b :: (subL b zs ys (bow z (y + c))).1, (subL b zs ys (bow z (y + c))).2)
  | _, _, c => ([], c)
theorem subL_cons (b z y c : Nat) (zs ys : List Nat) : subL b (z :: zs) (y :: ys) c = ((z + b - y - c) % b :: (subL b zs ys (bow z (y + c))).1, (subL b zs ys (bow z (y + c))).2) := rfl
theorem subL_length (b : Nat) : ∀ {zs ys : List Nat} (c : Nat), zs.length = ys.length → (subL b zs ys c).1.length = ys.length
  | [], [], _, _ => rfl
  | [], _ :: _, _, h => by simp at h
  | _ :: _, [], _, h => by simp at h
  | z :: zs, y :: ys, c, h => by simp [subL_cons, subL_length b (zs := zs) (ys := ys) _ (by simpa using h)]
theorem subL_snoc (b z y : Nat) : ∀ {zs ys : List Nat} (c : Nat), zs.length = ys.length →
    subL b (zs ++ [z]) (ys ++ [y]) c = ((subL b zs ys c).1 ++ [(z + b - y - (subL b zs ys c).2) % b], bow z (y + (subL b zs ys c).2))
  | [], [], _, _ => rfl
  | [], _ :: _, _, h => by simp at h
  | _ :: _, [], _, h => by simp at h
  | z' :: zs, y' :: ys, c, h => by
    simp only [List.cons_append, subL_cons]
    rw [subL_snoc b z y (zs := zs) (ys := ys) _ (by simpa using h)]
theorem subL_dig {b : Nat} (hb : 0 < b) : ∀ {zs ys : List Nat} (c : Nat), Dig b (subL b zs ys c).1
  | [], _, _ => fun e he => by simp [subL] at he
  | _ :: _, [], _ => fun e he => by simp [subL] at he
  | z :: zs, y :: ys, c => by
    intro e he
    rw [subL_cons] at he
    rcases List.mem_cons.1 he with rfl | he
    · exact Nat.mod_lt _ hb
    · exact subL_dig hb _ e he
theorem subL_borrow {b : Nat} : ∀ {zs ys : List Nat} (c : Nat), c ≤ 1 → (subL b zs ys c).2 ≤ 1
  | [], _, _, hc => by simpa [subL] using hc
  | _ :: _, [], _, hc => by simpa [subL] using hc
  | z :: zs, y :: ys, c, hc => by
    rw [subL_cons]
    exact subL_borrow _ (bow_le _ _)
theorem sub_one {b z y c : Nat} (hz : z < b) (hy : y < b) (hc : c ≤ 1) : (z + b - y - c) % b + y + c = z + b * bow z (y + c) := by
  unfold bow
  split
  · rw [Nat.mod_eq_of_lt (by omega)]; omega
  · have e : z + b - y - c = (z - y - c) + b := by omega
    rw [e, Nat.add_mod_right, Nat.mod_eq_of_lt (by omega)]; omega
theorem subL_val {b : Nat} : ∀ {zs ys : List Nat} (c : Nat), zs.length = ys.length → Dig b zs → Dig b ys → c ≤ 1 →
    dval b (subL b zs ys c).1 + dval b ys + c = dval b zs + b ^ ys.length * (subL b zs ys c).2
  | [], [], _, _, _, _, _ => by simp [subL, dval]
  | [], _ :: _, _, h, _, _, _ => by simp at h
  | _ :: _, [], _, h, _, _, _ => by simp at h
  | z :: zs, y :: ys, c, h, hz, hy, hc => by
    have ih := subL_val (b := b) (zs := zs) (ys := ys) (bow z (y + c)) (by simpa using h) (fun e he => hz e (by simp [he])) (fun e he => hy e (by simp [he])) (bow_le _ _)
    have h1 := sub_one (hz z (by simp)) (hy y (by simp)) hc
    rw [subL_cons]
    simp only [dval_cons, List.length_cons, Nat.pow_succ]
    generalize (subL b zs ys (bow z (y + c))).1 = p at *
    generalize (subL b zs ys (bow z (y + c))).2 = q at *
    generalize (z + b - y - c) % b = u at *
    generalize bow z (y + c) = t at *
    generalize dval b p = D at *
    generalize dval b zs = Z at *
    generalize dval b ys = Y at *
    generalize b ^ ys.length = Bn at *
    have e1 : Bn * b * q = b * (Bn * q) := by grind
    have e2 : b * (D + Y + t) = b * (Z + Bn * q) := by rw [ih]
    have e3 : b * (D + Y + t) = b * D + b * Y + b * t := by grind
    have e4 : b * (Z + Bn * q) = b * Z + b * (Bn * q) := by grind
    rw [e1]
    omega

/-! ### the guess -/
section
variable {B P V2 v V U U3 qh v1 v2 T u2 r : Nat}
/-- Not too great by more than one .. -/
theorem kn_hi (hV : V = V2 * P + v) (hv : v ≤ P) (hBP : B * P ≤ V) (hU : U3 * P ≤ U) (hq : qh ≤ B) (h : qh * V2 ≤ U3) : qh * V ≤ U + V := by
  have h1 : qh * V2 * P ≤ U3 * P := Nat.mul_le_mul_right P h
  have h2 : qh * v ≤ B * P := Nat.mul_le_mul hq hv
  have e : qh * V = qh * V2 * P + qh * v := by rw [hV]; grind
  omega
/-- .. nor too small. -/
theorem kn_lo (hV : V2 * P ≤ V) (hU : U < (U3 + 1) * P) (h : U3 < (qh + 1) * V2) : U < (qh + 1) * V := by
  have h1 : (U3 + 1) * P ≤ (qh + 1) * V2 * P := Nat.mul_le_mul_right P h
  have h2 : (qh + 1) * (V2 * P) ≤ (qh + 1) * V := Nat.mul_le_mul_left _ hV
  have e : (qh + 1) * (V2 * P) = (qh + 1) * V2 * P := by grind
  omega
/-- The greatest digit, where the first words are alike. -/
theorem kn_top (hV : V = V2 * P + v) (hv : v ≤ P) (h2 : V2 = v1 * B + v2) (hb : v2 < B) (h1 : B ≤ 2 * v1) (hU : v1 * B * B * P ≤ U) (hB : 0 < B) : (B - 1) * V ≤ U + V := by
  have a1 : V ≤ (v1 * B + B) * P := by
    have : V2 * P + P = (V2 + 1) * P := by grind
    have : (V2 + 1) * P ≤ (v1 * B + B) * P := Nat.mul_le_mul_right P (by omega)
    omega
  have a2 : B * V ≤ v1 * B * B * P + B * B * P := by
    have : B * V ≤ B * ((v1 * B + B) * P) := Nat.mul_le_mul_left B a1
    have e : B * ((v1 * B + B) * P) = v1 * B * B * P + B * B * P := by grind
    omega
  have a3 : B * B * P ≤ 2 * V := by
    have h3 : B * B * P ≤ 2 * v1 * B * P := by
      have : B * B ≤ 2 * v1 * B := Nat.mul_le_mul_right B h1
      exact Nat.mul_le_mul_right P this
    have h4 : v1 * B * P ≤ V2 * P := Nat.mul_le_mul_right P (by omega)
    have e : 2 * v1 * B * P = 2 * (v1 * B * P) := by grind
    omega
  have e : (B - 1) * V + V = B * V := by
    obtain ⟨b, rfl⟩ : ∃ b, B = b + 1 := ⟨B - 1, by omega⟩
    have : b + 1 - 1 = b := by omega
    rw [this]; grind
  omega
/-- What the guess's test asks. -/
theorem kn_cond (h2 : V2 = v1 * B + v2) (h3 : U3 = T * B + u2) (hr : qh * v1 + r = T) : r * B + u2 < qh * v2 ↔ U3 < qh * V2 := by
  have e1 : qh * V2 = qh * v1 * B + qh * v2 := by rw [h2]; grind
  have e2 : U3 = qh * v1 * B + r * B + u2 := by rw [h3, ← hr]; grind
  omega
theorem kn_break (h2 : V2 = v1 * B + v2) (h3 : U3 = T * B + u2) (hr : qh * v1 + r = T) (hb : B ≤ r) (hq : qh < B) (hv : v2 < B) : qh * V2 ≤ U3 := by
  have e1 : qh * V2 = qh * v1 * B + qh * v2 := by rw [h2]; grind
  have e2 : U3 = qh * v1 * B + r * B + u2 := by rw [h3, ← hr]; grind
  have h4 : qh * v2 ≤ B * B := Nat.mul_le_mul (by omega) (by omega)
  have h5 : B * B ≤ r * B := Nat.mul_le_mul_right B hb
  omega
theorem kn_first (h2 : V2 = v1 * B + v2) (h3 : U3 = T * B + u2) (hu : u2 < B) (hv : 0 < v1) (hq : qh = T / v1) : U3 < (qh + 1) * V2 := by
  have h4 : T < (qh + 1) * v1 := by
    have := Nat.div_add_mod T v1
    have := Nat.mod_lt T hv
    have e : (qh + 1) * v1 = v1 * (T / v1) + v1 := by rw [hq]; grind
    omega
  have h5 : (T + 1) * B ≤ (qh + 1) * v1 * B := Nat.mul_le_mul_right B h4
  have e1 : (qh + 1) * V2 = (qh + 1) * v1 * B + (qh + 1) * v2 := by rw [h2]; grind
  have e2 : (T + 1) * B = T * B + B := by grind
  omega
/-- What is left by the right digit. -/
theorem kn_left {q : Nat} (h1 : q * V ≤ U) (h2 : U < (q + 1) * V) : U - q * V < V := by
  have e : (q + 1) * V = q * V + V := by grind
  omega
theorem kn_dec (h1 : U < qh * V) (h2 : qh * V ≤ U + V) : ∃ q, qh = q + 1 ∧ q * V ≤ U ∧ U < (q + 1) * V := by
  rcases Nat.eq_zero_or_pos qh with h | h
  · subst h; omega
  · obtain ⟨q, rfl⟩ : ∃ q, qh = q + 1 := ⟨qh - 1, by omega⟩
    have e : (q + 1) * V = q * V + V := by grind
    exact ⟨q, rfl, by omega, h1⟩
end
end Go.Proofs.YtfkcobdkgjhfaaaGreatDoor
