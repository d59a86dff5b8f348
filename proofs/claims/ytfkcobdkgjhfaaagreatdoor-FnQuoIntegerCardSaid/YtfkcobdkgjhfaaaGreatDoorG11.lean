/- Parts of the proofs: KnVV, KnList. -/
import Derived.Test.YtfkcobdkgjhfaaaGreatDoorG9
import Derived.Test.YtfkcobdkgjhfaaaGreatDoorG10
/- Walks: rows less rows and rows plus rows, in place: subVV, addVV. -/
set_option linter.unusedVariables false
set_option linter.unusedSimpArgs false
namespace Go.Proofs.YtfkcobdkgjhfaaaGreatDoor
open Go.RowKit

/-- What a round of subVV holds. -/
structure SbS (w : World) (g k : Nat) (P S us : List Value) (zs xs : List Nat) (c : Nat) (W : World) : Prop where
  carry : c = (subL 18446744073709551616 (zs.take k) (xs.take k) 0).2
  blk : Blk W g 145 (P ++ wv (subL 18446744073709551616 (zs.take k) (xs.take k) 0).1 ++ us.drop k ++ S).toArray
  fr : Fr w W (fun k => k = g)
theorem SbS.drew {w : World} {g k : Nat} {P S us : List Value} {zs xs : List Nat} {c : Nat} {W : World} (h : SbS w g k P S us zs xs c W) : SbS w g k P S us zs xs c W.drew := ⟨h.carry, h.blk, h.fr.drew⟩
theorem SbS.step {w : World} {g k o : Nat} {P S us : List Value} {zs xs : List Nat} {c : Nat} {W : World} (h : SbS w g k P S us zs xs c W) (ho : o = P.length) (hu : us.length = xs.length) (hz : zs.length = xs.length) (hk : k < xs.length) :
    (∃ u, us[k]? = some u ∧ W.cell? ⟨g, o + k, none⟩ = some u) ∧ W.frozen? ⟨g, o + k, none⟩ = false ∧
      ∀ v c', v = (zs.getD k 0 + 18446744073709551616 - xs.getD k 0 - c) % 18446744073709551616 ∧ c' = bow (zs.getD k 0) (xs.getD k 0 + c) → SbS w g (k + 1) P S us zs xs c' (W.setCell ⟨g, o + k, none⟩ (.int .u64 (v : Int))) := by
  have hl : (zs.take k).length = (xs.take k).length := by simp [List.length_take, hz]
  have hB := h.blk
  have hk2 : k < us.length := by omega
  rw [List.drop_eq_getElem_cons hk2, List.append_assoc, List.cons_append] at hB
  have hpl : o + k = (P ++ wv (subL 18446744073709551616 (zs.take k) (xs.take k) 0).1).length := by
    rw [List.length_append, wv_length, subL_length _ _ hl, List.length_take, ho]; omega
  obtain ⟨h1, h2, h3⟩ := hB.part hpl
  refine ⟨⟨_, List.getElem?_eq_getElem hk2, h1⟩, h2, fun v c' hvc => ?_⟩
  obtain ⟨rfl, rfl⟩ := hvc
  have e := subL_snoc 18446744073709551616 (zs.getD k 0) (xs.getD k 0) (zs := zs.take k) (ys := xs.take k) 0 hl
  rw [← h.carry] at e
  refine ⟨?_, ?_, h.fr.setCell (p := ⟨g, o + k, none⟩) (fun _ => rfl) _⟩
  · rw [take_snoc_getD hk, take_snoc_getD (by omega : k < zs.length), e]
  · rw [take_snoc_getD hk, take_snoc_getD (by omega : k < zs.length), e]
    have := h3 (.int .u64 (((zs.getD k 0 + 18446744073709551616 - xs.getD k 0 - c) % 18446744073709551616 : Nat) : Int))
    rw [wv_append, ← List.append_assoc]
    simpa [wv, List.append_assoc] using this

/-- Behind subVV. -/
def SbVP (w : World) (g : Nat) (P S : List Value) (zs xs : List Nat) (e : Ending) (w' : World) : Prop :=
  ∃ q : Nat, e = .returned (.int .u64 (q : Int)) ∧ Hid (q = (subL 18446744073709551616 zs xs 0).2) ∧ Blk w' g 145 (P ++ wv (subL 18446744073709551616 zs xs 0).1 ++ S).toArray ∧ Fr w w' (fun k => k = g)

set_option maxHeartbeats 1000000 in
set_option maxRecDepth 20000 in
theorem subg_any (g o n c1 c2 : Nat) (P S : List Value) (A : Option Addr) (c : Nat) (zs xs : List Nat) (w : World) (hb : Blk w g 145 (P ++ wv zs ++ S).toArray) (ho : o = P.length) (hz : zs.length = xs.length) (hn : n = xs.length) (hnb : n ≤ 1099511627776) (hc1 : n ≤ c1) (hc2 : n ≤ c2)
    (hx : RdW w (.slice A n c) xs) (hxb : ∀ k, (Value.slice A n c).ownBlock = some k → k ≠ g) :
    Calls Tryz.prog 237 #[.slice (some ⟨g, o, none⟩) n c1, .slice (some ⟨g, o, none⟩) n c2, .slice A n c] w (SbVP w g P S zs xs) := by
  have HS0 : Hid (SbS w g 0 P S (wv zs) zs xs 0 w) := ⟨rfl, by simpa [subL, wv] using hb, Fr.refl _ _⟩
  have hx2 : ∀ i, i < n → ∃ gx q, A = some ⟨gx, q, none⟩ ∧ gx ≠ g ∧ w.cell? ⟨gx, q + i, none⟩ = some (.int .u64 (xs.getD i 0 : Nat)) := by
    intro i hi
    obtain ⟨gx, q, e1, _, e2⟩ := RdG.at_ (k := .u64) hx i (by omega)
    exact ⟨gx, q, e1, hxb gx (by rw [e1]; rfl), e2⟩
  have HX := hide hx2
  have HZ := hide (And.intro ho (And.intro hz hn))
  have fin : ∀ (q : Nat) (W : World), SbS w g n P S (wv zs) zs xs q W → SbVP w g P S zs xs (.returned (.int .u64 (q : Int))) W := by
    intro q W h
    have e1 : zs.take n = zs := List.take_of_length_le (by omega)
    have e2 : xs.take n = xs := List.take_of_length_le (by omega)
    have e3 : (wv zs).drop n = [] := List.drop_of_length_le (by rw [wv_length]; omega)
    have h1 := h.carry
    have h2 := h.blk
    rw [e1, e2] at h1 h2
    rw [e3] at h2
    exact ⟨q, rfl, h1, by simpa [wv] using h2, h.fr⟩
  have Fin := hide fin
  clear hb hx hxb hx2 fin ho hz hn
  go_enter Tryz.func237, Tryz.ntmps237
  go_wp2
  go_loopw [6, 25] (fun vc vi wr => ∃ (k q : Nat), k ≤ n ∧ vi = .int .i64 (k : Int) ∧ vc = .int .u64 (q : Int) ∧ q ≤ 1 ∧ Hid (SbS w g k P S (wv zs) zs xs q wr)) (fun _ vi _ => n - (intOf vi).toNat)
  case atStart => exact ⟨0, 0, Nat.zero_le _, by go_num, by go_num, by omega, HS0⟩
  case round =>
    obtain ⟨k, q, hk, rfl, rfl, hq, HR⟩ := hrel
    by_cases hlt : k < n
    · obtain ⟨gx, ox, rfl, hgx, hcell⟩ := HX.out k hlt
      have hcx : wr.cell? ⟨gx, ox + k, none⟩ = some (.int .u64 (xs.getD k 0 : Nat)) := HR.out.fr.cell hcell hgx
      obtain ⟨⟨u, hu, hcz⟩, hfz, hst⟩ := HR.out.drew.step HZ.out.1 (by rw [wv_length]; exact HZ.out.2.1) HZ.out.2.1 (by rw [← HZ.out.2.2]; exact hlt)
      have hzk : k < zs.length := by have := HZ.out.2.1; have := HZ.out.2.2; omega
      rw [wv_at, List.getElem?_eq_getElem hzk, Option.map_some] at hu
      obtain rfl := Option.some.inj hu
      rw [← getD_at hzk] at hcz
      have HST := hide hst
      clear hst hcell hu hzk
      generalize xs.getD k 0 = x at hcx HST
      generalize zs.getD k 0 = z at hcz HST
      have Con := hide (fun W => sub_any z x q hq W)
      clear HS0 Fin HR
      go_wp2_with fail
      go_region_held3 (fun W => W.cell? ⟨gx, ox + k, none⟩ = some (.int .u64 (x : Int)) ∧ W.cell? ⟨g, o + k, none⟩ = some (.int .u64 (z : Int))) (first | exact ⟨hcx, hcz⟩ | go_keep)
        (first | (go_at_call 234; go_loud (refine (Con.out _).mono ?_; rintro e w3 ⟨h, l, rfl, hp, rfl⟩)))
      have HN := hide (HST.out h l hp.out)
      have hl1 : l ≤ 1 := by rw [hp.out.2]; exact bow_le _ _
      clear hp HST Con
      go_wp2
      go_roundw
      case rel => exact ⟨k + 1, l, by omega, by go_num, rfl, hl1, HN⟩
      case measure => simp [intOf]; omega
    · obtain rfl : k = n := by omega
      have HF := hide (Fin.out q wr HR.out)
      clear HS0 HR Fin
      go_wp2
      go_ret
      exact HF.out
theorem subvv_any (g o n c1 c2 : Nat) (P S : List Value) (A : Option Addr) (c : Nat) (zs xs : List Nat) (w : World) (hb : Blk w g 145 (P ++ wv zs ++ S).toArray) (ho : o = P.length) (hz : zs.length = xs.length) (hn : n = xs.length) (hnb : n ≤ 1099511627776) (hc1 : n ≤ c1) (hc2 : n ≤ c2)
    (hx : RdW w (.slice A n c) xs) (hxb : ∀ k, (Value.slice A n c).ownBlock = some k → k ≠ g) :
    Calls Tryz.prog 203 #[.slice (some ⟨g, o, none⟩) n c1, .slice (some ⟨g, o, none⟩) n c2, .slice A n c] w (SbVP w g P S zs xs) := by
  have Con := hide (subg_any g o n c1 c2 P S A c zs xs w hb ho hz hn hnb hc1 hc2 hx hxb)
  clear hb ho hz hn hx hxb
  go_enter Tryz.func203, Tryz.ntmps203
  go_wp2_with fail
  refine (Con.out).mono ?_
  rintro e w1 ⟨q, rfl, h⟩
  have Fin : Hid (SbVP w g P S zs xs (.returned (.int .u64 (q : Int))) w1) := ⟨q, rfl, h⟩
  clear h Con
  go_wp2
  go_ret
  exact Fin.out
set_option maxHeartbeats 1000000 in
set_option maxRecDepth 20000 in
theorem addg_any (g o n c1 c2 : Nat) (P S : List Value) (A : Option Addr) (c : Nat) (zs xs : List Nat) (w : World) (hb : Blk w g 145 (P ++ wv zs ++ S).toArray) (ho : o = P.length) (hz : zs.length = xs.length) (hn : n = xs.length) (hnb : n ≤ 1099511627776) (hc1 : n ≤ c1) (hc2 : n ≤ c2)
    (hx : RdW w (.slice A n c) xs) (hxb : ∀ k, (Value.slice A n c).ownBlock = some k → k ≠ g) (hdz : Dig 18446744073709551616 zs) (hdx : Dig 18446744073709551616 xs) :
    Calls Tryz.prog 238 #[.slice (some ⟨g, o, none⟩) n c1, .slice (some ⟨g, o, none⟩) n c2, .slice A n c] w (AmP w g 0 1 P S zs xs) := by
  have HS0 : Hid (AmS w g 0 1 0 P S (wv zs) zs xs 0 w) := ⟨rfl, by simpa [amul, wv] using hb, Fr.refl _ _⟩
  have hx2 : ∀ i, i < n → ∃ gx q, A = some ⟨gx, q, none⟩ ∧ gx ≠ g ∧ w.cell? ⟨gx, q + i, none⟩ = some (.int .u64 (xs.getD i 0 : Nat)) := by
    intro i hi
    obtain ⟨gx, q, e1, _, e2⟩ := RdG.at_ (k := .u64) hx i (by omega)
    exact ⟨gx, q, e1, hxb gx (by rw [e1]; rfl), e2⟩
  have HX := hide hx2
  have HZ := hide (And.intro ho (And.intro hz (And.intro hn (And.intro hdz hdx))))
  have fin : ∀ (q : Nat) (W : World), AmS w g 0 1 n P S (wv zs) zs xs q W → AmP w g 0 1 P S zs xs (.returned (.int .u64 (q : Int))) W := by
    intro q W h
    have e1 : zs.take n = zs := List.take_of_length_le (by omega)
    have e2 : xs.take n = xs := List.take_of_length_le (by omega)
    have e3 : (wv zs).drop n = [] := List.drop_of_length_le (by rw [wv_length]; omega)
    have h1 := h.carry
    have h2 := h.blk
    rw [e1, e2] at h1 h2
    rw [e3] at h2
    exact ⟨q, rfl, h1, by simpa [wv] using h2, h.fr⟩
  have Fin := hide fin
  clear hb hx hxb hx2 fin ho hz hn hdz hdx
  go_enter Tryz.func238, Tryz.ntmps238
  go_wp2
  go_loopw [6, 25] (fun vc vi wr => ∃ (k q : Nat), k ≤ n ∧ vi = .int .i64 (k : Int) ∧ vc = .int .u64 (q : Int) ∧ q ≤ 1 ∧ Hid (AmS w g 0 1 k P S (wv zs) zs xs q wr)) (fun _ vi _ => n - (intOf vi).toNat)
  case atStart => exact ⟨0, 0, Nat.zero_le _, by go_num, by go_num, by omega, HS0⟩
  case round =>
    obtain ⟨k, q, hk, rfl, rfl, hq, HR⟩ := hrel
    by_cases hlt : k < n
    · obtain ⟨gx, ox, rfl, hgx, hcell⟩ := HX.out k hlt
      have hcx : wr.cell? ⟨gx, ox + k, none⟩ = some (.int .u64 (xs.getD k 0 : Nat)) := HR.out.fr.cell hcell hgx
      obtain ⟨⟨u, hu, hcz⟩, hfz, hst⟩ := HR.out.drew.step HZ.out.1 (by rw [wv_length]; exact HZ.out.2.1) HZ.out.2.1 (by rw [← HZ.out.2.2.1]; exact hlt)
      have hzk : k < zs.length := by have := HZ.out.2.1; have := HZ.out.2.2.1; omega
      rw [wv_at, List.getElem?_eq_getElem hzk, Option.map_some] at hu
      obtain rfl := Option.some.inj hu
      rw [← getD_at hzk] at hcz
      have hxl : xs.getD k 0 < 18446744073709551616 := HZ.out.2.2.2.2 _ (by rw [getD_at (by have := HZ.out.2.2.1; omega)]; exact List.getElem_mem _)
      have hzl : zs.getD k 0 < 18446744073709551616 := HZ.out.2.2.2.1 _ (by rw [getD_at (by have := HZ.out.2.1; have := HZ.out.2.2.1; omega)]; exact List.getElem_mem _)
      rw [Nat.mul_one] at hst
      have HST := hide hst
      clear hst hcell hu hzk
      generalize xs.getD k 0 = x at hcx hxl HST
      generalize zs.getD k 0 = z at hcz hzl HST
      have Con := hide (fun W => add_any z x q hq W)
      have HL := hide (And.intro hxl (And.intro hzl hq))
      clear HS0 Fin HR hxl hzl
      go_wp2_with fail
      go_region_held3 (fun W => W.cell? ⟨gx, ox + k, none⟩ = some (.int .u64 (x : Int)) ∧ W.cell? ⟨g, o + k, none⟩ = some (.int .u64 (z : Int))) (first | exact ⟨hcx, hcz⟩ | go_keep)
        (first | (go_at_call 233; go_loud (refine (Con.out _).mono ?_; rintro e w3 ⟨h, l, rfl, hp, rfl⟩)))
      have HN := hide (HST.out h l hp.out)
      have hl1 : l ≤ 1 := by rw [hp.out.2]; have := HL.out; omega
      clear hp HST Con HL hq
      go_wp2
      go_roundw
      case rel => exact ⟨k + 1, l, by omega, by go_num, rfl, hl1, HN⟩
      case measure => simp [intOf]; omega
    · obtain rfl : k = n := by omega
      have HF := hide (Fin.out q wr HR.out)
      clear HS0 HR Fin
      go_wp2
      go_ret
      exact HF.out
theorem addvv_any (g o n c1 c2 : Nat) (P S : List Value) (A : Option Addr) (c : Nat) (zs xs : List Nat) (w : World) (hb : Blk w g 145 (P ++ wv zs ++ S).toArray) (ho : o = P.length) (hz : zs.length = xs.length) (hn : n = xs.length) (hnb : n ≤ 1099511627776) (hc1 : n ≤ c1) (hc2 : n ≤ c2)
    (hx : RdW w (.slice A n c) xs) (hxb : ∀ k, (Value.slice A n c).ownBlock = some k → k ≠ g) (hdz : Dig 18446744073709551616 zs) (hdx : Dig 18446744073709551616 xs) :
    Calls Tryz.prog 204 #[.slice (some ⟨g, o, none⟩) n c1, .slice (some ⟨g, o, none⟩) n c2, .slice A n c] w (AmP w g 0 1 P S zs xs) := by
  have Con := hide (addg_any g o n c1 c2 P S A c zs xs w hb ho hz hn hnb hc1 hc2 hx hxb hdz hdx)
  clear hb ho hz hn hx hxb hdz hdx
  go_enter Tryz.func204, Tryz.ntmps204
  go_wp2_with fail
  refine (Con.out).mono ?_
  rintro e w1 ⟨q, rfl, h⟩
  have Fin : Hid (AmP w g 0 1 P S zs xs (.returned (.int .u64 (q : Int))) w1) := ⟨q, rfl, h⟩
  clear h Con
  go_wp2
  go_ret
  exact Fin.out
end Go.Proofs.YtfkcobdkgjhfaaaGreatDoor

/- Plain: the school method of division on lists of digits: what a round holds. No program in sight. -/
set_option linter.unusedVariables false
set_option linter.unusedSimpArgs false
namespace Go.Proofs.YtfkcobdkgjhfaaaGreatDoor
open Go.RowKit

/-- The numbers of a round: the places from k on are done. -/
structure KnN (m n k : Nat) (us0 vs us qk : List Nat) : Prop where
  hu : us.length = m + n
  du : Dig 18446744073709551616 us
  tk : us.take k = us0.take k
  lt : dval 18446744073709551616 (us.drop k) < dval 18446744073709551616 vs
  hq : qk.length = m - k
  dq : Dig 18446744073709551616 qk
  val : dval 18446744073709551616 (us0.drop k) = dval 18446744073709551616 qk * dval 18446744073709551616 vs + dval 18446744073709551616 (us.drop k)

theorem dval_split (b k : Nat) (xs : List Nat) (hk : k ≤ xs.length) : dval b xs = dval b (xs.take k) + b ^ k * dval b (xs.drop k) := by
  have h := dval_append b (xs.take k) (xs.drop k)
  rw [List.take_append_drop, List.length_take, Nat.min_eq_left hk] at h
  exact h
theorem dval_drop1 (b : Nat) (xs : List Nat) (k : Nat) : dval b (xs.drop k) = xs.getD k 0 + b * dval b (xs.drop (k + 1)) := by
  rcases Nat.lt_or_ge k xs.length with h | h
  · rw [drop_getD h, dval_cons]
  · rw [List.drop_of_length_le h, List.drop_of_length_le (by omega), dval_nil, List.getD_eq_getElem?_getD, List.getElem?_eq_none h]; simp
theorem dig_take {b : Nat} {xs : List Nat} (h : Dig b xs) (k : Nat) : Dig b (xs.take k) := fun e he => h e (List.mem_of_mem_take he)
theorem dig_drop {b : Nat} {xs : List Nat} (h : Dig b xs) (k : Nat) : Dig b (xs.drop k) := fun e he => h e (List.mem_of_mem_drop he)
theorem dig_append {b : Nat} {xs ys : List Nat} (h : Dig b xs) (k : Dig b ys) : Dig b (xs ++ ys) := fun e he => (List.mem_append.1 he).elim (h e) (k e)
theorem dig_getD {b : Nat} (hb : 0 < b) {xs : List Nat} (h : Dig b xs) (k : Nat) : xs.getD k 0 < b := by
  rcases Nat.lt_or_ge k xs.length with h1 | h1
  · rw [getD_at h1]; exact h _ (List.getElem_mem _)
  · rw [List.getD_eq_getElem?_getD, List.getElem?_eq_none h1]; simpa using hb

/-- What is left times the base, and the next word: less than base times divisor. -/
theorem KnN.u_lt {m n j : Nat} {us0 vs us qk : List Nat} (h : KnN m n (j + 1) us0 vs us qk) : dval 18446744073709551616 (us.drop j) < 18446744073709551616 * dval 18446744073709551616 vs := by
  have h1 := dval_drop1 18446744073709551616 us j
  have h2 := dig_getD (by omega) h.du j
  have h3 := h.lt
  omega
theorem KnN.high {m n j : Nat} {us0 vs us qk : List Nat} (h : KnN m n (j + 1) us0 vs us qk) (hv : vs.length = n) (hdv : Dig 18446744073709551616 vs) (hj : j + n ≤ m + n) : dval 18446744073709551616 (us.drop (j + n)) = us.getD (j + n) 0 ∧ dval 18446744073709551616 (us.drop (j + n + 1)) = 0 := by
  have h1 := h.u_lt
  have h2 := dval_lt (b := 18446744073709551616) (by omega) hdv
  rw [hv] at h2
  have h3 := dval_split 18446744073709551616 n (us.drop j) (by rw [List.length_drop, h.hu]; omega)
  rw [List.drop_drop] at h3
  have h4 := dval_drop1 18446744073709551616 us (j + n)
  generalize dval 18446744073709551616 (us.drop (j + n)) = D at *
  generalize dval 18446744073709551616 (us.drop (j + n + 1)) = E at *
  generalize dval 18446744073709551616 (us.drop j) = U at *
  generalize dval 18446744073709551616 ((us.drop j).take n) = L at *
  generalize dval 18446744073709551616 vs = V at *
  have h5 : 18446744073709551616 ^ n * D < 18446744073709551616 ^ n * 18446744073709551616 := by
    have : 18446744073709551616 * V ≤ 18446744073709551616 * 18446744073709551616 ^ n := Nat.mul_le_mul_left _ (Nat.le_of_lt h2)
    have e : 18446744073709551616 * 18446744073709551616 ^ n = 18446744073709551616 ^ n * 18446744073709551616 := Nat.mul_comm _ _
    omega
  have h6 : D < 18446744073709551616 := Nat.lt_of_mul_lt_mul_left h5
  omega

theorem kn_v {B P v1 v2 vl V : Nat} (h : V = vl + P * (v2 + B * (v1 + B * 0))) (h1 : 1 ≤ v1) : V = (v1 * B + v2) * P + vl ∧ B * P ≤ V := by
  have h2 : 1 * (B * P) ≤ v1 * (B * P) := Nat.mul_le_mul_right _ h1
  refine ⟨by rw [h]; grind, ?_⟩
  have : V = v1 * (B * P) + v2 * P + vl := by rw [h]; grind
  omega
theorem kn_u {B P t u1 u2 ul U : Nat} (h : U = ul + P * (u2 + B * (u1 + B * t))) (h1 : ul < P) : ((t * B + u1) * B + u2) * P ≤ U ∧ U < ((t * B + u1) * B + u2 + 1) * P := by
  have e : U = ((t * B + u1) * B + u2) * P + ul := by rw [h]; grind
  have e2 : ((t * B + u1) * B + u2 + 1) * P = ((t * B + u1) * B + u2) * P + P := by grind
  omega
theorem kn_t {B P t v1 v2 vl V R cl : Nat} (hv : V = vl + P * (v2 + B * (v1 + B * 0))) (h1 : vl < P) (h2 : v2 < B) (hR : R = cl + P * B * t) (h : R < V) : t ≤ v1 := by
  have h3 : P * v2 + P ≤ P * B := by
    have : P * (v2 + 1) ≤ P * B := Nat.mul_le_mul_left P h2
    have e : P * (v2 + 1) = P * v2 + P := by grind
    omega
  have h4 : t * (P * B) < (v1 + 1) * (P * B) := by
    have e1 : t * (P * B) = P * B * t := by grind
    have e2 : (v1 + 1) * (P * B) = P * B * v1 + P * B := by grind
    have e3 : V = vl + P * v2 + P * B * v1 := by rw [hv]; grind
    omega
  have := Nat.lt_of_mul_lt_mul_right h4
  omega

/-- The first words of the number that is left and of the divisor. -/
theorem KnN.words {m n j : Nat} {us0 vs us qk : List Nat} (h : KnN m n (j + 1) us0 vs us qk) (hv : vs.length = n) (hn : 2 ≤ n) (hdv : Dig 18446744073709551616 vs) (hj : j ≤ m) (hnorm : 18446744073709551616 ≤ 2 * vs.getD (n - 1) 0) :
    ∃ P v, dval 18446744073709551616 vs = (vs.getD (n - 1) 0 * 18446744073709551616 + vs.getD (n - 2) 0) * P + v ∧ v ≤ P ∧ 18446744073709551616 * P ≤ dval 18446744073709551616 vs ∧
      ((us.getD (j + n) 0 * 18446744073709551616 + us.getD (j + n - 1) 0) * 18446744073709551616 + us.getD (j + n - 2) 0) * P ≤ dval 18446744073709551616 (us.drop j) ∧
      dval 18446744073709551616 (us.drop j) < ((us.getD (j + n) 0 * 18446744073709551616 + us.getD (j + n - 1) 0) * 18446744073709551616 + us.getD (j + n - 2) 0 + 1) * P ∧ us.getD (j + n) 0 ≤ vs.getD (n - 1) 0 ∧ 0 < P := by
  obtain ⟨i, rfl⟩ : ∃ i, n = i + 2 := ⟨n - 2, by omega⟩
  have hh := (h.high hv hdv (by omega)).1
  have hlt := h.lt
  have hp : 0 < 18446744073709551616 ^ i := Nat.pow_pos (by omega)
  have e1 : i + 2 - 1 = i + 1 := by omega
  have e2 : i + 2 - 2 = i := by omega
  have e3 : j + (i + 2) - 1 = j + i + 1 := by omega
  have e4 : j + (i + 2) - 2 = j + i := by omega
  rw [e1] at hnorm
  rw [e1, e2, e3, e4]
  have a1 := dval_split 18446744073709551616 i vs (by omega)
  have a4 : dval 18446744073709551616 (vs.drop (i + 1 + 1)) = 0 := by rw [List.drop_of_length_le (by omega), dval_nil]
  rw [dval_drop1 18446744073709551616 vs i, dval_drop1 18446744073709551616 vs (i + 1), a4] at a1
  have a5 := dval_lt (b := 18446744073709551616) (by omega) (dig_take hdv i)
  have a6 : 18446744073709551616 ^ (vs.take i).length ≤ 18446744073709551616 ^ i := Nat.pow_le_pow_right (by omega) (by rw [List.length_take]; omega)
  have b1 := dval_split 18446744073709551616 i (us.drop j) (by rw [List.length_drop, h.hu]; omega)
  rw [List.drop_drop, dval_drop1 18446744073709551616 us (j + i), dval_drop1 18446744073709551616 us (j + i + 1), show j + i + 1 + 1 = j + (i + 2) by omega, hh] at b1
  have b5 := dval_lt (b := 18446744073709551616) (by omega) (dig_take (dig_drop h.du j) i)
  have b6 : 18446744073709551616 ^ ((us.drop j).take i).length ≤ 18446744073709551616 ^ i := Nat.pow_le_pow_right (by omega) (by rw [List.length_take]; omega)
  have c1 := dval_split 18446744073709551616 (i + 1) (us.drop (j + 1)) (by rw [List.length_drop, h.hu]; omega)
  rw [List.drop_drop, show j + 1 + (i + 1) = j + (i + 2) by omega, hh, Nat.pow_succ] at c1
  obtain ⟨k1, k2⟩ := kn_v a1 (by omega)
  obtain ⟨k3, k4⟩ := kn_u b1 (by omega)
  exact ⟨18446744073709551616 ^ i, dval 18446744073709551616 (vs.take i), k1, by omega, k2, k3, k4, kn_t a1 (by omega) (dig_getD (by omega) hdv i) c1 hlt, hp⟩

/-- A round's end: the window holds what the digit q leaves. -/
theorem KnN.step {m n j q : Nat} {us0 vs us qk rd : List Nat} (h : KnN m n (j + 1) us0 vs us qk) (hv : vs.length = n) (hdv : Dig 18446744073709551616 vs) (hj : j < m) (h0 : us0.length = m + n) (hl : rd.length = n + 1) (hd : Dig 18446744073709551616 rd) (hq : q < 18446744073709551616)
    (hU : dval 18446744073709551616 (us.drop j) = q * dval 18446744073709551616 vs + dval 18446744073709551616 rd) (hR : dval 18446744073709551616 rd < dval 18446744073709551616 vs) : KnN m n j us0 vs (us.take j ++ rd ++ us.drop (j + n + 1)) (q :: qk) := by
  have hhi := (h.high hv hdv (by omega)).2
  have hlt : (us.take j).length = j := by rw [List.length_take, h.hu]; omega
  have hdr : dval 18446744073709551616 ((us.take j ++ rd ++ us.drop (j + n + 1)).drop j) = dval 18446744073709551616 rd := by
    rw [List.append_assoc, List.drop_append_of_le_length (by omega), List.drop_of_length_le (by omega : (us.take j).length ≤ j), List.nil_append, dval_append, hhi]; simp
  refine ⟨?_, dig_append (dig_append (dig_take h.du j) hd) (dig_drop h.du _), ?_, by rw [hdr]; exact hR, ?_, ?_, ?_⟩
  · simp only [List.length_append, List.length_drop, hlt, hl, h.hu]; omega
  · rw [List.append_assoc, List.take_append_of_le_length (by omega), List.take_take, Nat.min_self]
    have := congrArg (List.take j) h.tk
    rwa [List.take_take, List.take_take, Nat.min_eq_left (by omega)] at this
  · rw [List.length_cons, h.hq]; omega
  · intro e he
    rcases List.mem_cons.1 he with rfl | he
    · exact hq
    · exact h.dq e he
  · rw [hdr]
    have a1 := dval_drop1 18446744073709551616 us0 j
    have a2 := dval_drop1 18446744073709551616 us j
    have a3 := h.val
    have a4 : us0.getD j 0 = us.getD j 0 := by
      have e : (us.take (j + 1)).getD j 0 = (us0.take (j + 1)).getD j 0 := by rw [h.tk]
      have g : ∀ l : List Nat, j + 1 ≤ l.length → (l.take (j + 1)).getD j 0 = l.getD j 0 := fun l hl => by
        rw [List.getD_eq_getElem?_getD, List.getD_eq_getElem?_getD, List.getElem?_take_of_lt (by omega)]
      rw [g us (by rw [h.hu]; omega), g us0 (by omega)] at e
      exact e.symm
    rw [dval_cons]
    generalize dval 18446744073709551616 vs = V at *
    generalize dval 18446744073709551616 rd = R at *
    generalize dval 18446744073709551616 qk = Q at *
    rw [a1, a4, a3]
    have e1 : (q + 18446744073709551616 * Q) * V = q * V + 18446744073709551616 * (Q * V) := by grind
    rw [e1]
    omega
/-- The first round: nothing is taken. -/
theorem KnN.last {m n : Nat} {us0 vs us sd : List Nat} (h : KnN m n (m + 1) us0 vs us []) (h0 : us0.length = m + n) (hl : sd.length = n) (hd : Dig 18446744073709551616 sd) (hU : dval 18446744073709551616 sd = dval 18446744073709551616 (us.drop m))
    (hlt : dval 18446744073709551616 (us0.drop m) < dval 18446744073709551616 vs) : KnN m n m us0 vs (us.take m ++ sd) [] := by
  have hltk : (us.take m).length = m := by rw [List.length_take, h.hu]; omega
  have hdr : dval 18446744073709551616 ((us.take m ++ sd).drop m) = dval 18446744073709551616 sd := by
    rw [List.drop_append_of_le_length (by omega), List.drop_of_length_le (by omega : (us.take m).length ≤ m), List.nil_append]
  have hUU : dval 18446744073709551616 (us.drop m) = dval 18446744073709551616 (us0.drop m) := by
    have a1 := dval_drop1 18446744073709551616 us0 m
    have a2 := dval_drop1 18446744073709551616 us m
    have a3 := h.val
    have a4 : us0.getD m 0 = us.getD m 0 := by
      have e : (us.take (m + 1)).getD m 0 = (us0.take (m + 1)).getD m 0 := by rw [h.tk]
      have g : ∀ l : List Nat, (l.take (m + 1)).getD m 0 = l.getD m 0 := fun l => by
        rw [List.getD_eq_getElem?_getD, List.getD_eq_getElem?_getD, List.getElem?_take_of_lt (by omega)]
      rw [g us, g us0] at e
      exact e.symm
    rw [dval_nil, Nat.zero_mul, Nat.zero_add] at a3
    omega
  refine ⟨?_, dig_append (dig_take h.du m) hd, ?_, by rw [hdr, hU, hUU]; exact hlt, by simp, fun e he => by simp at he, ?_⟩
  · rw [List.length_append, hltk, hl]
  · rw [List.take_append_of_le_length (by omega), List.take_take, Nat.min_self]
    have := congrArg (List.take m) h.tk
    rwa [List.take_take, List.take_take, Nat.min_eq_left (by omega)] at this
  · rw [hdr, hU, hUU, dval_nil]; simp
/-- The add-back: the window's carry goes into its last word. -/
theorem kn_back {n V R : Nat} {sd ad : List Nat} {c : Nat} (hl : sd.length = n + 1) (hal : ad.length = n) (hda : Dig 18446744073709551616 ad) (h1 : dval 18446744073709551616 ad + 18446744073709551616 ^ n * c = dval 18446744073709551616 (sd.take n) + V)
    (h2 : dval 18446744073709551616 sd + V = R + 18446744073709551616 ^ (n + 1)) (hR : R < 18446744073709551616 ^ n) : sd.getD n 0 + c = 18446744073709551616 ∧ dval 18446744073709551616 ad = R := by
  have a1 := dval_split 18446744073709551616 n sd (by omega)
  rw [dval_drop1, List.drop_of_length_le (by omega : sd.length ≤ n + 1), dval_nil] at a1
  have a2 := dval_lt (b := 18446744073709551616) (by omega) hda
  rw [hal] at a2
  rw [Nat.pow_succ] at h2
  generalize dval 18446744073709551616 sd = S at *
  generalize dval 18446744073709551616 (sd.take n) = T at *
  generalize dval 18446744073709551616 ad = A at *
  generalize sd.getD n 0 = x at *
  generalize 18446744073709551616 ^ n = Bn at *
  have e1 : A + Bn * (x + c) = R + Bn * 18446744073709551616 := by
    have : Bn * (x + c) = Bn * x + Bn * c := Nat.mul_add _ _ _
    have : Bn * (x + 18446744073709551616 * 0) = Bn * x := by simp
    omega
  have e2 : x + c = 18446744073709551616 := by
    rcases Nat.lt_trichotomy (x + c) 18446744073709551616 with h | h | h
    · have : Bn * (x + c + 1) ≤ Bn * 18446744073709551616 := Nat.mul_le_mul_left _ h
      have e : Bn * (x + c + 1) = Bn * (x + c) + Bn := by grind
      omega
    · exact h
    · have : Bn * (18446744073709551616 + 1) ≤ Bn * (x + c) := Nat.mul_le_mul_left _ h
      have e : Bn * (18446744073709551616 + 1) = Bn * 18446744073709551616 + Bn := by grind
      omega
  rw [e2] at e1
  exact ⟨e2, by omega⟩
end Go.Proofs.YtfkcobdkgjhfaaaGreatDoor
