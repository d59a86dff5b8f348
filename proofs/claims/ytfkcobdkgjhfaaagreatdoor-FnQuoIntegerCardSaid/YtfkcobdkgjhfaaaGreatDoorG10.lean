/- Parts of the proofs: MulV. -/
import Derived.Deep.RegionHeld3
import Derived.Test.YtfkcobdkgjhfaaaGreatDoorG2
import Derived.Test.YtfkcobdkgjhfaaaGreatDoorG5
import Derived.Test.YtfkcobdkgjhfaaaGreatDoorG9
/- Walks: a row of words times a word: mulWW, mulAddWWW, mulAddVWW, addMulVVWW. -/
set_option linter.unusedVariables false
set_option linter.unusedSimpArgs false
namespace Go.Proofs.YtfkcobdkgjhfaaaGreatDoor
open Go.RowKit

set_option maxRecDepth 20000 in
theorem mulWW_any (x y : Nat) (hx : x < 18446744073709551616) (hy : y < 18446744073709551616) (w : World) :
    Calls Tryz.prog 200 #[.int .u64 (x : Int), .int .u64 (y : Int)] w (PairP (fun h l => h = x * y / 18446744073709551616 ∧ l = x * y % 18446744073709551616) w) := by
  have Con := hide (mul_any x y hx hy w)
  go_enter Tryz.func200, Tryz.ntmps200
  go_wp2_with fail
  refine (Con.out).mono ?_
  rintro e w1 ⟨h, l, rfl, hp, rfl⟩
  clear Con
  go_wp2
  go_ret2
  exact ⟨h, l, rfl, hp, rfl⟩

set_option maxRecDepth 20000 in
theorem maww_any (x y c : Nat) (hx : x < 18446744073709551616) (hy : y < 18446744073709551616) (hc : c < 18446744073709551616) (w : World) :
    Calls Tryz.prog 265 #[.int .u64 (x : Int), .int .u64 (y : Int), .int .u64 (c : Int)] w (PairP (fun h l => h = (x * y + c) / 18446744073709551616 ∧ l = (x * y + c) % 18446744073709551616) w) := by
  have Con := hide (mul_any x y hx hy w)
  have HB := hide (mul_word_bound hx hy hc)
  go_enter Tryz.func265, Tryz.ntmps265
  go_wp2_with fail
  refine (Con.out).mono ?_
  rintro e w1 ⟨h, l, rfl, hp, rfl⟩
  have Con2 := hide (add_any l c 0 (by omega) w1)
  clear Con
  go_wp2_with fail
  refine (Con2.out).mono ?_
  rintro e w2 ⟨s, k, rfl, hq, rfl⟩
  have hlt : h + k < 18446744073709551616 ∧ s = (x * y + c) % 18446744073709551616 ∧ h + k = (x * y + c) / 18446744073709551616 := by
    obtain ⟨rfl, rfl⟩ := hp.out
    obtain ⟨rfl, rfl⟩ := hq.out
    obtain ⟨b1, b2, b3⟩ := HB.out
    exact ⟨by rw [Nat.add_zero]; exact b1, by rw [Nat.add_zero]; exact b2, by rw [Nat.add_zero]; exact b3⟩
  obtain ⟨h1, h2, h3⟩ := hlt
  obtain ⟨m, hm⟩ : ∃ m, m = h + k := ⟨_, rfl⟩
  have Fin : Hid (m = (x * y + c) / 18446744073709551616 ∧ s = (x * y + c) % 18446744073709551616) := ⟨hm.trans h3, h2⟩
  have e1 : IntKind.u64.wrap ((h : Int) + (k : Int)) = (m : Int) := by simp [IntKind.wrap, IntKind.signed, IntKind.bits]; omega
  clear h1 h2 h3 hm hp hq HB Con2 hx hy hc
  go_wp2
  go_ret2
  exact ⟨m, s, rfl, Fin.out, rfl⟩

/-- A block in three parts. -/
theorem Blk.part {w : World} {g : Nat} {t : TypeId} {P S : List Value} {a : Value} {i : Nat} (h : Blk w g t (P ++ a :: S).toArray) (hi : i = P.length) : w.cell? ⟨g, i, none⟩ = some a ∧ w.frozen? ⟨g, i, none⟩ = false ∧ ∀ v, Blk (w.setCell ⟨g, i, none⟩ v) g t (P ++ v :: S).toArray := by
  subst hi
  refine ⟨?_, h.frozen _, fun v => ?_⟩
  · rw [h.cell]; simp
  · have := h.set P.length v
    rw [List.setIfInBounds_toArray, set_window] at this
    exact this

/-- What a round of addMulVVWW holds. -/
structure AmS (w : World) (g a d k : Nat) (P S us : List Value) (zs xs : List Nat) (c : Nat) (W : World) : Prop where
  carry : c = (amul 18446744073709551616 d (zs.take k) (xs.take k) a).2
  blk : Blk W g 145 (P ++ wv (amul 18446744073709551616 d (zs.take k) (xs.take k) a).1 ++ us.drop k ++ S).toArray
  fr : Fr w W (fun k => k = g)

theorem wv_append (xs ys : List Nat) : wv (xs ++ ys) = wv xs ++ wv ys := by simp [wv]
theorem wv_cons (x : Nat) (ys : List Nat) : wv (x :: ys) = Value.int .u64 (x : Int) :: wv ys := rfl
theorem take_snoc_getD {xs : List Nat} {k : Nat} (h : k < xs.length) : xs.take (k + 1) = xs.take k ++ [xs.getD k 0] := by
  rw [List.take_succ_eq_append_getElem h, getD_at h]
theorem drop_getD {xs : List Nat} {k : Nat} (h : k < xs.length) : xs.drop k = xs.getD k 0 :: xs.drop (k + 1) := by
  rw [getD_at h]; exact List.drop_eq_getElem_cons h

theorem AmS.drew {w : World} {g a d k : Nat} {P S us : List Value} {zs xs : List Nat} {c : Nat} {W : World} (h : AmS w g a d k P S us zs xs c W) : AmS w g a d k P S us zs xs c W.drew := ⟨h.carry, h.blk, h.fr.drew⟩
theorem AmS.step {w : World} {g a d k o : Nat} {P S us : List Value} {zs xs : List Nat} {c : Nat} {W : World} (h : AmS w g a d k P S us zs xs c W) (ho : o = P.length) (hu : us.length = xs.length) (hz : zs.length = xs.length) (hk : k < xs.length) :
    (∃ u, us[k]? = some u ∧ W.cell? ⟨g, o + k, none⟩ = some u) ∧ W.frozen? ⟨g, o + k, none⟩ = false ∧
      ∀ v c', v = (zs.getD k 0 + xs.getD k 0 * d + c) % 18446744073709551616 ∧ c' = (zs.getD k 0 + xs.getD k 0 * d + c) / 18446744073709551616 → AmS w g a d (k + 1) P S us zs xs c' (W.setCell ⟨g, o + k, none⟩ (.int .u64 (v : Int))) := by
  have hl : (zs.take k).length = (xs.take k).length := by simp [List.length_take, hz]
  have hB := h.blk
  have hk2 : k < us.length := by omega
  rw [List.drop_eq_getElem_cons hk2, List.append_assoc, List.cons_append] at hB
  have hpl : o + k = (P ++ wv (amul 18446744073709551616 d (zs.take k) (xs.take k) a).1).length := by
    rw [List.length_append, wv_length, amul_length _ _ _ hl, List.length_take, ho]; omega
  obtain ⟨h1, h2, h3⟩ := hB.part hpl
  refine ⟨⟨_, List.getElem?_eq_getElem hk2, h1⟩, h2, fun v c' hvc => ?_⟩
  obtain ⟨rfl, rfl⟩ := hvc
  have e := amul_snoc 18446744073709551616 d (zs.getD k 0) (xs.getD k 0) (zs := zs.take k) (xs := xs.take k) a hl
  rw [← h.carry] at e
  refine ⟨?_, ?_, h.fr.setCell (p := ⟨g, o + k, none⟩) (fun _ => rfl) _⟩
  · rw [take_snoc_getD hk, take_snoc_getD (by omega : k < zs.length), e]
  · rw [take_snoc_getD hk, take_snoc_getD (by omega : k < zs.length), e]
    have := h3 (.int .u64 (((zs.getD k 0 + xs.getD k 0 * d + c) % 18446744073709551616 : Nat) : Int))
    rw [wv_append, ← List.append_assoc]
    simpa [wv, List.append_assoc] using this

/-- Behind addMulVVWW. -/
def AmP (w : World) (g a d : Nat) (P S : List Value) (zs xs : List Nat) (e : Ending) (w' : World) : Prop :=
  ∃ q : Nat, e = .returned (.int .u64 (q : Int)) ∧ Hid (q = (amul 18446744073709551616 d zs xs a).2) ∧ Blk w' g 145 (P ++ wv (amul 18446744073709551616 d zs xs a).1 ++ S).toArray ∧ Fr w w' (fun k => k = g)

set_option maxHeartbeats 1000000 in
set_option maxRecDepth 20000 in
/-- z may be x itself. -/
theorem mavg_any (g o n c1 a d : Nat) (P S us : List Value) (A : Option Addr) (c : Nat) (xs : List Nat) (w : World) (hb : Blk w g 145 (P ++ us ++ S).toArray) (ho : o = P.length) (hu : us.length = xs.length) (hn : n = xs.length) (hnb : n ≤ 1099511627776) (hc1 : n ≤ c1)
    (hx : (RdW w (.slice A n c) xs ∧ ∀ k, (Value.slice A n c).ownBlock = some k → k ≠ g) ∨ (A = some ⟨g, o, none⟩ ∧ us = wv xs)) (ha : a < 18446744073709551616) (hd : d < 18446744073709551616) (hdx : Dig 18446744073709551616 xs) :
    Calls Tryz.prog 236 #[.slice (some ⟨g, o, none⟩) n c1, .slice A n c, .int .u64 (d : Int), .int .u64 (a : Int)] w (AmP w g a d P S (List.replicate n 0) xs) := by
  have HS0 : Hid (AmS w g a d 0 P S us (List.replicate n 0) xs a w) := ⟨rfl, by simpa [amul, wv] using hb, Fr.refl _ _⟩
  have hx2 : ∀ k q W, k < n → AmS w g a d k P S us (List.replicate n 0) xs q W → ∃ gx o', A = some ⟨gx, o', none⟩ ∧ W.cell? ⟨gx, o' + k, none⟩ = some (.int .u64 (xs.getD k 0 : Nat)) := by
    intro k q W hk hS
    rcases hx with ⟨h1, h2⟩ | ⟨h1, h2⟩
    · obtain ⟨gx, o', e1, _, e2⟩ := RdG.at_ (k := .u64) h1 k (by omega)
      exact ⟨gx, o', e1, hS.fr.cell e2 (h2 gx (by rw [e1]; rfl))⟩
    · subst h2
      obtain ⟨⟨u, hu1, hu2⟩, _⟩ := hS.step ho (wv_length xs) (by simp [hn]) (by omega)
      rw [wv_at, List.getElem?_eq_getElem (by omega), Option.map_some] at hu1
      obtain rfl := Option.some.inj hu1
      rw [← getD_at (by omega)] at hu2
      exact ⟨g, o, h1, hu2⟩
  have HX := hide hx2
  have HZ := hide (And.intro ho (And.intro hu (And.intro hn hdx)))
  have fin : ∀ (q : Nat) (W : World), AmS w g a d n P S us (List.replicate n 0) xs q W → AmP w g a d P S (List.replicate n 0) xs (.returned (.int .u64 (q : Int))) W := by
    intro q W h
    have e1 : (List.replicate n 0).take n = List.replicate n 0 := List.take_of_length_le (by simp)
    have e2 : xs.take n = xs := List.take_of_length_le (by omega)
    have e3 : us.drop n = [] := List.drop_of_length_le (by omega)
    have h1 := h.carry
    have h2 := h.blk
    rw [e1, e2] at h1 h2
    rw [e3] at h2
    exact ⟨q, rfl, h1, by simpa [wv] using h2, h.fr⟩
  have Fin := hide fin
  clear hb hx hx2 fin ho hu hn hdx
  go_enter Tryz.func236, Tryz.ntmps236
  go_wp2
  go_loopw [8, 19] (fun vc vi wr => ∃ (k q : Nat), k ≤ n ∧ vi = .int .i64 (k : Int) ∧ vc = .int .u64 (q : Int) ∧ q < 18446744073709551616 ∧ Hid (AmS w g a d k P S us (List.replicate n 0) xs q wr)) (fun _ vi _ => n - (intOf vi).toNat)
  case atStart => exact ⟨0, a, Nat.zero_le _, by go_num, rfl, ha, HS0⟩
  case round =>
    obtain ⟨k, q, hk, rfl, rfl, hq, HR⟩ := hrel
    by_cases hlt : k < n
    · obtain ⟨gx, ox, rfl, hcx⟩ := HX.out k q wr hlt HR.out
      obtain ⟨⟨u, _, hcz⟩, hfz, hst⟩ := HR.out.step HZ.out.1 HZ.out.2.1 (by simp [HZ.out.2.2.1]) (by rw [← HZ.out.2.2.1]; exact hlt)
      have hxl : xs.getD k 0 < 18446744073709551616 := HZ.out.2.2.2 _ (by rw [getD_at (by have := HZ.out.2.2.1; omega)]; exact List.getElem_mem _)
      have hz0 : (List.replicate n 0).getD k 0 = 0 := by simp [List.getD_eq_getElem?_getD, hlt]
      have HST := hide hst
      rw [hz0] at HST
      clear hst hz0
      generalize xs.getD k 0 = x at hcx hxl HST
      have Con := hide (maww_any x d q hxl hd hq wr)
      clear HS0 Fin HR HX
      go_wp2_with fail
      refine (Con.out).mono ?_
      rintro e w3 ⟨h, l, rfl, hp, rfl⟩
      have hp2 : l = (0 + x * d + q) % 18446744073709551616 ∧ h = (0 + x * d + q) / 18446744073709551616 := by rw [Nat.zero_add]; exact ⟨hp.out.2, hp.out.1⟩
      have HN := hide (HST.out l h hp2)
      have hml : h < 18446744073709551616 := by rw [hp.out.1]; have := mul_word_bound hxl hd hq; omega
      clear hp hp2 HST Con hxl
      go_wp2
      go_roundw
      case rel => exact ⟨k + 1, h, by omega, by go_num, rfl, hml, HN⟩
      case measure => simp [intOf]; omega
    · obtain rfl : k = n := by omega
      have HF := hide (Fin.out q wr HR.out)
      clear HS0 HR Fin HX
      go_wp2
      go_ret
      exact HF.out
theorem mav_any (g o n c1 a d : Nat) (P S us : List Value) (A : Option Addr) (c : Nat) (xs : List Nat) (w : World) (hb : Blk w g 145 (P ++ us ++ S).toArray) (ho : o = P.length) (hu : us.length = xs.length) (hn : n = xs.length) (hnb : n ≤ 1099511627776) (hc1 : n ≤ c1)
    (hx : (RdW w (.slice A n c) xs ∧ ∀ k, (Value.slice A n c).ownBlock = some k → k ≠ g) ∨ (A = some ⟨g, o, none⟩ ∧ us = wv xs)) (ha : a < 18446744073709551616) (hd : d < 18446744073709551616) (hdx : Dig 18446744073709551616 xs) :
    Calls Tryz.prog 202 #[.slice (some ⟨g, o, none⟩) n c1, .slice A n c, .int .u64 (d : Int), .int .u64 (a : Int)] w (AmP w g a d P S (List.replicate n 0) xs) := by
  have Con := hide (mavg_any g o n c1 a d P S us A c xs w hb ho hu hn hnb hc1 hx ha hd hdx)
  clear hb ho hu hn hx hdx
  go_enter Tryz.func202, Tryz.ntmps202
  go_wp2_with fail
  refine (Con.out).mono ?_
  rintro e w1 ⟨q, rfl, h⟩
  have Fin : Hid (AmP w g a d P S (List.replicate n 0) xs (.returned (.int .u64 (q : Int))) w1) := ⟨q, rfl, h⟩
  clear h Con
  go_wp2
  go_ret
  exact Fin.out

set_option maxHeartbeats 1000000 in
set_option maxRecDepth 20000 in
theorem amvg_any (g o n c1 c2 a d : Nat) (P S : List Value) (A : Option Addr) (c : Nat) (zs xs : List Nat) (w : World) (hb : Blk w g 145 (P ++ wv zs ++ S).toArray) (ho : o = P.length) (hz : zs.length = xs.length) (hn : n = xs.length) (hnb : n ≤ 1099511627776) (hc1 : n ≤ c1) (hc2 : n ≤ c2)
    (hx : RdW w (.slice A n c) xs) (hxb : ∀ k, (Value.slice A n c).ownBlock = some k → k ≠ g) (ha : a < 18446744073709551616) (hd : d < 18446744073709551616) (hdz : Dig 18446744073709551616 zs) (hdx : Dig 18446744073709551616 xs) :
    Calls Tryz.prog 266 #[.slice (some ⟨g, o, none⟩) n c1, .slice (some ⟨g, o, none⟩) n c2, .slice A n c, .int .u64 (d : Int), .int .u64 (a : Int)] w (AmP w g a d P S zs xs) := by
  have HS0 : Hid (AmS w g a d 0 P S (wv zs) zs xs a w) := ⟨rfl, by simpa [amul, wv] using hb, Fr.refl _ _⟩
  have hx2 : ∀ i, i < n → ∃ gx q, A = some ⟨gx, q, none⟩ ∧ gx ≠ g ∧ w.cell? ⟨gx, q + i, none⟩ = some (.int .u64 (xs.getD i 0 : Nat)) := by
    intro i hi
    obtain ⟨gx, q, e1, _, e2⟩ := RdG.at_ (k := .u64) hx i (by omega)
    exact ⟨gx, q, e1, hxb gx (by rw [e1]; rfl), e2⟩
  have HX := hide hx2
  have HZ := hide (And.intro ho (And.intro hz (And.intro hn (And.intro hdz hdx))))
  have fin : ∀ (q : Nat) (W : World), AmS w g a d n P S (wv zs) zs xs q W → AmP w g a d P S zs xs (.returned (.int .u64 (q : Int))) W := by
    intro q W h
    have e1 : zs.take n = zs := List.take_of_length_le (by omega)
    have e2 : xs.take n = xs := List.take_of_length_le (by omega)
    have e3 : (wv zs).drop n = [] := List.drop_of_length_le (by rw [wv_length]; omega)
    have h1 := h.carry
    have h2 := h.blk
    rw [e1, e2] at h1 h2
    rw [e3] at h2
    exact ⟨q, rfl, h1, by simpa [wv] using h2, h.fr⟩
  have Fin := hide fin
  clear hb hx hxb hx2 fin ho hz hn hdz hdx
  go_enter Tryz.func266, Tryz.ntmps266
  go_wp2
  go_loopw [10, 32] (fun vc vi wr => ∃ (k q : Nat), k ≤ n ∧ vi = .int .i64 (k : Int) ∧ vc = .int .u64 (q : Int) ∧ q < 18446744073709551616 ∧ Hid (AmS w g a d k P S (wv zs) zs xs q wr)) (fun _ vi _ => n - (intOf vi).toNat)
  case atStart => exact ⟨0, a, Nat.zero_le _, by go_num, rfl, ha, HS0⟩
  case round =>
    obtain ⟨k, q, hk, rfl, rfl, hq, HR⟩ := hrel
    by_cases hlt : k < n
    · obtain ⟨gx, ox, rfl, hgx, hcell⟩ := HX.out k hlt
      have hcx : wr.cell? ⟨gx, ox + k, none⟩ = some (.int .u64 (xs.getD k 0 : Nat)) := HR.out.fr.cell hcell hgx
      obtain ⟨⟨u, hu, hcz⟩, hfz, hst⟩ := HR.out.drew.step HZ.out.1 (by rw [wv_length]; exact HZ.out.2.1) HZ.out.2.1 (by rw [← HZ.out.2.2.1]; exact hlt)
      have hzk : k < zs.length := by have := HZ.out.2.1; have := HZ.out.2.2.1; omega
      rw [wv_at, List.getElem?_eq_getElem hzk, Option.map_some] at hu
      obtain rfl := Option.some.inj hu
      rw [← getD_at hzk] at hcz
      have hxl : xs.getD k 0 < 18446744073709551616 := HZ.out.2.2.2.2 _ (by rw [getD_at (by have := HZ.out.2.2.1; omega)]; exact List.getElem_mem _)
      have hzl : zs.getD k 0 < 18446744073709551616 := HZ.out.2.2.2.1 _ (by rw [getD_at (by have := HZ.out.2.1; have := HZ.out.2.2.1; omega)]; exact List.getElem_mem _)
      have HST := hide hst
      clear hst hcell hu hzk
      generalize xs.getD k 0 = x at hcx hxl HST
      generalize zs.getD k 0 = z at hcz hzl HST
      have Con := hide (fun W => maww_any x d z hxl hd hzl W)
      have HQ := hide (And.intro hxl (And.intro hd (And.intro hzl hq)))
      clear HS0 Fin HR
      go_wp2_with fail
      go_region_held3 (fun W => W.cell? ⟨gx, ox + k, none⟩ = some (.int .u64 (x : Int)) ∧ W.cell? ⟨g, o + k, none⟩ = some (.int .u64 (z : Int))) (first | exact ⟨hcx, hcz⟩ | go_keep)
        (first | (go_at_call 265; go_loud (refine (Con.out _).mono ?_; rintro e w3 ⟨h, l, rfl, hp, rfl⟩)))
      have Con2 := hide (add_any l q 0 (by omega) wr.drew)
      clear Con
      go_wp2_with fail
      refine (Con2.out).mono ?_
      rintro e w4 ⟨s, t, rfl, hq2, rfl⟩
      obtain ⟨j1, j2, j3⟩ := am_join HQ.out.1 HQ.out.2.1 HQ.out.2.2.1 HQ.out.2.2.2 hp.out hq2.out
      obtain ⟨m, hm⟩ : ∃ m, m = t + h := ⟨_, rfl⟩
      have e1 : IntKind.u64.wrap ((t : Int) + (h : Int)) = (m : Int) := by simp [IntKind.wrap, IntKind.signed, IntKind.bits]; omega
      have HN := hide (HST.out s m ⟨j1, hm.trans j2⟩)
      have hml : m < 18446744073709551616 := by omega
      clear j1 j2 j3 hm HST hp hq2 Con2 HQ hxl hzl hq
      go_wp2
      go_roundw
      case rel => exact ⟨k + 1, m, by omega, by go_num, rfl, hml, HN⟩
      case measure => simp [intOf]; omega
    · obtain rfl : k = n := by omega
      have HF := hide (Fin.out q wr HR.out)
      clear HS0 HR Fin
      go_wp2
      go_ret
      exact HF.out
theorem amv_any (g o n c1 c2 a d : Nat) (P S : List Value) (A : Option Addr) (c : Nat) (zs xs : List Nat) (w : World) (hb : Blk w g 145 (P ++ wv zs ++ S).toArray) (ho : o = P.length) (hz : zs.length = xs.length) (hn : n = xs.length) (hnb : n ≤ 1099511627776) (hc1 : n ≤ c1) (hc2 : n ≤ c2)
    (hx : RdW w (.slice A n c) xs) (hxb : ∀ k, (Value.slice A n c).ownBlock = some k → k ≠ g) (ha : a < 18446744073709551616) (hd : d < 18446744073709551616) (hdz : Dig 18446744073709551616 zs) (hdx : Dig 18446744073709551616 xs) :
    Calls Tryz.prog 239 #[.slice (some ⟨g, o, none⟩) n c1, .slice (some ⟨g, o, none⟩) n c2, .slice A n c, .int .u64 (d : Int), .int .u64 (a : Int)] w (AmP w g a d P S zs xs) := by
  have Con := hide (amvg_any g o n c1 c2 a d P S A c zs xs w hb ho hz hn hnb hc1 hc2 hx hxb ha hd hdz hdx)
  clear hb ho hz hn hx hxb hdz hdx
  go_enter Tryz.func239, Tryz.ntmps239
  go_wp2_with fail
  refine (Con.out).mono ?_
  rintro e w1 ⟨q, rfl, h⟩
  have Fin : Hid (AmP w g a d P S zs xs (.returned (.int .u64 (q : Int))) w1) := ⟨q, rfl, h⟩
  clear h Con
  go_wp2
  go_ret
  exact Fin.out
end Go.Proofs.YtfkcobdkgjhfaaaGreatDoor
