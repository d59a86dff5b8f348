/- Parts of the proofs: Sh1, Sh2, Int1, Alias, Lsh1. -/
import Derived.LaidEqlPtr
import Derived.Deep.QuietTactic
import Derived.Test.YtfkcobdkgjhfaaaGreatDoorG3
import Derived.Test.YtfkcobdkgjhfaaaGreatDoorG4
import Derived.Test.YtfkcobdkgjhfaaaGreatDoorG5
import Derived.Test.YtfkcobdkgjhfaaaGreatDoorG6
/- Walks: a row of words shifted to the left: lshVU. -/
set_option linter.unusedVariables false
set_option linter.unusedSimpArgs false
namespace Go.Proofs.YtfkcobdkgjhfaaaGreatDoor
open Go.RowKit

theorem shv_length (s : Nat) (xs : List Nat) : (shv s xs).length = xs.length := by rw [shv, amul_length _ _ _ (by simp)]
theorem shv_dig (s : Nat) (xs : List Nat) : Dig 18446744073709551616 (shv s xs) := amul_dig (by omega) _
theorem shv_val (s : Nat) (xs : List Nat) : dval 18446744073709551616 (shv s xs ++ [shc s xs]) = dval 18446744073709551616 xs * 2 ^ s := by
  rw [dval_append, shv_length, dval_cons, dval_nil]
  have := amul_val 18446744073709551616 (2 ^ s) (zs := List.replicate xs.length 0) (xs := xs) 0 (by simp)
  rw [dval_replicate_zero] at this
  simpa [shv, shc] using this

/-- What a round of lshVU holds: the rows from k upward are done. -/
structure ShS (w : World) (g s k : Nat) (P S us : List Value) (xs : List Nat) (W : World) : Prop where
  blk : Blk W g 145 (P ++ us.take k ++ wv ((shv s xs).drop k) ++ S).toArray
  fr : Fr w W (fun k => k = g)
theorem ShS.drew {w : World} {g s k : Nat} {P S us : List Value} {xs : List Nat} {W : World} (h : ShS w g s k P S us xs W) : ShS w g s k P S us xs W.drew := ⟨h.blk, h.fr.drew⟩
theorem ShS.step {w : World} {g s k o : Nat} {P S us : List Value} {xs : List Nat} {W : World} (h : ShS w g s (k + 1) P S us xs W) (ho : o = P.length) (hu : us.length = xs.length) (hk : k < xs.length) :
    (∃ u, us[k]? = some u ∧ W.cell? ⟨g, o + k, none⟩ = some u) ∧ W.frozen? ⟨g, o + k, none⟩ = false ∧
      ∀ v, v = (shv s xs).getD k 0 → ShS w g s k P S us xs (W.setCell ⟨g, o + k, none⟩ (.int .u64 (v : Int))) := by
  have hk2 : k < us.length := by omega
  have hB := h.blk
  rw [List.take_succ_eq_append_getElem hk2, List.append_assoc, List.append_assoc, List.append_assoc] at hB
  have hpl : o + k = (P ++ us.take k).length := by rw [List.length_append, List.length_take, ho]; omega
  rw [← List.append_assoc, List.singleton_append] at hB
  obtain ⟨h1, h2, h3⟩ := hB.part hpl
  refine ⟨⟨_, List.getElem?_eq_getElem hk2, h1⟩, h2, fun v hv => ⟨?_, h.fr.setCell (p := ⟨g, o + k, none⟩) (fun _ => rfl) _⟩⟩
  have := h3 (.int .u64 (v : Int))
  rw [drop_getD (xs := shv s xs) (k := k) (by rw [shv_length]; exact hk), wv_cons, ← hv]
  simpa [List.append_assoc] using this

/-- Behind lshVU. -/
def ShP (w : World) (g s : Nat) (P S : List Value) (xs : List Nat) (e : Ending) (w' : World) : Prop :=
  ∃ q : Nat, e = .returned (.int .u64 (q : Int)) ∧ Hid (q = shc s xs) ∧ Blk w' g 145 (P ++ wv (shv s xs) ++ S).toArray ∧ Fr w w' (fun k => k = g)

/-- The words of the shifted row, as the walk makes them. -/
theorem sh_word {s : Nat} (h1 : 1 ≤ s) (h63 : s ≤ 63) {xs : List Nat} (hd : Dig 18446744073709551616 xs) {i : Nat} (hi : i + 1 < xs.length) :
    ∃ a b v : Nat, IntKind.u64.wrap ((xs.getD (i + 1) 0 : Nat) * 2 ^ s : Int) = (a : Int) ∧ ((xs.getD i 0 : Nat) : Int) / 2 ^ (64 - s) = (b : Int) ∧ bits .or .u64 (a : Int) (b : Int) = (v : Int) ∧ v = (shv s xs).getD (i + 1) 0 := by
  have hx : xs.getD i 0 < 18446744073709551616 := hd _ (by rw [getD_at (by omega)]; exact List.getElem_mem _)
  have hb : xs.getD i 0 / 2 ^ (64 - s) < 2 ^ s := sh_carry_lt (by omega) hx
  have hp : (2 : Nat) ^ s ≤ 2 ^ 63 := Nat.pow_le_pow_right (by omega) h63
  have ha : xs.getD (i + 1) 0 * 2 ^ s % 18446744073709551616 % 2 ^ s = 0 := by
    have hdv : 2 ^ s ∣ 18446744073709551616 := ⟨2 ^ (64 - s), by rw [← Nat.pow_add, show s + (64 - s) = 64 by omega]⟩
    rw [Nat.mod_mod_of_dvd _ hdv]; exact Nat.mul_mod_left _ _
  refine ⟨xs.getD (i + 1) 0 * 2 ^ s % 18446744073709551616, xs.getD i 0 / 2 ^ (64 - s), _, ?_, ?_, u64_or_nat _ _ (by omega) (by omega), ?_⟩
  · rw [show (((xs.getD (i + 1) 0 : Nat) : Int) * 2 ^ s) = ((xs.getD (i + 1) 0 * 2 ^ s : Nat) : Int) from by rw [Int.natCast_mul, Int.natCast_pow]; rfl, wrpN]
  · rw [Int.natCast_ediv, Int.natCast_pow]; rfl
  · rw [nat_join s _ _ ha hb, shv, (amul_sh (s := s) (by omega) xs 0 (Nat.two_pow_pos s) hd).1 (i + 1) hi]
    simp only [Nat.add_sub_cancel, if_neg (Nat.succ_ne_zero i)]
    have : (xs.getD (i + 1) 0 * 2 ^ s % 18446744073709551616 + xs.getD i 0 / 2 ^ (64 - s)) < 18446744073709551616 := by
      have e : (18446744073709551616 : Nat) = 2 ^ (64 - s) * 2 ^ s := by rw [← Nat.pow_add, show 64 - s + s = 64 by omega]
      rw [e, Nat.mul_mod_mul_right]
      have h : xs.getD (i + 1) 0 % 2 ^ (64 - s) + 1 ≤ 2 ^ (64 - s) := Nat.mod_lt _ (Nat.two_pow_pos _)
      have := Nat.mul_le_mul_right (2 ^ s) h
      rw [Nat.add_mul, Nat.one_mul] at this
      omega
    rw [Nat.add_mod, Nat.mod_eq_of_lt (show xs.getD i 0 / 2 ^ (64 - s) < 18446744073709551616 by omega), Nat.mod_eq_of_lt this]
theorem sh_word0 {s : Nat} (h63 : s ≤ 63) {xs : List Nat} (hd : Dig 18446744073709551616 xs) (hi : 0 < xs.length) :
    ∃ v : Nat, IntKind.u64.wrap ((xs.getD 0 0 : Nat) * 2 ^ s : Int) = (v : Int) ∧ v = (shv s xs).getD 0 0 := by
  refine ⟨xs.getD 0 0 * 2 ^ s % 18446744073709551616, ?_, ?_⟩
  · rw [show (((xs.getD 0 0 : Nat) : Int) * 2 ^ s) = ((xs.getD 0 0 * 2 ^ s : Nat) : Int) from by rw [Int.natCast_mul, Int.natCast_pow]; rfl, wrpN]
  · rw [shv, (amul_sh (s := s) (by omega) xs 0 (Nat.two_pow_pos s) hd).1 0 hi]; simp

end Go.Proofs.YtfkcobdkgjhfaaaGreatDoor

/- Walks: a row of words shifted to the left: lshVU. -/
set_option linter.unusedVariables false
set_option linter.unusedSimpArgs false
namespace Go.Proofs.YtfkcobdkgjhfaaaGreatDoor
open Go.RowKit

set_option maxHeartbeats 1000000 in
set_option maxRecDepth 20000 in
theorem lshg_any (g o n c1 s : Nat) (P S us : List Value) (A : Option Addr) (c : Nat) (xs : List Nat) (w : World) (hb : Blk w g 145 (P ++ us ++ S).toArray) (ho : o = P.length) (hu : us.length = xs.length) (hn : n = xs.length) (hnb : n ≤ 1099511627776) (hc1 : n ≤ c1)
    (hx : RdW w (.slice A n c) xs) (hxb : ∀ k, (Value.slice A n c).ownBlock = some k → k ≠ g) (hdx : Dig 18446744073709551616 xs) (hs1 : 1 ≤ s) (hs63 : s ≤ 63) (hn1 : 1 ≤ n) :
    Calls Tryz.prog 199 #[.slice (some ⟨g, o, none⟩) n c1, .slice A n c, .int .u64 (s : Int)] w (ShP w g s P S xs) := by
  obtain ⟨m, rfl⟩ : ∃ m, n = m + 1 := ⟨n - 1, by omega⟩
  obtain ⟨t, ht⟩ : ∃ t, t = 64 - s := ⟨_, rfl⟩
  have HS0 : Hid (ShS w g s (m + 1) P S us xs w) := ⟨by rw [List.take_of_length_le (by omega), List.drop_of_length_le (by rw [shv_length]; omega)]; simpa [wv] using hb, Fr.refl _ _⟩
  have hx2 : ∀ k W q, k < m + 1 → ShS w g s q P S us xs W → ∃ gx o', A = some ⟨gx, o', none⟩ ∧ W.cell? ⟨gx, o' + k, none⟩ = some (.int .u64 (xs.getD k 0 : Nat)) := by
    intro k W q hk hS
    obtain ⟨gx, o', e1, _, e2⟩ := RdG.at_ (k := .u64) hx k (by omega)
    exact ⟨gx, o', e1, hS.fr.cell e2 (hxb gx (by rw [e1]; rfl))⟩
  obtain ⟨q, hq⟩ : ∃ q, q = xs.getD m 0 / 2 ^ t := ⟨_, rfl⟩
  have hqc : q = shc s xs := by
    rw [shc, (amul_sh (s := s) (by omega) xs 0 (Nat.two_pow_pos s) hdx).2, if_neg (by omega), hq, ht, ← hn]; rfl
  have hqi : ((xs.getD m 0 : Nat) : Int) / 2 ^ t = (q : Int) := by rw [hq, Int.natCast_ediv, Int.natCast_pow]; rfl
  have fin : ∀ W, ShS w g s 0 P S us xs W → ShP w g s P S xs (.returned (.int .u64 (q : Int))) W := fun W h => ⟨q, rfl, hqc, by simpa using h.blk, h.fr⟩
  have words : ∀ i, i + 1 < m + 1 → ∃ a b v : Nat, IntKind.u64.wrap ((xs.getD (i + 1) 0 : Nat) * 2 ^ s : Int) = (a : Int) ∧ ((xs.getD i 0 : Nat) : Int) / 2 ^ t = (b : Int) ∧ bits .or .u64 (a : Int) (b : Int) = (v : Int) ∧ v = (shv s xs).getD (i + 1) 0 := by
    intro i hi; rw [ht]; exact sh_word hs1 hs63 hdx (by omega)
  have word0 := sh_word0 hs63 hdx (by omega)
  have HX := hide hx2
  have Fin := hide fin
  have HW := hide words
  have HW0 := hide word0
  have HZ := hide (And.intro ho (And.intro hu hn))
  obtain ⟨gx, ox, rfl, hc0⟩ := hx2 m w (m + 1) (by omega) HS0.out
  have a1 : bits .and .u64 (s : Int) 63 = (s : Int) := by
    rw [show (63 : Int) = ((63 : Nat) : Int) from rfl, u64_and_nat s 63 (by omega) (by omega), show (63 : Nat) = 2 ^ 6 - 1 from rfl, Nat.and_two_pow_sub_one_eq_mod, Nat.mod_eq_of_lt (by omega)]
  have a2 : IntKind.u64.wrap (64 - (s : Int)) = (t : Int) := by rw [IntKind.wrap_u64]; omega
  have a2' : (64 : Int) - (s : Int) = (t : Int) := by omega
  have a3 : bits .and .u64 (t : Int) 63 = (t : Int) := by
    rw [show (63 : Int) = ((63 : Nat) : Int) from rfl, u64_and_nat t 63 (by omega) (by omega), show (63 : Nat) = 2 ^ 6 - 1 from rfl, Nat.and_two_pow_sub_one_eq_mod, Nat.mod_eq_of_lt (by omega)]
  have ht63 : t ≤ 63 := by omega
  have hs0 : ((s : Int) == 0) = false := beq_eq_false_iff_ne.2 (by omega)
  clear hb hx hxb hx2 fin ho hu hn hdx hq hqc words word0 ht
  generalize xs.getD m 0 = top at *
  go_enter Tryz.func199, Tryz.ntmps199
  go_wp2
  go_loopw [8] (fun vi wr => ∃ k : Nat, k ≤ m ∧ vi = .int .i64 (k : Int) ∧ Hid (ShS w g s (k + 1) P S us xs wr)) (fun vi _ => (intOf vi).toNat)
  case atStart => exact ⟨m, Nat.le_refl _, by go_num, HS0⟩
  case round =>
    obtain ⟨k, hk, rfl, HR⟩ := hrel
    obtain ⟨⟨u, _, hcz⟩, hfz, hst⟩ := HR.out.step HZ.out.1 HZ.out.2.1 (by have := HZ.out.2.2; omega)
    have HST := hide hst
    clear hst HS0 hc0
    obtain ⟨gx', ox', e, hck⟩ := HX.out k wr (k + 1) (by omega) HR.out
    injection e with e; injection e with e1 e2; subst e1 e2
    by_cases h0 : k = 0
    · subst h0
      obtain ⟨v, w1, hv⟩ := HW0.out
      have HF := hide (Fin.out _ (HST.out v hv))
      have hcza : wr.cell? ⟨g, o, none⟩ = some u := hcz
      have hfza : wr.frozen? ⟨g, o, none⟩ = false := hfz
      have hcka : wr.cell? ⟨gx, ox, none⟩ = some (.int .u64 (xs.getD 0 0 : Nat)) := hck
      clear HST HW HW0 HX HR Fin hv HZ
      generalize xs.getD 0 0 = x at *
      go_wp2
      go_ret
      exact HF.out
    · obtain ⟨k, rfl⟩ : ∃ j, k = j + 1 := ⟨k - 1, by omega⟩
      obtain ⟨gx', ox', e, hckl⟩ := HX.out k wr (k + 1 + 1) (by omega) HR.out
      injection e with e; injection e with e1 e2; subst e1 e2
      obtain ⟨a, b, v, w1, w2, w3, hv⟩ := HW.out k (by omega)
      have HN := hide ((HST.out v hv).drew)
      have g1 : ((k + 1 : Nat) : Int) - 1 = (k : Int) := by omega
      clear HST HW HW0 HX HR Fin hv HZ hqi
      generalize xs.getD (k + 1) 0 = x at *
      generalize xs.getD k 0 = y at *
      go_wp2
      go_region
      all_goals go_wp2
      all_goals go_roundw
      case rel => exact ⟨_, _, _, _, _, _, _, _, _, _, _, _, _, _, _, _, _, _, _, _, _, _, ⟨k, by omega, by go_num, HN⟩, rfl⟩
      case measure => simp [intOf]
theorem lsh_any (g o n c1 s : Nat) (P S us : List Value) (A : Option Addr) (c : Nat) (xs : List Nat) (w : World) (hb : Blk w g 145 (P ++ us ++ S).toArray) (ho : o = P.length) (hu : us.length = xs.length) (hn : n = xs.length) (hnb : n ≤ 1099511627776) (hc1 : n ≤ c1)
    (hx : RdW w (.slice A n c) xs) (hxb : ∀ k, (Value.slice A n c).ownBlock = some k → k ≠ g) (hdx : Dig 18446744073709551616 xs) (hs1 : 1 ≤ s) (hs63 : s ≤ 63) (hn1 : 1 ≤ n) :
    Calls Tryz.prog 171 #[.slice (some ⟨g, o, none⟩) n c1, .slice A n c, .int .u64 (s : Int)] w (ShP w g s P S xs) := by
  have Con := hide (lshg_any g o n c1 s P S us A c xs w hb ho hu hn hnb hc1 hx hxb hdx hs1 hs63 hn1)
  clear hb ho hu hn hx hdx hxb
  go_enter Tryz.func171, Tryz.ntmps171
  go_wp2_with fail
  refine (Con.out).mono ?_
  rintro e w1 ⟨q, rfl, h⟩
  have Fin : Hid (ShP w g s P S xs (.returned (.int .u64 (q : Int))) w1) := ⟨q, rfl, h⟩
  clear h Con
  go_wp2
  go_ret
  exact Fin.out
end Go.Proofs.YtfkcobdkgjhfaaaGreatDoor

/- Walks: Int's Set, SetBits, Bits; BigInt's Set, SetMathBigInt, MathBigInt. -/
set_option linter.unusedVariables false
set_option linter.unusedSimpArgs false
namespace Go.Proofs.YtfkcobdkgjhfaaaGreatDoor
open Go.RowKit

theorem run_neq_ptr_other {P : Program} (w : World) {tp te : TypeId} {j : TypeInfo} {a b : Addr} {ca cb : Array Value} {ta tb : TypeId} (hp : P.underlying tp = some (.pointer te)) (hte : P.info? te = some j) (hsz : j.size ≠ 0)
    (hne : a ≠ b) (ha : w.heap[a.block]? = some (.cells ca ta (0, 0))) (hb : w.heap[b.block]? = some (.cells cb tb (0, 0))) :
    (binOp .neq tp (.pointer (some a)) (.pointer (some b))).run P w = .ok (.bool true) w := by
  have h : ∀ d : Nat, (Op.equalIn (d + 1) tp (.pointer (some a)) (.pointer (some b))).run P w = .ok false w := fun d => by
    simp [Op.equalIn, run_underlying hp, sizeOf, typeInfo, hte, hsz, run_sameAddr_other w hne ha hb]
  simp only [binOp]
  simp [Op.equal, Op.maxDepth, h 9999]

theorem infoInt : (Tryz.prog.info? 67).map (fun i => i.size) = some 2 := by kernel_rfl

theorem neq_Int (w : World) {a b : Addr} {ca cb : Array Value} {ta tb : TypeId} (hne : a ≠ b) (ha : Blk w a.block ta ca) (hb : Blk w b.block tb cb) :
    (binOp .neq 143 (.pointer (some a)) (.pointer (some b))).run Tryz.prog w = .ok (.bool true) w := by
  obtain ⟨j, hj, hs⟩ := Option.map_eq_some_iff.1 infoInt
  exact run_neq_ptr_other w Tryz.underlying143 hj (by rw [hs]; decide) hne ha hb

/-- The cells of an Int behind a call that lays a new sign and a new row. -/
def setInt (cs : Array Value) (o : Nat) (neg : Bool) (r : Value) : Array Value := (cs.setIfInBounds (o + 1) r).setIfInBounds o (.bool neg)

/-- What is left of an Int's write: its block's cells, its row, and all else that was there. -/
def IntP (w : World) (base g o : Nat) (t : TypeId) (cs : Array Value) (vz : Value) (neg : Bool) (xs : List Nat) (e : Ending) (w' : World) : Prop :=
  e = .returned (.pointer (some ⟨g, o, none⟩)) ∧ ∃ r, Own w' base r xs ∧ (r.ownBlock = vz.ownBlock ∨ ∃ k, r.ownBlock = some k ∧ w.heap.size ≤ k) ∧ Blk w' g t (setInt cs o neg r) ∧ Fr w w' (fun k => k = g ∨ vz.ownBlock = some k)

set_option maxHeartbeats 800000 in
theorem iset_any (base gz oz gx ox : Nat) (tz tx : TypeId) (cz cx : Array Value) (nz nx : Bool) (vz vx : Value) (m : Nat) (xs : List Nat) (w : World)
    (hz : Blk w gz tz cz) (hz0 : cz[oz]? = some (.bool nz)) (hz1 : cz[oz + 1]? = some vz) (hzr : Room w base vz m) (htz : tz ≠ 145)
    (hx : Blk w gx tx cx) (hx0 : cx[ox]? = some (.bool nx)) (hx1 : cx[ox + 1]? = some vx) (hxr : RdW w vx xs) (htx : tx ≠ 145)
    (hne : gz ≠ gx ∨ (oz ≠ ox ∧ ox ≠ oz + 1)) (hb : base ≤ w.heap.size) (hn : xs.length ≤ 1099511627776) :
    Calls Tryz.prog 87 #[.pointer (some ⟨gz, oz, none⟩), .pointer (some ⟨gx, ox, none⟩)] w (IntP w base gz oz tz cz vz nx xs) := by
  have hcmp := neq_Int w (a := ⟨gz, oz, none⟩) (b := ⟨gx, ox, none⟩) (by intro e; injection e with e1 e2; omega) hz hx
  have c1 : w.cell? ⟨gz, oz + 1, none⟩ = some vz := (hz.cell _).trans hz1
  have c2 : w.cell? ⟨gx, ox + 1, none⟩ = some vx := (hx.cell _).trans hx1
  have hzne : ∀ k, vz.ownBlock = some k → k ≠ gz := hzr.ne_blk hz htz
  have hxne : ∀ k, vz.ownBlock = some k → k ≠ gx := hzr.ne_blk hx htx
  have key : ∀ (r : Value) (w1 : World), Fr w w1 (fun k => vz.ownBlock = some k) → w1.cell? ⟨gz, oz + 1, none⟩ = some vz ∧ w1.frozen? ⟨gz, oz + 1, none⟩ = false ∧
      (w1.setCell ⟨gz, oz + 1, none⟩ r).cell? ⟨gx, ox, none⟩ = some (.bool nx) ∧ (w1.setCell ⟨gz, oz + 1, none⟩ r).cell? ⟨gz, oz, none⟩ = some (.bool nz) ∧ (w1.setCell ⟨gz, oz + 1, none⟩ r).frozen? ⟨gz, oz, none⟩ = false := by
    intro r w1 hf
    have b1 : Blk w1 gz tz cz := hz.fr hf (fun h => hzne gz h rfl)
    have b2 : Blk w1 gx tx cx := hx.fr hf (fun h => hxne gx h rfl)
    refine ⟨(b1.cell _).trans hz1, b1.frozen _, ?_, ?_, ?_⟩
    · rw [World.cell?_setCell_other _ _ _ _ (by intro e; injection e with e1 e2; omega)]
      exact (b2.cell _).trans hx0
    · rw [World.cell?_setCell_other _ _ _ _ (by intro e; injection e with e1 e2; omega)]
      exact (b1.cell _).trans hz0
    · rw [World.frozen?_setCell]; exact b1.frozen _
  have fin : ∀ (r : Value) (w1 : World), Own w1 base r xs → (r.ownBlock = vz.ownBlock ∨ ∃ k, r.ownBlock = some k ∧ w.heap.size ≤ k) → Fr w w1 (fun k => vz.ownBlock = some k) →
      IntP w base gz oz tz cz vz nx xs (.returned (.pointer (some ⟨gz, oz, none⟩))) ((w1.setCell ⟨gz, oz + 1, none⟩ r).setCell ⟨gz, oz, none⟩ (.bool nx)) := by
    intro r w1 hr hrb hf
    have b1 : Blk w1 gz tz cz := hz.fr hf (fun h => hzne gz h rfl)
    have hlt := b1.lt
    refine ⟨rfl, r, ?_, hrb, (b1.set _ _).set _ _, ?_⟩
    · have hg : ∀ k, r.ownBlock = some k → k ≠ gz := hr.room.ne_blk b1 htz
      exact (hr.fr (Fr.setCell (Fr.refl w1 (fun k => k = gz)) (p := ⟨gz, oz + 1, none⟩) (fun _ => rfl) r) hg).fr (Fr.setCell (Fr.refl _ (fun k => k = gz)) (p := ⟨gz, oz, none⟩) (fun _ => rfl) _) hg
    · exact ((hf.mono (fun k _ h => .inr h)).setCell (p := ⟨gz, oz + 1, none⟩) (fun _ => .inl rfl) _).setCell (p := ⟨gz, oz, none⟩) (fun _ => .inl rfl) _
  have Key := hide key
  have Fin := hide fin
  clear hz hz0 hz1 hx hx0 hx1 key fin hzne hxne
  go_enter Tryz.func87, Tryz.ntmps87
  go_wp2_with fail
  go_region_with (go_at_call 116; go_loud (refine (set_any base vz m vx xs _ ?_ ?_ ?_ hn).mono ?_; exact hzr; exact hxr; exact hb; rintro e w1 ⟨A, c, rfl, hr, hrb, hf⟩; obtain ⟨k1, k2, k3, k4, k5⟩ := Key.out (.slice A xs.length c) w1 ⟨hf.os, hf.tape, hf.output, hf.size, hf.block⟩; have HF := hide (Fin.out (.slice A xs.length c) w1 hr hrb ⟨hf.os, hf.tape, hf.output, hf.size, hf.block⟩); clear hr hrb hf))
  all_goals go_wp2
  all_goals go_ret
  all_goals exact HF.out

end Go.Proofs.YtfkcobdkgjhfaaaGreatDoor

/- Walks: alias of two rows of words. -/
set_option linter.unusedVariables false
set_option linter.unusedSimpArgs false
namespace Go.Proofs.YtfkcobdkgjhfaaaGreatDoor
open Go.RowKit

theorem eql_Word (w : World) {a b : Addr} {ca cb : Array Value} {ta tb : TypeId} (hne : a ≠ b) (ha : Blk w a.block ta ca) (hb : Blk w b.block tb cb) :
    (binOp .eql 230 (.pointer (some a)) (.pointer (some b))).run Tryz.prog w = .ok (.bool false) w := by
  obtain ⟨j, hj, hs⟩ := Option.map_eq_some_iff.1 sizeWord
  exact run_eql_ptr_other w Tryz.underlying230 hj (by rw [hs]; decide) hne ha hb

theorem alias_nil (z x : Value) (n c : Nat) (A : Option Addr) (w : World) (h : (z = .slice none 0 0 ∧ x = .slice A n c) ∨ (x = .slice none 0 0 ∧ z = .slice A n c)) :
    Calls Tryz.prog 172 #[z, x] w fun e w' => e = .returned (.bool false) ∧ ∃ k, w' = w.drewN k := by
  rcases h with ⟨rfl, rfl⟩ | ⟨rfl, rfl⟩
  · go_enter Tryz.func172, Tryz.ntmps172
    go_wp2_with fail
    go_quiet (fail)
    go_wp2
    go_ret
    exact ⟨rfl, _, rfl⟩
  · by_cases h0 : 0 < c
    · go_enter Tryz.func172, Tryz.ntmps172
      go_wp2_with fail
      go_quiet (fail)
      go_wp2
      go_ret
      exact ⟨rfl, _, rfl⟩
    · go_enter Tryz.func172, Tryz.ntmps172
      go_wp2_with fail
      go_quiet (fail)
      go_wp2
      go_ret
      exact ⟨rfl, _, rfl⟩

set_option maxHeartbeats 500000 in
theorem alias_far (gz gx n m cz cx : Nat) (tz tx : TypeId) (bz bx : Array Value) (w : World) (hz : Blk w gz tz bz) (hx : Blk w gx tx bx) (hne : gz ≠ gx) (hmz : cz ≤ maxLen) (hmx : cx ≤ maxLen) :
    Calls Tryz.prog 172 #[.slice (some ⟨gz, 0, none⟩) n cz, .slice (some ⟨gx, 0, none⟩) m cx] w fun e w' => e = .returned (.bool false) ∧ ∃ k, w' = w.drewN k := by
  unfold maxLen at hmz hmx
  have hcmp : ∀ (i j k : Nat), (binOp .eql 230 (.pointer (some ⟨gz, i, none⟩)) (.pointer (some ⟨gx, j, none⟩))).run Tryz.prog (w.drewN k) = .ok (.bool false) (w.drewN k) :=
    fun i j k => eql_Word (w.drewN k) (a := ⟨gz, i, none⟩) (b := ⟨gx, j, none⟩) (by intro e; injection e with e1; exact hne e1) (hz.drewN k) (hx.drewN k)
  clear hz hx hne
  by_cases h0 : 0 < cz
  · by_cases h1 : 0 < cx
    · have z1 : wrap64 ((cz : Int) - 1) = ((cz - 1 : Nat) : Int) := by unfold wrap64; omega
      have x1 : wrap64 ((cx : Int) - 1) = ((cx - 1 : Nat) : Int) := by unfold wrap64; omega
      have z2 : cz - 1 < cz := by omega
      have x2 : cx - 1 < cx := by omega
      go_enter Tryz.func172, Tryz.ntmps172
      go_wp2_with fail
      go_quiet (fail)
      go_wp2
      go_ret
      exact ⟨rfl, _, rfl⟩
    · go_enter Tryz.func172, Tryz.ntmps172
      go_wp2_with fail
      go_quiet (fail)
      go_wp2
      go_ret
      exact ⟨rfl, _, rfl⟩
  · go_enter Tryz.func172, Tryz.ntmps172
    go_wp2_with fail
    go_quiet (fail)
    go_wp2
    go_ret
    exact ⟨rfl, _, rfl⟩
end Go.Proofs.YtfkcobdkgjhfaaaGreatDoor

/- Walks: a number of one word shifted to the left: same, nat.lsh. -/
set_option linter.unusedVariables false
set_option linter.unusedSimpArgs false
namespace Go.Proofs.YtfkcobdkgjhfaaaGreatDoor
open Go.RowKit

theorem same_self (g o n c : Nat) (w : World) (hn : 0 < n) (hc : n ≤ c) (hnb : n ≤ 1099511627776) :
    Calls Tryz.prog 220 #[.slice (some ⟨g, o, none⟩) n c, .slice (some ⟨g, o, none⟩) n c] w fun e w' => e = .returned (.bool true) ∧ w' = w.drew := by
  obtain ⟨j, hj, hs⟩ := Option.map_eq_some_iff.1 sizeWord
  have hcmp : ∀ w, (binOp .eql 230 (.pointer (some ⟨g, o, none⟩)) (.pointer (some ⟨g, o, none⟩))).run Tryz.prog w = .ok (.bool true) w := fun w => run_eql_ptr_same w ⟨g, o, none⟩ Tryz.underlying230 hj
  have h1 := hcmp w
  have h2 := hcmp w.drew
  have hn0 : (0 : Int) < (n : Int) := by omega
  go_enter Tryz.func220, Tryz.ntmps220
  go_wp2
  go_region
  all_goals go_wp2
  all_goals go_ret
  all_goals exact ⟨rfl, rfl⟩
set_option maxRecDepth 20000 in
/-- One word; z and x may lie in one block. -/
theorem lshg_one (g o c1 g2 o2 c s x : Nat) (u : Value) (w : World) (hz : w.cell? ⟨g, o, none⟩ = some u) (hf : w.frozen? ⟨g, o, none⟩ = false) (hx : w.cell? ⟨g2, o2, none⟩ = some (.int .u64 (x : Int))) (hs1 : 1 ≤ s) (hs63 : s ≤ 63) (hc1 : 1 ≤ c1) (hc : 1 ≤ c) :
    Calls Tryz.prog 199 #[.slice (some ⟨g, o, none⟩) 1 c1, .slice (some ⟨g2, o2, none⟩) 1 c, .int .u64 (s : Int)] w fun e w' => e = .returned (.int .u64 ((x / 2 ^ (64 - s) : Nat) : Int)) ∧ w' = w.setCell ⟨g, o, none⟩ (.int .u64 ((x * 2 ^ s % 18446744073709551616 : Nat) : Int)) := by
  obtain ⟨t, ht⟩ : ∃ t, t = 64 - s := ⟨_, rfl⟩
  have hqi : (x : Int) / 2 ^ t = ((x / 2 ^ t : Nat) : Int) := by rw [Int.natCast_ediv, Int.natCast_pow]; rfl
  have hv : IntKind.u64.wrap ((x : Int) * 2 ^ s) = ((x * 2 ^ s % 18446744073709551616 : Nat) : Int) := by
    rw [show ((x : Int) * 2 ^ s) = ((x * 2 ^ s : Nat) : Int) from by rw [Int.natCast_mul, Int.natCast_pow]; rfl, wrpN]
  have a1 : bits .and .u64 (s : Int) 63 = (s : Int) := by
    rw [show (63 : Int) = ((63 : Nat) : Int) from rfl, u64_and_nat s 63 (by omega) (by omega), show (63 : Nat) = 2 ^ 6 - 1 from rfl, Nat.and_two_pow_sub_one_eq_mod, Nat.mod_eq_of_lt (by omega)]
  have a2 : IntKind.u64.wrap (64 - (s : Int)) = (t : Int) := by rw [IntKind.wrap_u64]; omega
  have a2' : (64 : Int) - (s : Int) = (t : Int) := by omega
  have a3 : bits .and .u64 (t : Int) 63 = (t : Int) := by
    rw [show (63 : Int) = ((63 : Nat) : Int) from rfl, u64_and_nat t 63 (by omega) (by omega), show (63 : Nat) = 2 ^ 6 - 1 from rfl, Nat.and_two_pow_sub_one_eq_mod, Nat.mod_eq_of_lt (by omega)]
  have ht63 : t ≤ 63 := by omega
  have hs0 : ((s : Int) == 0) = false := beq_eq_false_iff_ne.2 (by omega)
  rw [← ht]
  clear ht
  generalize x / 2 ^ t = q at *
  generalize x * 2 ^ s % 18446744073709551616 = v at *
  go_enter Tryz.func199, Tryz.ntmps199
  go_wp2
  refine wp_loop_rounds 1 ?_
  rw [rounds_succ]
  go_wp2
  go_ret
  exact ⟨rfl, rfl⟩
theorem lsh_one (g o c1 g2 o2 c s x : Nat) (u : Value) (w : World) (hz : w.cell? ⟨g, o, none⟩ = some u) (hf : w.frozen? ⟨g, o, none⟩ = false) (hx : w.cell? ⟨g2, o2, none⟩ = some (.int .u64 (x : Int))) (hs1 : 1 ≤ s) (hs63 : s ≤ 63) (hc1 : 1 ≤ c1) (hc : 1 ≤ c) :
    Calls Tryz.prog 171 #[.slice (some ⟨g, o, none⟩) 1 c1, .slice (some ⟨g2, o2, none⟩) 1 c, .int .u64 (s : Int)] w fun e w' => e = .returned (.int .u64 ((x / 2 ^ (64 - s) : Nat) : Int)) ∧ w' = w.setCell ⟨g, o, none⟩ (.int .u64 ((x * 2 ^ s % 18446744073709551616 : Nat) : Int)) := by
  have Con := hide (lshg_one g o c1 g2 o2 c s x u w hz hf hx hs1 hs63 hc1 hc)
  clear hz hf hx
  generalize x / 2 ^ (64 - s) = q at *
  generalize x * 2 ^ s % 18446744073709551616 = v at *
  go_enter Tryz.func171, Tryz.ntmps171
  go_wp2_with fail
  refine (Con.out).mono ?_
  rintro e w1 ⟨rfl, rfl⟩
  go_wp2
  go_ret
  exact ⟨rfl, rfl⟩
end Go.Proofs.YtfkcobdkgjhfaaaGreatDoor
