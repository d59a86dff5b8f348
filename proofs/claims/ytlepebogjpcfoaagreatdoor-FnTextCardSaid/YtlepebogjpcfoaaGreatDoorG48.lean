/- Parts of the proofs: TxtMath, StrApp, BufSt. -/
import Derived.Test.YtlepebogjpcfoaaGreatDoorShelf
import Derived.Test.YtlepebogjpcfoaaGreatDoorG19
import Derived.Test.YtlepebogjpcfoaaGreatDoorG21
import Derived.Test.YtlepebogjpcfoaaGreatDoorG41
import Derived.Test.YtlepebogjpcfoaaGreatDoorG42
/- Plain: the texts of a decimal, as the code and as the reference lay them. -/
set_option linter.unusedVariables false
set_option linter.unusedSimpArgs false
namespace Go.Proofs.YtlepebogjpcfoaaGreatDoor
open Go.RowKit

/-- A text's part. -/
theorem bstr_extract (xs : List Nat) (i j : Nat) : (bstr xs).extract i j = bstr ((xs.drop i).take (j - i)) := by
  apply ByteArray.ext
  simp [bstr, ByteArray.data_extract, List.map_take, List.map_drop]

/-- A minus ahead, or none. -/
def sgnT (n : Bool) (s : List Nat) : List Nat := if n then 45 :: s else s
/-- An integer with its sign. -/
def wholeT (e : Int) : List Nat := (if e < 0 then 45 else 43) :: decB e.natAbs
/-- Noughts ahead, until there are more than k figures. -/
def padT (s : List Nat) (k : Nat) : List Nat := List.replicate (k + 1 - s.length) 48 ++ s
def pointT (s : List Nat) (k : Nat) : List Nat := if k = 0 then padT s k else (padT s k).take ((padT s k).length - k) ++ 46 :: (padT s k).drop ((padT s k).length - k)
/-- A value as a text without an exponent, without its sign. -/
def fixT (a : Nat) (e : Int) : List Nat := if e ≤ 0 then pointT (decB a) (-e).toNat else if 0 < a then decB a ++ List.replicate e.toNat 48 else decB a
/-- A value as a text with an exponent, without its sign. -/
def sciT (a : Nat) (e : Int) (ch : Nat) : List Nat := ((if 1 < figs a then (decB a).take 1 ++ 46 :: (decB a).drop 1 else decB a) ++ [ch]) ++ wholeT (e + (figs a : Int) - 1)
/-- The text to-scientific-string. -/
def natT (a : Nat) (e : Int) (ch : Nat) : List Nat := if e ≤ 0 ∧ -6 ≤ e + (figs a : Int) - 1 then fixT a e else sciT a e ch

/-- What the code lays with an exponent. -/
def codeE (d : List Nat) (e : Int) (ch : Nat) : List Nat :=
  (((d.take 1 ++ (if 1 < d.length then 46 :: d.drop 1 else [])) ++ [ch]) ++ [if e + (d.length : Int) - 1 < 0 then 45 else 43]) ++ decB (e + (d.length : Int) - 1).natAbs
/-- What the code lays without one. -/
def codeF (d : List Nat) (e : Int) : List Nat :=
  if e < 0 then (if 0 ≤ -e - (d.length : Int) then ([48, 46] ++ List.replicate (-e - (d.length : Int)).toNat 48) ++ d else (d.take ((d.length : Int) + e).toNat ++ [46]) ++ d.drop ((d.length : Int) + e).toNat) else d ++ List.replicate e.toNat 48

theorem figs_pos (a : Nat) : 0 < figs a := by
  unfold figs
  split
  · omega
  · exact List.length_pos_iff.2 (digs_ne_nil (by omega) (by omega))

theorem codeE_eq (a : Nat) (e : Int) (ch : Nat) : codeE (decB a) e ch = sciT a e ch := by
  unfold codeE sciT wholeT
  rw [decB_length]
  by_cases h : 1 < figs a
  · simp [h]
  · have h1 : (decB a).take 1 = decB a := List.take_of_length_le (by rw [decB_length]; omega)
    simp [h, h1]

theorem codeF_eq (a : Nat) (e : Int) (h : e ≤ 0 ∨ 0 < a) : codeF (decB a) e = fixT a e := by
  unfold codeF fixT pointT padT
  have hl := decB_length a
  have hp := figs_pos a
  by_cases h0 : e < 0
  · have hk : (-e).toNat ≠ 0 := by omega
    have h00 : e ≤ 0 := by omega
    by_cases h1 : 0 ≤ -e - ((decB a).length : Int)
    · rw [if_pos h0, if_pos h1, if_pos h00, if_neg hk]
      obtain ⟨l, hlE⟩ : ∃ l : Nat, l = (-e - ((decB a).length : Int)).toNat := ⟨_, rfl⟩
      rw [← hlE]
      have e1 : (-e).toNat + 1 - (decB a).length = l + 1 := by omega
      rw [e1]
      have e2 : (List.replicate (l + 1) 48 ++ decB a).length - (-e).toNat = 1 := by simp; omega
      rw [e2]
      simp [List.replicate_succ]
    · rw [if_pos h0, if_neg h1, if_pos h00, if_neg hk]
      have e1 : (-e).toNat + 1 - (decB a).length = 0 := by omega
      rw [e1]
      have e2 : ((decB a).length : Int) + e = (((decB a).length - (-e).toNat : Nat) : Int) := by omega
      rw [e2]
      simp
  · rw [if_neg h0]
    by_cases h1 : e ≤ 0
    · obtain rfl : e = 0 := by omega
      have hne : decB a ≠ [] := fun h => by rw [h] at hl; simp at hl; omega
      rw [if_pos h1]
      have e1 : (-(0 : Int)).toNat = 0 := rfl
      have e2 : 0 + 1 - (decB a).length = 0 := by omega
      rw [e1, if_pos rfl, e2]
      simp
    · rw [if_neg h1]
      rcases h with h | h
      · omega
      · rw [if_pos h]
end Go.Proofs.YtlepebogjpcfoaaGreatDoor

/- Walks: strconv.AppendInt at base 10, onto a buffer that is known by its cells. -/
set_option linter.unusedVariables false
set_option linter.unusedSimpArgs false
namespace Go.Proofs.YtlepebogjpcfoaaGreatDoor
open Go.RowKit

theorem decB_step {u : Nat} (h : ¬ u < 10) : decB u = decB (u / 10) ++ [48 + u % 10] := by
  have e : digs 10 u = (u % 10) :: digs 10 (u / 10) := by rw [digs_pos (by omega) (by omega)]
  unfold decB
  rw [if_neg (by omega), if_neg (by omega), e]
  simp
theorem decDigits_eq (u : Nat) : Lib.decDigits u = (decB u).map UInt8.ofNat := by
  induction u using Nat.strongRecOn with
  | ind u ih =>
    unfold Lib.decDigits
    by_cases h : u < 10
    · rw [dif_pos h]
      have : decB u = [48 + u] := by
        unfold decB
        by_cases h0 : u = 0
        · subst h0; rfl
        · rw [if_neg h0, digs_pos (by omega) (by omega), Nat.mod_eq_of_lt h, Nat.div_eq_of_lt h]
          simp [digs]
      rw [this]; rfl
    · rw [dif_neg h, ih _ (by omega), decB_step h]
      simp
theorem decB_lt256 (u : Nat) : ∀ d ∈ decB u, d < 256 := by
  induction u using Nat.strongRecOn with
  | ind u ih =>
    by_cases h : u < 10
    · have : decB u = [48 + u] := by
        unfold decB
        by_cases h0 : u = 0
        · subst h0; rfl
        · rw [if_neg h0, digs_pos (by omega) (by omega), Nat.mod_eq_of_lt h, Nat.div_eq_of_lt h]
          simp [digs]
      rw [this]; intro d hd; simp at hd; omega
    · rw [decB_step h]
      intro d hd
      rcases List.mem_append.1 hd with h1 | h1
      · exact ih _ (by omega) d h1
      · simp at h1; omega
theorem byteCells_dec (u : Nat) : Lib.byteCells (Lib.decDigits u) = gv .u8 (decB u) := by
  rw [decDigits_eq]
  simp only [Lib.byteCells, gv, List.map_map]
  refine List.map_congr_left (fun d hd => ?_)
  have := decB_lt256 u d hd
  simp [UInt8.toNat_ofNat, Nat.mod_eq_of_lt this]

set_option maxHeartbeats 2000000 in
set_option maxRecDepth 100000 in
theorem appu_small (u : Nat) (hu : u < 100) (base : Nat) (buf : Value) (xs : List Nat) (w : World) (hB : Buf w base buf xs) (hb : base ≤ w.heap.size) (hl : xs.length + 20 ≤ 1000000) :
    Calls Tryz.prog 143 #[buf, .int .u64 (u : Int), .int .i64 10] w (AppP w base buf (xs ++ decB u)) := by
  obtain ⟨i0, hi, hz0, hz1, hz2⟩ := u8_parts
  have HI := hide (And.intro hi (And.intro hz0 (And.intro hz1 hz2)))
  clear hi hz0 hz1 hz2
  have HB := hide hB
  have hlen : (decB u).length ≤ 20 := by
    rw [decB_length]; unfold figs; split
    · omega
    · exact digs_length_le (by omega) (Nat.lt_of_lt_of_le hu (by decide))
  have con : ∀ W, Calls Tryz.prog 168 #[.int .i64 (u : Int)] W fun e w' => e = .returned (.string (bstr (decB u))) ∧ w' = W := fun W => by
    have h := Tryz.internal_strconv_small u hu W
    rw [decDigits_eq] at h
    exact h
  have hsrc := fun W => src_text W (decB u) (decB_lt256 u)
  have Con := hide con
  have HSr := hide hsrc
  have iu : (u : Int) < 100 := by omega
  have Hb := hide (And.intro hb hl)
  clear hB con hsrc hb hl
  go_enter Tryz.func143, Tryz.ntmps143
  go_wp2_with (first
    | (go_at_call 168; refine (Con.out _).mono ?_; rintro e w' ⟨rfl, rfl⟩)
    | (at_builtin; go_loud (refine wp_append_buf _ rfl (.tmp 13) (.tmp 16) 9 rfl i0 HI.out.1 HI.out.2.1 HI.out.2.2.1 HI.out.2.2.2 (v := buf) (xs := xs) (base := base) rfl HB.out (.string (bstr (decB u))) (decB u) rfl (HSr.out _) Hb.out.1 (by have := Hb.out.2; omega) ?_; intro v3 w3 hB3 hF3 hO3; have HE : Hid (AppP w' base buf (xs ++ decB u) (.returned v3) w3) := ⟨v3, rfl, hB3, hF3, hO3⟩; clear hB3 hF3 hO3)))
  go_wp2
  go_ret
  exact HE.out

set_option maxHeartbeats 4000000 in
set_option maxRecDepth 100000 in
theorem appu_big (u : Nat) (hu : 100 ≤ u) (hu64 : u < 18446744073709551616) (base : Nat) (buf : Value) (xs : List Nat) (w : World) (hB : Buf w base buf xs) (hb : base ≤ w.heap.size) (hl : xs.length + 20 ≤ 1000000)
    (htab : Lib.TabIs Tryz.prog w "internal/strconv.uint64pow10" .u64 Lib.pow10Tab) :
    Calls Tryz.prog 143 #[buf, .int .u64 (u : Int), .int .i64 10] w (AppP w base buf (xs ++ decB u)) := by
  obtain ⟨i0, hi, hz0, hz1, hz2⟩ := u8_parts
  have HI := hide (And.intro hi (And.intro hz0 (And.intro hz1 hz2)))
  clear hi hz0 hz1 hz2
  have HB := hide hB
  have Hb := hide (And.intro hb hl)
  have hu1 : 1 ≤ u := by omega
  have hnd20 : Lib.nDigits u ≤ 20 := by have := Lib.numDigits_eq u hu1 hu64; split at this <;> omega
  have hsl : ∀ W, (Instr.sliceAt 212 (.pointer (some ⟨w.heap.size, 0, none⟩)) none (some (.int .i64 (Lib.nDigits u : Int))) none).run Tryz.prog W = .ok (.slice (some ⟨w.heap.size, 0, none⟩) (Lib.nDigits u) 24) W := fun W => by
    rw [run_sliceAt_array_h W 212 ⟨w.heap.size, 0, none⟩ (by kernel_rfl) .i64 (Lib.nDigits u : Int) (by omega) (by rw [show Tryz.prog.arrayLen 212 = 24 by kernel_rfl]; omega)]
    go_simp
  have hH0 := Lib.holds_zero0 w 212 (Lib.nDigits u) (by omega)
  have hfmt := Tryz.internal_strconv_formatBase10 w.heap.size 0 24 u (Array.replicate (Lib.nDigits u) 0) (w.alloc (.cells Lib.zeros24 212)) hH0 (by rw [Array.size_replicate]; exact Lib.lt_pow_nDigits u) hu64 (by rw [Array.size_replicate]; omega)
  rw [Array.size_replicate] at hfmt
  have HH0 := hide hH0
  have iu : ¬ (u : Int) < 100 := by omega
  have iu2 : IntKind.i64.wrap (u : Int) = IntKind.i64.wrap (u : Int) := rfl
  have Cnd := hide (Tryz.internal_strconv_numDigits u hu1 hu64 _ (Lib.tabIs_alloc htab (.cells Lib.zeros24 212)))
  clear hH0 hB hb hl htab iu2
  go_enter Tryz.func143, Tryz.ntmps143
  go_wp2_with (go_at_call 169; refine (Cnd.out).mono ?_; rintro e w' ⟨rfl, rfl⟩)
  go_at_call 170
  refine hfmt.mono ?_
  rintro e w' ⟨rfl, k, v', dk, rfl, hF⟩
  have hlen : (decB u).length = Lib.nDigits u := by have := congrArg List.length (decDigits_eq u); rw [Lib.decDigits_length, List.length_map] at this; exact this.symm
  have hcells : ∀ j, j < (decB u).length → ((Go.Sort.putRow (fun (b : UInt8) => Value.int .u8 (b.toNat : Int)) (w.alloc (.cells Lib.zeros24 212)) w.heap.size 0 dk).drewN k).cell? ⟨w.heap.size, j, none⟩ = some (.int .u8 (((decB u).getD j 0 : Nat) : Int)) := by
    intro j hj
    have hjl : j < (Lib.decDigits u).length := by rw [Lib.decDigits_length]; omega
    have e1 : (Lib.decDigits u)[j] = UInt8.ofNat ((decB u)[j]) := by simp only [decDigits_eq, List.getElem_map]
    have e2 : ((Lib.decDigits u)[j].toNat : Int) = (((decB u).getD j 0 : Nat) : Int) := by
      rw [e1, getD_at hj]
      have := decB_lt256 u _ (List.getElem_mem hj)
      simp [UInt8.toNat_ofNat, Nat.mod_eq_of_lt this]
    rw [← e2, Lib.row_is_numeral hF j hjl, World.cell?_drewN]
    have := Go.Sort.cell?_putRow (fun (b : UInt8) => Value.int .u8 (b.toNat : Int)) _ w.heap.size 0 _ dk HH0.out (by rw [hF.size, Array.size_replicate]) j (by rw [hF.size]; omega)
    rw [Nat.zero_add] at this
    exact this
  obtain ⟨os, eo⟩ := Lib.fin_at w (.cells Lib.zeros24 212) dk k 0
  have hbel : Below w.heap.size w ((Go.Sort.putRow (fun (b : UInt8) => Value.int .u8 (b.toNat : Int)) (w.alloc (.cells Lib.zeros24 212)) w.heap.size 0 dk).drewN k) := by rw [eo]; exact Lib.below_grow w.heap.size w (Nat.le_refl _) k os
  generalize (Go.Sort.putRow (fun (b : UInt8) => Value.int .u8 (b.toNat : Int)) (w.alloc (.cells Lib.zeros24 212)) w.heap.size 0 dk).drewN k = W2 at hcells hbel ⊢
  have hrd : RdG .u8 W2 (.slice (some ⟨w.heap.size, 0, none⟩) (Lib.nDigits u) 24) (decB u) := by
    rw [← hlen]
    exact .inr ⟨w.heap.size, 0, 24, rfl, by omega, by simp [maxLen], fun i hi => by rw [Nat.zero_add]; exact hcells i hi⟩
  have hsrc := src_rd hrd
  have HS2 : Hid (Src Tryz.prog 1 38 (.slice (some ⟨w.heap.size, 0, none⟩) (Lib.nDigits u) 24) (decB u).length (gv .u8 (decB u)) W2) := hsrc
  have HL := hide hlen
  have HBel := hide hbel
  clear eo HH0 hfmt hcells hrd hsrc hF hlen hbel Cnd
  go_wp2_with (at_builtin; go_loud (refine wp_append_buf _ rfl (.tmp 24) (.tmp 26) 38 rfl i0 HI.out.1 HI.out.2.1 HI.out.2.2.1 HI.out.2.2.2 (v := buf) (xs := xs) (base := base) rfl (HB.out.below HBel.out) (.slice (some ⟨w.heap.size, 0, none⟩) (Lib.nDigits u) 24) (decB u) rfl HS2.out (Nat.le_trans Hb.out.1 HBel.out.size) (by have := Hb.out.2; have := HL.out; omega) ?_; intro v3 w3 hB3 hF3 hO3; have HE : Hid (AppP w base buf (xs ++ decB u) (.returned v3) w3) := ⟨v3, rfl, hB3, Fr.step (Fr.of_below HBel.out _) hF3 (fun _ _ h => h), fun k hk => (hO3 k hk).imp id (fun h => Nat.le_trans HBel.out.size h)⟩; clear hB3 hF3 hO3))
  go_wp2
  go_ret
  exact HE.out

theorem appu_any (u : Nat) (hu64 : u < 18446744073709551616) (base : Nat) (buf : Value) (xs : List Nat) (w : World) (hB : Buf w base buf xs) (hb : base ≤ w.heap.size) (hl : xs.length + 20 ≤ 1000000)
    (htab : Lib.TabIs Tryz.prog w "internal/strconv.uint64pow10" .u64 Lib.pow10Tab) :
    Calls Tryz.prog 143 #[buf, .int .u64 (u : Int), .int .i64 10] w (AppP w base buf (xs ++ decB u)) := by
  by_cases h : u < 100
  · exact appu_small u h base buf xs w hB hb hl
  · exact appu_big u (by omega) hu64 base buf xs w hB hb hl htab

/-- strconv.AppendInt of a number that is not below 0. -/
theorem appint_any (u : Nat) (hu : u < 9223372036854775808) (base : Nat) (buf : Value) (xs : List Nat) (w : World) (hB : Buf w base buf xs) (hb : base ≤ w.heap.size) (hl : xs.length + 20 ≤ 1000000)
    (htab : Lib.TabIs Tryz.prog w "internal/strconv.uint64pow10" .u64 Lib.pow10Tab) :
    Calls Tryz.prog 109 #[buf, .int .i64 (u : Int), .int .i64 10] w (AppP w base buf (xs ++ decB u)) := by
  have Con := hide (appu_any u (by omega) base buf xs w hB hb hl htab)
  have hw : IntKind.u64.wrap (u : Int) = (u : Int) := by simp [IntKind.wrap, IntKind.signed, IntKind.bits]; omega
  have hn : ¬ (u : Int) < 0 := by omega
  have inner : Calls Tryz.prog 125 #[buf, .int .i64 (u : Int), .int .i64 10] w (AppP w base buf (xs ++ decB u)) := by
    clear hB hb hl htab
    generalize xs ++ decB u = ys at *
    go_enter Tryz.func125, Tryz.ntmps125
    go_wp2_with fail
    refine (Con.out).mono ?_
    rintro e w2 ⟨v2, rfl, hB2⟩
    have HE : Hid (AppP w base buf ys (.returned v2) w2) := ⟨v2, rfl, hB2⟩
    clear hB2
    go_wp2
    go_ret
    exact HE.out
  have Con2 := hide inner
  clear hB hb hl htab inner Con
  generalize xs ++ decB u = ys at *
  go_enter Tryz.func109, Tryz.ntmps109
  go_wp2_with fail
  refine (Con2.out).mono ?_
  rintro e w2 ⟨v2, rfl, hB2⟩
  have HE : Hid (AppP w base buf ys (.returned v2) w2) := ⟨v2, rfl, hB2⟩
  clear hB2
  go_wp2
  go_ret
  exact HE.out
end Go.Proofs.YtlepebogjpcfoaaGreatDoor

/- A buffer that grows while digits lie beside it. -/
set_option linter.unusedVariables false
set_option linter.unusedSimpArgs false
namespace Go.Proofs.YtlepebogjpcfoaaGreatDoor
open Go.RowKit

structure St (w : World) (base : Nat) (buf dgv : Value) (bd : Nat) (ys : List Nat) (v : Value) (xs : List Nat) (W : World) : Prop where
  b : Buf W base v xs
  f : Fr w W (fun k => buf.ownBlock = some k)
  o : ∀ k, v.ownBlock = some k → buf.ownBlock = some k ∨ w.heap.size ≤ k
  d : Buf W bd dgv ys
def BufApart (w : World) (buf dgv : Value) : Prop := ∀ k, dgv.ownBlock = some k → k < w.heap.size ∧ buf.ownBlock ≠ some k
theorem St.start {w : World} {base : Nat} {buf dgv : Value} {bd : Nat} {ys xs : List Nat} (hB : Buf w base buf xs) (hD : Buf w bd dgv ys) : St w base buf dgv bd ys buf xs w :=
  ⟨hB, Fr.refl _ _, fun _ h => .inl h, hD⟩
theorem St.st {w : World} {base : Nat} {buf dgv : Value} {bd : Nat} {ys : List Nat} {v : Value} {xs : List Nat} {W : World} (h : St w base buf dgv bd ys v xs W) (ha : BufApart w buf dgv) {v' : Value} {zs : List Nat} {w' : World} (hB : Buf w' base v' zs) (hF : Fr W w' (fun k => v.ownBlock = some k)) (hO : ∀ k, v'.ownBlock = some k → v.ownBlock = some k ∨ W.heap.size ≤ k) : St w base buf dgv bd ys v' zs w' := by
  refine ⟨hB, Fr.step h.f hF (fun i hi hk => (h.o i hk).elim id (fun h2 => absurd hi (by omega))), fun k hk => ?_, h.d.fr hF (fun k hk hv => ?_)⟩
  · rcases hO k hk with h1 | h1
    · exact h.o k h1
    · exact .inr (Nat.le_trans h.f.size h1)
  · have h1 := ha k hk
    rcases h.o k hv with h2 | h2
    · exact h1.2 h2
    · omega
theorem St.al {w : World} {base : Nat} {buf dgv : Value} {bd : Nat} {ys : List Nat} {v : Value} {xs : List Nat} {W : World} (h : St w base buf dgv bd ys v xs W) (ha : BufApart w buf dgv) {o : Obj} {v' : Value} {zs : List Nat} {w' : World} (hB : Buf w' base v' zs) (hF : Fr (W.alloc o) w' (fun k => v.ownBlock = some k)) (hO : ∀ k, v'.ownBlock = some k → v.ownBlock = some k ∨ (W.alloc o).heap.size ≤ k) : St w base buf dgv bd ys v' zs w' :=
  h.st ha hB (Fr.step ((Fr.refl W _).alloc o) hF (fun _ _ h => h)) (fun k hk => (hO k hk).imp id (fun h => Nat.le_trans (by simp) h))
theorem St.app {w : World} {base : Nat} {buf dgv : Value} {bd : Nat} {ys : List Nat} {v : Value} {xs zs : List Nat} {W : World} (h : St w base buf dgv bd ys v xs W) (e : xs = zs) : AppP w base buf zs (.returned v) W := by
  subst e; exact ⟨v, rfl, h.b, h.f, h.o⟩
theorem St.bel {w : World} {base : Nat} {buf dgv : Value} {bd : Nat} {ys : List Nat} {v : Value} {xs : List Nat} {W : World} (h : St w base buf dgv bd ys v xs W) (hb : base ≤ w.heap.size) (hbb : ∀ k, buf.ownBlock = some k → base ≤ k) : Below base w W := h.f.below hb hbb
/-- A buffer in its own form. -/
theorem Buf.split {w : World} {base : Nat} {v : Value} {xs : List Nat} (h : Buf w base v xs) (hne : 0 < xs.length) : ∃ g c, v = .slice (some ⟨g, 0, none⟩) xs.length c ∧ xs.length ≤ c ∧ c ≤ maxLen ∧ g < w.heap.size ∧ ∀ i d, xs[i]? = some d → w.cell? ⟨g, i, none⟩ = some (.int .u8 (d : Nat)) := by
  obtain ⟨A, c, rfl, h⟩ := h
  rcases h with ⟨_, rfl, _⟩ | ⟨g, rfl, h1, h2, h3, h4, h5, h6⟩
  · simp at hne
  · exact ⟨g, c, rfl, h3, h4, h2, h5⟩
/-- A part of a buffer, to be appended. -/
theorem src_part {W : World} {g n c : Nat} {ys : List Nat} (o : Nat) (hd : ∀ i d, ys[i]? = some d → W.cell? ⟨g, o + i, none⟩ = some (.int .u8 (d : Nat))) (hn : n = ys.length) (hc : n ≤ c) (hm : c ≤ maxLen) : Src Tryz.prog 1 38 (.slice (some ⟨g, o, none⟩) n c) ys.length (gv .u8 ys) W := by
  subst hn
  exact src_rd (.inr ⟨g, o, c, rfl, hc, hm, fun i hi => by rw [getD_at hi]; exact hd i _ (List.getElem?_eq_getElem hi)⟩)
end Go.Proofs.YtlepebogjpcfoaaGreatDoor
