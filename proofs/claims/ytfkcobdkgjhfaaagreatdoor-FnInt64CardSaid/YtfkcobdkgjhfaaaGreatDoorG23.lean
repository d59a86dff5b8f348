/- Parts of the proofs: ExpB, DigLook, Spec1. -/
import Derived.Test.YtfkcobdkgjhfaaaGreatDoorG2
import Derived.Test.YtfkcobdkgjhfaaaGreatDoorG16
import Derived.Test.YtfkcobdkgjhfaaaGreatDoorG21
import Derived.Test.YtfkcobdkgjhfaaaGreatDoorG22
/- Walks: powers into the base's own place: Int.exp, Int.Exp, BigInt.Exp. -/
set_option linter.unusedVariables false
set_option linter.unusedSimpArgs false
namespace Go.Proofs.YtfkcobdkgjhfaaaGreatDoor
open Go.RowKit

theorem expNN_a (base bx by_ b n l : Nat) (A B : Option Addr) (c d : Nat) (w : World) (hb : base ≤ w.heap.size) (hx : Own w bx (.slice A 1 c) [b]) (hy : Own w by_ (.slice B l d) (digs 18446744073709551616 n))
    (hb2 : 2 ≤ b) (hbl : b < 18446744073709551616) (hn0 : n ≠ 0) (hnl : n < 18446744073709551616) (hsz : b ^ (n / 2) < 18446744073709551616 ^ 11) (hv : Vars w base) :
    Calls Tryz.prog 189 #[.slice A 1 c, .pointer none, .slice A 1 c, .slice B l d, .slice none 0 0, .bool false] w (SetP w base (.slice none 0 0) (digs 18446744073709551616 (b ^ n))) := by
  have hl : l = (digs 18446744073709551616 n).length := RdG.len (k := .u64) hy.rd
  rw [digs_word hnl hn0] at hl hy
  subst hl
  by_cases h1 : n = 1
  · subst h1
    exact expNN_one_a base bx by_ b A B c d w hb hx hy hb2 hbl
  · exact expNN_main_a base bx by_ b n A B c d w hb hx hy hb2 hbl (by omega) hnl hsz hv

theorem setP_new {w w' : World} {base : Nat} {xs : List Nat} {A : Option Addr} {c : Nat} (ho : Own w' base (.slice A xs.length c) xs) (hne : xs ≠ [])
    (hb : (Value.slice A xs.length c).ownBlock = (Value.slice none 0 0).ownBlock ∨ ∃ k, (Value.slice A xs.length c).ownBlock = some k ∧ w.heap.size ≤ k) : ∃ k, (Value.slice A xs.length c).ownBlock = some k ∧ w.heap.size ≤ k := by
  rcases hb with h | h
  · rcases ho.form with ⟨_, h1⟩ | ⟨g, _, _, h1, _⟩
    · exact absurd h1 hne
    · rw [h1] at h; cases h
  · exact h

set_option maxHeartbeats 1000000 in
theorem iexp_a (base by_ gz oz gy oy : Nat) (tz ty : TypeId) (cz cy : Array Value) (b n l : Nat) (A B : Option Addr) (c d : Nat) (w : World)
    (hz : Blk w gz tz cz) (hz0 : cz[oz]? = some (.bool false)) (hz1 : cz[oz + 1]? = some (.slice A 1 c)) (hzr : Own w base (.slice A 1 c) [b]) (htz : tz ≠ 145)
    (hy : Blk w gy ty cy) (hy0 : cy[oy]? = some (.bool false)) (hy1 : cy[oy + 1]? = some (.slice B l d)) (hyr : Own w by_ (.slice B l d) (digs 18446744073709551616 n))
    (hb : base ≤ w.heap.size) (hb2 : 2 ≤ b) (hbl : b < 18446744073709551616) (hn0 : n ≠ 0) (hnl : n < 18446744073709551616) (hsz : b ^ (n / 2) < 18446744073709551616 ^ 11) (hv : Vars w base) :
    Calls Tryz.prog 164 #[.pointer (some ⟨gz, oz, none⟩), .pointer (some ⟨gz, oz, none⟩), .pointer (some ⟨gy, oy, none⟩), .pointer none, .bool false] w (IntP w base gz oz tz cz (.slice A 1 c) false (digs 18446744073709551616 (b ^ n))) := by
  have c1 : w.cell? ⟨gz, oz + 1, none⟩ = some (.slice A 1 c) := (hz.cell _).trans hz1
  have c3 : w.cell? ⟨gy, oy, none⟩ = some (.bool false) := (hy.cell _).trans hy0
  have c4 : w.cell? ⟨gy, oy + 1, none⟩ = some (.slice B l d) := (hy.cell _).trans hy1
  have hzne : ∀ k, (Value.slice A 1 c).ownBlock = some k → k ≠ gz := hzr.room.ne_blk hz htz
  have hp : 0 < (digs 18446744073709551616 (b ^ n)).length := List.length_pos_iff.2 (digs_ne_nil (by omega) (Nat.pow_pos (by omega)))
  have Con := hide (expNN_a base base by_ b n l A B c d w hb hzr hyr hb2 hbl hn0 hnl hsz hv)
  have Key := hide (fun v w1 hf => int_key (w1 := w1) hz hz0 hz1 hzne v hf)
  have Key2 := hide (fun (v : Value) (w1 : World) (hf : Fr w w1 (fun k => (Value.slice A 1 c).ownBlock = some k)) => show ((w1.setCell ⟨gz, oz + 1, none⟩ v).setCell ⟨gz, oz, none⟩ (.bool false)).cell? ⟨gz, oz, none⟩ = some (.bool false) from by
    have b1 : Blk w1 gz tz cz := hz.fr hf (fun h => hzne gz h rfl)
    have hlt : oz < cz.size := (Array.getElem?_eq_some_iff.1 hz0).1
    rw [((b1.set _ _).set _ _).cell]; simp [hlt])
  have Fin := hide (fun v w1 w2 h1 h2 h3 h4 => int_fin (base := base) (w1 := w1) (w2 := w2) (o := oz) (xs := digs 18446744073709551616 (b ^ n)) hz htz hzne v false h1 h2 h3 h4)
  have HP := hide hp
  clear hz hz0 hz1 hzr hzne hy hy0 hy1 hyr hv hp hsz hn0 hb2 hbl hnl
  generalize digs 18446744073709551616 (b ^ n) = D at *
  go_enter Tryz.func164, Tryz.ntmps164
  go_wp2_with fail
  refine (Con.out).mono ?_
  rintro e w1 ⟨R, cr, rfl, hr, hrb, hf⟩
  have hf2 : Fr w w1 (fun k => (Value.slice A 1 c).ownBlock = some k) := hf.mono (fun k _ h => by cases h)
  obtain ⟨k1, k2, k3, k4, k5⟩ := Key.out (.slice R D.length cr) w1 hf2
  have k6 := Key2.out (.slice R D.length cr) w1 hf2
  have HF := hide (Fin.out (.slice R D.length cr) w1 _ (.inl rfl) hr (.inr (setP_new hr (List.length_pos_iff.1 HP.out) hrb)) hf2)
  have hp := HP.out
  clear hr hrb hf hf2 Con Key Key2 Fin HP
  generalize D.length = q at hp k1 k2 k3 k4 k5 k6 HF ⊢
  go_wp2
  go_ret
  exact HF.out

theorem iExp_a (base by_ gz oz gy oy : Nat) (tz ty : TypeId) (cz cy : Array Value) (b n l : Nat) (A B : Option Addr) (c d : Nat) (w : World)
    (hz : Blk w gz tz cz) (hz0 : cz[oz]? = some (.bool false)) (hz1 : cz[oz + 1]? = some (.slice A 1 c)) (hzr : Own w base (.slice A 1 c) [b]) (htz : tz ≠ 145)
    (hy : Blk w gy ty cy) (hy0 : cy[oy]? = some (.bool false)) (hy1 : cy[oy + 1]? = some (.slice B l d)) (hyr : Own w by_ (.slice B l d) (digs 18446744073709551616 n))
    (hb : base ≤ w.heap.size) (hb2 : 2 ≤ b) (hbl : b < 18446744073709551616) (hn0 : n ≠ 0) (hnl : n < 18446744073709551616) (hsz : b ^ (n / 2) < 18446744073709551616 ^ 11) (hv : Vars w base) :
    Calls Tryz.prog 140 #[.pointer (some ⟨gz, oz, none⟩), .pointer (some ⟨gz, oz, none⟩), .pointer (some ⟨gy, oy, none⟩), .pointer none] w (IntP w base gz oz tz cz (.slice A 1 c) false (digs 18446744073709551616 (b ^ n))) := by
  have Con := hide (iexp_a base by_ gz oz gy oy tz ty cz cy b n l A B c d w hz hz0 hz1 hzr htz hy hy0 hy1 hyr hb hb2 hbl hn0 hnl hsz hv)
  clear hz hz0 hz1 hzr hy hy0 hy1 hyr hv hsz
  go_enter Tryz.func140, Tryz.ntmps140
  go_wp2_with fail
  refine (Con.out).mono ?_
  rintro e w1 HI
  have HI2 := hide HI
  obtain ⟨rfl, _⟩ := HI
  clear Con
  go_wp2
  go_ret
  exact HI2.out
set_option maxHeartbeats 1000000 in
theorem bexp_a (base by_ gz oz gy oy : Nat) (tz ty : TypeId) (cz cy : Array Value) (b n l : Nat) (A B : Option Addr) (c d : Nat) (mi : Bool) (w : World)
    (hz : Blk w gz tz cz) (hz0 : cz[oz]? = some (.bool false)) (hz1 : cz[oz + 1]? = some (.slice A 1 c)) (hz2 : cz[oz + 2]? = some (.bool mi)) (hzr : Own w base (.slice A 1 c) [b]) (htz : tz ≠ 145)
    (hy : Blk w gy ty cy) (hy0 : cy[oy]? = some (.bool false)) (hy1 : cy[oy + 1]? = some (.slice B l d)) (hyr : Own w by_ (.slice B l d) (digs 18446744073709551616 n))
    (hney : gz ≠ gy) (hgz : base ≤ gz) (hb : base ≤ w.heap.size) (hb2 : 2 ≤ b) (hbl : b < 18446744073709551616) (hn0 : n ≠ 0) (hnl : n < 18446744073709551616) (hsz : b ^ (n / 2) < 18446744073709551616 ^ 11) (hv : Vars w base) :
    Calls Tryz.prog 122 #[.pointer (some ⟨gz, oz, none⟩), .pointer (some ⟨gz, oz, none⟩), .pointer (some ⟨gy, oy, none⟩)] w (BigP w base gz oz tz cz (.slice A 1 c) false false (digs 18446744073709551616 (b ^ n))) := by
  have c1 : w.cell? ⟨gz, oz + 2, none⟩ = some (.bool mi) := (hz.cell _).trans hz2
  have f1 : w.frozen? ⟨gz, oz + 2, none⟩ = false := hz.frozen _
  have hf0 : Fr w (w.setCell ⟨gz, oz + 2, none⟩ (.bool false)).drew (fun k => k = gz) := ((Fr.refl w (fun k => k = gz)).setCell (p := ⟨gz, oz + 2, none⟩) (fun _ => rfl) _).drew
  have con := iExp_a base by_ gz oz gy oy tz ty (cz.setIfInBounds (oz + 2) (.bool false)) cy b n l A B c d (w.setCell ⟨gz, oz + 2, none⟩ (.bool false)).drew
    (hz.set _ _) (by rw [getElem?_set_ne (by omega)]; exact hz0) (by rw [getElem?_set_ne (by omega)]; exact hz1) (hzr.fr hf0 (hzr.room.ne_blk hz htz)) htz
    (hy.far (p := ⟨gz, oz + 2, none⟩) (Ne.symm hney) _) hy0 hy1 (hyr.fr hf0 (hyr.room.ne_blk hz htz)) (by simpa using hb) hb2 hbl hn0 hnl hsz (hv.fr hf0 (fun k hk => by rw [hk]; exact hgz))
  have Con := hide con
  have Fin := hide (fun e w' h => big_fin (mi := false) (W := (w.setCell ⟨gz, oz + 2, none⟩ (.bool false)).drew) (w := w) (base := base) (g := gz) (o := oz) (t := tz) (cs := cz) (vz := .slice A 1 c) (n := false) (xs := digs 18446744073709551616 (b ^ n)) (.inr rfl) (e := e) (w' := w') h)
  clear hz hz0 hz1 hz2 hzr hy hy0 hy1 hyr con hf0 hv hsz
  generalize digs 18446744073709551616 (b ^ n) = D at *
  go_enter Tryz.func122, Tryz.ntmps122
  go_wp2_with fail
  go_region_with (go_at_call 140; go_loud (refine (Con.out).mono ?_; rintro e w1 HI; have HI2 := hide HI; obtain ⟨rfl, _⟩ := HI))
  all_goals go_wp2
  all_goals go_ret
  all_goals exact Fin.out _ _ HI2.out
end Go.Proofs.YtfkcobdkgjhfaaaGreatDoor

/- Walks: digitsLookup: how many figures 2^(i-1) has, and 10 to that power. -/
set_option linter.unusedVariables false
set_option linter.unusedSimpArgs false
namespace Go.Proofs.YtfkcobdkgjhfaaaGreatDoor
open Go.RowKit

theorem dl_le {i : Nat} (h : i ≤ 129) : dl i ≤ 39 := digs_length_le (by omega) (Nat.lt_of_le_of_lt (Nat.pow_le_pow_right (by omega) (show i - 1 ≤ 128 by omega)) (by decide))
theorem dl_pos (i : Nat) : 1 ≤ dl i := List.length_pos_iff.2 (digs_ne_nil (by omega) (Nat.two_pow_pos _))
theorem dl_size (s : Nat) : (bstr (decB (2 ^ s))).size = dl (s + 1) := by
  rw [bstr_size, decB_length, figs, if_neg (Nat.ne_of_gt (Nat.two_pow_pos s)), dl, Nat.add_sub_cancel]
theorem two_len {s : Nat} (h : s ≤ 127) : (digs 18446744073709551616 (2 ^ s)).length ≤ 2 := digs_length_le (by omega) (Nat.lt_of_le_of_lt (Nat.pow_le_pow_right (by omega) h) (by decide))

/-- The cells of a row of the table. -/
def tvC (d : Int) (bn : Bool) (b : Value) (bm : Bool) (nn : Bool) (n : Value) (nm : Bool) : Array Value := #[.int .i64 d, .bool bn, b, .bool bm, .bool nn, n, .bool nm]

/-- A row of the table. -/
def TvP (w : World) (i : Nat) (e : Ending) (w' : World) : Prop :=
  ∃ g A c v, e = .returned (.pointer (some ⟨g, 0, none⟩)) ∧ w.heap.size ≤ g ∧ Own w' w.heap.size (.slice A (digs 18446744073709551616 (10 ^ dl i)).length c) (digs 18446744073709551616 (10 ^ dl i)) ∧
    Blk w' g 173 (tvC (dl i) false (.slice A (digs 18446744073709551616 (10 ^ dl i)).length c) false true v false) ∧ Below w.heap.size w w'

set_option maxHeartbeats 1000000 in
set_option maxRecDepth 20000 in
theorem digLook_any (i : Nat) (w : World) (h1 : 1 ≤ i) (h2 : i ≤ 128) (hv : VarsL w w.heap.size) : Calls Tryz.prog 120 #[.int .i64 (i : Int)] w (TvP w i) := by
  obtain ⟨s, hsi⟩ : ∃ s, i = s + 1 := ⟨i - 1, by omega⟩
  obtain ⟨ge, hge⟩ : ∃ g, g = w.heap.size := ⟨_, rfl⟩
  obtain ⟨W1, hW1⟩ : ∃ W1, W1 = w.alloc (.cells (tvC 0 false (.slice none 0 0) false false (.slice none 0 0) false) 173) := ⟨_, rfl⟩
  have hb1 : Below w.heap.size w W1 := by rw [hW1]; exact below_al (Below.refl _ _) _
  have hB1 : Blk W1 ge 173 (tvC 0 false (.slice none 0 0) false false (.slice none 0 0) false) := by rw [hW1, hge]; exact Blk.new w _ _
  have hs1 : W1.heap.size = ge + 1 := by rw [hW1, hge]; simp
  have con := newBig_any 1 W1 (by omega)
  rw [digs_word (by omega) (by omega)] at con
  have Con := hide con
  have HH := hide (And.intro hb1 (And.intro hB1 (And.intro hs1 (And.intro hge hv))))
  have n0 : ((i : Int) == 0) = false := beq_eq_false_iff_ne.2 (by omega)
  have e1 : (i : Int) - 1 = (s : Int) := by omega
  have hs127 : (s : Int) ≤ 127 := by omega
  have HI := hide hsi
  unfold tvC at hW1
  clear hb1 hB1 hs1 hv con hsi
  go_enter Tryz.func120, Tryz.ntmps120
  go_wp2_with fail
  rw [← hge, ← hW1]
  clear hge hW1
  refine (Con.out).mono ?_
  rintro e w2 ⟨g1, A, c, rfl, hg1, hown, hblk, hbel⟩
  obtain ⟨gx, rfl⟩ : ∃ gx, A = some ⟨gx, 0, none⟩ := by
    rcases hown.form with ⟨_, h⟩ | ⟨g, _, _, h, _⟩
    · cases h
    · injection h with h; exact ⟨g, h⟩
  have Con2 := hide (bLsh_any W1.heap.size g1 gx c s w2 hblk hown hbel.size (by omega))
  have H2 := hide (And.intro hg1 (And.intro hbel (hown.lt (k := gx) rfl).1))
  clear hown hblk hg1 hbel Con
  go_wp2_with fail
  refine (Con2.out).mono ?_
  rintro e w3 ⟨rfl, A3, c3, ho3, hk3, hB3, hF3⟩
  have hb13 : Below W1.heap.size W1 w3 := H2.out.2.1.trans (hF3.below H2.out.2.1.size (fun k hk => by
    rcases hk with rfl | hk
    · exact H2.out.1
    · have : gx = k := by simpa [Value.ownBlock] using hk
      have := H2.out.2.2
      omega))
  have hb3 : Below w.heap.size w w3 := below_next HH.out.1 hb13
  have hl2 := two_len (s := s) (by omega)
  have ConS := hide (bstr_any W1.heap.size g1 0 _ c3 (2 ^ s) A3 w3 (hB3.cell 0) (hB3.cell 1) ho3 (by omega) ((HH.out.2.2.2.2.below hb3).raise hb3.size))
  have H3 := hide (And.intro hb3 hb13)
  clear ho3 hk3 hB3 hF3 hb13 hb3 hl2 Con2 H2
  go_wp2_with fail
  refine (ConS.out).mono ?_
  rintro e w4 ⟨rfl, hb34⟩
  have hb4 := below_next H3.out.1 hb34
  have hB4 : Blk w4 ge 173 (tvC 0 false (.slice none 0 0) false false (.slice none 0 0) false) := (HH.out.2.1.below H3.out.2).below hb34
  obtain ⟨D, hD⟩ : ∃ D, D = dl i := ⟨_, rfl⟩
  have hsz : (bstr (decB (2 ^ s))).size = D := by rw [hD, HI.out]; exact dl_size s
  have hD1 : 1 ≤ D := by rw [hD]; exact dl_pos _
  have hD39 : D ≤ 39 := by rw [hD]; exact dl_le (by omega)
  have x0 := hB4.cell 0
  have f0 := hB4.frozen 0
  obtain ⟨W5, hW5⟩ : ∃ W5, W5 = w4.setCell ⟨ge, 0, none⟩ (.int .i64 (D : Int)) := ⟨_, rfl⟩
  have hB5 : Blk W5 ge 173 (tvC D false (.slice none 0 0) false false (.slice none 0 0) false) := by rw [hW5]; exact hB4.set 0 _
  have hgew := HH.out.2.2.2.1
  have hb5 : Below w.heap.size w W5 := by rw [hW5]; exact hb4.setCell (by simp; omega) _
  obtain ⟨gc, hgc⟩ : ∃ g, g = w4.heap.size := ⟨_, rfl⟩
  obtain ⟨W6, hW6⟩ : ∃ W6, W6 = W5.alloc (.cells #[.bool false, .slice none 0 0, .bool false] 69) := ⟨_, rfl⟩
  have hB6 : Blk W6 ge 173 (tvC D false (.slice none 0 0) false false (.slice none 0 0) false) := by rw [hW6]; exact hB5.alloc _
  have hC6 : Blk W6 gc 69 #[.bool false, .slice none 0 0, .bool false] := by
    have : gc = W5.heap.size := by rw [hgc, hW5]; simp
    rw [hW6, this]; exact Blk.new W5 _ _
  have hb6 : Below w.heap.size w W6 := by rw [hW6]; exact below_al hb5 _
  have hne6 : ge ≠ gc := by have := hB4.lt; omega
  have con6 := bsetInt64_any w.heap.size ge 1 173 (tvC D false (.slice none 0 0) false false (.slice none 0 0) false) false false (.slice none 0 0) 0 10 W6 hB6 rfl rfl rfl (Own.nil _ _).room (by decide) hb6.size (by omega) (by omega)
  have e10 : digs 18446744073709551616 (10 : Int).natAbs = [10] := digs_word (by decide) (by decide)
  rw [e10] at con6
  have Con6 := hide con6
  have H6 := hide (And.intro hb6 (And.intro hC6 (And.intro hne6 (And.intro hD (And.intro (show gc < W6.heap.size from hC6.lt) (show w.heap.size ≤ gc by rw [hgc]; exact hb4.size))))))
  clear con6 e10 hb6 hC6 hne6 hB6 hb5 hB5 hb4 hB4 hb34 hgew hD H3 ConS
  generalize bstr (decB (2 ^ s)) = T at hsz ⊢
  have HW5 := hide hW5
  have HW6 := hide hW6
  have HGC := hide hgc
  clear hW5 hW6 hgc
  go_wp2_with fail
  rw [← HW5.out, ← HW6.out, ← HGC.out]
  clear HW5 HW6 HGC x0 f0 hsz
  refine (Con6.out).mono ?_
  rintro e w7 ⟨rfl, A7, c7, ho7, hk7, hB7, hF7⟩
  have hb7 : Below w.heap.size w w7 := H6.out.1.trans (hF7.below H6.out.1.size (fun k hk => by
    rcases hk with rfl | hk
    · have := HH.out.2.2.2.1; omega
    · cases hk))
  have hC7 := H6.out.2.1.fr hF7 (fun hk => by
    rcases hk with hk | hk
    · exact H6.out.2.2.1 hk.symm
    · cases hk)
  have hd7 : w7.cell? ⟨ge, 0, none⟩ = some (.int .i64 (D : Int)) := hB7.cell 0
  obtain ⟨g7, rfl⟩ : ∃ gx, A7 = some ⟨gx, 0, none⟩ := by
    rcases ho7.form with ⟨_, h⟩ | ⟨g, _, _, h, _⟩
    · cases h
    · injection h with h; exact ⟨g, h⟩
  have hg7 : g7 ≠ gc ∧ w.heap.size ≤ g7 := ⟨ho7.room.ne_blk hC7 (by decide) g7 rfl, (ho7.lt (k := g7) rfl).1⟩
  have con7 := bsetInt64_any gc gc 0 69 #[.bool false, .slice none 0 0, .bool false] false false (.slice none 0 0) 0 (D : Int) w7 hC7 rfl rfl rfl (Own.nil _ _).room (by decide) (by have := hF7.size; have := H6.out.2.2.2.2.1; omega) (by omega) (by omega)
  rw [decide_eq_false (by omega : ¬ (D : Int) < 0), Int.natAbs_natCast] at con7
  have Con7 := hide con7
  have H7 := hide (And.intro hb7 (And.intro ho7 (And.intro (show Blk w7 ge 173 (tvC D false (.slice (some ⟨g7, 0, none⟩) 1 c7) false false (.slice none 0 0) false) from hB7) hg7)))
  clear con7 hb7 ho7 hk7 hB7 hF7 hC7 Con6 hg7
  go_wp2_with fail
  refine (Con7.out).mono ?_
  rintro e w8 ⟨rfl, A8, c8, ho8, hk8, hC8, hF8⟩
  have hF8d : Fr w7 w8.drew (fun k => k = gc ∨ (Value.slice none 0 0).ownBlock = some k) := hF8.drew
  have hb8 : Below w.heap.size w w8.drew := H7.out.1.trans (hF8d.below H7.out.1.size (fun k hk => by
    rcases hk with rfl | hk
    · exact H6.out.2.2.2.2.2
    · cases hk))
  have hB8 := H7.out.2.2.1.fr hF8d (fun hk => by
    rcases hk with hk | hk
    · exact H6.out.2.2.1 hk
    · cases hk)
  have ho8x := H7.out.2.1.fr hF8d (fun k hk hk2 => by
    have : g7 = k := by simpa [Value.ownBlock] using hk
    rcases hk2 with hk2 | hk2
    · have := H7.out.2.2.2.1; omega
    · cases hk2)
  have hgew := HH.out.2.2.2.1
  have h10 : 10 ^ (D / 2) < 18446744073709551616 ^ 11 := Nat.lt_of_le_of_lt (Nat.pow_le_pow_right (by omega) (show D / 2 ≤ 19 by omega)) (by decide)
  have Con8 := hide (bexp_a w.heap.size gc ge 1 gc 0 173 69 (tvC D false (.slice (some ⟨g7, 0, none⟩) 1 c7) false false (.slice none 0 0) false) (setBig #[.bool false, .slice none 0 0, .bool false] 0 false (.slice A8 (digs 18446744073709551616 D).length c8) false) 10 D (digs 18446744073709551616 D).length (some ⟨g7, 0, none⟩) A8 c7 c8 false w8.drew
    hB8 rfl rfl rfl ho8x (by decide) hC8 rfl rfl ho8 H6.out.2.2.1 (by omega) hb8.size (by omega) (by omega) (by omega) (by omega) h10 ((HH.out.2.2.2.2.v.below hb8)))
  have H8 := hide (And.intro hb8 (And.intro hB8 H7.out.2.2.2.2))
  clear hF8d hb8 hB8 ho8x h10 ho8 hk8 hC8 hF8 Con7 H7 hd7 hgew
  go_wp2_with fail
  go_region_with (go_at_call 122; go_loud (refine (Con8.out).mono ?_; rintro e w9 HI; have HI9 := hide HI; obtain ⟨rfl, _⟩ := HI))
  obtain ⟨-, A9, c9, ho9, -, hB9, hF9⟩ := HI9.out
  have hF9d : Fr w8.drew w9.drew (fun k => k = ge ∨ (Value.slice (some ⟨g7, 0, none⟩) 1 c7).ownBlock = some k) := hF9.drew
  have hb9 : Below w.heap.size w w9.drew := H8.out.1.trans (hF9d.below H8.out.1.size (fun k hk => by
    rcases hk with rfl | hk
    · have := HH.out.2.2.2.1; omega
    · have : g7 = k := by simpa [Value.ownBlock] using hk
      have := H8.out.2.2; omega))
  have hB9' : Blk w9 ge 173 (tvC D false (.slice A9 (digs 18446744073709551616 (10 ^ D)).length c9) false false (.slice none 0 0) false) := hB9
  have hp9 : 0 < (digs 18446744073709551616 (10 ^ D)).length := List.length_pos_iff.2 (digs_ne_nil (by omega) (Nat.pow_pos (by omega)))
  have hl9 : (digs 18446744073709551616 (10 ^ D)).length ≤ 3 := digs_length_le (by omega) (Nat.lt_of_le_of_lt (Nat.pow_le_pow_right (by omega) hD39) (by decide))
  have Con9 := hide (bneg_any w.heap.size ge 4 1 c9 (digs 18446744073709551616 (10 ^ D)).length 0 0 173 (tvC D false (.slice A9 (digs 18446744073709551616 (10 ^ D)).length c9) false false (.slice none 0 0) false) A9 none false false (digs 18446744073709551616 (10 ^ D)) w9.drew
    hB9' rfl rfl rfl (Own.nil _ _).room (by decide) rfl rfl rfl (show RdW w9.drew _ _ from ho9.rd) (by omega) hb9.size (by omega) hp9 (ho9.room.ne_blk hB9' (by decide)))
  have H9 := hide (And.intro hb9 (And.intro (show Own w9.drew w.heap.size (.slice A9 (digs 18446744073709551616 (10 ^ D)).length c9) (digs 18446744073709551616 (10 ^ D)) from ho9) (ho9.room.ne_blk hB9' (by decide))))
  clear hF9d hb9 hB9' hp9 hl9 ho9 hB9 hF9 HI HI9 H8 Con8
  go_wp2_with fail
  go_region_with (go_at_call 102; go_loud (refine (Con9.out).mono ?_; rintro e w10 HI; have HI10 := hide HI; obtain ⟨rfl, _⟩ := HI))
  obtain ⟨-, A10, c10, ho10, -, hB10, hF10⟩ := HI10.out
  have fin : TvP w i (.returned (.pointer (some ⟨ge, 0, none⟩))) w10 := by
    have hD := H6.out.2.2.2.1
    refine ⟨ge, A9, c9, .slice A10 (digs 18446744073709551616 (10 ^ D)).length c10, rfl, Nat.le_of_eq HH.out.2.2.2.1.symm, ?_, ?_, ?_⟩
    · rw [← hD]
      exact H9.out.2.1.fr hF10 (fun k hk h => by
        rcases h with h | h
        · exact H9.out.2.2 k hk h
        · cases h)
    · rw [← hD]
      exact hB10
    · exact H9.out.1.trans (hF10.below H9.out.1.size (fun k hk => by
        rcases hk with rfl | hk
        · have := HH.out.2.2.2.1; omega
        · cases hk))
  have Fin := hide fin
  clear fin ho10 hB10 hF10 HI10 H9 Con9 H6 HH
  go_wp2
  go_ret
  exact Fin.out
end Go.Proofs.YtfkcobdkgjhfaaaGreatDoor

/- Walks: spec's trim, Of. -/
set_option linter.unusedVariables false
set_option linter.unusedSimpArgs false
namespace Go.Proofs.YtfkcobdkgjhfaaaGreatDoor
open Go.RowKit

abbrev OwnI (w : World) (base : Nat) (v : Value) (xs : List Nat) : Prop := OwnG 3 .i64 w base v xs
theorem infoI : (Tryz.prog.info? 3).map (fun i => (i.zero, i.size, i.bytes)) = some (some (.int .i64 0), 1, 8) := by kernel_rfl

set_option maxHeartbeats 400000 in
theorem trim_any (A : Option Addr) (c : Nat) (xs : List Nat) (w : World) (hx : RdG .i64 w (.slice A xs.length c) xs) :
    Calls Tryz.prog 57 #[.slice A xs.length c] w fun e w' => e = .returned (.slice A (trimz xs).length c) ∧ w = w' := by
  obtain ⟨hl, hc⟩ : xs.length ≤ c ∧ c ≤ maxLen := by
    obtain ⟨B, d, he, h1, h2⟩ := hx.slice
    injection he with _ _ e3
    subst e3
    exact ⟨h1, h2⟩
  unfold maxLen at hc
  have Hx := hide hx.at_
  clear hx
  go_enter Tryz.func57, Tryz.ntmps57
  go_wp2
  go_loop [0] (fun v => ∃ k : Nat, k ≤ xs.length ∧ v = .slice A k c ∧ Hid (trimz (xs.take k) = trimz xs)) (fun v => match v with | .slice _ k _ => k | _ => 0)
  case atStart => exact ⟨xs.length, Nat.le_refl _, rfl, by rw [List.take_of_length_le (Nat.le_refl _)]; rfl⟩
  case round =>
    obtain ⟨k, hk, rfl, ht⟩ := hrel
    rcases Nat.eq_zero_or_pos k with rfl | hp
    · have H : (trimz xs).length = 0 := by rw [← ht.out]; rfl
      have HH := hide H
      clear H
      go_wp2
      go_ret
      rw [HH.out]
      exact ⟨rfl, rfl⟩
    · obtain ⟨k, rfl⟩ : ∃ m, k = m + 1 := ⟨k - 1, by omega⟩
      obtain ⟨g, o, rfl, _, hcell⟩ := Hx.out k (by omega)
      have e1 : ((k + 1 : Nat) : Int) - 1 = (k : Int) := by omega
      by_cases h0 : xs.getD k 0 = 0
      · rw [h0] at hcell
        have HT : Hid (trimz (xs.take k) = trimz xs) := by
          have := ht.out
          rw [trimz_take_zero (by omega) h0] at this
          exact this
        go_wp2
        go_round
        case rel => exact ⟨k, by omega, rfl, HT⟩
        case measure => simp
      · have H : (trimz xs).length = k + 1 := by rw [← ht.out, trimz_take_ne (by omega) h0, List.length_take]; omega
        have HH := hide H
        clear H ht
        generalize xs.getD k 0 = d at hcell h0
        have hd : ((d : Int) == 0) = false := by simpa using h0
        clear h0
        go_wp2
        go_ret
        rw [HH.out]
        exact ⟨rfl, rfl⟩

/-- The four digits of a word. -/
def quad (d : Nat) : List Nat := [d % 65536, d / 65536 % 65536, d / 4294967296 % 65536, d / 281474976710656 % 65536]
def quads (xs : List Nat) : List Nat := (xs.map quad).flatten
theorem quads_snoc (xs : List Nat) (d : Nat) : quads (xs ++ [d]) = quads xs ++ quad d := by simp [quads]
theorem quads_length (xs : List Nat) : (quads xs).length = 4 * xs.length := by
  induction xs with
  | nil => rfl
  | cons d r ih => simp only [quads, List.map_cons, List.flatten_cons, List.length_append, List.length_cons] at ih ⊢; rw [ih]; simp [quad]; omega
theorem dval_quads (xs : List Nat) (h : Dig 18446744073709551616 xs) : dval 65536 (quads xs) = dval 18446744073709551616 xs := by
  induction xs with
  | nil => rfl
  | cons d r ih =>
    have e : quads (d :: r) = quad d ++ quads r := by simp [quads]
    rw [e, dval_append, ih (fun x hx => h x (by simp [hx])), dval_cons]
    have hd := h d (by simp)
    simp only [quad, dval_cons, dval_nil, List.length_cons, List.length_nil]
    omega
theorem dig_quads (xs : List Nat) : Dig 65536 (quads xs) := by
  intro d hd
  simp only [quads, List.mem_flatten, List.mem_map] at hd
  obtain ⟨l, ⟨a, _, rfl⟩, hd⟩ := hd
  simp only [quad, List.mem_cons, List.not_mem_nil, or_false] at hd
  omega
theorem trimz_quads (xs : List Nat) (h : Dig 18446744073709551616 xs) : trimz (quads xs) = digs 65536 (dval 18446744073709551616 xs) := by
  rw [← dval_quads xs h, digs_dval_trim (by omega) (dig_quads xs)]
end Go.Proofs.YtfkcobdkgjhfaaaGreatDoor
