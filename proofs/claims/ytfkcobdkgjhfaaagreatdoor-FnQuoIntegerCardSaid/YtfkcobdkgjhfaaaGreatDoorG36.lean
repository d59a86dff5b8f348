/- Parts of the proofs: DigLook, ICmp, NumD. -/
import Derived.Deep.RegionHeld3
import Derived.BigRegion
import Derived.Deep.DrawnRows
import Derived.Test.YtfkcobdkgjhfaaaGreatDoorG12
import Derived.Test.YtfkcobdkgjhfaaaGreatDoorG25
import Derived.Test.YtfkcobdkgjhfaaaGreatDoorG28
import Derived.Test.YtfkcobdkgjhfaaaGreatDoorG29
import Derived.Test.YtfkcobdkgjhfaaaGreatDoorG32
import Derived.Test.YtfkcobdkgjhfaaaGreatDoorG33
import Derived.Test.YtfkcobdkgjhfaaaGreatDoorG34
import Derived.Test.YtfkcobdkgjhfaaaGreatDoorG35
/- Walks: digitsLookup: how many figures 2^(i-1) has, and 10 to that power. -/
set_option linter.unusedVariables false
set_option linter.unusedSimpArgs false
namespace Go.Proofs.YtfkcobdkgjhfaaaGreatDoor
open Go.RowKit

theorem dl_le {i : Nat} (h : i ≤ 129) : dl i ≤ 39 := digs_length_le (by omega) (Nat.lt_of_le_of_lt (Nat.pow_le_pow_right (by omega) (show i - 1 ≤ 128 by omega)) (by decide))
theorem dl_pos (i : Nat) : 1 ≤ dl i := List.length_pos_iff.2 (digs_ne_nil (by omega) (Nat.two_pow_pos _))
theorem dl_size (s : Nat) : (bstr (decB (2 ^ s))).size = dl (s + 1) := by
  rw [bstr_size, decB_length, figs, if_neg (Nat.ne_of_gt (Nat.two_pow_pos s)), dl, Nat.add_sub_cancel]
theorem two_len {s : Nat} (h : s ≤ 127) : (digs 18446744073709551616 (2 ^ s)).length ≤ 2 := digs_length_le (by omega) (Nat.lt_of_le_of_lt (Nat.pow_le_pow_right (by omega) h) (by decide))

/-- The cells of a row of the table. -/
def tvC (d : Int) (bn : Bool) (b : Value) (bm : Bool) (nn : Bool) (n : Value) (nm : Bool) : Array Value := #[.int .i64 d, .bool bn, b, .bool bm, .bool nn, n, .bool nm]

/-- A row of the table. -/
def TvP (w : World) (i : Nat) (e : Ending) (w' : World) : Prop :=
  ∃ g A c v, e = .returned (.pointer (some ⟨g, 0, none⟩)) ∧ w.heap.size ≤ g ∧ Own w' w.heap.size (.slice A (digs 18446744073709551616 (10 ^ dl i)).length c) (digs 18446744073709551616 (10 ^ dl i)) ∧
    Blk w' g 173 (tvC (dl i) false (.slice A (digs 18446744073709551616 (10 ^ dl i)).length c) false true v false) ∧ Below w.heap.size w w'

set_option maxHeartbeats 1000000 in
set_option maxRecDepth 20000 in
theorem digLook_any (i : Nat) (w : World) (h1 : 1 ≤ i) (h2 : i ≤ 128) (hv : VarsL w w.heap.size) : Calls Tryz.prog 120 #[.int .i64 (i : Int)] w (TvP w i) := by
  obtain ⟨s, hsi⟩ : ∃ s, i = s + 1 := ⟨i - 1, by omega⟩
  obtain ⟨ge, hge⟩ : ∃ g, g = w.heap.size := ⟨_, rfl⟩
  obtain ⟨W1, hW1⟩ : ∃ W1, W1 = w.alloc (.cells (tvC 0 false (.slice none 0 0) false false (.slice none 0 0) false) 173) := ⟨_, rfl⟩
  have hb1 : Below w.heap.size w W1 := by rw [hW1]; exact below_al (Below.refl _ _) _
  have hB1 : Blk W1 ge 173 (tvC 0 false (.slice none 0 0) false false (.slice none 0 0) false) := by rw [hW1, hge]; exact Blk.new w _ _
  have hs1 : W1.heap.size = ge + 1 := by rw [hW1, hge]; simp
  have con := newBig_any 1 W1 (by omega)
  rw [digs_word (by omega) (by omega)] at con
  have Con := hide con
  have HH := hide (And.intro hb1 (And.intro hB1 (And.intro hs1 (And.intro hge hv))))
  have n0 : ((i : Int) == 0) = false := beq_eq_false_iff_ne.2 (by omega)
  have e1 : (i : Int) - 1 = (s : Int) := by omega
  have hs127 : (s : Int) ≤ 127 := by omega
  have HI := hide hsi
  unfold tvC at hW1
  clear hb1 hB1 hs1 hv con hsi
  go_enter Tryz.func120, Tryz.ntmps120
  go_wp2_with fail
  rw [← hge, ← hW1]
  clear hge hW1
  refine (Con.out).mono ?_
  rintro e w2 ⟨g1, A, c, rfl, hg1, hown, hblk, hbel⟩
  obtain ⟨gx, rfl⟩ : ∃ gx, A = some ⟨gx, 0, none⟩ := by
    rcases hown.form with ⟨_, h⟩ | ⟨g, _, _, h, _⟩
    · cases h
    · injection h with h; exact ⟨g, h⟩
  have Con2 := hide (bLsh_any W1.heap.size g1 gx c s w2 hblk hown hbel.size (by omega))
  have H2 := hide (And.intro hg1 (And.intro hbel (hown.lt (k := gx) rfl).1))
  clear hown hblk hg1 hbel Con
  go_wp2_with fail
  refine (Con2.out).mono ?_
  rintro e w3 ⟨rfl, A3, c3, ho3, hk3, hB3, hF3⟩
  have hb13 : Below W1.heap.size W1 w3 := H2.out.2.1.trans (hF3.below H2.out.2.1.size (fun k hk => by
    rcases hk with rfl | hk
    · exact H2.out.1
    · have : gx = k := by simpa [Value.ownBlock] using hk
      have := H2.out.2.2
      omega))
  have hb3 : Below w.heap.size w w3 := below_next HH.out.1 hb13
  have hl2 := two_len (s := s) (by omega)
  have ConS := hide (bstr_any W1.heap.size g1 0 _ c3 (2 ^ s) A3 w3 (hB3.cell 0) (hB3.cell 1) ho3 (by omega) ((HH.out.2.2.2.2.below hb3).raise hb3.size))
  have H3 := hide (And.intro hb3 hb13)
  clear ho3 hk3 hB3 hF3 hb13 hb3 hl2 Con2 H2
  go_wp2_with fail
  refine (ConS.out).mono ?_
  rintro e w4 ⟨rfl, hb34⟩
  have hb4 := below_next H3.out.1 hb34
  have hB4 : Blk w4 ge 173 (tvC 0 false (.slice none 0 0) false false (.slice none 0 0) false) := (HH.out.2.1.below H3.out.2).below hb34
  obtain ⟨D, hD⟩ : ∃ D, D = dl i := ⟨_, rfl⟩
  have hsz : (bstr (decB (2 ^ s))).size = D := by rw [hD, HI.out]; exact dl_size s
  have hD1 : 1 ≤ D := by rw [hD]; exact dl_pos _
  have hD39 : D ≤ 39 := by rw [hD]; exact dl_le (by omega)
  have x0 := hB4.cell 0
  have f0 := hB4.frozen 0
  obtain ⟨W5, hW5⟩ : ∃ W5, W5 = w4.setCell ⟨ge, 0, none⟩ (.int .i64 (D : Int)) := ⟨_, rfl⟩
  have hB5 : Blk W5 ge 173 (tvC D false (.slice none 0 0) false false (.slice none 0 0) false) := by rw [hW5]; exact hB4.set 0 _
  have hgew := HH.out.2.2.2.1
  have hb5 : Below w.heap.size w W5 := by rw [hW5]; exact hb4.setCell (by simp; omega) _
  obtain ⟨gc, hgc⟩ : ∃ g, g = w4.heap.size := ⟨_, rfl⟩
  obtain ⟨W6, hW6⟩ : ∃ W6, W6 = W5.alloc (.cells #[.bool false, .slice none 0 0, .bool false] 69) := ⟨_, rfl⟩
  have hB6 : Blk W6 ge 173 (tvC D false (.slice none 0 0) false false (.slice none 0 0) false) := by rw [hW6]; exact hB5.alloc _
  have hC6 : Blk W6 gc 69 #[.bool false, .slice none 0 0, .bool false] := by
    have : gc = W5.heap.size := by rw [hgc, hW5]; simp
    rw [hW6, this]; exact Blk.new W5 _ _
  have hb6 : Below w.heap.size w W6 := by rw [hW6]; exact below_al hb5 _
  have hne6 : ge ≠ gc := by have := hB4.lt; omega
  have con6 := bsetInt64_any w.heap.size ge 1 173 (tvC D false (.slice none 0 0) false false (.slice none 0 0) false) false false (.slice none 0 0) 0 10 W6 hB6 rfl rfl rfl (Own.nil _ _).room (by decide) hb6.size (by omega) (by omega)
  have e10 : digs 18446744073709551616 (10 : Int).natAbs = [10] := digs_word (by decide) (by decide)
  rw [e10] at con6
  have Con6 := hide con6
  have H6 := hide (And.intro hb6 (And.intro hC6 (And.intro hne6 (And.intro hD (And.intro (show gc < W6.heap.size from hC6.lt) (show w.heap.size ≤ gc by rw [hgc]; exact hb4.size))))))
  clear con6 e10 hb6 hC6 hne6 hB6 hb5 hB5 hb4 hB4 hb34 hgew hD H3 ConS
  generalize bstr (decB (2 ^ s)) = T at hsz ⊢
  have HW5 := hide hW5
  have HW6 := hide hW6
  have HGC := hide hgc
  clear hW5 hW6 hgc
  go_wp2_with fail
  rw [← HW5.out, ← HW6.out, ← HGC.out]
  clear HW5 HW6 HGC x0 f0 hsz
  refine (Con6.out).mono ?_
  rintro e w7 ⟨rfl, A7, c7, ho7, hk7, hB7, hF7⟩
  have hb7 : Below w.heap.size w w7 := H6.out.1.trans (hF7.below H6.out.1.size (fun k hk => by
    rcases hk with rfl | hk
    · have := HH.out.2.2.2.1; omega
    · cases hk))
  have hC7 := H6.out.2.1.fr hF7 (fun hk => by
    rcases hk with hk | hk
    · exact H6.out.2.2.1 hk.symm
    · cases hk)
  have hd7 : w7.cell? ⟨ge, 0, none⟩ = some (.int .i64 (D : Int)) := hB7.cell 0
  obtain ⟨g7, rfl⟩ : ∃ gx, A7 = some ⟨gx, 0, none⟩ := by
    rcases ho7.form with ⟨_, h⟩ | ⟨g, _, _, h, _⟩
    · cases h
    · injection h with h; exact ⟨g, h⟩
  have hg7 : g7 ≠ gc ∧ w.heap.size ≤ g7 := ⟨ho7.room.ne_blk hC7 (by decide) g7 rfl, (ho7.lt (k := g7) rfl).1⟩
  have con7 := bsetInt64_any gc gc 0 69 #[.bool false, .slice none 0 0, .bool false] false false (.slice none 0 0) 0 (D : Int) w7 hC7 rfl rfl rfl (Own.nil _ _).room (by decide) (by have := hF7.size; have := H6.out.2.2.2.2.1; omega) (by omega) (by omega)
  rw [decide_eq_false (by omega : ¬ (D : Int) < 0), Int.natAbs_natCast] at con7
  have Con7 := hide con7
  have H7 := hide (And.intro hb7 (And.intro ho7 (And.intro (show Blk w7 ge 173 (tvC D false (.slice (some ⟨g7, 0, none⟩) 1 c7) false false (.slice none 0 0) false) from hB7) hg7)))
  clear con7 hb7 ho7 hk7 hB7 hF7 hC7 Con6 hg7
  go_wp2_with fail
  refine (Con7.out).mono ?_
  rintro e w8 ⟨rfl, A8, c8, ho8, hk8, hC8, hF8⟩
  have hF8d : Fr w7 w8.drew (fun k => k = gc ∨ (Value.slice none 0 0).ownBlock = some k) := hF8.drew
  have hb8 : Below w.heap.size w w8.drew := H7.out.1.trans (hF8d.below H7.out.1.size (fun k hk => by
    rcases hk with rfl | hk
    · exact H6.out.2.2.2.2.2
    · cases hk))
  have hB8 := H7.out.2.2.1.fr hF8d (fun hk => by
    rcases hk with hk | hk
    · exact H6.out.2.2.1 hk
    · cases hk)
  have ho8x := H7.out.2.1.fr hF8d (fun k hk hk2 => by
    have : g7 = k := by simpa [Value.ownBlock] using hk
    rcases hk2 with hk2 | hk2
    · have := H7.out.2.2.2.1; omega
    · cases hk2)
  have hgew := HH.out.2.2.2.1
  have h10 : 10 ^ (D / 2) < 18446744073709551616 ^ 11 := Nat.lt_of_le_of_lt (Nat.pow_le_pow_right (by omega) (show D / 2 ≤ 19 by omega)) (by decide)
  have Con8 := hide (bexp_a w.heap.size gc ge 1 gc 0 173 69 (tvC D false (.slice (some ⟨g7, 0, none⟩) 1 c7) false false (.slice none 0 0) false) (setBig #[.bool false, .slice none 0 0, .bool false] 0 false (.slice A8 (digs 18446744073709551616 D).length c8) false) 10 D (digs 18446744073709551616 D).length (some ⟨g7, 0, none⟩) A8 c7 c8 false w8.drew
    hB8 rfl rfl rfl ho8x (by decide) hC8 rfl rfl ho8 H6.out.2.2.1 (by omega) hb8.size (by omega) (by omega) (by omega) (by omega) h10 ((HH.out.2.2.2.2.v.below hb8)))
  have H8 := hide (And.intro hb8 (And.intro hB8 H7.out.2.2.2.2))
  clear hF8d hb8 hB8 ho8x h10 ho8 hk8 hC8 hF8 Con7 H7 hd7 hgew
  go_wp2_with fail
  go_region_with (go_at_call 122; go_loud (refine (Con8.out).mono ?_; rintro e w9 HI; have HI9 := hide HI; obtain ⟨rfl, _⟩ := HI))
  obtain ⟨-, A9, c9, ho9, -, hB9, hF9⟩ := HI9.out
  have hF9d : Fr w8.drew w9.drew (fun k => k = ge ∨ (Value.slice (some ⟨g7, 0, none⟩) 1 c7).ownBlock = some k) := hF9.drew
  have hb9 : Below w.heap.size w w9.drew := H8.out.1.trans (hF9d.below H8.out.1.size (fun k hk => by
    rcases hk with rfl | hk
    · have := HH.out.2.2.2.1; omega
    · have : g7 = k := by simpa [Value.ownBlock] using hk
      have := H8.out.2.2; omega))
  have hB9' : Blk w9 ge 173 (tvC D false (.slice A9 (digs 18446744073709551616 (10 ^ D)).length c9) false false (.slice none 0 0) false) := hB9
  have hp9 : 0 < (digs 18446744073709551616 (10 ^ D)).length := List.length_pos_iff.2 (digs_ne_nil (by omega) (Nat.pow_pos (by omega)))
  have hl9 : (digs 18446744073709551616 (10 ^ D)).length ≤ 3 := digs_length_le (by omega) (Nat.lt_of_le_of_lt (Nat.pow_le_pow_right (by omega) hD39) (by decide))
  have Con9 := hide (bneg_any w.heap.size ge 4 1 c9 (digs 18446744073709551616 (10 ^ D)).length 0 0 173 (tvC D false (.slice A9 (digs 18446744073709551616 (10 ^ D)).length c9) false false (.slice none 0 0) false) A9 none false false (digs 18446744073709551616 (10 ^ D)) w9.drew
    hB9' rfl rfl rfl (Own.nil _ _).room (by decide) rfl rfl rfl (show RdW w9.drew _ _ from ho9.rd) (by omega) hb9.size (by omega) hp9 (ho9.room.ne_blk hB9' (by decide)))
  have H9 := hide (And.intro hb9 (And.intro (show Own w9.drew w.heap.size (.slice A9 (digs 18446744073709551616 (10 ^ D)).length c9) (digs 18446744073709551616 (10 ^ D)) from ho9) (ho9.room.ne_blk hB9' (by decide))))
  clear hF9d hb9 hB9' hp9 hl9 ho9 hB9 hF9 HI HI9 H8 Con8
  go_wp2_with fail
  go_region_with (go_at_call 102; go_loud (refine (Con9.out).mono ?_; rintro e w10 HI; have HI10 := hide HI; obtain ⟨rfl, _⟩ := HI))
  obtain ⟨-, A10, c10, ho10, -, hB10, hF10⟩ := HI10.out
  have fin : TvP w i (.returned (.pointer (some ⟨ge, 0, none⟩))) w10 := by
    have hD := H6.out.2.2.2.1
    refine ⟨ge, A9, c9, .slice A10 (digs 18446744073709551616 (10 ^ D)).length c10, rfl, Nat.le_of_eq HH.out.2.2.2.1.symm, ?_, ?_, ?_⟩
    · rw [← hD]
      exact H9.out.2.1.fr hF10 (fun k hk h => by
        rcases h with h | h
        · exact H9.out.2.2 k hk h
        · cases h)
    · rw [← hD]
      exact hB10
    · exact H9.out.1.trans (hF10.below H9.out.1.size (fun k hk => by
        rcases hk with rfl | hk
        · have := HH.out.2.2.2.1; omega
        · cases hk))
  have Fin := hide fin
  clear fin ho10 hB10 hF10 HI10 H9 Con9 H6 HH
  go_wp2
  go_ret
  exact Fin.out
end Go.Proofs.YtfkcobdkgjhfaaaGreatDoor

/- Walks: the order of numbers that are not below 0: Int.Cmp, BigInt.Cmp. -/
set_option linter.unusedVariables false
set_option linter.unusedSimpArgs false
namespace Go.Proofs.YtfkcobdkgjhfaaaGreatDoor
open Go.RowKit

theorem eql_IntC (w : World) {a b : Addr} {ca cb : Array Value} {ta tb : TypeId} (hne : a ≠ b) (ha : Blk w a.block ta ca) (hb : Blk w b.block tb cb) :
    (binOp .eql 143 (.pointer (some a)) (.pointer (some b))).run Tryz.prog w = .ok (.bool false) w := by
  obtain ⟨j, hj, hs⟩ := Option.map_eq_some_iff.1 infoInt
  exact run_eql_ptr_other w Tryz.underlying143 hj (by rw [hs]; decide) hne ha hb

theorem icmp_any (gx ox gy oy : Nat) (tx ty : TypeId) (cx cy : Array Value) (A B : Option Addr) (c c2 : Nat) (m n : Nat) (w : World)
    (hx : Blk w gx tx cx) (hx0 : cx[ox]? = some (.bool false)) (hx1 : cx[ox + 1]? = some (.slice A (digs 18446744073709551616 m).length c)) (hxr : RdW w (.slice A (digs 18446744073709551616 m).length c) (digs 18446744073709551616 m))
    (hy : Blk w gy ty cy) (hy0 : cy[oy]? = some (.bool false)) (hy1 : cy[oy + 1]? = some (.slice B (digs 18446744073709551616 n).length c2)) (hyr : RdW w (.slice B (digs 18446744073709551616 n).length c2) (digs 18446744073709551616 n))
    (hne : (⟨gx, ox, none⟩ : Addr) ≠ ⟨gy, oy, none⟩) (hnx : (digs 18446744073709551616 m).length ≤ 1099511627776) (hny : (digs 18446744073709551616 n).length ≤ 1099511627776) :
    Calls Tryz.prog 129 #[.pointer (some ⟨gx, ox, none⟩), .pointer (some ⟨gy, oy, none⟩)] w (CmpP w m n) := by
  have hcmp := eql_IntC w (a := ⟨gx, ox, none⟩) (b := ⟨gy, oy, none⟩) hne hx hy
  have c0 : w.cell? ⟨gx, ox, none⟩ = some (.bool false) := (hx.cell _).trans hx0
  have c1 : w.cell? ⟨gx, ox + 1, none⟩ = some (.slice A (digs 18446744073709551616 m).length c) := (hx.cell _).trans hx1
  have d0 : w.cell? ⟨gy, oy, none⟩ = some (.bool false) := (hy.cell _).trans hy0
  have d1 : w.cell? ⟨gy, oy + 1, none⟩ = some (.slice B (digs 18446744073709551616 n).length c2) := (hy.cell _).trans hy1
  have Con := hide (ncmp_any A B c c2 m n w.drew.drew hxr hyr hnx hny)
  have Key := hide (show ∀ e w', CmpP w.drew.drew m n e w' → e = .returned (.int .i64 (cmpI m n)) ∧ w'.cell? ⟨gx, ox, none⟩ = some (.bool false) ∧ Hid (CmpP w m n e w') from fun e w' h => ⟨h.1, by
    exact (h.2.cell (p := ⟨gx, ox, none⟩) hx.lt).trans c0, h.1, ⟨h.2.os, h.2.tape, h.2.output, h.2.size, h.2.block⟩⟩)
  clear hx hx0 hx1 hxr hy hy0 hy1 hyr hnx hny hne
  generalize (digs 18446744073709551616 m).length = lm at *
  generalize (digs 18446744073709551616 n).length = ln at *
  generalize cmpI m n = r at *
  go_enter Tryz.func129, Tryz.ntmps129
  go_wp2_with fail
  go_region
  all_goals go_wp2_with fail
  all_goals go_region_with (go_at_call 142; go_loud (refine (Con.out).mono ?_; rintro e w1 HI; obtain ⟨rfl, k1, k2⟩ := Key.out _ _ HI))
  all_goals go_wp2
  all_goals go_ret
  all_goals exact k2.out

theorem bcmp_any (gx ox gy oy : Nat) (tx ty : TypeId) (cx cy : Array Value) (A B : Option Addr) (c c2 : Nat) (m n : Nat) (w : World)
    (hx : Blk w gx tx cx) (hx0 : cx[ox]? = some (.bool false)) (hx1 : cx[ox + 1]? = some (.slice A (digs 18446744073709551616 m).length c)) (hx2 : cx[ox + 2]? = some (.bool false)) (hxr : RdW w (.slice A (digs 18446744073709551616 m).length c) (digs 18446744073709551616 m))
    (hy : Blk w gy ty cy) (hy0 : cy[oy]? = some (.bool false)) (hy1 : cy[oy + 1]? = some (.slice B (digs 18446744073709551616 n).length c2)) (hy2 : cy[oy + 2]? = some (.bool false)) (hyr : RdW w (.slice B (digs 18446744073709551616 n).length c2) (digs 18446744073709551616 n))
    (hne : (⟨gx, ox, none⟩ : Addr) ≠ ⟨gy, oy, none⟩) (hnx : (digs 18446744073709551616 m).length ≤ 1099511627776) (hny : (digs 18446744073709551616 n).length ≤ 1099511627776) :
    Calls Tryz.prog 111 #[.pointer (some ⟨gx, ox, none⟩), .pointer (some ⟨gy, oy, none⟩)] w (CmpP w m n) := by
  have c2' : w.cell? ⟨gx, ox + 2, none⟩ = some (.bool false) := (hx.cell _).trans hx2
  have d2' : w.cell? ⟨gy, oy + 2, none⟩ = some (.bool false) := (hy.cell _).trans hy2
  have Con := hide (icmp_any gx ox gy oy tx ty cx cy A B c c2 m n w.drew.drew hx hx0 hx1 hxr hy hy0 hy1 hyr hne hnx hny)
  have Key := hide (show ∀ e w', CmpP w.drew.drew m n e w' → e = .returned (.int .i64 (cmpI m n)) ∧ Hid (CmpP w m n e w') from fun e w' h => ⟨h.1, h.1, ⟨h.2.os, h.2.tape, h.2.output, h.2.size, h.2.block⟩⟩)
  clear hx hx0 hx1 hx2 hxr hy hy0 hy1 hy2 hyr hnx hny hne
  generalize cmpI m n = r at *
  go_enter Tryz.func111, Tryz.ntmps111
  go_wp2_with fail
  go_region
  all_goals go_wp2_with fail
  all_goals go_region_with (go_at_call 129; go_loud (refine (Con.out).mono ?_; rintro e w1 HI; obtain ⟨rfl, k2⟩ := Key.out _ _ HI))
  all_goals go_wp2
  all_goals go_ret
  all_goals exact k2.out
end Go.Proofs.YtfkcobdkgjhfaaaGreatDoor

/- Walks: apd.NumDigits of a number not below 0. -/
set_option linter.unusedVariables false
set_option linter.unusedSimpArgs false
namespace Go.Proofs.YtfkcobdkgjhfaaaGreatDoor
open Go.RowKit
attribute [local go_sem ↓] Go.wp_at_zero Go.wp_at_succ

/-- How many figures. -/
def FigP (w : World) (v : Nat) (e : Ending) (w' : World) : Prop := e = .returned (.int .i64 (figs v : Int)) ∧ Below w.heap.size w w'

/-- A BigInt that holds v, at o in block g. -/
structure BigAt (w : World) (g o : Nat) (t : TypeId) (cs : Array Value) (A : Option Addr) (c v : Nat) : Prop where
  blk : Blk w g t cs
  c0 : cs[o]? = some (.bool false)
  c1 : cs[o + 1]? = some (.slice A (digs 18446744073709551616 v).length c)
  c2 : cs[o + 2]? = some (.bool false)
  rd : RdW w (.slice A (digs 18446744073709551616 v).length c) (digs 18446744073709551616 v)
theorem BigAt.below {w w' : World} {g o : Nat} {t : TypeId} {cs : Array Value} {A : Option Addr} {c v : Nat} (h : BigAt w g o t cs A c v) (hb : Below w.heap.size w w') : BigAt w' g o t cs A c v :=
  ⟨h.blk.below hb, h.c0, h.c1, h.c2, RdG.below (k := .u64) h.rd hb⟩

theorem bigcmp_any (gx ox gy oy : Nat) (tx ty : TypeId) (cx cy : Array Value) (A B : Option Addr) (c c2 m n : Nat) (w : World) (hx : BigAt w gx ox tx cx A c m) (hy : BigAt w gy oy ty cy B c2 n)
    (hne : (⟨gx, ox, none⟩ : Addr) ≠ ⟨gy, oy, none⟩) (hnx : (digs 18446744073709551616 m).length ≤ 1099511627776) (hny : (digs 18446744073709551616 n).length ≤ 1099511627776) :
    Calls Tryz.prog 111 #[.pointer (some ⟨gx, ox, none⟩), .pointer (some ⟨gy, oy, none⟩)] w (CmpP w m n) :=
  bcmp_any gx ox gy oy tx ty cx cy A B c c2 m n w hx.blk hx.c0 hx.c1 hx.c2 hx.rd hy.blk hy.c0 hy.c1 hy.c2 hy.rd hne hnx hny

theorem cmpI_ge {m n : Nat} (h : ¬ m < n) : 0 ≤ cmpI m n ∧ cmpI m n ≤ 1 := by
  unfold cmpI; rw [if_neg h]; split <;> omega

theorem numD_zero (g o : Nat) (t : TypeId) (cs : Array Value) (A : Option Addr) (c : Nat) (w : World) (hx : BigAt w g o t cs A c 0) :
    Calls Tryz.prog 92 #[.pointer (some ⟨g, o, none⟩)] w (FigP w 0) := by
  have hx1 := hx.c1
  have hrd := hx.rd
  rw [digs_zero] at hx1 hrd
  have con := bbitLen_any g o A 0 c [] w ((hx.blk.cell _).trans hx1) hrd rfl (by omega) (fun d h => by cases h) canon_nil
  have e0 : blen (dval 18446744073709551616 []) = 0 := rfl
  rw [e0] at con
  have Con := hide con
  clear hx hx1 hrd con e0
  go_enter Tryz.func92, Tryz.ntmps92
  go_wp2_with fail
  refine (Con.out).mono ?_
  rintro e w1 ⟨rfl, hw1⟩
  rw [hw1]
  clear Con hw1
  go_wp2
  go_ret
  exact ⟨rfl, Below.refl _ _⟩

set_option maxHeartbeats 2000000 in
set_option maxRecDepth 20000 in
theorem numD_low (g o : Nat) (t : TypeId) (cs : Array Value) (A : Option Addr) (c v : Nat) (w : World) (hx : BigAt w g o t cs A c v) (hv0 : 0 < v) (hbl : blen v ≤ 128) (hv : VarsL w w.heap.size) :
    Calls Tryz.prog 92 #[.pointer (some ⟨g, o, none⟩)] w (FigP w v) := by
  have hl2 : (digs 18446744073709551616 v).length ≤ 2 := digs_length_le (by omega) (Nat.lt_of_lt_of_le (blen_hi v) (by
    rw [show (18446744073709551616 : Nat) ^ 2 = 2 ^ 128 from by decide]; exact Nat.pow_le_pow_right (by omega) hbl))
  have con := bbitLen_any g o A _ c _ w ((hx.blk.cell _).trans hx.c1) hx.rd rfl (by omega) (dig_digs (by omega) _) (canon_digs (by omega) _)
  rw [dval_digs (by omega)] at con
  obtain ⟨b, hb⟩ : ∃ b, b = blen v := ⟨_, rfl⟩
  have hlo := blen_lo hv0
  have hhi := blen_hi v
  rw [← hb] at con hbl hlo hhi
  have hb1 : 1 ≤ b := by
    rcases Nat.eq_zero_or_pos b with h | h
    · rw [h] at hhi; simp at hhi; omega
    · exact h
  have Con := hide con
  have Con1 := hide (digLook_any b w hb1 hbl hv)
  have hf : figs v = (digs 10 v).length := by rw [figs, if_neg (by omega)]
  have HM := hide (And.intro hlo (And.intro hhi (And.intro hf (And.intro hl2 hv))))
  have HX := hide hx
  have b0 : ((b : Int) == 0) = false := beq_eq_false_iff_ne.2 (by omega)
  clear con hx hb hlo hhi hf hv hl2
  go_enter Tryz.func92, Tryz.ntmps92
  go_wp2_with fail
  refine (Con.out).mono ?_
  rintro e w0 ⟨rfl, hw0⟩
  rw [hw0]
  clear Con hw0
  go_wp2_with fail
  refine (Con1.out).mono ?_
  rintro e w1 ⟨gv, A1, c1, v1, rfl, hgv, ho1, hB1, hbel1⟩
  obtain ⟨D, hD⟩ : ∃ D, D = dl b := ⟨_, rfl⟩
  rw [← hD] at ho1 hB1
  have hD39 : D ≤ 39 := by rw [hD]; exact dl_le (by omega)
  have hd3 : (digs 18446744073709551616 (10 ^ D)).length ≤ 3 := digs_length_le (by omega) (Nat.lt_of_le_of_lt (Nat.pow_le_pow_right (by omega) hD39) (by decide))
  have HT := hide (show BigAt w1 gv 1 173 (tvC D false (.slice A1 (digs 18446744073709551616 (10 ^ D)).length c1) false true v1 false) A1 c1 (10 ^ D) from ⟨hB1, rfl, rfl, rfl, ho1.rd⟩)
  have H1 := hide (And.intro hbel1 (And.intro hD (And.intro hgv hd3)))
  -- what the switch asks, at whatever world behind w1
  have Sw : Hid (∀ W, Below w1.heap.size w1 W → Calls Tryz.prog 68 #[.pointer (some ⟨g, o, none⟩)] W fun e w' => e = .returned (.int .i64 1) ∧ W = w') := fun W hW => by
    have h := HX.out.below (below_next hbel1 hW)
    have := bsign_any g o false A (digs 18446744073709551616 v).length c W ((h.blk.cell _).trans h.c0) ((h.blk.cell _).trans h.c1) ((h.blk.cell _).trans h.c2)
    rwa [sgnI_pos (Nat.ne_of_gt (List.length_pos_iff.2 (digs_ne_nil (by omega) hv0)))] at this
  have Cm : Hid (∀ W, Below w1.heap.size w1 W → Calls Tryz.prog 111 #[.pointer (some ⟨g, o, none⟩), .pointer (some ⟨gv, 1, none⟩)] W (CmpP W v (10 ^ D))) := fun W hW => by
    refine bigcmp_any g o gv 1 _ _ _ _ _ _ _ _ _ _ W (HX.out.below (below_next hbel1 hW)) (HT.out.below hW) ?_ (by have := HM.out.2.2.2.1; omega) (by omega)
    intro e
    injection e with e1
    have := HX.out.blk.lt
    omega
  have Cell : Hid (∀ W, Below w1.heap.size w1 W → W.cell? ⟨gv, 0, none⟩ = some (.int .i64 (D : Int))) := fun W hW => (hB1.below hW).cell 0
  clear ho1 hB1 hbel1 hgv hd3 HX hD hD39
  by_cases h128 : b = 128
  · subst h128
    go_wp2_with fail
    go_quiet (fail)
    all_goals go_wp2_with fail
    all_goals refine (Sw.out _ (below_drewN w1 _)).mono ?_
    all_goals rintro e w3 ⟨rfl, rfl⟩
    all_goals go_wp2_with fail
    all_goals refine (Cm.out _ (below_drewN w1 _)).mono ?_
    all_goals rintro e w3 ⟨rfl, hbel3⟩
    all_goals have hb3 : Below w1.heap.size w1 w3 := below_next (below_drewN w1 _) hbel3
    all_goals have k3 := Cell.out w3 hb3
    all_goals have HB3 := hide (below_next H1.out.1 hb3)
    all_goals clear hbel3 hb3 Sw Cm Cell
    all_goals by_cases hlt : v < 10 ^ D
    all_goals first
      | (rw [cmpI_lt hlt]
         have Fin : Hid (FigP w v (.returned (.int .i64 (D : Int))) w3) := ⟨by rw [HM.out.2.2.1, nd_lo HM.out.1 (by rw [← H1.out.2.1]; exact hlt), H1.out.2.1], HB3.out⟩
         clear H1 HB3 HM HT hlt
         go_wp2
         go_ret
         exact Fin.out)
      | (obtain ⟨r0, r1⟩ := cmpI_ge hlt
         have hD39 : (D : Int) ≤ 39 := by have := H1.out.2.1; have := dl_le (i := 128) (by omega); omega
         have Fin : Hid (FigP w v (.returned (.int .i64 ((D : Int) + 1))) w3) := ⟨by rw [HM.out.2.2.1, nd_hi (b := 128) (by omega) HM.out.2.1 (by rw [← H1.out.2.1]; omega), H1.out.2.1]; rfl, HB3.out⟩
         clear H1 HB3 HM HT hlt
         generalize cmpI v (10 ^ D) = r at *
         go_wp2
         go_ret
         exact Fin.out)
  · have Con2 : Hid (∀ W, Below w1.heap.size w1 W → Calls Tryz.prog 120 #[.int .i64 ((b : Int) + 1)] W (TvP W (b + 1))) := fun W hW => by
      have hb2 := below_next H1.out.1 hW
      have := digLook_any (b + 1) W (by omega) (by omega) ((HM.out.2.2.2.2.below hb2).raise hb2.size)
      rwa [show (((b + 1 : Nat)) : Int) = (b : Int) + 1 from by omega] at this
    obtain ⟨D2, hD2⟩ : ∃ D2, D2 = dl (b + 1) := ⟨_, rfl⟩
    have HD2 := hide hD2
    clear hD2
    have hlt : (b : Int) < 128 := by omega
    have hltn : b < 128 := by omega
    have c1 := Cell.out w1 (Below.refl _ _)
    go_wp2_with fail
    have hwb : IntKind.i64.wrap ((b : Int) + 1) = (b : Int) + 1 := by rw [IntKind.wrap_i64]; omega
    go_region_with ((go_at_call 120; go_loud (refine (Con2.out _ ?_).mono ?_; exact below_drewN w1 _; rintro e w2 ⟨g2, A2, c2, v2, rfl, hg2, ho2, hB2, hbel2⟩; have hb2 : Below w1.heap.size w1 w2 := ⟨hbel2.os, hbel2.tape, hbel2.output, hbel2.size, hbel2.block⟩; have k1 : w2.cell? ⟨g2, 0, none⟩ = some (.int .i64 (D2 : Int)) := (by rw [HD2.out]; exact hB2.cell 0); have k2 := Cell.out w2 hb2; have H2 := hide hb2; clear hg2 ho2 hB2 hbel2 hb2)))
    all_goals clear c1 hwb Con2
    all_goals by_cases he : D2 = D
    all_goals first
      | (have e1 : ((D2 : Int) == (D : Int)) = true := by rw [he]; simp
         have Fin : Hid (FigP w v (.returned (.int .i64 (D : Int))) w2) := ⟨by rw [HM.out.2.2.1, nd_same HM.out.1 HM.out.2.1 (by rw [← HD2.out, ← H1.out.2.1]; exact he), H1.out.2.1], below_next H1.out.1 H2.out⟩
         clear H1 H2 HM HT he HD2 k1 Sw Cm Cell
         go_wp2
         go_ret
         exact Fin.out)
      | skip
    all_goals have e1 : ((D2 : Int) == (D : Int)) = false := beq_eq_false_iff_ne.2 (by omega)
    all_goals clear he k1 HD2
    all_goals go_wp2_with fail
    all_goals refine (Sw.out _ H2.out).mono ?_
    all_goals rintro e w3 ⟨rfl, rfl⟩
    all_goals go_wp2_with fail
    all_goals refine (Cm.out _ H2.out).mono ?_
    all_goals rintro e w3 ⟨rfl, hbel3⟩
    all_goals have hb3 : Below w1.heap.size w1 w3 := below_next H2.out hbel3
    all_goals have k3 := Cell.out w3 hb3
    all_goals have HB3 := hide (below_next H1.out.1 hb3)
    all_goals clear hbel3 hb3 Sw Cm Cell
    all_goals by_cases hlt : v < 10 ^ D
    all_goals first
      | (rw [cmpI_lt hlt]
         have Fin : Hid (FigP w v (.returned (.int .i64 (D : Int))) w3) := ⟨by rw [HM.out.2.2.1, nd_lo HM.out.1 (by rw [← H1.out.2.1]; exact hlt), H1.out.2.1], HB3.out⟩
         clear H1 HB3 HM HT hlt
         go_wp2
         go_ret
         exact Fin.out)
      | (obtain ⟨r0, r1⟩ := cmpI_ge hlt
         have hD39 : (D : Int) ≤ 39 := by have := H1.out.2.1; have := dl_le (i := b) (by omega); omega
         have Fin : Hid (FigP w v (.returned (.int .i64 ((D : Int) + 1))) w3) := ⟨by rw [HM.out.2.2.1, nd_hi (b := b) (by omega) HM.out.2.1 (by rw [← H1.out.2.1]; omega), H1.out.2.1]; rfl, HB3.out⟩
         clear H1 HB3 HM HT hlt
         generalize cmpI v (10 ^ D) = r at *
         go_wp2
         go_ret
         exact Fin.out)
end Go.Proofs.YtfkcobdkgjhfaaaGreatDoor
