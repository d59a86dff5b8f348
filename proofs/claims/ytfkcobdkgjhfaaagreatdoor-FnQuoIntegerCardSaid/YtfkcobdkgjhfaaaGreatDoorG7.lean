/- Parts of the proofs: Big2, Dec1, Dec3. -/
import Derived.Test.YtfkcobdkgjhfaaaGreatDoorG6
/- Walks: whole, words of the thin package. -/
set_option linter.unusedVariables false
set_option linter.unusedSimpArgs false
namespace Go.Proofs.YtfkcobdkgjhfaaaGreatDoor
open Go.RowKit

theorem infoUint : (Tryz.prog.info? 46).map (fun i => (i.zero, i.size, i.bytes)) = some (some (.int .u64 0), 1, 8) := by kernel_rfl

/-- A slice of uints that the call owns. -/
def OwnU (w : World) (base : Nat) (v : Value) (xs : List Nat) : Prop := w.ownsRow base 46 1 v xs.length (wv xs)

theorem wv_snoc {xs : List Nat} {k : Nat} (hk : k < xs.length) : wv (xs.take (k + 1)) = wv (xs.take k) ++ [.int .u64 (xs.getD k 0 : Nat)] := by
  rw [List.take_succ_eq_append_getElem hk, getD_at hk, wv, List.map_append]; rfl

theorem below_two {B : Nat} {w w1 w2 : World} {row : Option Nat} (h : Below B w w1) (hB : B ≤ w1.heap.size) (o : Obj) (hg : (w1.alloc o).grownBy w2 row) (hr : ∀ k, row = some k → B ≤ k) : Below B w w2 :=
  (h.alloc hB o).grown hg (by simp; omega) hr

/-- A new BigInt holds xs; nothing that was there has turned. -/
def NewBigP (w : World) (xs : List Nat) (e : Ending) (w' : World) : Prop :=
  ∃ g A c, e = .returned (.pointer (some ⟨g, 0, none⟩)) ∧ w.heap.size ≤ g ∧ Own w' w.heap.size (.slice A xs.length c) xs ∧ Blk w' g 69 #[.bool false, .slice A xs.length c, .bool false] ∧ Below w.heap.size w w'

set_option maxHeartbeats 800000 in
theorem whole_any (v : Value) (xs : List Nat) (w : World) (hv : RdW w v xs) (hn : xs.length ≤ 1048576) :
    Calls Tryz.prog 49 #[v] w (NewBigP w (trimz xs)) := by
  obtain ⟨i0, hi, hz0, hz1, hz2⟩ := info_parts infoWord
  obtain ⟨A, c, rfl, hrd⟩ : ∃ A c, v = .slice A xs.length c ∧ (∀ k, k < xs.length → ∃ g o, A = some ⟨g, o, none⟩ ∧ g < w.heap.size ∧ w.cell? ⟨g, o + k, none⟩ = some (.int .u64 (xs.getD k 0 : Nat))) := by
    rcases hv with ⟨A, c, rfl, rfl, -⟩ | ⟨g, o, c, rfl, h1, h2, h3⟩
    · exact ⟨A, c, rfl, fun k hk => by simp at hk⟩
    · exact ⟨_, c, rfl, fun k hk => ⟨g, o, rfl, World.block_lt_of_cell? w _ (h3 k hk), h3 k hk⟩⟩
  have HR := hide hrd
  have HI := hide (And.intro hi (And.intro hz0 (And.intro hz1 hz2)))
  clear hv hrd hi hz0 hz1 hz2
  go_enter Tryz.func49, Tryz.ntmps49
  go_wp2
  go_loopw [3, 8] (fun l i wr => ∃ (k : Nat) (B : Option Addr) (cl : Nat), k ≤ xs.length ∧ i = .int .i64 k ∧ l = .slice B k cl ∧ Hid (Own wr w.heap.size (.slice B k cl) (xs.take k)) ∧ Hid (Below w.heap.size w wr)) (fun _ i _ => xs.length - (intOf i).toNat)
  case atStart => exact ⟨0, none, 0, Nat.zero_le _, rfl, rfl, Own.nil _ _, Below.refl _ _⟩
  case round =>
    obtain ⟨k, B, cl, hk, rfl, rfl, hown, hbel⟩ := hrel
    by_cases hlt : k < xs.length
    · obtain ⟨g, o, rfl, hg, hc⟩ := HR.out k hlt
      have hcell : wr.cell? ⟨g, o + k, none⟩ = some (.int .u64 (xs.getD k 0 : Nat)) := (hbel.out.cell hg).trans hc
      have hl : (xs.take k).length = k := by rw [List.length_take]; omega
      have hl1 : (xs.take (k + 1)).length = k + 1 := by rw [List.length_take]; omega
      have hsn := wv_snoc hlt
      have HT := hide (And.intro hl (And.intro hl1 hsn))
      clear hl hl1 hsn hc
      generalize xs.getD k 0 = d at hcell HT
      go_wp2_with (at_builtin; go_loud (refine wpList_append_own _ rfl (.tmp 12) (.tmp 14) 64 rfl w.heap.size 145 i0 (.int .u64 0) 1 8 Tryz.underlying64 HI.out.1 HI.out.2.1 HI.out.2.2.1 HI.out.2.2.2 rfl (by decide) _ _ _ rfl (hown.out.alloc _) ⟨wr.heap.size, 0, none⟩ 1 1 [.int .u64 (d : Int)] rfl rfl ?c1 ?c2 ?c3 ?c4 ?c5 ?_))
      case c1 => exact cell_one_new _ _ _
      case c2 => intro u hu; rw [List.mem_singleton.1 hu]; rfl
      case c3 => rw [HT.out.1]; simp only [maxLen]; omega
      case c4 => rw [HT.out.1]; omega
      case c5 => have := hbel.out.size; simp; omega
      intro v' w1 hown' hgrow _
      obtain ⟨B', cl', rfl, hown1⟩ : ∃ B' cl', v' = .slice B' (k + 1) cl' ∧ Hid (Own w1 w.heap.size (.slice B' (k + 1) cl') (xs.take (k + 1))) := by
        have h1 : Own w1 w.heap.size v' (xs.take (k + 1)) := by
          show w1.ownsRow _ _ _ _ _ _
          rw [HT.out.2.2, HT.out.2.1]
          exact hown'
        obtain ⟨B', cl', he⟩ := h1.room.slice
        rw [HT.out.2.1] at he
        exact ⟨B', cl', he, by rw [← he]; exact h1⟩
      have hb1 := hide (below_two hbel.out hbel.out.size _ hgrow (fun j hj => (hown.out.lt hj).1))
      clear hown' hgrow hcell hown
      go_wp2
      go_roundw
      case rel => exact ⟨k + 1, B', cl', by omega, by go_num, rfl, hown1, hb1⟩
      case measure => simp [intOf]; omega
    · have hk' : xs.take k = xs := List.take_of_length_le (by omega)
      obtain rfl : k = xs.length := by omega
      rw [hk'] at hown
      clear hk' HR HI
      have h2 := hbel.out.size
      have hb2 : Fr wr ((wr.alloc (.cells #[.bool false, .slice none 0 0, .bool false] 69)).alloc (.cells #[.bool false, .slice none 0 0] 67)) (fun _ => False) := ((Fr.refl wr _).alloc _).alloc _
      have e1 : Blk ((wr.alloc (.cells #[.bool false, .slice none 0 0, .bool false] 69)).alloc (.cells #[.bool false, .slice none 0 0] 67)) (wr.heap.size + 1) 67 #[.bool false, .slice none 0 0] := by
        have := Blk.new (wr.alloc (.cells #[.bool false, .slice none 0 0, .bool false] 69)) 67 #[.bool false, .slice none 0 0]
        simpa using this
      have e2 : Blk ((wr.alloc (.cells #[.bool false, .slice none 0 0, .bool false] 69)).alloc (.cells #[.bool false, .slice none 0 0] 67)) wr.heap.size 69 #[.bool false, .slice none 0 0, .bool false] := (Blk.new wr _ _).alloc _
      have hs2 : ((wr.alloc (.cells #[.bool false, .slice none 0 0, .bool false] 69)).alloc (.cells #[.bool false, .slice none 0 0] 67)).heap.size = wr.heap.size + 2 := by simp
      have HE := hide (And.intro e1 (And.intro e2 (And.intro hb2 hs2)))
      clear e1 e2 hb2 hs2
      go_wp2_with fail
      refine (setBits_any w.heap.size (wr.heap.size + 1) 0 67 #[.bool false, .slice none 0 0] false (.slice none 0 0) (.slice B xs.length cl) xs _ HE.out.1 rfl rfl (hown.out.fr HE.out.2.2.1 (fun _ _ h => h)) (by decide)).mono ?_
      rintro e w1 ⟨rfl, A, c, hr, hrb, hB, hF⟩
      have hne : ∀ k, (Value.slice A (trimz xs).length c).ownBlock = some k → k ≠ wr.heap.size := fun k hk => by
        rw [hrb] at hk
        have := (hown.out.lt hk).2
        omega
      have hB1 := HE.out.2.1.fr hF (by omega)
      have hl : (trimz xs).length ≤ 1099511627776 := by have := trimz_length_le xs; omega
      have hz : w.heap.size ≤ w1.heap.size := by have := hF.size; rw [HE.out.2.2.2] at this; omega
      have HH := hide (And.intro hr (And.intro hB (And.intro hF (And.intro hne (And.intro hB1 (And.intro hl hz))))))
      clear hr hrb hB hF hne hB1 hl hz
      go_wp2_with fail
      refine (setMath_any w.heap.size wr.heap.size 0 (wr.heap.size + 1) 0 69 67 #[.bool false, .slice none 0 0, .bool false] (setInt #[.bool false, .slice none 0 0] 0 false (.slice A (trimz xs).length c)) false false false (.slice none 0 0) (.slice A (trimz xs).length c) 0 (trimz xs) w1
        HH.out.2.2.2.2.1 rfl rfl rfl (Own.nil _ _).room (by decide) HH.out.2.1 rfl rfl HH.out.1.rd HH.out.2.2.2.1 (by decide) (by omega) HH.out.2.2.2.2.2.2 HH.out.2.2.2.2.2.1).mono ?_
      rintro e w2 ⟨rfl, A2, c2, hr2, hrb2, hB2, hF2⟩
      have fin : NewBigP w (trimz xs) (.returned (.pointer (some ⟨wr.heap.size, 0, none⟩))) w2 := by
        refine ⟨wr.heap.size, A2, c2, rfl, h2, hr2, hB2, ?_⟩
        have f1 : Fr w ((wr.alloc (.cells #[.bool false, .slice none 0 0, .bool false] 69)).alloc (.cells #[.bool false, .slice none 0 0] 67)) (fun k => w.heap.size ≤ k) := Fr.step (Fr.of_below hbel.out _) HE.out.2.2.1 (fun _ _ h => h.elim)
        have f2 := Fr.step f1 HH.out.2.2.1 (fun i _ h => by omega)
        have f3 := Fr.step f2 hF2 (fun i _ h => by rcases h with h | h; omega; cases h)
        exact f3.below (Nat.le_refl _) (fun k h => h)
      have Fin := hide fin
      clear hr2 hrb2 hB2 hF2 fin HH HE hown hbel h2
      go_wp2
      go_ret
      exact Fin.out

/-- New words, those of a number. -/
def NewU (w : World) (xs : List Nat) (e : Ending) (w' : World) : Prop :=
  ∃ A c, e = .returned (.slice A xs.length c) ∧ OwnU w' w.heap.size (.slice A xs.length c) xs ∧ Below w.heap.size w w'

theorem OwnU.nil (w : World) (base : Nat) : OwnU w base (.slice none 0 0) [] := ⟨by simp [wv], .inl ⟨rfl, rfl⟩⟩
theorem OwnU.form {w : World} {base : Nat} {v : Value} {xs : List Nat} (h : OwnU w base v xs) : (v = .slice none 0 0 ∧ xs = []) ∨ ∃ g cap cur, v = .slice (some ⟨g, 0, none⟩) xs.length cap ∧ base ≤ g ∧ Blk w g 46 cur ∧ xs.length ≤ cap ∧ cap ≤ maxLen ∧ cur.size = cap ∧ cur.toList.take xs.length = wv xs := by
  obtain ⟨h1, h2⟩ := h
  rcases h2 with ⟨h2, h3⟩ | ⟨g, cap, cur, rfl, hg, hh, a, b, c, d⟩
  · exact .inl ⟨h2, List.eq_nil_of_length_eq_zero h3⟩
  · exact .inr ⟨g, cap, cur, rfl, hg, hh, a, b, by simpa using c, by simpa using d⟩
theorem OwnU.slice {w : World} {base : Nat} {v : Value} {xs : List Nat} (h : OwnU w base v xs) : ∃ A c, v = .slice A xs.length c := by
  rcases h.form with ⟨rfl, rfl⟩ | ⟨g, cap, cur, rfl, _⟩
  · exact ⟨none, 0, rfl⟩
  · exact ⟨_, cap, rfl⟩
theorem OwnU.rd {w : World} {base : Nat} {v : Value} {xs : List Nat} (h : OwnU w base v xs) : RdW w v xs := by
  rcases h.form with ⟨h1, h2⟩ | ⟨g, cap, cur, rfl, hg, hh, a, b, c, d⟩
  · exact .inl ⟨_, _, h1, h2, Nat.zero_le _⟩
  · exact .inr ⟨g, 0, cap, rfl, a, b, WordsAt.of_blk hh fun i hi => by rw [Nat.zero_add]; exact words_of_take d i hi⟩
theorem OwnU.lt {w : World} {base : Nat} {v : Value} {xs : List Nat} (h : OwnU w base v xs) {k : Nat} (hk : v.ownBlock = some k) : base ≤ k ∧ k < w.heap.size := World.ownsRow.lt h k hk

set_option maxHeartbeats 800000 in
theorem words_any (gx ox : Nat) (tx : TypeId) (cx : Array Value) (nx : Bool) (vx : Value) (xs : List Nat) (w : World)
    (hx : Blk w gx tx cx) (hx0 : cx[ox]? = some (.bool nx)) (hx1 : cx[ox + 1]? = some vx) (hxr : RdW w vx xs) (htx : tx ≠ 145) (hn : xs.length ≤ 1048576) :
    Calls Tryz.prog 56 #[.pointer (some ⟨gx, ox, none⟩)] w (NewU w xs) := by
  obtain ⟨i0, hi, hz0, hz1, hz2⟩ := info_parts infoUint
  have con := mathBig_any gx ox tx cx nx vx xs w hx hx0 hx1 hxr htx (by omega)
  have HI := hide (And.intro hi (And.intro hz0 (And.intro hz1 hz2)))
  have Con := hide con
  clear hi hz0 hz1 hz2 hx hx0 hx1 hxr con
  go_enter Tryz.func56, Tryz.ntmps56
  go_wp2_with fail
  refine (Con.out).mono ?_
  rintro e w1 ⟨g, A, c, rfl, hg, hown, hB, hbel⟩
  have HB := hide (And.intro hg (And.intro hown (And.intro hB hbel)))
  clear hg hown hB hbel Con
  go_wp2_with fail
  refine (bits_any g 0 (.slice A xs.length c) w1 ?_).mono ?_
  · exact (HB.out.2.2.1.cell 1)
  rintro e w2 ⟨rfl, rfl⟩
  have hrd : ∀ k, k < xs.length → ∃ g o, A = some ⟨g, o, none⟩ ∧ g < w1.heap.size ∧ w1.cell? ⟨g, o + k, none⟩ = some (.int .u64 (xs.getD k 0 : Nat)) := by
    rcases HB.out.2.1.rd with ⟨_, _, h1, rfl, _⟩ | ⟨g, o, c, h1, _, _, h3⟩
    · intro k hk; simp at hk
    · intro k hk
      injection h1 with h1
      exact ⟨g, o, h1, World.block_lt_of_cell? _ _ (h3 k hk), h3 k hk⟩
  have HR := hide hrd
  have HBel := hide HB.out.2.2.2
  clear hrd HB
  go_wp2
  go_loopw [3, 10] (fun l i wr => ∃ (k : Nat) (B : Option Addr) (cl : Nat), k ≤ xs.length ∧ i = .int .i64 k ∧ l = .slice B k cl ∧ Hid (OwnU wr w1.heap.size (.slice B k cl) (xs.take k)) ∧ Hid (Below w1.heap.size w1 wr)) (fun _ i _ => xs.length - (intOf i).toNat)
  case atStart => exact ⟨0, none, 0, Nat.zero_le _, rfl, rfl, OwnU.nil _ _, Below.refl _ _⟩
  case round =>
    obtain ⟨k, B, cl, hk, rfl, rfl, hown, hbel⟩ := hrel
    by_cases hlt : k < xs.length
    · obtain ⟨g, o, rfl, hg, hc⟩ := HR.out k hlt
      have hcell : wr.cell? ⟨g, o + k, none⟩ = some (.int .u64 (xs.getD k 0 : Nat)) := (hbel.out.cell hg).trans hc
      have hl : (xs.take k).length = k := by rw [List.length_take]; omega
      have hl1 : (xs.take (k + 1)).length = k + 1 := by rw [List.length_take]; omega
      have hsn := wv_snoc hlt
      have HT := hide (And.intro hl (And.intro hl1 hsn))
      clear hl hl1 hsn hc
      generalize xs.getD k 0 = d at hcell HT
      go_wp2_with (at_builtin; go_loud (refine wpList_append_own _ rfl (.tmp 14) (.tmp 16) 22 rfl w1.heap.size 46 i0 (.int .u64 0) 1 8 Tryz.underlying22 HI.out.1 HI.out.2.1 HI.out.2.2.1 HI.out.2.2.2 rfl (by decide) _ _ _ rfl (hown.out.alloc _) ⟨wr.heap.size, 0, none⟩ 1 1 [.int .u64 (d : Int)] rfl rfl ?c1 ?c2 ?c3 ?c4 ?c5 ?_))
      case c1 => exact cell_one_new _ _ _
      case c2 => intro u hu; rw [List.mem_singleton.1 hu]; rfl
      case c3 => rw [HT.out.1]; simp only [maxLen]; omega
      case c4 => rw [HT.out.1]; omega
      case c5 => have := hbel.out.size; simp; omega
      intro v' w2 hown' hgrow _
      obtain ⟨B', cl', rfl, hown1⟩ : ∃ B' cl', v' = .slice B' (k + 1) cl' ∧ Hid (OwnU w2 w1.heap.size (.slice B' (k + 1) cl') (xs.take (k + 1))) := by
        have h1 : OwnU w2 w1.heap.size v' (xs.take (k + 1)) := by
          show w2.ownsRow _ _ _ _ _ _
          rw [HT.out.2.2, HT.out.2.1]
          exact hown'
        obtain ⟨B', cl', he⟩ := h1.slice
        rw [HT.out.2.1] at he
        exact ⟨B', cl', he, by rw [← he]; exact h1⟩
      have hb1 := hide (below_two hbel.out hbel.out.size _ hgrow (fun j hj => (hown.out.lt hj).1))
      clear hown' hgrow hcell hown
      go_wp2
      go_roundw
      case rel => exact ⟨k + 1, B', cl', by omega, by go_num, rfl, hown1, hb1⟩
      case measure => simp [intOf]; omega
    · have hk' : xs.take k = xs := List.take_of_length_le (by omega)
      obtain rfl : k = xs.length := by omega
      rw [hk'] at hown
      have fin : NewU w xs (.returned (.slice B xs.length cl)) wr := by
        refine ⟨B, cl, rfl, ?_, HBel.out.trans (hbel.out.mono HBel.out.size)⟩
        obtain ⟨h1, h2⟩ := hown.out
        refine ⟨h1, h2.imp id ?_⟩
        rintro ⟨g, cap, cur, hv, hg, r⟩
        exact ⟨g, cap, cur, hv, Nat.le_trans HBel.out.size hg, r⟩
      have Fin := hide fin
      clear hk' HR HI fin hown HBel hbel
      go_wp2
      go_ret
      exact Fin.out
end Go.Proofs.YtfkcobdkgjhfaaaGreatDoor

/- Walks: made, told of the thin package. -/
set_option linter.unusedVariables false
set_option linter.unusedSimpArgs false
namespace Go.Proofs.YtfkcobdkgjhfaaaGreatDoor
open Go.RowKit

/-- The cells of a Decimal. -/
def decC (form : Int) (neg : Bool) (exp : Int) (vneg : Bool) (v : Value) (minus : Bool) : Array Value := #[.int .i8 form, .bool neg, .int .i32 exp, .bool vneg, v, .bool minus]

/-- A new Decimal. -/
def MadeDec (w : World) (form : Int) (neg : Bool) (exp : Int) (xs : List Nat) (e : Ending) (w' : World) : Prop :=
  ∃ g A c, e = .returned (.pointer (some ⟨g, 0, none⟩)) ∧ w.heap.size ≤ g ∧ Own w' w.heap.size (.slice A xs.length c) xs ∧ Blk w' g 71 (decC form neg exp false (.slice A xs.length c) false) ∧ Below w.heap.size w w'

set_option maxHeartbeats 1000000 in
theorem made_fin (form : Int) (neg : Bool) (v : Value) (xs : List Nat) (exp : Int) (w : World) (hv : RdW w v xs) (hn : xs.length ≤ 1048576) (h1 : form ≠ 1) (h2 : form ≠ 2) (h3 : form ≠ 3) (he0 : -2147483648 ≤ exp) (he1 : exp ≤ 2147483647) :
    Calls Tryz.prog 28 #[.agg #[.int .i64 form, .bool neg, v, .int .i64 exp]] w (MadeDec w 0 neg exp (trimz xs)) := by
  have b1 : (form == 1) = false := beq_eq_false_iff_ne.2 h1
  have b2 : (form == 2) = false := beq_eq_false_iff_ne.2 h2
  have b3 : (form == 3) = false := beq_eq_false_iff_ne.2 h3
  obtain ⟨A, c, rfl⟩ : ∃ A c, v = .slice A xs.length c := by
    rcases hv with ⟨A, c, rfl, rfl, _⟩ | ⟨g, o, c, rfl, _⟩
    · exact ⟨A, c, rfl⟩
    · exact ⟨_, c, rfl⟩
  have HV := hide hv
  clear hv h1 h2 h3
  go_enter Tryz.func28, Tryz.ntmps28
  go_wp2_with fail
  have hs : ((w.alloc (.cells #[.int .i64 form, .bool neg, .slice A xs.length c, .int .i64 exp] 24)).alloc (.cells (decC 0 false exp false (.slice none 0 0) false) 71)).heap.size = w.heap.size + 2 := by simp
  have hf : Fr w ((w.alloc (.cells #[.int .i64 form, .bool neg, .slice A xs.length c, .int .i64 exp] 24)).alloc (.cells (decC 0 false exp false (.slice none 0 0) false) 71)) (fun _ => False) := ((Fr.refl w _).alloc _).alloc _
  have hbx : Blk ((w.alloc (.cells #[.int .i64 form, .bool neg, .slice A xs.length c, .int .i64 exp] 24)).alloc (.cells (decC 0 false exp false (.slice none 0 0) false) 71)) w.heap.size 24 #[.int .i64 form, .bool neg, .slice A xs.length c, .int .i64 exp] := (Blk.new w _ _).alloc _
  have hd : Blk ((w.alloc (.cells #[.int .i64 form, .bool neg, .slice A xs.length c, .int .i64 exp] 24)).alloc (.cells (decC 0 false exp false (.slice none 0 0) false) 71)) (w.heap.size + 1) 71 (decC 0 false exp false (.slice none 0 0) false) := by
    have := Blk.new (w.alloc (.cells #[.int .i64 form, .bool neg, .slice A xs.length c, .int .i64 exp] 24)) 71 (decC 0 false exp false (.slice none 0 0) false)
    simpa using this
  unfold decC at hs hf hbx hd
  generalize ((w.alloc (.cells #[.int .i64 form, .bool neg, .slice A xs.length c, .int .i64 exp] 24)).alloc (.cells #[.int .i8 0, .bool false, .int .i32 exp, .bool false, .slice none 0 0, .bool false] 71)) = W at hs hf hbx hd ⊢
  have hv2 : RdW W (.slice A xs.length c) xs := HV.out.fr hf (fun _ _ h => h)
  have c2 : W.cell? ⟨w.heap.size, 2, none⟩ = some (.slice A xs.length c) := hbx.cell 2
  have HH := hide (And.intro hs (And.intro hf (And.intro hbx (And.intro hd hv2))))
  clear hs hf hbx hd hv2 HV
  have con2 : ∀ (w1 : World) (g : Nat) (A1 : Option Addr) (c1 : Nat), W.heap.size ≤ g → Own w1 W.heap.size (.slice A1 (trimz xs).length c1) (trimz xs) → Blk w1 g 69 #[.bool false, .slice A1 (trimz xs).length c1, .bool false] → Below W.heap.size W w1 →
      Calls Tryz.prog 48 #[.pointer (some ⟨w.heap.size + 1, 3, none⟩), .pointer (some ⟨g, 0, none⟩)] w1 (fun e w2 => e = .returned (.pointer (some ⟨w.heap.size + 1, 3, none⟩)) ∧
        ∃ A2 c2, Hid (Own w2 w.heap.size (.slice A2 (trimz xs).length c2) (trimz xs) ∧ Blk w2 (w.heap.size + 1) 71 (decC 0 false exp false (.slice A2 (trimz xs).length c2) false) ∧ Below w.heap.size w w2) ∧ w2.cell? ⟨w.heap.size, 1, none⟩ = some (.bool neg) ∧ w2.cell? ⟨w.heap.size + 1, 1, none⟩ = some (.bool false) ∧ w2.frozen? ⟨w.heap.size + 1, 1, none⟩ = false) := by
    intro w1 g A1 c1 hg hown hB hbel
    obtain ⟨hs, hf, hbx, hd, hv2⟩ := HH.out
    have hd1 : Blk w1 (w.heap.size + 1) 71 (decC 0 false exp false (.slice none 0 0) false) := hd.below hbel
    refine (bset_any w.heap.size (w.heap.size + 1) 3 g 0 71 69 (decC 0 false exp false (.slice none 0 0) false) #[.bool false, .slice A1 (trimz xs).length c1, .bool false] false false false false (.slice none 0 0) (.slice A1 (trimz xs).length c1) 0 (trimz xs) w1
      hd1 rfl rfl rfl (Own.nil _ _).room (by decide) hB rfl rfl rfl hown.rd (fun k hk => by have := (hown.lt hk).1; omega) (by decide) (by omega) (by have := hbel.size; omega) (by have := trimz_length_le xs; omega)).mono ?_
    rintro e w2 ⟨rfl, A2, c2, hr2, hrb2, hB2, hF2⟩
    refine ⟨rfl, A2, c2, ⟨hr2, hB2, ?_⟩, ?_, hB2.cell 1, hB2.frozen 1⟩
    · have f1 : Fr w w1 (fun k => w.heap.size ≤ k) := Fr.step (hf.mono (fun _ _ h => h.elim)) (Fr.of_below hbel (fun _ => False)) (fun _ _ h => h.elim)
      exact (Fr.step f1 hF2 (fun i _ h => by rcases h with h | h; omega; cases h)).below (Nat.le_refl _) (fun k h => h)
    · have h1 : Blk w1 w.heap.size 24 #[.int .i64 form, .bool neg, .slice A xs.length c, .int .i64 exp] := hbx.below hbel
      exact (h1.fr hF2 (by rintro (h | h); omega; cases h)).cell 1
  have Con2 := hide con2
  clear con2
  go_region_with (first | (go_at_call 49; go_loud (refine (whole_any (.slice A xs.length c) xs _ ?_ hn).mono ?_; exact HH.out.2.2.2.2; rintro e w1 ⟨g, A1, c1, rfl, hg, hown, hB, hbel⟩; have Con3 := hide (Con2.out w1 g A1 c1 hg hown hB ⟨hbel.os, hbel.tape, hbel.output, hbel.size, hbel.block⟩); clear hg hown hB hbel)) | (go_at_call 48; go_loud (refine (Con3.out).mono ?_; rintro e w2 ⟨rfl, A2, c2, HX, k1, k2, k3⟩)))
  all_goals go_wp2
  all_goals go_ret
  all_goals exact ⟨w.heap.size + 1, A2, c2, rfl, by omega, HX.out.1.fr ((Fr.refl w2 (fun k => k = w.heap.size + 1)).setCell (p := ⟨w.heap.size + 1, 1, none⟩) (fun _ => rfl) _) (HX.out.1.room.ne_blk HX.out.2.1 (by decide)), HX.out.2.1.set 1 _, HX.out.2.2.setCell (p := ⟨w.heap.size + 1, 1, none⟩) (by simp) _⟩
end Go.Proofs.YtfkcobdkgjhfaaaGreatDoor

/- Walks: Decimal.Set of the package apd. -/
set_option linter.unusedVariables false
set_option linter.unusedSimpArgs false
namespace Go.Proofs.YtfkcobdkgjhfaaaGreatDoor
open Go.RowKit

theorem infoDec : (Tryz.prog.info? 71).map (fun i => i.size) = some 6 := by kernel_rfl

theorem neq_Dec (w : World) {a b : Addr} {ca cb : Array Value} {ta tb : TypeId} (hne : a ≠ b) (ha : Blk w a.block ta ca) (hb : Blk w b.block tb cb) :
    (binOp .eql 61 (.pointer (some a)) (.pointer (some b))).run Tryz.prog w = .ok (.bool false) w := by
  obtain ⟨j, hj, hs⟩ := Option.map_eq_some_iff.1 infoDec
  exact run_eql_ptr_other w Tryz.underlying61 hj (by rw [hs]; decide) hne ha hb

/-- A Decimal, set: its cells, its row, and all else that was there. -/
def DsetP (w : World) (base g : Nat) (form : Int) (neg : Bool) (exp : Int) (vneg : Bool) (vz : Value) (minus : Bool) (xs : List Nat) (e : Ending) (w' : World) : Prop :=
  e = .returned (.pointer (some ⟨g, 0, none⟩)) ∧ ∃ A c, Own w' base (.slice A xs.length c) xs ∧ ((Value.slice A xs.length c).ownBlock = vz.ownBlock ∨ ∃ k, (Value.slice A xs.length c).ownBlock = some k ∧ w.heap.size ≤ k) ∧
    Blk w' g 71 (decC form neg exp vneg (.slice A xs.length c) minus) ∧ Fr w w' (fun k => k = g ∨ vz.ownBlock = some k)

set_option maxHeartbeats 1000000 in
theorem dslow_any (base gz gx : Nat) (fz : Int) (nz : Bool) (ez : Int) (bz : Bool) (vz : Value) (mz : Bool) (fx : Int) (nx : Bool) (ex : Int) (bx : Bool) (vx : Value) (mx : Bool) (m : Nat) (xs : List Nat) (w : World)
    (hz : Blk w gz 71 (decC fz nz ez bz vz mz)) (hzr : Room w base vz m) (hx : Blk w gx 71 (decC fx nx ex bx vx mx)) (hxr : RdW w vx xs) (hxb : ∀ k, vx.ownBlock = some k → k ≠ gz)
    (hne : gz ≠ gx) (hb : base ≤ w.heap.size) (hn : xs.length ≤ 1099511627776) :
    Calls Tryz.prog 91 #[.pointer (some ⟨gz, 0, none⟩), .pointer (some ⟨gx, 0, none⟩)] w (DsetP w base gz fx nx ex bx vz mx xs) := by
  have x0 : w.cell? ⟨gx, 0, none⟩ = some (.int .i8 fx) := hx.cell 0
  have x1 : w.cell? ⟨gx, 1, none⟩ = some (.bool nx) := hx.cell 1
  have x2 : w.cell? ⟨gx, 2, none⟩ = some (.int .i32 ex) := hx.cell 2
  have z0 : w.cell? ⟨gz, 0, none⟩ = some (.int .i8 fz) := hz.cell 0
  have z1 : w.cell? ⟨gz, 1, none⟩ = some (.bool nz) := hz.cell 1
  have z2 : w.cell? ⟨gz, 2, none⟩ = some (.int .i32 ez) := hz.cell 2
  have f0 := hz.frozen 0
  have f1 := hz.frozen 1
  have f2 := hz.frozen 2
  have hfW : Fr w (((w.setCell ⟨gz, 0, none⟩ (.int .i8 fx)).setCell ⟨gz, 1, none⟩ (.bool nx)).setCell ⟨gz, 2, none⟩ (.int .i32 ex)) (fun k => k = gz) :=
    (((Fr.refl w (fun k => k = gz)).setCell (p := ⟨gz, 0, none⟩) (fun _ => rfl) _).setCell (p := ⟨gz, 1, none⟩) (fun _ => rfl) _).setCell (p := ⟨gz, 2, none⟩) (fun _ => rfl) _
  have hzW : Blk (((w.setCell ⟨gz, 0, none⟩ (.int .i8 fx)).setCell ⟨gz, 1, none⟩ (.bool nx)).setCell ⟨gz, 2, none⟩ (.int .i32 ex)) gz 71 (decC fx nx ex bz vz mz) := ((hz.set 0 _).set 1 _).set 2 _
  have hxW := hx.fr hfW (fun h => hne h.symm)
  have HS := hide (And.intro hfW (And.intro hzW (And.intro hxW (And.intro (hzr.fr hfW (hzr.ne_blk hz (by decide))) (hxr.fr hfW hxb)))))
  clear hfW hzW hxW hz hzr hx hxr
  go_enter Tryz.func91, Tryz.ntmps91
  go_wp2_with fail
  generalize (((w.setCell ⟨gz, 0, none⟩ (.int .i8 fx)).setCell ⟨gz, 1, none⟩ (.bool nx)).setCell ⟨gz, 2, none⟩ (.int .i32 ex)) = W at HS ⊢
  have con := bset_any base gz 3 gx 3 71 71 (decC fx nx ex bz vz mz) (decC fx nx ex bx vx mx) bz bx mz mx vz vx m xs W.drew
    HS.out.2.1 rfl rfl rfl (HS.out.2.2.2.1.fr ((Fr.refl W (fun _ => False)).drew) (fun _ _ h => h)) (by decide) HS.out.2.2.1 rfl rfl rfl (HS.out.2.2.2.2.fr ((Fr.refl W (fun _ => False)).drew) (fun _ _ h => h)) hxb (by decide) hne (by have := HS.out.1.size; simp; omega) hn
  have fin : ∀ e w', BigP W.drew base gz 3 71 (decC fx nx ex bz vz mz) vz bx mx xs e w' → DsetP w base gz fx nx ex bx vz mx xs (.returned (.pointer (some ⟨gz, 0, none⟩))) w' := by
    rintro e w' ⟨he, A, c, hr, hrb, hB, hF⟩
    refine ⟨rfl, A, c, hr, ?_, hB, ?_⟩
    · rcases hrb with h | ⟨k, h1, h2⟩
      · exact .inl h
      · exact .inr ⟨k, h1, by have := HS.out.1.size; simp at h2; omega⟩
    · exact Fr.step ((HS.out.1.mono (fun k _ h => .inl h)).drew) hF (fun i _ h => h)
  have Con := hide con
  have Fin := hide fin
  clear con fin HS
  go_region_with (go_at_call 48; go_loud (refine (Con.out).mono ?_; rintro e w1 HI; have HI2 := hide HI; obtain ⟨rfl, _⟩ := HI))
  all_goals go_wp2
  all_goals go_ret
  all_goals exact Fin.out _ _ HI2.out

theorem dset_any (base gz gx : Nat) (fz : Int) (nz : Bool) (ez : Int) (bz : Bool) (vz : Value) (mz : Bool) (fx : Int) (nx : Bool) (ex : Int) (bx : Bool) (vx : Value) (mx : Bool) (m : Nat) (xs : List Nat) (w : World)
    (hz : Blk w gz 71 (decC fz nz ez bz vz mz)) (hzr : Room w base vz m) (hx : Blk w gx 71 (decC fx nx ex bx vx mx)) (hxr : RdW w vx xs) (hxb : ∀ k, vx.ownBlock = some k → k ≠ gz)
    (hne : gz ≠ gx) (hb : base ≤ w.heap.size) (hn : xs.length ≤ 1099511627776) :
    Calls Tryz.prog 51 #[.pointer (some ⟨gz, 0, none⟩), .pointer (some ⟨gx, 0, none⟩)] w (DsetP w base gz fx nx ex bx vz mx xs) := by
  have hcmp := neq_Dec w (a := ⟨gz, 0, none⟩) (b := ⟨gx, 0, none⟩) (by intro e; injection e with e1 e2; omega) hz hx
  have Con := hide (dslow_any base gz gx fz nz ez bz vz mz fx nx ex bx vx mx m xs w hz hzr hx hxr hxb hne hb hn)
  clear hz hzr hx hxr
  go_enter Tryz.func51, Tryz.ntmps51
  go_wp2_with fail
  refine (Con.out).mono ?_
  rintro e w1 HI
  have HI2 := hide HI
  obtain ⟨rfl, _⟩ := HI
  go_wp2
  go_ret
  exact HI2.out
end Go.Proofs.YtfkcobdkgjhfaaaGreatDoor
