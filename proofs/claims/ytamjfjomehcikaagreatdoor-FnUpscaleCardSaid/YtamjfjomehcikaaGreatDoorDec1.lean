/- Walks: made, told of the thin package. -/
import Derived.Test.YtamjfjomehcikaaGreatDoorBig2
set_option linter.unusedVariables false
set_option linter.unusedSimpArgs false
namespace Go.Proofs.YtamjfjomehcikaaGreatDoor
open Go.RowKit

/-- The cells of a Decimal. -/
def decC (form : Int) (neg : Bool) (exp : Int) (vneg : Bool) (v : Value) (minus : Bool) : Array Value := #[.int .i8 form, .bool neg, .int .i32 exp, .bool vneg, v, .bool minus]

/-- A new Decimal. -/
def MadeDec (w : World) (form : Int) (neg : Bool) (exp : Int) (xs : List Nat) (e : Ending) (w' : World) : Prop :=
  ∃ g A c, e = .returned (.pointer (some ⟨g, 0, none⟩)) ∧ w.heap.size ≤ g ∧ Own w' w.heap.size (.slice A xs.length c) xs ∧ Blk w' g 81 (decC form neg exp false (.slice A xs.length c) false) ∧ Below w.heap.size w w'

set_option maxHeartbeats 1000000 in
theorem made_fin (form : Int) (neg : Bool) (v : Value) (xs : List Nat) (exp : Int) (w : World) (hv : RdW w v xs) (hn : xs.length ≤ 1048576) (h1 : form ≠ 1) (h2 : form ≠ 2) (h3 : form ≠ 3) (he0 : -2147483648 ≤ exp) (he1 : exp ≤ 2147483647) :
    Calls Tryz.prog 25 #[.agg #[.int .i64 form, .bool neg, v, .int .i64 exp]] w (MadeDec w 0 neg exp (trimz xs)) := by
  have b1 : (form == 1) = false := beq_eq_false_iff_ne.2 h1
  have b2 : (form == 2) = false := beq_eq_false_iff_ne.2 h2
  have b3 : (form == 3) = false := beq_eq_false_iff_ne.2 h3
  obtain ⟨A, c, rfl⟩ : ∃ A c, v = .slice A xs.length c := by
    rcases hv with ⟨A, c, rfl, rfl, _⟩ | ⟨g, o, c, rfl, _⟩
    · exact ⟨A, c, rfl⟩
    · exact ⟨_, c, rfl⟩
  have HV := hide hv
  clear hv h1 h2 h3
  go_enter Tryz.func25, Tryz.ntmps25
  go_wp2_with fail
  have hs : ((w.alloc (.cells #[.int .i64 form, .bool neg, .slice A xs.length c, .int .i64 exp] 31)).alloc (.cells (decC 0 false exp false (.slice none 0 0) false) 81)).heap.size = w.heap.size + 2 := by simp
  have hf : Fr w ((w.alloc (.cells #[.int .i64 form, .bool neg, .slice A xs.length c, .int .i64 exp] 31)).alloc (.cells (decC 0 false exp false (.slice none 0 0) false) 81)) (fun _ => False) := ((Fr.refl w _).alloc _).alloc _
  have hbx : Blk ((w.alloc (.cells #[.int .i64 form, .bool neg, .slice A xs.length c, .int .i64 exp] 31)).alloc (.cells (decC 0 false exp false (.slice none 0 0) false) 81)) w.heap.size 31 #[.int .i64 form, .bool neg, .slice A xs.length c, .int .i64 exp] := (Blk.new w _ _).alloc _
  have hd : Blk ((w.alloc (.cells #[.int .i64 form, .bool neg, .slice A xs.length c, .int .i64 exp] 31)).alloc (.cells (decC 0 false exp false (.slice none 0 0) false) 81)) (w.heap.size + 1) 81 (decC 0 false exp false (.slice none 0 0) false) := by
    have := Blk.new (w.alloc (.cells #[.int .i64 form, .bool neg, .slice A xs.length c, .int .i64 exp] 31)) 81 (decC 0 false exp false (.slice none 0 0) false)
    simpa using this
  unfold decC at hs hf hbx hd
  generalize ((w.alloc (.cells #[.int .i64 form, .bool neg, .slice A xs.length c, .int .i64 exp] 31)).alloc (.cells #[.int .i8 0, .bool false, .int .i32 exp, .bool false, .slice none 0 0, .bool false] 81)) = W at hs hf hbx hd ⊢
  have hv2 : RdW W (.slice A xs.length c) xs := HV.out.fr hf (fun _ _ h => h)
  have c2 : W.cell? ⟨w.heap.size, 2, none⟩ = some (.slice A xs.length c) := hbx.cell 2
  have HH := hide (And.intro hs (And.intro hf (And.intro hbx (And.intro hd hv2))))
  clear hs hf hbx hd hv2 HV
  have con2 : ∀ (w1 : World) (g : Nat) (A1 : Option Addr) (c1 : Nat), W.heap.size ≤ g → Own w1 W.heap.size (.slice A1 (trimz xs).length c1) (trimz xs) → Blk w1 g 76 #[.bool false, .slice A1 (trimz xs).length c1, .bool false] → Below W.heap.size W w1 →
      Calls Tryz.prog 36 #[.pointer (some ⟨w.heap.size + 1, 3, none⟩), .pointer (some ⟨g, 0, none⟩)] w1 (fun e w2 => e = .returned (.pointer (some ⟨w.heap.size + 1, 3, none⟩)) ∧
        ∃ A2 c2, Hid (Own w2 w.heap.size (.slice A2 (trimz xs).length c2) (trimz xs) ∧ Blk w2 (w.heap.size + 1) 81 (decC 0 false exp false (.slice A2 (trimz xs).length c2) false) ∧ Below w.heap.size w w2) ∧ w2.cell? ⟨w.heap.size, 1, none⟩ = some (.bool neg) ∧ w2.cell? ⟨w.heap.size + 1, 1, none⟩ = some (.bool false) ∧ w2.frozen? ⟨w.heap.size + 1, 1, none⟩ = false) := by
    intro w1 g A1 c1 hg hown hB hbel
    obtain ⟨hs, hf, hbx, hd, hv2⟩ := HH.out
    have hd1 : Blk w1 (w.heap.size + 1) 81 (decC 0 false exp false (.slice none 0 0) false) := hd.below hbel
    refine (bset_any w.heap.size (w.heap.size + 1) 3 g 0 81 76 (decC 0 false exp false (.slice none 0 0) false) #[.bool false, .slice A1 (trimz xs).length c1, .bool false] false false false false (.slice none 0 0) (.slice A1 (trimz xs).length c1) 0 (trimz xs) w1
      hd1 rfl rfl rfl (Own.nil _ _).room (by decide) hB rfl rfl rfl hown.rd (fun k hk => by have := (hown.lt hk).1; omega) (by decide) (by omega) (by have := hbel.size; omega) (by have := trimz_length_le xs; omega)).mono ?_
    rintro e w2 ⟨rfl, A2, c2, hr2, hrb2, hB2, hF2⟩
    refine ⟨rfl, A2, c2, ⟨hr2, hB2, ?_⟩, ?_, hB2.cell 1, hB2.frozen 1⟩
    · have f1 : Fr w w1 (fun k => w.heap.size ≤ k) := Fr.step (hf.mono (fun _ _ h => h.elim)) (Fr.of_below hbel (fun _ => False)) (fun _ _ h => h.elim)
      exact (Fr.step f1 hF2 (fun i _ h => by rcases h with h | h; omega; cases h)).below (Nat.le_refl _) (fun k h => h)
    · have h1 : Blk w1 w.heap.size 31 #[.int .i64 form, .bool neg, .slice A xs.length c, .int .i64 exp] := hbx.below hbel
      exact (h1.fr hF2 (by rintro (h | h); omega; cases h)).cell 1
  have Con2 := hide con2
  clear con2
  go_region_with (first | (go_at_call 28; go_loud (refine (whole_any (.slice A xs.length c) xs _ ?_ hn).mono ?_; exact HH.out.2.2.2.2; rintro e w1 ⟨g, A1, c1, rfl, hg, hown, hB, hbel⟩; have Con3 := hide (Con2.out w1 g A1 c1 hg hown hB ⟨hbel.os, hbel.tape, hbel.output, hbel.size, hbel.block⟩); clear hg hown hB hbel)) | (go_at_call 36; go_loud (refine (Con3.out).mono ?_; rintro e w2 ⟨rfl, A2, c2, HX, k1, k2, k3⟩)))
  all_goals go_wp2
  all_goals go_ret
  all_goals exact ⟨w.heap.size + 1, A2, c2, rfl, by omega, HX.out.1.fr ((Fr.refl w2 (fun k => k = w.heap.size + 1)).setCell (p := ⟨w.heap.size + 1, 1, none⟩) (fun _ => rfl) _) (HX.out.1.room.ne_blk HX.out.2.1 (by decide)), HX.out.2.1.set 1 _, HX.out.2.2.setCell (p := ⟨w.heap.size + 1, 1, none⟩) (by simp) _⟩
end Go.Proofs.YtamjfjomehcikaaGreatDoor
