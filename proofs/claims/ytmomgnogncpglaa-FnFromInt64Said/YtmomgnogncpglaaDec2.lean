/- Walks: told of the thin package, of finite decimals; made and told of the others. -/
import Derived.Test.YtmomgnogncpglaaDec1
set_option linter.unusedVariables false
set_option linter.unusedSimpArgs false
namespace Go.Proofs.Ytmomgnogncpglaa
open Go.RowKit

/-- What 'told' answers of a finite decimal. -/
def ToldFin (w : World) (neg : Bool) (exp : Int) (xs : List Nat) (e : Ending) (w' : World) : Prop :=
  ∃ A c, e = .returned (.agg #[.int .i64 0, .bool neg, .slice A xs.length c, .int .i64 exp]) ∧ OwnU w' w.heap.size (.slice A xs.length c) xs ∧ Below w.heap.size w w'

theorem OwnU.fr {w w' : World} {base : Nat} {v : Value} {xs : List Nat} {S : Nat → Prop} (h : OwnU w base v xs) (hf : Fr w w' S) (hs : ∀ k, v.ownBlock = some k → ¬ S k) : OwnU w' base v xs := by
  obtain ⟨h1, h2⟩ := h
  refine ⟨h1, ?_⟩
  rcases h2 with h2 | ⟨g, cap, cur, rfl, hg, hh, r⟩
  · exact .inl h2
  · exact .inr ⟨g, cap, cur, rfl, hg, Blk.fr (t := 50) hh hf (hs g rfl), r⟩
theorem OwnU.ne_blk {w : World} {base g : Nat} {xs : List Nat} {t : TypeId} {cs : Array Value} {v : Value} (h : OwnU w base v xs) (hb : Blk w g t cs) (ht : t ≠ 50) : ∀ k, v.ownBlock = some k → k ≠ g := by
  intro k hk
  rcases h.form with ⟨rfl, _⟩ | ⟨g', cap, cur, rfl, _, hh, _⟩
  · cases hk
  · obtain rfl : g' = k := by simpa [Value.ownBlock] using hk
    exact hh.type_ne hb (Ne.symm ht)
theorem OwnU.lower {w : World} {base base' : Nat} {v : Value} {xs : List Nat} (h : OwnU w base v xs) (hb : base' ≤ base) : OwnU w base' v xs := by
  obtain ⟨h1, h2⟩ := h
  refine ⟨h1, ?_⟩
  rcases h2 with h2 | ⟨g, cap, cur, rfl, hg, r⟩
  · exact .inl h2
  · exact .inr ⟨g, cap, cur, rfl, Nat.le_trans hb hg, r⟩

theorem told_result (n : Nat) (tmps : Array Value) (h : tmps.getD 2 undef = .pointer (some ⟨n, 0, none⟩)) (W : World) (a b c d : Value) (c0 : W.cell? ⟨n, 0, none⟩ = some a) (c1 : W.cell? ⟨n, 1, none⟩ = some b) (c2 : W.cell? ⟨n, 2, none⟩ = some c) (c3 : W.cell? ⟨n, 3, none⟩ = some d) :
    (results Try.f22 tmps).run Try.prog W = .ok (.agg #[a, b, c, d]) W := by
  have h2 : tmps[2]?.getD undef = .pointer (some ⟨n, 0, none⟩) := by simpa using h
  simp [results, Try.results22, go_sem, h2, c0, c1, c2, c3]

set_option maxHeartbeats 1000000 in
theorem told_fin (g : Nat) (neg : Bool) (exp : Int) (vneg minus : Bool) (v : Value) (xs : List Nat) (w : World) (hd : Blk w g 60 (decC 0 neg exp vneg v minus)) (hv : RdW w v xs) (hn : xs.length ≤ 1048576) (he0 : -2147483648 ≤ exp) (he1 : exp ≤ 2147483647) :
    Calls Try.prog 22 #[.pointer (some ⟨g, 0, none⟩)] w (ToldFin w neg exp xs) := by
  have c0 : w.cell? ⟨g, 0, none⟩ = some (.int .i8 0) := hd.cell 0
  have c1 : w.cell? ⟨g, 1, none⟩ = some (.bool neg) := hd.cell 1
  have hg : g < w.heap.size := hd.lt
  have HD := hide (And.intro hd hv)
  clear hd hv
  go_enter Try.func22, Try.ntmps22
  go_wp2_with fail
  have hs : ((w.alloc (.cells #[.int .i64 0, .bool false, .slice none 0 0, .int .i64 0] 24)).alloc (.cells #[.int .i64 0, .bool neg, .slice none 0 0, .int .i64 0] 24)).heap.size = w.heap.size + 2 := by simp
  have hf : Fr w ((w.alloc (.cells #[.int .i64 0, .bool false, .slice none 0 0, .int .i64 0] 24)).alloc (.cells #[.int .i64 0, .bool neg, .slice none 0 0, .int .i64 0] 24)) (fun _ => False) := ((Fr.refl w _).alloc _).alloc _
  have hb0 : Blk ((w.alloc (.cells #[.int .i64 0, .bool false, .slice none 0 0, .int .i64 0] 24)).alloc (.cells #[.int .i64 0, .bool neg, .slice none 0 0, .int .i64 0] 24)) w.heap.size 24 #[.int .i64 0, .bool false, .slice none 0 0, .int .i64 0] := (Blk.new w _ _).alloc _
  have hb1 : Blk ((w.alloc (.cells #[.int .i64 0, .bool false, .slice none 0 0, .int .i64 0] 24)).alloc (.cells #[.int .i64 0, .bool neg, .slice none 0 0, .int .i64 0] 24)) (w.heap.size + 1) 24 #[.int .i64 0, .bool neg, .slice none 0 0, .int .i64 0] := by
    have := Blk.new (w.alloc (.cells #[.int .i64 0, .bool false, .slice none 0 0, .int .i64 0] 24)) 24 #[.int .i64 0, .bool neg, .slice none 0 0, .int .i64 0]
    simpa using this
  generalize ((w.alloc (.cells #[.int .i64 0, .bool false, .slice none 0 0, .int .i64 0] 24)).alloc (.cells #[.int .i64 0, .bool neg, .slice none 0 0, .int .i64 0] 24)) = W at hs hf hb0 hb1 ⊢
  have hdW := HD.out.1.fr hf (fun h => h)
  have hvW := HD.out.2.fr hf (fun _ _ h => h)
  have cx : W.cell? ⟨g, 2, none⟩ = some (.int .i32 exp) := hdW.cell 2
  have con : ∀ W1 : World, W1.heap = W.heap → W1.os = W.os → W1.tape = W.tape → W1.output = W.output → Calls Try.prog 33 #[.pointer (some ⟨g, 3, none⟩)] W1 (fun e w1 => ∃ A c, e = .returned (.slice A xs.length c) ∧ Hid (OwnU w1 W.heap.size (.slice A xs.length c) xs ∧ Blk w1 w.heap.size 24 #[.int .i64 0, .bool false, .slice none 0 0, .int .i64 0] ∧ Blk w1 (w.heap.size + 1) 24 #[.int .i64 0, .bool neg, .slice none 0 0, .int .i64 0] ∧ Fr w w1 (fun _ => False)) ∧
      w1.cell? ⟨g, 2, none⟩ = some (.int .i32 exp) ∧ (w1.cell? ⟨w.heap.size + 1, 0, none⟩ = some (.int .i64 0) ∧ w1.cell? ⟨w.heap.size + 1, 1, none⟩ = some (.bool neg) ∧ w1.cell? ⟨w.heap.size + 1, 2, none⟩ = some (.slice none 0 0) ∧ w1.cell? ⟨w.heap.size + 1, 3, none⟩ = some (.int .i64 0)) ∧ (w1.frozen? ⟨w.heap.size + 1, 2, none⟩ = false ∧ w1.frozen? ⟨w.heap.size + 1, 3, none⟩ = false) ∧
      (w1.cell? ⟨w.heap.size, 0, none⟩ = some (.int .i64 0) ∧ w1.cell? ⟨w.heap.size, 1, none⟩ = some (.bool false) ∧ w1.cell? ⟨w.heap.size, 2, none⟩ = some (.slice none 0 0) ∧ w1.cell? ⟨w.heap.size, 3, none⟩ = some (.int .i64 0)) ∧ w1.frozen? ⟨w.heap.size, 0, none⟩ = false ∧ w1.frozen? ⟨w.heap.size, 1, none⟩ = false ∧ w1.frozen? ⟨w.heap.size, 2, none⟩ = false ∧ w1.frozen? ⟨w.heap.size, 3, none⟩ = false) := by
    intro W1 q1 q2 q3 q4
    have fr : Fr W W1 (fun _ => False) := ⟨q2, q3, q4, by rw [q1]; exact Nat.le_refl _, fun _ _ _ => by rw [q1]⟩
    refine (words_any g 3 60 (decC 0 neg exp vneg v minus) vneg v xs W1 (hdW.fr fr (fun h => h)) rfl rfl (hvW.fr fr (fun _ _ h => h)) (by decide) hn).mono ?_
    rintro e w1 ⟨A, c, rfl, hown, hbel⟩
    have fr1 : Fr W w1 (fun _ => False) := Fr.step fr (Fr.of_below hbel (fun _ => False)) (fun _ _ h => h)
    have hb1' := hb1.fr fr1 (fun h => h)
    have hb0' := hb0.fr fr1 (fun h => h)
    refine ⟨A, c, rfl, ⟨by rw [q1] at hown; exact hown, hb0.fr fr1 (fun h => h), hb1', Fr.step hf fr1 (fun _ _ h => h)⟩, (hdW.fr fr1 (fun h => h)).cell 2, ⟨hb1'.cell 0, hb1'.cell 1, hb1'.cell 2, hb1'.cell 3⟩, ⟨hb1'.frozen 2, hb1'.frozen 3⟩, ⟨hb0'.cell 0, hb0'.cell 1, hb0'.cell 2, hb0'.cell 3⟩, hb0'.frozen 0, hb0'.frozen 1, hb0'.frozen 2, hb0'.frozen 3⟩
  have Con := hide con
  have HS := hide hs
  clear con hf hb0 hb1 hdW hvW HD hs
  go_region_with (go_at_call 33; go_loud (refine (Con.out _ ?_ ?_ ?_ ?_).mono ?_; rfl; rfl; rfl; rfl; rintro e w1 ⟨A, c, rfl, HX, k1, ⟨k2, k3, k4, k5⟩, ⟨k6, k7⟩, ⟨l0, l1, l2, l3⟩, m0, m1, m2, m3⟩))
  all_goals go_wp2
  all_goals
    have hB := ((((((HX.out.2.1).far (p := ⟨w.heap.size + 1, 2, none⟩) (by simp) (.slice A xs.length c)).far (p := ⟨w.heap.size + 1, 3, none⟩) (by simp) (.int .i64 exp)).set 0 (.int .i64 0)).set 1 (.bool neg)).set 2 (.slice A xs.length c)).set 3 (.int .i64 exp)
    have hn0 := HX.out.1.ne_blk HX.out.2.1 (by decide)
    have hn1 := HX.out.1.ne_blk HX.out.2.2.1 (by decide)
    have fr := ((((((Fr.refl w1 (fun k => k = w.heap.size ∨ k = w.heap.size + 1)).setCell (p := ⟨w.heap.size + 1, 2, none⟩) (fun _ => .inr rfl) (.slice A xs.length c)).setCell (p := ⟨w.heap.size + 1, 3, none⟩) (fun _ => .inr rfl) (.int .i64 exp)).setCell (p := ⟨w.heap.size, 0, none⟩) (fun _ => .inl rfl) (.int .i64 0)).setCell (p := ⟨w.heap.size, 1, none⟩) (fun _ => .inl rfl) (.bool neg)).setCell (p := ⟨w.heap.size, 2, none⟩) (fun _ => .inl rfl) (.slice A xs.length c)).setCell (p := ⟨w.heap.size, 3, none⟩) (fun _ => .inl rfl) (.int .i64 exp)
    refine bodyPost_ret (told_result w.heap.size _ rfl _ (.int .i64 0) (.bool neg) (.slice A xs.length c) (.int .i64 exp) (hB.cell 0) (hB.cell 1) (hB.cell 2) (hB.cell 3)) rfl ?_
    refine ⟨A, c, rfl, (HX.out.1.fr fr (fun k hk h => by rcases h with h | h; exact hn0 k hk h; exact hn1 k hk h)).lower (by rw [HS.out]; omega), ?_⟩
    exact (Fr.step (S := fun k => w.heap.size ≤ k) (HX.out.2.2.2.mono (fun _ _ h => h.elim)) fr (fun i _ h => by omega)).below (Nat.le_refl _) (fun k h => h)
end Go.Proofs.Ytmomgnogncpglaa
