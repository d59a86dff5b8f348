/- Parts of the proofs: DecCmp2, MulI. -/
import Derived.Test.YtfkcobdkgjhfaaaGreatDoorG13
import Derived.Test.YtfkcobdkgjhfaaaGreatDoorG35
/- Walks: Decimal.Cmp at unlike exponents, where the figures tell. (Printed by gen-dcmp.py.) -/
set_option linter.unusedVariables false
set_option linter.unusedSimpArgs false
namespace Go.Proofs.YtfkcobdkgjhfaaaGreatDoor
open Go.RowKit

/-- What Cmp holds. -/
def DecHold (w : World) (ga gb : Nat) (na nb : Bool) (ea eb : Int) (A B : Option Addr) (ca cb a b : Nat) (W : World) : Prop :=
  Below w.heap.size w W ∧ DecAt W ga na ea A ca a ∧ DecAt W gb nb eb B cb b
theorem DecHold.next {w : World} {ga gb : Nat} {na nb : Bool} {ea eb : Int} {A B : Option Addr} {ca cb a b : Nat} {W W' : World} (h : DecHold w ga gb na nb ea eb A B ca cb a b W) (h1 : W'.os = W.os) (h2 : W'.tape = W.tape) (h3 : W'.output = W.output) (h4 : W.heap.size ≤ W'.heap.size) (h5 : ∀ k, k < W.heap.size → W'.heap[k]? = W.heap[k]?) : DecHold w ga gb na nb ea eb A B ca cb a b W' :=
  ⟨below_next h.1 (Below.mk h1 h2 h3 h4 h5), h.2.1.below (Below.mk h1 h2 h3 h4 h5), h.2.2.below (Below.mk h1 h2 h3 h4 h5)⟩
theorem DecHold.cells {w : World} {ga gb : Nat} {na nb : Bool} {ea eb : Int} {A B : Option Addr} {ca cb a b : Nat} {W : World} (h : DecHold w ga gb na nb ea eb A B ca cb a b W) :
    W.cell? ⟨ga, 2, none⟩ = some (.int .i32 ea) ∧ W.cell? ⟨gb, 2, none⟩ = some (.int .i32 eb) := ⟨h.2.1.blk.cell 2, h.2.2.blk.cell 2⟩

set_option maxHeartbeats 2000000 in
set_option maxRecDepth 20000 in
theorem dcmp_adj (ga gb : Nat) (n : Bool) (ea eb : Int) (A B : Option Addr) (ca cb a b : Nat) (r : Int) (w : World) (ha : DecAt w ga n ea A ca a) (hb : DecAt w gb n eb B cb b) (ha0 : 0 < a) (hb0 : 0 < b) (hla : (digs 18446744073709551616 a).length ≤ 3) (hlb : (digs 18446744073709551616 b).length ≤ 3)
    (hee : ea ≠ eb) (he : -1000 ≤ ea ∧ ea ≤ 1000 ∧ -1000 ≤ eb ∧ eb ≤ 1000) (hv : VarsL w w.heap.size)
    (h : (figs a : Int) + ea < (figs b : Int) + eb ∧ r = (if n then 1 else -1) ∨ (figs b : Int) + eb < (figs a : Int) + ea ∧ r = (if n then -1 else 1)) :
    Calls Tryz.prog 80 #[.pointer (some ⟨ga, 0, none⟩), .pointer (some ⟨gb, 0, none⟩)] w (DcmpP w r) := by
  have c1 := dsign_any ga n ea A _ ca w ha.blk
  have c2 := dsign_any gb n eb B _ cb w hb.blk
  rw [sgnV_len _ (by omega)] at c1 c2
  have hsa : sgnV n a = if n then -1 else 1 := by unfold sgnV; rw [if_neg (by omega)]
  have hsb : sgnV n b = if n then -1 else 1 := by unfold sgnV; rw [if_neg (by omega)]
  rw [hsa] at c1
  rw [hsb] at c2
  have hba : blen a ≤ 1280 := by have := blen_words_le (k := 3) (lt_of_digs_length (b := 18446744073709551616) (by omega) hla); omega
  have hbb : blen b ≤ 1280 := by have := blen_words_le (k := 3) (lt_of_digs_length (b := 18446744073709551616) (by omega) hlb); omega
  have hfa := figs_small hla
  have hfb := figs_small hlb
  obtain ⟨fa, hfa'⟩ : ∃ fa, fa = figs a := ⟨_, rfl⟩
  obtain ⟨fb, hfb'⟩ : ∃ fb, fb = figs b := ⟨_, rfl⟩
  have Con1 := hide c1
  have Con2 := hide c2
  have Con3 : Hid (∀ W, Below w.heap.size w W → Calls Tryz.prog 52 #[.pointer (some ⟨ga, 0, none⟩)] W fun e w' => e = .returned (.int .i64 (fa : Int)) ∧ Below W.heap.size W w') := fun W hW => by
    rw [hfa']
    exact dnumD_any ga _ _ A ca a W (BigAt.dec (ha.below hW).blk (ha.below hW).rd) hba ((hv.below hW).raise hW.size)
  have Con4 : Hid (∀ W, Below w.heap.size w W → Calls Tryz.prog 52 #[.pointer (some ⟨gb, 0, none⟩)] W fun e w' => e = .returned (.int .i64 (fb : Int)) ∧ Below W.heap.size W w') := fun W hW => by
    rw [hfb']
    exact dnumD_any gb _ _ B cb b W (BigAt.dec (hb.below hW).blk (hb.below hW).rd) hbb ((hv.below hW).raise hW.size)
  have a0 : w.cell? ⟨ga, 0, none⟩ = some (.int .i8 0) := ha.blk.cell 0
  have b0 : w.cell? ⟨gb, 0, none⟩ = some (.int .i8 0) := hb.blk.cell 0
  have a2 : w.cell? ⟨ga, 2, none⟩ = some (.int .i32 ea) := ha.blk.cell 2
  have b2 : w.cell? ⟨gb, 2, none⟩ = some (.int .i32 eb) := hb.blk.cell 2
  have hq : (ea == eb) = false := beq_eq_false_iff_ne.2 hee
  have HS : Hid (DecHold w ga gb n n ea eb A B ca cb a b w) := ⟨Below.refl _ _, ha, hb⟩
  rw [← hfa', ← hfb'] at h
  rw [← hfa'] at hfa
  rw [← hfb'] at hfb
  have hw1 : IntKind.i64.wrap ea = ea := by rw [IntKind.wrap_i64]; omega
  have hw2 : IntKind.i64.wrap eb = eb := by rw [IntKind.wrap_i64]; omega
  obtain ⟨da, hda⟩ : ∃ d, d = (fa : Int) + ea := ⟨_, rfl⟩
  obtain ⟨db, hdb⟩ : ∃ d, d = (fb : Int) + eb := ⟨_, rfl⟩
  have hw3 : IntKind.i64.wrap ((fa : Int) + ea) = da := by rw [IntKind.wrap_i64]; omega
  have hw4 : IntKind.i64.wrap ((fb : Int) + eb) = db := by rw [IntKind.wrap_i64]; omega
  rw [← hda, ← hdb] at h
  have h' : (da < db ∧ r = if n then 1 else -1) ∨ (¬ da < db ∧ db < da ∧ r = if n then -1 else 1) := by
    rcases h with h | h
    · exact .inl h
    · exact .inr ⟨by omega, h⟩
  clear c1 c2 ha hb hsa hsb ha0 hb0 hla hlb hba hbb hfa hfb hfa' hfb' hda hdb hee he hv h
  rcases h' with ⟨hd, rfl⟩ | ⟨hd1, hd2, rfl⟩
  all_goals cases n
  · go_enter Tryz.func80, Tryz.ntmps80
    go_wp2_with fail
    refine (Con1.out).mono ?_
    rintro e w1 ⟨rfl, rfl⟩
    go_wp2_with fail
    refine (Con2.out).mono ?_
    rintro e w1 ⟨rfl, rfl⟩
    go_wp2_with fail
    go_quiet (fail)
    go_wp2_with fail
    go_region_held3 (fun W => W.cell? ⟨ga, 2, none⟩ = some (.int .i32 ea) ∧ W.cell? ⟨gb, 2, none⟩ = some (.int .i32 eb)) (first | exact ⟨HS.out.2.1.blk.cell 2, HS.out.2.2.blk.cell 2⟩ | exact ⟨a2, b2⟩ | go_keep)
      ((go_at_call 52; go_loud (refine (Con3.out _ ?_).mono ?_; exact Below.mk HS.out.1.os HS.out.1.tape HS.out.1.output HS.out.1.size HS.out.1.block; rintro e4 w4 ⟨rfl, hb4⟩; have HS := hide (DecHold.next HS.out hb4.os hb4.tape hb4.output hb4.size hb4.block); clear hb4)))
    all_goals clear Con3 a2 b2
    all_goals have ⟨a2, b2⟩ := HS.out.cells
    all_goals go_wp2_with fail
    go_region_held3 (fun W => W.cell? ⟨ga, 2, none⟩ = some (.int .i32 ea) ∧ W.cell? ⟨gb, 2, none⟩ = some (.int .i32 eb)) (first | exact ⟨HS.out.2.1.blk.cell 2, HS.out.2.2.blk.cell 2⟩ | exact ⟨a2, b2⟩ | go_keep)
      ((go_at_call 52; go_loud (refine (Con4.out _ ?_).mono ?_; exact Below.mk HS.out.1.os HS.out.1.tape HS.out.1.output HS.out.1.size HS.out.1.block; rintro e5 w5 ⟨rfl, hb5⟩; have HS := hide (DecHold.next HS.out hb5.os hb5.tape hb5.output hb5.size hb5.block); clear hb5)))
    all_goals clear Con4 a2 b2
    all_goals go_wp2
    all_goals go_ret
    all_goals exact ⟨rfl, HS.out.1⟩
  · go_enter Tryz.func80, Tryz.ntmps80
    go_wp2_with fail
    refine (Con1.out).mono ?_
    rintro e w1 ⟨rfl, rfl⟩
    go_wp2_with fail
    refine (Con2.out).mono ?_
    rintro e w1 ⟨rfl, rfl⟩
    go_wp2_with fail
    go_quiet (fail)
    go_wp2_with fail
    go_region_held3 (fun W => W.cell? ⟨ga, 2, none⟩ = some (.int .i32 ea) ∧ W.cell? ⟨gb, 2, none⟩ = some (.int .i32 eb)) (first | exact ⟨HS.out.2.1.blk.cell 2, HS.out.2.2.blk.cell 2⟩ | exact ⟨a2, b2⟩ | go_keep)
      ((go_at_call 52; go_loud (refine (Con3.out _ ?_).mono ?_; exact Below.mk HS.out.1.os HS.out.1.tape HS.out.1.output HS.out.1.size HS.out.1.block; rintro e4 w4 ⟨rfl, hb4⟩; have HS := hide (DecHold.next HS.out hb4.os hb4.tape hb4.output hb4.size hb4.block); clear hb4)))
    all_goals clear Con3 a2 b2
    all_goals have ⟨a2, b2⟩ := HS.out.cells
    all_goals go_wp2_with fail
    go_region_held3 (fun W => W.cell? ⟨ga, 2, none⟩ = some (.int .i32 ea) ∧ W.cell? ⟨gb, 2, none⟩ = some (.int .i32 eb)) (first | exact ⟨HS.out.2.1.blk.cell 2, HS.out.2.2.blk.cell 2⟩ | exact ⟨a2, b2⟩ | go_keep)
      ((go_at_call 52; go_loud (refine (Con4.out _ ?_).mono ?_; exact Below.mk HS.out.1.os HS.out.1.tape HS.out.1.output HS.out.1.size HS.out.1.block; rintro e5 w5 ⟨rfl, hb5⟩; have HS := hide (DecHold.next HS.out hb5.os hb5.tape hb5.output hb5.size hb5.block); clear hb5)))
    all_goals clear Con4 a2 b2
    all_goals go_wp2
    all_goals go_ret
    all_goals exact ⟨rfl, HS.out.1⟩
  · go_enter Tryz.func80, Tryz.ntmps80
    go_wp2_with fail
    refine (Con1.out).mono ?_
    rintro e w1 ⟨rfl, rfl⟩
    go_wp2_with fail
    refine (Con2.out).mono ?_
    rintro e w1 ⟨rfl, rfl⟩
    go_wp2_with fail
    go_quiet (fail)
    go_wp2_with fail
    go_region_held3 (fun W => W.cell? ⟨ga, 2, none⟩ = some (.int .i32 ea) ∧ W.cell? ⟨gb, 2, none⟩ = some (.int .i32 eb)) (first | exact ⟨HS.out.2.1.blk.cell 2, HS.out.2.2.blk.cell 2⟩ | exact ⟨a2, b2⟩ | go_keep)
      ((go_at_call 52; go_loud (refine (Con3.out _ ?_).mono ?_; exact Below.mk HS.out.1.os HS.out.1.tape HS.out.1.output HS.out.1.size HS.out.1.block; rintro e4 w4 ⟨rfl, hb4⟩; have HS := hide (DecHold.next HS.out hb4.os hb4.tape hb4.output hb4.size hb4.block); clear hb4)))
    all_goals clear Con3 a2 b2
    all_goals have ⟨a2, b2⟩ := HS.out.cells
    all_goals go_wp2_with fail
    go_region_held3 (fun W => W.cell? ⟨ga, 2, none⟩ = some (.int .i32 ea) ∧ W.cell? ⟨gb, 2, none⟩ = some (.int .i32 eb)) (first | exact ⟨HS.out.2.1.blk.cell 2, HS.out.2.2.blk.cell 2⟩ | exact ⟨a2, b2⟩ | go_keep)
      ((go_at_call 52; go_loud (refine (Con4.out _ ?_).mono ?_; exact Below.mk HS.out.1.os HS.out.1.tape HS.out.1.output HS.out.1.size HS.out.1.block; rintro e5 w5 ⟨rfl, hb5⟩; have HS := hide (DecHold.next HS.out hb5.os hb5.tape hb5.output hb5.size hb5.block); clear hb5)))
    all_goals clear Con4 a2 b2
    all_goals go_wp2
    all_goals go_ret
    all_goals exact ⟨rfl, HS.out.1⟩
  · go_enter Tryz.func80, Tryz.ntmps80
    go_wp2_with fail
    refine (Con1.out).mono ?_
    rintro e w1 ⟨rfl, rfl⟩
    go_wp2_with fail
    refine (Con2.out).mono ?_
    rintro e w1 ⟨rfl, rfl⟩
    go_wp2_with fail
    go_quiet (fail)
    go_wp2_with fail
    go_region_held3 (fun W => W.cell? ⟨ga, 2, none⟩ = some (.int .i32 ea) ∧ W.cell? ⟨gb, 2, none⟩ = some (.int .i32 eb)) (first | exact ⟨HS.out.2.1.blk.cell 2, HS.out.2.2.blk.cell 2⟩ | exact ⟨a2, b2⟩ | go_keep)
      ((go_at_call 52; go_loud (refine (Con3.out _ ?_).mono ?_; exact Below.mk HS.out.1.os HS.out.1.tape HS.out.1.output HS.out.1.size HS.out.1.block; rintro e4 w4 ⟨rfl, hb4⟩; have HS := hide (DecHold.next HS.out hb4.os hb4.tape hb4.output hb4.size hb4.block); clear hb4)))
    all_goals clear Con3 a2 b2
    all_goals have ⟨a2, b2⟩ := HS.out.cells
    all_goals go_wp2_with fail
    go_region_held3 (fun W => W.cell? ⟨ga, 2, none⟩ = some (.int .i32 ea) ∧ W.cell? ⟨gb, 2, none⟩ = some (.int .i32 eb)) (first | exact ⟨HS.out.2.1.blk.cell 2, HS.out.2.2.blk.cell 2⟩ | exact ⟨a2, b2⟩ | go_keep)
      ((go_at_call 52; go_loud (refine (Con4.out _ ?_).mono ?_; exact Below.mk HS.out.1.os HS.out.1.tape HS.out.1.output HS.out.1.size HS.out.1.block; rintro e5 w5 ⟨rfl, hb5⟩; have HS := hide (DecHold.next HS.out hb5.os hb5.tape hb5.output hb5.size hb5.block); clear hb5)))
    all_goals clear Con4 a2 b2
    all_goals go_wp2
    all_goals go_ret
    all_goals exact ⟨rfl, HS.out.1⟩
end Go.Proofs.YtfkcobdkgjhfaaaGreatDoor

/- Walks: Int.Mul and BigInt.Mul, the second factor the receiver itself. -/
set_option linter.unusedVariables false
set_option linter.unusedSimpArgs false
namespace Go.Proofs.YtfkcobdkgjhfaaaGreatDoor
open Go.RowKit

theorem eql_Int (w : World) {a b : Addr} {ca cb : Array Value} {ta tb : TypeId} (hne : a ≠ b) (ha : Blk w a.block ta ca) (hb : Blk w b.block tb cb) :
    (binOp .eql 143 (.pointer (some a)) (.pointer (some b))).run Tryz.prog w = .ok (.bool false) w := by
  obtain ⟨j, hj, hs⟩ := Option.map_eq_some_iff.1 infoInt
  exact run_eql_ptr_other w Tryz.underlying143 hj (by rw [hs]; decide) hne ha hb

set_option maxHeartbeats 2000000 in
theorem imul_self (base bx gz oz gx ox : Nat) (tz tx : TypeId) (cz cx : Array Value) (l d : Nat) (B : Option Addr) (ys : List Nat) (A : Option Addr) (n c : Nat) (xs : List Nat) (w : World)
    (hz : Blk w gz tz cz) (hz0 : cz[oz]? = some (.bool false)) (hz1 : cz[oz + 1]? = some (.slice B l d)) (hzr : Own w base (.slice B l d) ys) (htz : tz ≠ 145)
    (hx : Blk w gx tx cx) (hx0 : cx[ox]? = some (.bool false)) (hx1 : cx[ox + 1]? = some (.slice A n c)) (hxr : Own w bx (.slice A n c) xs) (htx : tx ≠ 145)
    (hax : Apart (.slice B l d) (.slice A n c)) (hne : gz ≠ gx) (hb : base ≤ w.heap.size) (hn : n = xs.length) (hl : l = ys.length) (hn39 : n ≤ 39) (hl39 : l ≤ 39)
    (hdx : Dig 18446744073709551616 xs) (hdy : Dig 18446744073709551616 ys) (hcx : Canon xs) (hcy : Canon ys) (hv : Vars w base) :
    Calls Tryz.prog 146 #[.pointer (some ⟨gz, oz, none⟩), .pointer none, .pointer (some ⟨gx, ox, none⟩), .pointer (some ⟨gz, oz, none⟩)] w fun e w' => e = .returned (.tuple #[]) ∧
      IntP w base gz oz tz cz (.slice B l d) false (digs 18446744073709551616 (dval 18446744073709551616 xs * dval 18446744073709551616 ys)) (.returned (.pointer (some ⟨gz, oz, none⟩))) w' := by
  have hcmp := eql_Int w (a := ⟨gx, ox, none⟩) (b := ⟨gz, oz, none⟩) (by intro e; injection e with e1 e2; omega) hx hz
  have c1 : w.cell? ⟨gz, oz + 1, none⟩ = some (.slice B l d) := (hz.cell _).trans hz1
  have c2 : w.cell? ⟨gx, ox + 1, none⟩ = some (.slice A n c) := (hx.cell _).trans hx1
  have hzne : ∀ k, (Value.slice B l d).ownBlock = some k → k ≠ gz := hzr.room.ne_blk hz htz
  have hxne : ∀ k, (Value.slice B l d).ownBlock = some k → k ≠ gx := hzr.room.ne_blk hx htx
  have con := mul_any2 base bx base n l (.slice B l d) (.pointer none) l A B c d xs ys w.drew hzr.room_n hb hxr hzr hn hl hn39 hl39 (.inl hax) (.inr rfl) hdx hdy hcx hcy ⟨hv.c0, hv.c1, hv.c2, hv.l⟩
  have key : ∀ (v : Value) (w1 : World), Fr w w1 (fun k => (Value.slice B l d).ownBlock = some k) → w1.cell? ⟨gz, oz + 1, none⟩ = some (.slice B l d) ∧ w1.frozen? ⟨gz, oz + 1, none⟩ = false ∧ (w1.setCell ⟨gz, oz + 1, none⟩ v).cell? ⟨gz, oz + 1, none⟩ = some v ∧
      (w1.setCell ⟨gz, oz + 1, none⟩ v).cell? ⟨gx, ox, none⟩ = some (.bool false) ∧ (w1.setCell ⟨gz, oz + 1, none⟩ v).cell? ⟨gz, oz, none⟩ = some (.bool false) ∧ (w1.setCell ⟨gz, oz + 1, none⟩ v).frozen? ⟨gz, oz, none⟩ = false ∧
      ((w1.setCell ⟨gz, oz + 1, none⟩ v).setCell ⟨gz, oz, none⟩ (.bool false)).cell? ⟨gz, oz + 1, none⟩ = some v ∧ ((w1.setCell ⟨gz, oz + 1, none⟩ v).setCell ⟨gz, oz, none⟩ (.bool false)).cell? ⟨gx, ox, none⟩ = some (.bool false) ∧ ((w1.setCell ⟨gz, oz + 1, none⟩ v).setCell ⟨gz, oz, none⟩ (.bool false)).cell? ⟨gz, oz, none⟩ = some (.bool false) := by
    intro v w1 hf
    have b1 : Blk w1 gz tz cz := hz.fr hf (fun h => hzne gz h rfl)
    have b2 : Blk w1 gx tx cx := hx.fr hf (fun h => hxne gx h rfl)
    refine ⟨(b1.cell _).trans hz1, b1.frozen _, ?_, ?_, ?_, ?_, ?_, ?_, ?_⟩
    · have hlt : oz + 1 < cz.size := (Array.getElem?_eq_some_iff.1 hz1).1
      rw [(b1.set _ _).cell]; simp [hlt]
    · rw [World.cell?_setCell_other _ _ _ _ (by intro e; injection e with e1 e2; omega)]
      exact (b2.cell _).trans hx0
    · rw [World.cell?_setCell_other _ _ _ _ (by intro e; injection e with e1 e2; omega)]
      exact (b1.cell _).trans hz0
    · rw [World.frozen?_setCell]; exact b1.frozen _
    · have hlt : oz + 1 < cz.size := (Array.getElem?_eq_some_iff.1 hz1).1
      rw [((b1.set _ _).set _ _).cell]; simp [Array.getElem?_setIfInBounds, hlt]
    · rw [World.cell?_setCell_other _ _ _ _ (by intro e; injection e with e1 e2; omega), World.cell?_setCell_other _ _ _ _ (by intro e; injection e with e1 e2; omega)]
      exact (b2.cell _).trans hx0
    · have hlt : oz < cz.size := (Array.getElem?_eq_some_iff.1 hz0).1
      rw [((b1.set _ _).set _ _).cell]; simp [Array.getElem?_setIfInBounds, hlt]
  have fin : ∀ (v : Value) (w1 w2 : World), w2 = w1.setCell ⟨gz, oz + 1, none⟩ v ∨ w2 = (w1.setCell ⟨gz, oz + 1, none⟩ v).drew → Own w1 base v (digs 18446744073709551616 (dval 18446744073709551616 xs * dval 18446744073709551616 ys)) → (v.ownBlock = (Value.slice B l d).ownBlock ∨ ∃ k, v.ownBlock = some k ∧ w.heap.size ≤ k) → Fr w w1 (fun k => (Value.slice B l d).ownBlock = some k) →
      IntP w base gz oz tz cz (.slice B l d) false (digs 18446744073709551616 (dval 18446744073709551616 xs * dval 18446744073709551616 ys)) (.returned (.pointer (some ⟨gz, oz, none⟩))) (w2.setCell ⟨gz, oz, none⟩ (.bool false)) := by
    intro v w1 w2 hw2 hr hrb hf
    have b1 : Blk w1 gz tz cz := hz.fr hf (fun h => hzne gz h rfl)
    have hg : ∀ k, v.ownBlock = some k → k ≠ gz := hr.room.ne_blk b1 htz
    have hF2 : Fr w1 w2 (fun k => k = gz) := by
      rcases hw2 with rfl | rfl
      · exact Fr.setCell (Fr.refl w1 (fun k => k = gz)) (p := ⟨gz, oz + 1, none⟩) (fun _ => rfl) v
      · exact (Fr.setCell (Fr.refl w1 (fun k => k = gz)) (p := ⟨gz, oz + 1, none⟩) (fun _ => rfl) v).drew
    have hB2 : Blk w2 gz tz (cz.setIfInBounds (oz + 1) v) := by
      rcases hw2 with rfl | rfl
      · exact b1.set _ _
      · exact b1.set _ _
    refine ⟨rfl, v, ?_, hrb, hB2.set _ _, ?_⟩
    · exact (hr.fr hF2 hg).fr (Fr.setCell (Fr.refl _ (fun k => k = gz)) (p := ⟨gz, oz, none⟩) (fun _ => rfl) _) hg
    · exact (Fr.step (hf.mono (fun k _ h => .inr h)) hF2 (fun i _ h => .inl h)).setCell (p := ⟨gz, oz, none⟩) (fun _ => .inl rfl) _
  have Con := hide con
  have Key := hide key
  have Fin := hide fin
  clear hz hz0 hz1 hx hx0 hx1 key fin hzne hxne con hzr hxr hax hn hl hdx hdy hcx hcy hv
  go_enter Tryz.func146, Tryz.ntmps146
  go_wp2_with fail
  go_region_with (go_at_call 177; go_loud (refine (Con.out).mono ?_; rintro e w1 ⟨R, cr, rfl, hr, hrb, hf⟩; obtain ⟨k1, k2, k3, k4, k5, k6, k7, k8, k9⟩ := Key.out (.slice R (digs 18446744073709551616 (dval 18446744073709551616 xs * dval 18446744073709551616 ys)).length cr) w1 ⟨hf.os, hf.tape, hf.output, hf.size, hf.block⟩; have HF := hide (fun w2 h => Fin.out (.slice R (digs 18446744073709551616 (dval 18446744073709551616 xs * dval 18446744073709551616 ys)).length cr) w1 w2 h hr hrb ⟨hf.os, hf.tape, hf.output, hf.size, hf.block⟩); clear hr hrb hf))
  all_goals clear Con Key Fin c1 c2
  all_goals generalize (digs 18446744073709551616 (dval 18446744073709551616 xs * dval 18446744073709551616 ys)).length = q at k1 k2 k3 k4 k5 k6 k7 k8 k9 HF ⊢
  all_goals go_wp2_with fail
  all_goals rcases (show (0 < q ∧ decide ((0 : Int) < (q : Int)) = true ∧ decide (0 < q) = true) ∨ (¬ 0 < q ∧ decide ((0 : Int) < (q : Int)) = false ∧ decide (0 < q) = false) from by
    by_cases h : 0 < q
    · exact .inl ⟨h, decide_eq_true (by omega), decide_eq_true h⟩
    · exact .inr ⟨h, decide_eq_false (by omega), decide_eq_false h⟩) with ⟨hq, hq1, hq2⟩ | ⟨hq, hq1, hq2⟩
  all_goals first
    | (have hq3 := hq; have hq4 : 0 < q := hq3; go_region_held3 (fun W => W.cell? ⟨gz, oz + 1, none⟩ = some (.slice R q cr) ∧ W.cell? ⟨gx, ox, none⟩ = some (.bool false) ∧ W.cell? ⟨gz, oz, none⟩ = some (.bool false)) (first | exact ⟨k3, k4, k5⟩ | exact ⟨k7, k8, k9⟩ | go_keep) (fail))
    | go_region
  all_goals go_wp2
  all_goals go_end0
  all_goals exact ⟨rfl, HF.out _ (.inr rfl)⟩

theorem iMul_self (base bx gz oz gx ox : Nat) (tz tx : TypeId) (cz cx : Array Value) (l d : Nat) (B : Option Addr) (ys : List Nat) (A : Option Addr) (n c : Nat) (xs : List Nat) (w : World)
    (hz : Blk w gz tz cz) (hz0 : cz[oz]? = some (.bool false)) (hz1 : cz[oz + 1]? = some (.slice B l d)) (hzr : Own w base (.slice B l d) ys) (htz : tz ≠ 145)
    (hx : Blk w gx tx cx) (hx0 : cx[ox]? = some (.bool false)) (hx1 : cx[ox + 1]? = some (.slice A n c)) (hxr : Own w bx (.slice A n c) xs) (htx : tx ≠ 145)
    (hax : Apart (.slice B l d) (.slice A n c)) (hne : gz ≠ gx) (hb : base ≤ w.heap.size) (hn : n = xs.length) (hl : l = ys.length) (hn39 : n ≤ 39) (hl39 : l ≤ 39)
    (hdx : Dig 18446744073709551616 xs) (hdy : Dig 18446744073709551616 ys) (hcx : Canon xs) (hcy : Canon ys) (hv : Vars w base) :
    Calls Tryz.prog 127 #[.pointer (some ⟨gz, oz, none⟩), .pointer (some ⟨gx, ox, none⟩), .pointer (some ⟨gz, oz, none⟩)] w (IntP w base gz oz tz cz (.slice B l d) false (digs 18446744073709551616 (dval 18446744073709551616 xs * dval 18446744073709551616 ys))) := by
  have Con := hide (imul_self base bx gz oz gx ox tz tx cz cx l d B ys A n c xs w hz hz0 hz1 hzr htz hx hx0 hx1 hxr htx hax hne hb hn hl hn39 hl39 hdx hdy hcx hcy hv)
  clear hz hz0 hz1 hzr hx hx0 hx1 hxr hax hv hn hl hdx hdy hcx hcy
  go_enter Tryz.func127, Tryz.ntmps127
  go_wp2_with fail
  refine (Con.out).mono ?_
  rintro e w1 ⟨rfl, h⟩
  have HI := hide h
  clear h Con
  go_wp2
  go_ret
  exact HI.out

set_option maxHeartbeats 1000000 in
theorem bmul_self (base bx gz oz gx ox : Nat) (tz tx : TypeId) (cz cx : Array Value) (l d : Nat) (B : Option Addr) (ys : List Nat) (A : Option Addr) (n c : Nat) (xs : List Nat) (mi : Bool) (w : World)
    (hz : Blk w gz tz cz) (hz0 : cz[oz]? = some (.bool false)) (hz1 : cz[oz + 1]? = some (.slice B l d)) (hz2 : cz[oz + 2]? = some (.bool mi)) (hzr : Own w base (.slice B l d) ys) (htz : tz ≠ 145)
    (hx : Blk w gx tx cx) (hx0 : cx[ox]? = some (.bool false)) (hx1 : cx[ox + 1]? = some (.slice A n c)) (hxr : Own w bx (.slice A n c) xs) (htx : tx ≠ 145)
    (hax : Apart (.slice B l d) (.slice A n c)) (hne : gz ≠ gx) (hb : base ≤ w.heap.size) (hgz : base ≤ gz) (hn : n = xs.length) (hl : l = ys.length) (hn39 : n ≤ 39) (hl39 : l ≤ 39)
    (hdx : Dig 18446744073709551616 xs) (hdy : Dig 18446744073709551616 ys) (hcx : Canon xs) (hcy : Canon ys) (hv : Vars w base) :
    Calls Tryz.prog 109 #[.pointer (some ⟨gz, oz, none⟩), .pointer (some ⟨gx, ox, none⟩), .pointer (some ⟨gz, oz, none⟩)] w (BigP w base gz oz tz cz (.slice B l d) false false (digs 18446744073709551616 (dval 18446744073709551616 xs * dval 18446744073709551616 ys))) := by
  have c1 : w.cell? ⟨gz, oz + 2, none⟩ = some (.bool mi) := (hz.cell _).trans hz2
  have f1 : w.frozen? ⟨gz, oz + 2, none⟩ = false := hz.frozen _
  have hf0 : Fr w (w.setCell ⟨gz, oz + 2, none⟩ (.bool false)) (fun k => k = gz) := (Fr.refl w (fun k => k = gz)).setCell (p := ⟨gz, oz + 2, none⟩) (fun _ => rfl) _
  have con := iMul_self base bx gz oz gx ox tz tx (cz.setIfInBounds (oz + 2) (.bool false)) cx l d B ys A n c xs (w.setCell ⟨gz, oz + 2, none⟩ (.bool false)).drew
    (hz.set _ _) (by rw [getElem?_set_ne (by omega)]; exact hz0) (by rw [getElem?_set_ne (by omega)]; exact hz1) (hzr.fr hf0.drew (hzr.room.ne_blk hz htz)) htz
    (hx.far (p := ⟨gz, oz + 2, none⟩) (Ne.symm hne) _) hx0 hx1 (hxr.fr hf0.drew (hxr.room.ne_blk hz htz)) htx hax hne (by simpa using hb) hn hl hn39 hl39 hdx hdy hcx hcy (hv.fr hf0.drew (fun k hk => by rw [hk]; exact hgz))
  have fin : ∀ e w', IntP (w.setCell ⟨gz, oz + 2, none⟩ (.bool false)).drew base gz oz tz (cz.setIfInBounds (oz + 2) (.bool false)) (.slice B l d) false (digs 18446744073709551616 (dval 18446744073709551616 xs * dval 18446744073709551616 ys)) e w' → BigP w base gz oz tz cz (.slice B l d) false false (digs 18446744073709551616 (dval 18446744073709551616 xs * dval 18446744073709551616 ys)) e w' := by
    rintro e w' ⟨he, v, hr, hrb, hB, hF⟩
    obtain ⟨B, d, rfl⟩ := hr.room.slice
    refine ⟨he, B, d, hr, ?_, hB, ?_⟩
    · simpa using hrb
    · exact Fr.step ((hf0.mono (fun k _ h => .inl h)).drew) hF (fun i _ h => h)
  have Con := hide con
  have Fin := hide fin
  clear hz hz0 hz1 hz2 hx hx0 hx1 con fin hf0 hxr hzr hax hv hn hl hdx hdy hcx hcy
  go_enter Tryz.func109, Tryz.ntmps109
  go_wp2_with fail
  go_region_with (go_at_call 127; go_loud (refine (Con.out).mono ?_; rintro e w1 HI; have HI2 := hide HI; obtain ⟨rfl, _⟩ := HI))
  all_goals go_wp2
  all_goals go_ret
  all_goals exact Fin.out _ _ HI2.out
end Go.Proofs.YtfkcobdkgjhfaaaGreatDoor
