/- Parts of the proofs: DecCmp4. -/
import Derived.Test.YtfkcobdkgjhfaaaGreatDoorG37
/- Walks: Decimal.Cmp where the figures do not tell. (Printed by gen-dcmp.py.) -/
set_option linter.unusedVariables false
set_option linter.unusedSimpArgs false
namespace Go.Proofs.YtfkcobdkgjhfaaaGreatDoor
open Go.RowKit

theorem DecHold.step {w : World} {ga gb : Nat} {na nb : Bool} {ea eb : Int} {A B : Option Addr} {ca cb a b base : Nat} {W W' : World} (h : DecHold w ga gb na nb ea eb A B ca cb a b W) (ha : DecAt w ga na ea A ca a) (hb : DecAt w gb nb eb B cb b) (hF : Fr W W' (fun k => base ≤ k)) (hB : w.heap.size ≤ base) : DecHold w ga gb na nb ea eb A B ca cb a b W' := by
  have hbel : Below w.heap.size w W' := (Fr.step (Fr.of_below h.1 (fun k => base ≤ k)) hF (fun _ _ h => h)).below (Nat.le_refl _) (fun k hk => Nat.le_trans hB hk)
  exact ⟨hbel, ha.below hbel, hb.below hbel⟩

theorem cmp_scale (w w5 : World) (ga gb gx g1 g2 s x v : Nat) (nx : Bool) (ex : Int) (X : Option Addr) (cx : Nat) (na nb : Bool) (ea eb : Int) (A B : Option Addr) (ca cb a b n : Nat) (hS : DecHold w ga gb na nb ea eb A B ca cb a b w5) (hA : DecAt w ga na ea A ca a ∧ DecAt w gb nb eb B cb b) (hD : DecAt w5 gx nx ex X cx x)
    (hX : ∀ k, (Value.slice X (digs 18446744073709551616 x).length cx).ownBlock = some k → k < w.heap.size) (hg1 : g1 = w5.heap.size) (hg2 : g2 = w5.heap.size + 1) (hN : gx ≠ g1) (hL : s ≤ 100 ∧ (digs 18446744073709551616 x).length ≤ 3) (hV : VarsL w w.heap.size) (hv : v = x * 10 ^ s) :
    Calls Tryz.prog 48 #[.pointer (some ⟨g1, 0, none⟩), .pointer (some ⟨gx, 3, none⟩)] (((w5.drewN n).alloc (.cells #[.bool false, .slice none 0 0, .bool false] 69)).alloc (.cells #[.bool false, .slice none 0 0, .bool false] 69)) (fun e w7 => e = .returned (.pointer (some ⟨g1, 0, none⟩)) ∧ DecHold w ga gb na nb ea eb A B ca cb a b w7 ∧ TabC g1 g1 g2 s v w7) := by
  have hsz := hS.1.size
  obtain ⟨W, hW⟩ : ∃ W, W = (((w5.drewN n).alloc (.cells #[.bool false, .slice none 0 0, .bool false] 69)).alloc (.cells #[.bool false, .slice none 0 0, .bool false] 69)) := ⟨_, rfl⟩
  have hF : Fr w5 W (fun _ => False) := by rw [hW]; exact (((Fr.refl w5 _).drewN n).alloc _).alloc _
  have h1 : Blk W g1 69 #[.bool false, .slice none 0 0, .bool false] := by rw [hW, hg1]; exact (Blk.new (w5.drewN n) _ _).alloc _
  have h2 : Blk W g2 69 #[.bool false, .slice none 0 0, .bool false] := by
    rw [hW, hg2]
    have := Blk.new ((w5.drewN n).alloc (.cells #[.bool false, .slice none 0 0, .bool false] 69)) 69 #[.bool false, .slice none 0 0, .bool false]
    simpa using this
  have hb5 : Below w5.heap.size w5 W := hF.below (Nat.le_refl _) (fun _ h => h.elim)
  have hSW : DecHold w ga gb na nb ea eb A B ca cb a b W := hS.next hb5.os hb5.tape hb5.output hb5.size hb5.block
  rw [← hW, hv]
  refine (scale_set g1 g1 g2 gx s x nx ex X cx W h1 h2 (hD.below hb5) (fun k hk => by have := hX k hk; omega) hN (by omega) (by have := hF.size; omega) (Nat.le_refl _) (by omega) hL.1 hL.2 (((hV.below hSW.1).raise (b := g1) (by omega)).v)).mono ?_
  rintro e w7 ⟨rfl, hF7, hT⟩
  exact ⟨rfl, hSW.step hA.1 hA.2 hF7 (by omega), hT⟩

set_option maxHeartbeats 2000000 in
set_option maxRecDepth 20000 in
theorem dcmp_lt (ga gb s : Nat) (n : Bool) (ea eb : Int) (A B : Option Addr) (ca cb a b : Nat) (w : World) (ha : DecAt w ga n ea A ca a) (hb : DecAt w gb n eb B cb b) (ha0 : 0 < a) (hb0 : 0 < b) (hla : (digs 18446744073709551616 a).length ≤ 3) (hlb : (digs 18446744073709551616 b).length ≤ 3)
    (hxb : ∀ k, (Value.slice B (digs 18446744073709551616 b).length cb).ownBlock = some k → k < w.heap.size)
    (hee : eb = ea + (s : Int)) (hs0 : 0 < s) (hs : s ≤ 100) (he : -1000 ≤ ea ∧ ea ≤ 1000 ∧ -1000 ≤ eb ∧ eb ≤ 1000) (hv : VarsL w w.heap.size)
    (h : (figs a : Int) + ea = (figs b : Int) + eb) :
    Calls Tryz.prog 80 #[.pointer (some ⟨ga, 0, none⟩), .pointer (some ⟨gb, 0, none⟩)] w (DcmpP w (if n then -(cmpI a (b * 10 ^ s)) else cmpI a (b * 10 ^ s))) := by
  have c1 := dsign_any ga n ea A _ ca w ha.blk
  have c2 := dsign_any gb n eb B _ cb w hb.blk
  rw [sgnV_len _ (by omega)] at c1 c2
  have hsa : sgnV n a = if n then -1 else 1 := by unfold sgnV; rw [if_neg (by omega)]
  have hsb : sgnV n b = if n then -1 else 1 := by unfold sgnV; rw [if_neg (by omega)]
  rw [hsa] at c1
  rw [hsb] at c2
  have hba : blen a ≤ 1280 := by have := blen_words_le (k := 3) (lt_of_digs_length (b := 18446744073709551616) (by omega) hla); omega
  have hbb : blen b ≤ 1280 := by have := blen_words_le (k := 3) (lt_of_digs_length (b := 18446744073709551616) (by omega) hlb); omega
  have hfa := figs_small hla
  have hfb := figs_small hlb
  obtain ⟨fa, hfa'⟩ : ∃ fa, fa = figs a := ⟨_, rfl⟩
  obtain ⟨fb, hfb'⟩ : ∃ fb, fb = figs b := ⟨_, rfl⟩
  have Con1 := hide c1
  have Con2 := hide c2
  have Con3 : Hid (∀ W, Below w.heap.size w W → Calls Tryz.prog 52 #[.pointer (some ⟨ga, 0, none⟩)] W fun e w' => e = .returned (.int .i64 (fa : Int)) ∧ Below W.heap.size W w') := fun W hW => by
    rw [hfa']
    exact dnumD_any ga _ _ A ca a W (BigAt.dec (ha.below hW).blk (ha.below hW).rd) hba ((hv.below hW).raise hW.size)
  have Con4 : Hid (∀ W, Below w.heap.size w W → Calls Tryz.prog 52 #[.pointer (some ⟨gb, 0, none⟩)] W fun e w' => e = .returned (.int .i64 (fb : Int)) ∧ Below W.heap.size W w') := fun W hW => by
    rw [hfb']
    exact dnumD_any gb _ _ B cb b W (BigAt.dec (hb.below hW).blk (hb.below hW).rd) hbb ((hv.below hW).raise hW.size)
  have a0 : w.cell? ⟨ga, 0, none⟩ = some (.int .i8 0) := ha.blk.cell 0
  have b0 : w.cell? ⟨gb, 0, none⟩ = some (.int .i8 0) := hb.blk.cell 0
  have a2 : w.cell? ⟨ga, 2, none⟩ = some (.int .i32 ea) := ha.blk.cell 2
  have b2 : w.cell? ⟨gb, 2, none⟩ = some (.int .i32 eb) := hb.blk.cell 2
  have hq : (ea == eb) = false := beq_eq_false_iff_ne.2 (by omega)
  have HS : Hid (DecHold w ga gb n n ea eb A B ca cb a b w) := ⟨Below.refl _ _, ha, hb⟩
  have HA : Hid (DecAt w ga n ea A ca a ∧ DecAt w gb n eb B cb b) := ⟨ha, hb⟩
  have HX := hide hxb
  have HV := hide hv
  obtain ⟨v, hv'⟩ : ∃ v, v = b * 10 ^ s := ⟨_, rfl⟩
  have HV' := hide hv'
  have hvl : (digs 18446744073709551616 v).length ≤ 25 := by
    have h1 := lt_of_digs_length (b := 18446744073709551616) (n := b) (k := 3) (by omega) (by omega)
    have hpl : 10 ^ s < 18446744073709551616 ^ 22 := by rw [show 22 = 11 + 11 from rfl, Nat.pow_add]; exact pow_half_lt (q := 200) (by omega) (by decide)
    refine digs_length_le (by omega) ?_
    rw [hv']
    exact Nat.lt_of_lt_of_eq (Nat.mul_lt_mul'' h1 hpl) (by rw [← Nat.pow_add])
  have HL2 : Hid ((digs 18446744073709551616 a).length ≤ 1099511627776 ∧ (digs 18446744073709551616 v).length ≤ 1099511627776) := ⟨by omega, by omega⟩
  have HL : Hid (s ≤ 100 ∧ (digs 18446744073709551616 b).length ≤ 3) := ⟨hs, by omega⟩
  rw [← hfa', ← hfb'] at h
  rw [← hfa'] at hfa
  rw [← hfb'] at hfb
  have hw1 : IntKind.i64.wrap ea = ea := by rw [IntKind.wrap_i64]; omega
  have hw2 : IntKind.i64.wrap eb = eb := by rw [IntKind.wrap_i64]; omega
  obtain ⟨da, hda⟩ : ∃ d, d = (fa : Int) + ea := ⟨_, rfl⟩
  have hw3 : IntKind.i64.wrap ((fa : Int) + ea) = da := by rw [IntKind.wrap_i64]; omega
  have hw4 : IntKind.i64.wrap ((fb : Int) + eb) = da := by rw [IntKind.wrap_i64]; omega
  have hw5 : IntKind.i64.wrap (eb - ea) = (s : Int) := by rw [IntKind.wrap_i64]; omega
  have hlt : ea < eb := by omega
  obtain ⟨k, hk⟩ : ∃ k, k = cmpI a v := ⟨_, rfl⟩
  have HK := hide hk
  obtain ⟨kn, hkn⟩ : ∃ kn, kn = -k := ⟨_, rfl⟩
  have hw : IntKind.i64.wrap (-k) = kn := by
    rw [hkn, hk]; unfold cmpI; split <;> (try split) <;> rfl
  rw [← hv', ← hk, ← hkn]
  clear c1 c2 ha hb hsa hsb ha0 hb0 hla hlb hba hbb hfa hfb hfa' hfb' hda hee he hv h hs hs0 hv' hvl hk hkn hxb
  cases n
  · go_enter Tryz.func80, Tryz.ntmps80
    go_wp2_with fail
    refine (Con1.out).mono ?_
    rintro e w1 ⟨rfl, rfl⟩
    go_wp2_with fail
    refine (Con2.out).mono ?_
    rintro e w1 ⟨rfl, rfl⟩
    go_wp2_with fail
    go_quiet (fail)
    go_wp2_with fail
    go_region_held3 (fun W => W.cell? ⟨ga, 2, none⟩ = some (.int .i32 ea) ∧ W.cell? ⟨gb, 2, none⟩ = some (.int .i32 eb)) (first | exact ⟨HS.out.2.1.blk.cell 2, HS.out.2.2.blk.cell 2⟩ | exact ⟨a2, b2⟩ | go_keep)
      ((go_at_call 52; go_loud (refine (Con3.out _ ?_).mono ?_; exact Below.mk HS.out.1.os HS.out.1.tape HS.out.1.output HS.out.1.size HS.out.1.block; rintro e4 w4 ⟨rfl, hb4⟩; have HS := hide (DecHold.next HS.out hb4.os hb4.tape hb4.output hb4.size hb4.block); clear hb4)))
    all_goals clear Con3 a2 b2
    all_goals have ⟨a2, b2⟩ := HS.out.cells
    all_goals go_wp2_with fail
    go_region_held3 (fun W => W.cell? ⟨ga, 2, none⟩ = some (.int .i32 ea) ∧ W.cell? ⟨gb, 2, none⟩ = some (.int .i32 eb)) (first | exact ⟨HS.out.2.1.blk.cell 2, HS.out.2.2.blk.cell 2⟩ | exact ⟨a2, b2⟩ | go_keep)
      ((go_at_call 52; go_loud (refine (Con4.out _ ?_).mono ?_; exact Below.mk HS.out.1.os HS.out.1.tape HS.out.1.output HS.out.1.size HS.out.1.block; rintro e5 w5 ⟨rfl, hb5⟩; have HS := hide (DecHold.next HS.out hb5.os hb5.tape hb5.output hb5.size hb5.block); clear hb5)))
    all_goals clear Con4 a2 b2
    all_goals have ⟨a2, b2⟩ := HS.out.cells
    all_goals go_wp2_with fail
    go_quiet (fail)
    obtain ⟨g1, hg1⟩ : ∃ g, g = w5.heap.size := ⟨_, rfl⟩
    obtain ⟨g2, hg2⟩ : ∃ g, g = w5.heap.size + 1 := ⟨_, rfl⟩
    have HG : Hid (w.heap.size ≤ g1) := by rw [hg1]; exact HS.out.1.size
    have HN : Hid (ga ≠ g1 ∧ gb ≠ g1) := ⟨by have := HA.out.1.blk.lt; have := HG.out; omega, by have := HA.out.2.blk.lt; have := HG.out; omega⟩
    have ConS : Hid (∀ n, Calls Tryz.prog 48 #[.pointer (some ⟨g1, 0, none⟩), .pointer (some ⟨gb, 3, none⟩)] (((w5.drewN n).alloc (.cells #[.bool false, .slice none 0 0, .bool false] 69)).alloc (.cells #[.bool false, .slice none 0 0, .bool false] 69)) (fun e w7 => e = .returned (.pointer (some ⟨g1, 0, none⟩)) ∧ DecHold w ga gb false false ea eb A B ca cb a b w7 ∧ TabC g1 g1 g2 s v w7)) := fun n => cmp_scale w w5 ga gb gb g1 g2 s b v false eb B cb _ _ ea eb A B ca cb a b n HS.out HA.out HS.out.2.2 HX.out hg1 hg2 HN.out.2 HL.out HV.out HV'.out
    go_wp2_with fail
    rw [← hg2, ← hg1]
    refine (ConS.out _).mono ?_
    rintro e7 w7 ⟨rfl, hs7, CT⟩
    have HS := hide hs7
    have CT := hide CT
    clear hs7 ConS hg1 hg2 a2 b2
    have ⟨a2, b2⟩ := HS.out.cells
    go_wp2_with fail
    go_region_held3 (fun W => W.cell? ⟨ga, 2, none⟩ = some (.int .i32 ea) ∧ W.cell? ⟨gb, 2, none⟩ = some (.int .i32 eb)) (first | exact ⟨HS.out.2.1.blk.cell 2, HS.out.2.2.blk.cell 2⟩ | exact ⟨a2, b2⟩ | go_keep)
      (first
        | (go_at_call 53; go_loud (refine (CT.out _ ?_).mono ?_; exact Fr.mk rfl rfl rfl (Nat.le_refl _) (fun _ _ _ => rfl); rintro e8 w8 ⟨rfl, hF8, CM⟩; have HS := hide (DecHold.step HS.out HA.out.1 HA.out.2 (Fr.mk hF8.os hF8.tape hF8.output hF8.size hF8.block) HG.out); have CM := hide CM; clear hF8))
        | (go_at_call 109; go_loud (refine (CM.out _ ?_).mono ?_; exact Fr.mk rfl rfl rfl (Nat.le_refl _) (fun _ _ _ => rfl); rintro e9 w9 ⟨rfl, hF9, cs9, A9, c9, hB9⟩; have HS := hide (DecHold.step HS.out HA.out.1 HA.out.2 (Fr.mk hF9.os hF9.tape hF9.output hF9.size hF9.block) HG.out); have H9 := hide hB9; clear hF9 hB9)))
    all_goals go_wp2_with fail
    refine (bigcmp_any ga 3 g1 0 _ _ _ cs9 A A9 ca c9 a v w9 (BigAt.dec HS.out.2.1.blk HS.out.2.1.rd) H9.out (by intro e; injection e with e1 e2; exact HN.out.1 e1) HL2.out.1 HL2.out.2).mono ?_
    rintro e10 w10 ⟨rfl, hb10⟩
    have HF := hide (below_next HS.out.1 hb10)
    rw [← HK.out]
    clear hb10
    go_wp2
    go_ret
    exact ⟨rfl, HF.out⟩
  · go_enter Tryz.func80, Tryz.ntmps80
    go_wp2_with fail
    refine (Con1.out).mono ?_
    rintro e w1 ⟨rfl, rfl⟩
    go_wp2_with fail
    refine (Con2.out).mono ?_
    rintro e w1 ⟨rfl, rfl⟩
    go_wp2_with fail
    go_quiet (fail)
    go_wp2_with fail
    go_region_held3 (fun W => W.cell? ⟨ga, 2, none⟩ = some (.int .i32 ea) ∧ W.cell? ⟨gb, 2, none⟩ = some (.int .i32 eb)) (first | exact ⟨HS.out.2.1.blk.cell 2, HS.out.2.2.blk.cell 2⟩ | exact ⟨a2, b2⟩ | go_keep)
      ((go_at_call 52; go_loud (refine (Con3.out _ ?_).mono ?_; exact Below.mk HS.out.1.os HS.out.1.tape HS.out.1.output HS.out.1.size HS.out.1.block; rintro e4 w4 ⟨rfl, hb4⟩; have HS := hide (DecHold.next HS.out hb4.os hb4.tape hb4.output hb4.size hb4.block); clear hb4)))
    all_goals clear Con3 a2 b2
    all_goals have ⟨a2, b2⟩ := HS.out.cells
    all_goals go_wp2_with fail
    go_region_held3 (fun W => W.cell? ⟨ga, 2, none⟩ = some (.int .i32 ea) ∧ W.cell? ⟨gb, 2, none⟩ = some (.int .i32 eb)) (first | exact ⟨HS.out.2.1.blk.cell 2, HS.out.2.2.blk.cell 2⟩ | exact ⟨a2, b2⟩ | go_keep)
      ((go_at_call 52; go_loud (refine (Con4.out _ ?_).mono ?_; exact Below.mk HS.out.1.os HS.out.1.tape HS.out.1.output HS.out.1.size HS.out.1.block; rintro e5 w5 ⟨rfl, hb5⟩; have HS := hide (DecHold.next HS.out hb5.os hb5.tape hb5.output hb5.size hb5.block); clear hb5)))
    all_goals clear Con4 a2 b2
    all_goals have ⟨a2, b2⟩ := HS.out.cells
    all_goals go_wp2_with fail
    go_quiet (fail)
    obtain ⟨g1, hg1⟩ : ∃ g, g = w5.heap.size := ⟨_, rfl⟩
    obtain ⟨g2, hg2⟩ : ∃ g, g = w5.heap.size + 1 := ⟨_, rfl⟩
    have HG : Hid (w.heap.size ≤ g1) := by rw [hg1]; exact HS.out.1.size
    have HN : Hid (ga ≠ g1 ∧ gb ≠ g1) := ⟨by have := HA.out.1.blk.lt; have := HG.out; omega, by have := HA.out.2.blk.lt; have := HG.out; omega⟩
    have ConS : Hid (∀ n, Calls Tryz.prog 48 #[.pointer (some ⟨g1, 0, none⟩), .pointer (some ⟨gb, 3, none⟩)] (((w5.drewN n).alloc (.cells #[.bool false, .slice none 0 0, .bool false] 69)).alloc (.cells #[.bool false, .slice none 0 0, .bool false] 69)) (fun e w7 => e = .returned (.pointer (some ⟨g1, 0, none⟩)) ∧ DecHold w ga gb true true ea eb A B ca cb a b w7 ∧ TabC g1 g1 g2 s v w7)) := fun n => cmp_scale w w5 ga gb gb g1 g2 s b v true eb B cb _ _ ea eb A B ca cb a b n HS.out HA.out HS.out.2.2 HX.out hg1 hg2 HN.out.2 HL.out HV.out HV'.out
    go_wp2_with fail
    rw [← hg2, ← hg1]
    refine (ConS.out _).mono ?_
    rintro e7 w7 ⟨rfl, hs7, CT⟩
    have HS := hide hs7
    have CT := hide CT
    clear hs7 ConS hg1 hg2 a2 b2
    have ⟨a2, b2⟩ := HS.out.cells
    go_wp2_with fail
    go_region_held3 (fun W => W.cell? ⟨ga, 2, none⟩ = some (.int .i32 ea) ∧ W.cell? ⟨gb, 2, none⟩ = some (.int .i32 eb)) (first | exact ⟨HS.out.2.1.blk.cell 2, HS.out.2.2.blk.cell 2⟩ | exact ⟨a2, b2⟩ | go_keep)
      (first
        | (go_at_call 53; go_loud (refine (CT.out _ ?_).mono ?_; exact Fr.mk rfl rfl rfl (Nat.le_refl _) (fun _ _ _ => rfl); rintro e8 w8 ⟨rfl, hF8, CM⟩; have HS := hide (DecHold.step HS.out HA.out.1 HA.out.2 (Fr.mk hF8.os hF8.tape hF8.output hF8.size hF8.block) HG.out); have CM := hide CM; clear hF8))
        | (go_at_call 109; go_loud (refine (CM.out _ ?_).mono ?_; exact Fr.mk rfl rfl rfl (Nat.le_refl _) (fun _ _ _ => rfl); rintro e9 w9 ⟨rfl, hF9, cs9, A9, c9, hB9⟩; have HS := hide (DecHold.step HS.out HA.out.1 HA.out.2 (Fr.mk hF9.os hF9.tape hF9.output hF9.size hF9.block) HG.out); have H9 := hide hB9; clear hF9 hB9)))
    all_goals go_wp2_with fail
    refine (bigcmp_any ga 3 g1 0 _ _ _ cs9 A A9 ca c9 a v w9 (BigAt.dec HS.out.2.1.blk HS.out.2.1.rd) H9.out (by intro e; injection e with e1 e2; exact HN.out.1 e1) HL2.out.1 HL2.out.2).mono ?_
    rintro e10 w10 ⟨rfl, hb10⟩
    have HF := hide (below_next HS.out.1 hb10)
    rw [← HK.out]
    clear hb10
    go_wp2
    go_ret
    exact ⟨rfl, HF.out⟩

set_option maxHeartbeats 2000000 in
set_option maxRecDepth 20000 in
theorem dcmp_gt (ga gb s : Nat) (n : Bool) (ea eb : Int) (A B : Option Addr) (ca cb a b : Nat) (w : World) (ha : DecAt w ga n ea A ca a) (hb : DecAt w gb n eb B cb b) (ha0 : 0 < a) (hb0 : 0 < b) (hla : (digs 18446744073709551616 a).length ≤ 3) (hlb : (digs 18446744073709551616 b).length ≤ 3)
    (hxb : ∀ k, (Value.slice A (digs 18446744073709551616 a).length ca).ownBlock = some k → k < w.heap.size)
    (hee : ea = eb + (s : Int)) (hs0 : 0 < s) (hs : s ≤ 100) (he : -1000 ≤ ea ∧ ea ≤ 1000 ∧ -1000 ≤ eb ∧ eb ≤ 1000) (hv : VarsL w w.heap.size)
    (h : (figs a : Int) + ea = (figs b : Int) + eb) :
    Calls Tryz.prog 80 #[.pointer (some ⟨ga, 0, none⟩), .pointer (some ⟨gb, 0, none⟩)] w (DcmpP w (if n then -(cmpI (a * 10 ^ s) b) else cmpI (a * 10 ^ s) b)) := by
  have c1 := dsign_any ga n ea A _ ca w ha.blk
  have c2 := dsign_any gb n eb B _ cb w hb.blk
  rw [sgnV_len _ (by omega)] at c1 c2
  have hsa : sgnV n a = if n then -1 else 1 := by unfold sgnV; rw [if_neg (by omega)]
  have hsb : sgnV n b = if n then -1 else 1 := by unfold sgnV; rw [if_neg (by omega)]
  rw [hsa] at c1
  rw [hsb] at c2
  have hba : blen a ≤ 1280 := by have := blen_words_le (k := 3) (lt_of_digs_length (b := 18446744073709551616) (by omega) hla); omega
  have hbb : blen b ≤ 1280 := by have := blen_words_le (k := 3) (lt_of_digs_length (b := 18446744073709551616) (by omega) hlb); omega
  have hfa := figs_small hla
  have hfb := figs_small hlb
  obtain ⟨fa, hfa'⟩ : ∃ fa, fa = figs a := ⟨_, rfl⟩
  obtain ⟨fb, hfb'⟩ : ∃ fb, fb = figs b := ⟨_, rfl⟩
  have Con1 := hide c1
  have Con2 := hide c2
  have Con3 : Hid (∀ W, Below w.heap.size w W → Calls Tryz.prog 52 #[.pointer (some ⟨ga, 0, none⟩)] W fun e w' => e = .returned (.int .i64 (fa : Int)) ∧ Below W.heap.size W w') := fun W hW => by
    rw [hfa']
    exact dnumD_any ga _ _ A ca a W (BigAt.dec (ha.below hW).blk (ha.below hW).rd) hba ((hv.below hW).raise hW.size)
  have Con4 : Hid (∀ W, Below w.heap.size w W → Calls Tryz.prog 52 #[.pointer (some ⟨gb, 0, none⟩)] W fun e w' => e = .returned (.int .i64 (fb : Int)) ∧ Below W.heap.size W w') := fun W hW => by
    rw [hfb']
    exact dnumD_any gb _ _ B cb b W (BigAt.dec (hb.below hW).blk (hb.below hW).rd) hbb ((hv.below hW).raise hW.size)
  have a0 : w.cell? ⟨ga, 0, none⟩ = some (.int .i8 0) := ha.blk.cell 0
  have b0 : w.cell? ⟨gb, 0, none⟩ = some (.int .i8 0) := hb.blk.cell 0
  have a2 : w.cell? ⟨ga, 2, none⟩ = some (.int .i32 ea) := ha.blk.cell 2
  have b2 : w.cell? ⟨gb, 2, none⟩ = some (.int .i32 eb) := hb.blk.cell 2
  have hq : (ea == eb) = false := beq_eq_false_iff_ne.2 (by omega)
  have HS : Hid (DecHold w ga gb n n ea eb A B ca cb a b w) := ⟨Below.refl _ _, ha, hb⟩
  have HA : Hid (DecAt w ga n ea A ca a ∧ DecAt w gb n eb B cb b) := ⟨ha, hb⟩
  have HX := hide hxb
  have HV := hide hv
  obtain ⟨v, hv'⟩ : ∃ v, v = a * 10 ^ s := ⟨_, rfl⟩
  have HV' := hide hv'
  have hvl : (digs 18446744073709551616 v).length ≤ 25 := by
    have h1 := lt_of_digs_length (b := 18446744073709551616) (n := a) (k := 3) (by omega) (by omega)
    have hpl : 10 ^ s < 18446744073709551616 ^ 22 := by rw [show 22 = 11 + 11 from rfl, Nat.pow_add]; exact pow_half_lt (q := 200) (by omega) (by decide)
    refine digs_length_le (by omega) ?_
    rw [hv']
    exact Nat.lt_of_lt_of_eq (Nat.mul_lt_mul'' h1 hpl) (by rw [← Nat.pow_add])
  have HL2 : Hid ((digs 18446744073709551616 b).length ≤ 1099511627776 ∧ (digs 18446744073709551616 v).length ≤ 1099511627776) := ⟨by omega, by omega⟩
  have HL : Hid (s ≤ 100 ∧ (digs 18446744073709551616 a).length ≤ 3) := ⟨hs, by omega⟩
  rw [← hfa', ← hfb'] at h
  rw [← hfa'] at hfa
  rw [← hfb'] at hfb
  have hw1 : IntKind.i64.wrap ea = ea := by rw [IntKind.wrap_i64]; omega
  have hw2 : IntKind.i64.wrap eb = eb := by rw [IntKind.wrap_i64]; omega
  obtain ⟨da, hda⟩ : ∃ d, d = (fa : Int) + ea := ⟨_, rfl⟩
  have hw3 : IntKind.i64.wrap ((fa : Int) + ea) = da := by rw [IntKind.wrap_i64]; omega
  have hw4 : IntKind.i64.wrap ((fb : Int) + eb) = da := by rw [IntKind.wrap_i64]; omega
  have hw5 : IntKind.i64.wrap (ea - eb) = (s : Int) := by rw [IntKind.wrap_i64]; omega
  have hlt : ¬ ea < eb := by omega
  obtain ⟨k, hk⟩ : ∃ k, k = cmpI v b := ⟨_, rfl⟩
  have HK := hide hk
  obtain ⟨kn, hkn⟩ : ∃ kn, kn = -k := ⟨_, rfl⟩
  have hw : IntKind.i64.wrap (-k) = kn := by
    rw [hkn, hk]; unfold cmpI; split <;> (try split) <;> rfl
  rw [← hv', ← hk, ← hkn]
  clear c1 c2 ha hb hsa hsb ha0 hb0 hla hlb hba hbb hfa hfb hfa' hfb' hda hee he hv h hs hs0 hv' hvl hk hkn hxb
  cases n
  · go_enter Tryz.func80, Tryz.ntmps80
    go_wp2_with fail
    refine (Con1.out).mono ?_
    rintro e w1 ⟨rfl, rfl⟩
    go_wp2_with fail
    refine (Con2.out).mono ?_
    rintro e w1 ⟨rfl, rfl⟩
    go_wp2_with fail
    go_quiet (fail)
    go_wp2_with fail
    go_region_held3 (fun W => W.cell? ⟨ga, 2, none⟩ = some (.int .i32 ea) ∧ W.cell? ⟨gb, 2, none⟩ = some (.int .i32 eb)) (first | exact ⟨HS.out.2.1.blk.cell 2, HS.out.2.2.blk.cell 2⟩ | exact ⟨a2, b2⟩ | go_keep)
      ((go_at_call 52; go_loud (refine (Con3.out _ ?_).mono ?_; exact Below.mk HS.out.1.os HS.out.1.tape HS.out.1.output HS.out.1.size HS.out.1.block; rintro e4 w4 ⟨rfl, hb4⟩; have HS := hide (DecHold.next HS.out hb4.os hb4.tape hb4.output hb4.size hb4.block); clear hb4)))
    all_goals clear Con3 a2 b2
    all_goals have ⟨a2, b2⟩ := HS.out.cells
    all_goals go_wp2_with fail
    go_region_held3 (fun W => W.cell? ⟨ga, 2, none⟩ = some (.int .i32 ea) ∧ W.cell? ⟨gb, 2, none⟩ = some (.int .i32 eb)) (first | exact ⟨HS.out.2.1.blk.cell 2, HS.out.2.2.blk.cell 2⟩ | exact ⟨a2, b2⟩ | go_keep)
      ((go_at_call 52; go_loud (refine (Con4.out _ ?_).mono ?_; exact Below.mk HS.out.1.os HS.out.1.tape HS.out.1.output HS.out.1.size HS.out.1.block; rintro e5 w5 ⟨rfl, hb5⟩; have HS := hide (DecHold.next HS.out hb5.os hb5.tape hb5.output hb5.size hb5.block); clear hb5)))
    all_goals clear Con4 a2 b2
    all_goals have ⟨a2, b2⟩ := HS.out.cells
    all_goals go_wp2_with fail
    go_quiet (fail)
    obtain ⟨g1, hg1⟩ : ∃ g, g = w5.heap.size := ⟨_, rfl⟩
    obtain ⟨g2, hg2⟩ : ∃ g, g = w5.heap.size + 1 := ⟨_, rfl⟩
    have HG : Hid (w.heap.size ≤ g1) := by rw [hg1]; exact HS.out.1.size
    have HN : Hid (ga ≠ g1 ∧ gb ≠ g1) := ⟨by have := HA.out.1.blk.lt; have := HG.out; omega, by have := HA.out.2.blk.lt; have := HG.out; omega⟩
    have ConS : Hid (∀ n, Calls Tryz.prog 48 #[.pointer (some ⟨g1, 0, none⟩), .pointer (some ⟨ga, 3, none⟩)] (((w5.drewN n).alloc (.cells #[.bool false, .slice none 0 0, .bool false] 69)).alloc (.cells #[.bool false, .slice none 0 0, .bool false] 69)) (fun e w7 => e = .returned (.pointer (some ⟨g1, 0, none⟩)) ∧ DecHold w ga gb false false ea eb A B ca cb a b w7 ∧ TabC g1 g1 g2 s v w7)) := fun n => cmp_scale w w5 ga gb ga g1 g2 s a v false ea A ca _ _ ea eb A B ca cb a b n HS.out HA.out HS.out.2.1 HX.out hg1 hg2 HN.out.1 HL.out HV.out HV'.out
    go_wp2_with fail
    rw [← hg2, ← hg1]
    refine (ConS.out _).mono ?_
    rintro e7 w7 ⟨rfl, hs7, CT⟩
    have HS := hide hs7
    have CT := hide CT
    clear hs7 ConS hg1 hg2 a2 b2
    have ⟨a2, b2⟩ := HS.out.cells
    go_wp2_with fail
    go_region_held3 (fun W => W.cell? ⟨ga, 2, none⟩ = some (.int .i32 ea) ∧ W.cell? ⟨gb, 2, none⟩ = some (.int .i32 eb)) (first | exact ⟨HS.out.2.1.blk.cell 2, HS.out.2.2.blk.cell 2⟩ | exact ⟨a2, b2⟩ | go_keep)
      (first
        | (go_at_call 53; go_loud (refine (CT.out _ ?_).mono ?_; exact Fr.mk rfl rfl rfl (Nat.le_refl _) (fun _ _ _ => rfl); rintro e8 w8 ⟨rfl, hF8, CM⟩; have HS := hide (DecHold.step HS.out HA.out.1 HA.out.2 (Fr.mk hF8.os hF8.tape hF8.output hF8.size hF8.block) HG.out); have CM := hide CM; clear hF8))
        | (go_at_call 109; go_loud (refine (CM.out _ ?_).mono ?_; exact Fr.mk rfl rfl rfl (Nat.le_refl _) (fun _ _ _ => rfl); rintro e9 w9 ⟨rfl, hF9, cs9, A9, c9, hB9⟩; have HS := hide (DecHold.step HS.out HA.out.1 HA.out.2 (Fr.mk hF9.os hF9.tape hF9.output hF9.size hF9.block) HG.out); have H9 := hide hB9; clear hF9 hB9)))
    all_goals go_wp2_with fail
    refine (bigcmp_any g1 0 gb 3 _ _ cs9 _ A9 B c9 cb v b w9 H9.out (BigAt.dec HS.out.2.2.blk HS.out.2.2.rd) (by intro e; injection e with e1 e2; exact HN.out.2 e1.symm) HL2.out.2 HL2.out.1).mono ?_
    rintro e10 w10 ⟨rfl, hb10⟩
    have HF := hide (below_next HS.out.1 hb10)
    rw [← HK.out]
    clear hb10
    go_wp2
    go_ret
    exact ⟨rfl, HF.out⟩
  · go_enter Tryz.func80, Tryz.ntmps80
    go_wp2_with fail
    refine (Con1.out).mono ?_
    rintro e w1 ⟨rfl, rfl⟩
    go_wp2_with fail
    refine (Con2.out).mono ?_
    rintro e w1 ⟨rfl, rfl⟩
    go_wp2_with fail
    go_quiet (fail)
    go_wp2_with fail
    go_region_held3 (fun W => W.cell? ⟨ga, 2, none⟩ = some (.int .i32 ea) ∧ W.cell? ⟨gb, 2, none⟩ = some (.int .i32 eb)) (first | exact ⟨HS.out.2.1.blk.cell 2, HS.out.2.2.blk.cell 2⟩ | exact ⟨a2, b2⟩ | go_keep)
      ((go_at_call 52; go_loud (refine (Con3.out _ ?_).mono ?_; exact Below.mk HS.out.1.os HS.out.1.tape HS.out.1.output HS.out.1.size HS.out.1.block; rintro e4 w4 ⟨rfl, hb4⟩; have HS := hide (DecHold.next HS.out hb4.os hb4.tape hb4.output hb4.size hb4.block); clear hb4)))
    all_goals clear Con3 a2 b2
    all_goals have ⟨a2, b2⟩ := HS.out.cells
    all_goals go_wp2_with fail
    go_region_held3 (fun W => W.cell? ⟨ga, 2, none⟩ = some (.int .i32 ea) ∧ W.cell? ⟨gb, 2, none⟩ = some (.int .i32 eb)) (first | exact ⟨HS.out.2.1.blk.cell 2, HS.out.2.2.blk.cell 2⟩ | exact ⟨a2, b2⟩ | go_keep)
      ((go_at_call 52; go_loud (refine (Con4.out _ ?_).mono ?_; exact Below.mk HS.out.1.os HS.out.1.tape HS.out.1.output HS.out.1.size HS.out.1.block; rintro e5 w5 ⟨rfl, hb5⟩; have HS := hide (DecHold.next HS.out hb5.os hb5.tape hb5.output hb5.size hb5.block); clear hb5)))
    all_goals clear Con4 a2 b2
    all_goals have ⟨a2, b2⟩ := HS.out.cells
    all_goals go_wp2_with fail
    go_quiet (fail)
    obtain ⟨g1, hg1⟩ : ∃ g, g = w5.heap.size := ⟨_, rfl⟩
    obtain ⟨g2, hg2⟩ : ∃ g, g = w5.heap.size + 1 := ⟨_, rfl⟩
    have HG : Hid (w.heap.size ≤ g1) := by rw [hg1]; exact HS.out.1.size
    have HN : Hid (ga ≠ g1 ∧ gb ≠ g1) := ⟨by have := HA.out.1.blk.lt; have := HG.out; omega, by have := HA.out.2.blk.lt; have := HG.out; omega⟩
    have ConS : Hid (∀ n, Calls Tryz.prog 48 #[.pointer (some ⟨g1, 0, none⟩), .pointer (some ⟨ga, 3, none⟩)] (((w5.drewN n).alloc (.cells #[.bool false, .slice none 0 0, .bool false] 69)).alloc (.cells #[.bool false, .slice none 0 0, .bool false] 69)) (fun e w7 => e = .returned (.pointer (some ⟨g1, 0, none⟩)) ∧ DecHold w ga gb true true ea eb A B ca cb a b w7 ∧ TabC g1 g1 g2 s v w7)) := fun n => cmp_scale w w5 ga gb ga g1 g2 s a v true ea A ca _ _ ea eb A B ca cb a b n HS.out HA.out HS.out.2.1 HX.out hg1 hg2 HN.out.1 HL.out HV.out HV'.out
    go_wp2_with fail
    rw [← hg2, ← hg1]
    refine (ConS.out _).mono ?_
    rintro e7 w7 ⟨rfl, hs7, CT⟩
    have HS := hide hs7
    have CT := hide CT
    clear hs7 ConS hg1 hg2 a2 b2
    have ⟨a2, b2⟩ := HS.out.cells
    go_wp2_with fail
    go_region_held3 (fun W => W.cell? ⟨ga, 2, none⟩ = some (.int .i32 ea) ∧ W.cell? ⟨gb, 2, none⟩ = some (.int .i32 eb)) (first | exact ⟨HS.out.2.1.blk.cell 2, HS.out.2.2.blk.cell 2⟩ | exact ⟨a2, b2⟩ | go_keep)
      (first
        | (go_at_call 53; go_loud (refine (CT.out _ ?_).mono ?_; exact Fr.mk rfl rfl rfl (Nat.le_refl _) (fun _ _ _ => rfl); rintro e8 w8 ⟨rfl, hF8, CM⟩; have HS := hide (DecHold.step HS.out HA.out.1 HA.out.2 (Fr.mk hF8.os hF8.tape hF8.output hF8.size hF8.block) HG.out); have CM := hide CM; clear hF8))
        | (go_at_call 109; go_loud (refine (CM.out _ ?_).mono ?_; exact Fr.mk rfl rfl rfl (Nat.le_refl _) (fun _ _ _ => rfl); rintro e9 w9 ⟨rfl, hF9, cs9, A9, c9, hB9⟩; have HS := hide (DecHold.step HS.out HA.out.1 HA.out.2 (Fr.mk hF9.os hF9.tape hF9.output hF9.size hF9.block) HG.out); have H9 := hide hB9; clear hF9 hB9)))
    all_goals go_wp2_with fail
    refine (bigcmp_any g1 0 gb 3 _ _ cs9 _ A9 B c9 cb v b w9 H9.out (BigAt.dec HS.out.2.2.blk HS.out.2.2.rd) (by intro e; injection e with e1 e2; exact HN.out.2 e1.symm) HL2.out.2 HL2.out.1).mono ?_
    rintro e10 w10 ⟨rfl, hb10⟩
    have HF := hide (below_next HS.out.1 hb10)
    rw [← HK.out]
    clear hb10
    go_wp2
    go_ret
    exact ⟨rfl, HF.out⟩
end Go.Proofs.YtfkcobdkgjhfaaaGreatDoor
