/- Walks: upscale at unlike exponents. (Printed by gen-up.py.) -/
import Derived.Test.YtamjfjomehcikaaGreatDoorUp1
import Derived.Test.YtamjfjomehcikaaGreatDoorMulI
set_option linter.unusedVariables false
set_option linter.unusedSimpArgs false
namespace Go.Proofs.YtamjfjomehcikaaGreatDoor
open Go.RowKit


set_option maxHeartbeats 1000000 in
set_option maxRecDepth 20000 in
theorem up_gt (ga gb gz bh s : Nat) (na nb : Bool) (ea eb : Int) (A B : Option Addr) (ca cb a b : Nat) (w : World)
    (ha : Blk w ga 81 (decC 0 na ea false (.slice A (digs 18446744073709551616 a).length ca) false)) (hb : Blk w gb 81 (decC 0 nb eb false (.slice B (digs 18446744073709551616 b).length cb) false))
    (hhr : Own w bh (.slice A (digs 18446744073709551616 a).length ca) (digs 18446744073709551616 a)) (hlr : RdW w (.slice B (digs 18446744073709551616 b).length cb) (digs 18446744073709551616 b)) (hlz : ∀ k, (Value.slice B (digs 18446744073709551616 b).length cb).ownBlock = some k → k ≠ gz)
    (hz : Blk w gz 76 #[.bool false, .slice none 0 0, .bool false]) (hga : ga ≠ gz) (hgb : gb ≠ gz) (hv : Vars w gz) (hs : ea - eb = (s : Int)) (hs1 : 1 ≤ s) (hs2 : s ≤ 400) (h3 : (digs 18446744073709551616 a).length ≤ 3) (he : -1000000 ≤ ea ∧ ea ≤ 1000000 ∧ -1000000 ≤ eb ∧ eb ≤ 1000000) :
    Calls Tryz.prog 35 #[.pointer (some ⟨ga, 0, none⟩), .pointer (some ⟨gb, 0, none⟩), .pointer (some ⟨gz, 0, none⟩)] w (UpP w eb (a * 10 ^ s) (b) (fun k => k = gz)) := by
  have a2 : w.cell? ⟨ga, 2, none⟩ = some (.int .i32 ea) := ha.cell 2
  have b2 : w.cell? ⟨gb, 2, none⟩ = some (.int .i32 eb) := hb.cell 2
  have ne : (ea == eb) = false := beq_eq_false_iff_ne.2 (by omega)
  obtain ⟨q1, q2, q3, q4⟩ := he
  have hh := ha
  have hl := hb
  have hgl := hgb
  have hpl : (digs 18446744073709551616 (10 ^ s)).length ≤ 22 := digs_length_le (by omega) (by rw [show 22 = 11 + 11 from rfl, Nat.pow_add]; exact pow_half_lt (q := 200) (by omega) (by decide))
  have con := fun n : Nat => tabExp_any gz gz false false (.slice none 0 0) 0 s (w.drewN n) hz (Own.nil _ _).room (Nat.le_of_lt hz.lt) (Nat.le_refl _) (by omega) (pow10_lt (n := 200) (by omega) (by decide)) ⟨hv.c0, hv.c1, hv.c2, hv.l⟩
  have Con := hide con
  have HX := hide (And.intro hh (And.intro hhr (And.intro hv (And.intro hz (And.intro hpl h3)))))
  have HL := hide (And.intro hl (And.intro hlr (And.intro hlz hgl)))
  have hzl := hz.lt
  have HZ := hide hzl
  have HG := hide hga
  clear ha hb hh hl hhr hlr hlz hz hga hgb hgl hv con hpl h3 hzl
  go_enter Tryz.func35, Tryz.ntmps35
  go_wp2_with fail
  go_quiet (fail)
  go_wp2_with fail
  go_quiet (fail)
  go_wp2_with fail
  go_quiet (fail)
  go_wp2_with fail
  refine (Con.out _).mono ?_
  rintro e w1 ⟨rfl, R, cr, hr, hrb, hB, hF⟩
  have hF1 : Fr w w1 (fun k => k = gz) := (Fr.step ((Fr.refl w (fun k => k = gz)).drewN _) hF (fun i _ h => by rcases h with h | h; exact h; cases h))
  have hnew : ∀ k, (Value.slice R (digs 18446744073709551616 (10 ^ s)).length cr).ownBlock = some k → w.heap.size ≤ k := by
    intro k hk
    rcases hrb with h | ⟨j, h1, h2⟩
    · rw [hk] at h; cases h
    · rw [hk] at h1
      have e : k = j := by injection h1
      rw [e]; exact h2
  have hxr := HX.out.2.1.fr hF1 (HX.out.2.1.room.ne_blk HX.out.2.2.2.1 (by decide))
  have con2 := bmul_self gz bh gz 0 ga 3 76 81 _ _ _ cr R (digs 18446744073709551616 (10 ^ s)) A _ ca (digs 18446744073709551616 a) false w1 hB rfl rfl rfl hr (by decide)
    (HX.out.1.fr hF1 HG.out) rfl rfl hxr (by decide) (fun k hk h2 => by have := hnew k hk; have := (HX.out.2.1.lt h2).2; omega) (Ne.symm HG.out) (by have := hB.lt; omega) (Nat.le_refl _) rfl rfl (by have := HX.out.2.2.2.2.2; omega) (by have := HX.out.2.2.2.2.1; omega)
    (dig_digs (by omega) _) (dig_digs (by omega) _) (canon_digs (by omega) _) (canon_digs (by omega) _) (HX.out.2.2.1.fr hF1 (fun k hk => by rw [hk]; exact Nat.le_refl _))
  rw [dval_digs (by omega), dval_digs (by omega)] at con2
  have Con2 := hide con2
  have HF1 := hide (And.intro hF1 hnew)
  clear con2 hF1 hnew hxr hr hrb hB hF Con
  go_wp2_with fail
  refine (Con2.out).mono ?_
  rintro e w2 ⟨rfl, R2, c2, hr, hrb, hB, hF⟩
  have hf : Fr w w2 (fun k => k = gz) := Fr.step HF1.out.1 hF (fun i hi h => by
    rcases h with h | h
    · exact h
    · have := HF1.out.2 i h; omega)
  have fin : ∀ w' : World, Fr w2 w' (fun _ => False) → UpP w eb (a * 10 ^ s) (b) (fun k => k = gz) (.returned (.tuple #[.pointer (some ⟨gz, 0, none⟩), .pointer (some ⟨gb, 3, none⟩), .int .i32 eb, .nilIface])) w' := by
    intro w' hf'
    have hfw := Fr.step hf hf' (fun _ _ h => h.elim)
    refine ⟨_, _, rfl, ?_, ?_, hfw⟩
    · exact ⟨gz, 0, _, _, false, R2, c2, rfl, Blk.fr (t := 76) hB hf' (fun h => h), rfl, rfl, hr.rd.fr hf' (fun _ _ h => h), by decide⟩
    · exact ⟨gb, 3, _, _, false, B, cb, rfl, HL.out.1.fr hfw HL.out.2.2.2, rfl, rfl, HL.out.2.1.fr hfw (fun k hk h => HL.out.2.2.1 k hk h), by decide⟩
  have e2 : w2.cell? ⟨gb, 2, none⟩ = some (.int .i32 eb) := (HL.out.1.fr hf HL.out.2.2.2).cell 2
  have Fin := hide fin
  clear fin hf hr hrb hB hF HF1 Con2 HX HL HZ HG a2 b2
  go_wp2_with fail
  go_quiet (fail)
  go_wp2
  exact bodyPost_ret (up_result _ _ _ _ _ rfl rfl rfl rfl _) rfl (Fin.out _ ((Fr.refl w2 _).drewN _))

set_option maxHeartbeats 1000000 in
set_option maxRecDepth 20000 in
theorem up_lt (ga gb gz bh s : Nat) (na nb : Bool) (ea eb : Int) (A B : Option Addr) (ca cb a b : Nat) (w : World)
    (ha : Blk w ga 81 (decC 0 na ea false (.slice A (digs 18446744073709551616 a).length ca) false)) (hb : Blk w gb 81 (decC 0 nb eb false (.slice B (digs 18446744073709551616 b).length cb) false))
    (hhr : Own w bh (.slice B (digs 18446744073709551616 b).length cb) (digs 18446744073709551616 b)) (hlr : RdW w (.slice A (digs 18446744073709551616 a).length ca) (digs 18446744073709551616 a)) (hlz : ∀ k, (Value.slice A (digs 18446744073709551616 a).length ca).ownBlock = some k → k ≠ gz)
    (hz : Blk w gz 76 #[.bool false, .slice none 0 0, .bool false]) (hga : ga ≠ gz) (hgb : gb ≠ gz) (hv : Vars w gz) (hs : eb - ea = (s : Int)) (hs1 : 1 ≤ s) (hs2 : s ≤ 400) (h3 : (digs 18446744073709551616 b).length ≤ 3) (he : -1000000 ≤ ea ∧ ea ≤ 1000000 ∧ -1000000 ≤ eb ∧ eb ≤ 1000000) :
    Calls Tryz.prog 35 #[.pointer (some ⟨ga, 0, none⟩), .pointer (some ⟨gb, 0, none⟩), .pointer (some ⟨gz, 0, none⟩)] w (UpP w ea (a) (b * 10 ^ s) (fun k => k = gz)) := by
  have a2 : w.cell? ⟨ga, 2, none⟩ = some (.int .i32 ea) := ha.cell 2
  have b2 : w.cell? ⟨gb, 2, none⟩ = some (.int .i32 eb) := hb.cell 2
  have ne : (ea == eb) = false := beq_eq_false_iff_ne.2 (by omega)
  obtain ⟨q1, q2, q3, q4⟩ := he
  have hh := hb
  have hl := ha
  have hgl := hga
  have hpl : (digs 18446744073709551616 (10 ^ s)).length ≤ 22 := digs_length_le (by omega) (by rw [show 22 = 11 + 11 from rfl, Nat.pow_add]; exact pow_half_lt (q := 200) (by omega) (by decide))
  have con := fun n : Nat => tabExp_any gz gz false false (.slice none 0 0) 0 s (w.drewN n) hz (Own.nil _ _).room (Nat.le_of_lt hz.lt) (Nat.le_refl _) (by omega) (pow10_lt (n := 200) (by omega) (by decide)) ⟨hv.c0, hv.c1, hv.c2, hv.l⟩
  have Con := hide con
  have HX := hide (And.intro hh (And.intro hhr (And.intro hv (And.intro hz (And.intro hpl h3)))))
  have HL := hide (And.intro hl (And.intro hlr (And.intro hlz hgl)))
  have hzl := hz.lt
  have HZ := hide hzl
  have HG := hide hgb
  clear ha hb hh hl hhr hlr hlz hz hga hgb hgl hv con hpl h3 hzl
  go_enter Tryz.func35, Tryz.ntmps35
  go_wp2_with fail
  go_quiet (fail)
  go_wp2_with fail
  go_quiet (fail)
  go_wp2_with fail
  go_quiet (fail)
  go_wp2_with fail
  refine (Con.out _).mono ?_
  rintro e w1 ⟨rfl, R, cr, hr, hrb, hB, hF⟩
  have hF1 : Fr w w1 (fun k => k = gz) := (Fr.step ((Fr.refl w (fun k => k = gz)).drewN _) hF (fun i _ h => by rcases h with h | h; exact h; cases h))
  have hnew : ∀ k, (Value.slice R (digs 18446744073709551616 (10 ^ s)).length cr).ownBlock = some k → w.heap.size ≤ k := by
    intro k hk
    rcases hrb with h | ⟨j, h1, h2⟩
    · rw [hk] at h; cases h
    · rw [hk] at h1
      have e : k = j := by injection h1
      rw [e]; exact h2
  have hxr := HX.out.2.1.fr hF1 (HX.out.2.1.room.ne_blk HX.out.2.2.2.1 (by decide))
  have con2 := bmul_self gz bh gz 0 gb 3 76 81 _ _ _ cr R (digs 18446744073709551616 (10 ^ s)) B _ cb (digs 18446744073709551616 b) false w1 hB rfl rfl rfl hr (by decide)
    (HX.out.1.fr hF1 HG.out) rfl rfl hxr (by decide) (fun k hk h2 => by have := hnew k hk; have := (HX.out.2.1.lt h2).2; omega) (Ne.symm HG.out) (by have := hB.lt; omega) (Nat.le_refl _) rfl rfl (by have := HX.out.2.2.2.2.2; omega) (by have := HX.out.2.2.2.2.1; omega)
    (dig_digs (by omega) _) (dig_digs (by omega) _) (canon_digs (by omega) _) (canon_digs (by omega) _) (HX.out.2.2.1.fr hF1 (fun k hk => by rw [hk]; exact Nat.le_refl _))
  rw [dval_digs (by omega), dval_digs (by omega)] at con2
  have Con2 := hide con2
  have HF1 := hide (And.intro hF1 hnew)
  clear con2 hF1 hnew hxr hr hrb hB hF Con
  go_wp2_with fail
  refine (Con2.out).mono ?_
  rintro e w2 ⟨rfl, R2, c2, hr, hrb, hB, hF⟩
  have hf : Fr w w2 (fun k => k = gz) := Fr.step HF1.out.1 hF (fun i hi h => by
    rcases h with h | h
    · exact h
    · have := HF1.out.2 i h; omega)
  have fin : ∀ w' : World, Fr w2 w' (fun _ => False) → UpP w ea (a) (b * 10 ^ s) (fun k => k = gz) (.returned (.tuple #[.pointer (some ⟨ga, 3, none⟩), .pointer (some ⟨gz, 0, none⟩), .int .i32 ea, .nilIface])) w' := by
    intro w' hf'
    have hfw := Fr.step hf hf' (fun _ _ h => h.elim)
    refine ⟨_, _, rfl, ?_, ?_, hfw⟩
    · exact ⟨ga, 3, _, _, false, A, ca, rfl, HL.out.1.fr hfw HL.out.2.2.2, rfl, rfl, HL.out.2.1.fr hfw (fun k hk h => HL.out.2.2.1 k hk h), by decide⟩
    · exact ⟨gz, 0, _, _, false, R2, c2, rfl, Blk.fr (t := 76) hB hf' (fun h => h), rfl, rfl, hr.rd.fr hf' (fun _ _ h => h), by decide⟩
  have e2 : w2.cell? ⟨ga, 2, none⟩ = some (.int .i32 ea) := (HL.out.1.fr hf HL.out.2.2.2).cell 2
  have Fin := hide fin
  clear fin hf hr hrb hB hF HF1 Con2 HX HL HZ HG a2 b2
  go_wp2_with fail
  go_quiet (fail)
  go_wp2
  exact bodyPost_ret (up_result _ _ _ _ _ rfl rfl rfl rfl _) rfl (Fin.out _ ((Fr.refl w2 _).drewN _))
end Go.Proofs.YtamjfjomehcikaaGreatDoor
