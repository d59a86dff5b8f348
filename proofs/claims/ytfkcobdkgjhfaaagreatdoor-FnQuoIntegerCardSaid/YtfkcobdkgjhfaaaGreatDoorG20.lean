/- Parts of the proofs: KnBasG. -/
import Derived.Deep.DeepCutAuto
import Derived.Test.YtfkcobdkgjhfaaaGreatDoorG4
import Derived.Test.YtfkcobdkgjhfaaaGreatDoorG12
import Derived.Test.YtfkcobdkgjhfaaaGreatDoorG17
import Derived.Test.YtfkcobdkgjhfaaaGreatDoorG19
/- Walk: nat.divBasic by a divisor of many words, by contracts of the stack. (printed by gen-knd.py) -/
set_option linter.unusedVariables false
set_option linter.unusedSimpArgs false
namespace Go.Proofs.YtfkcobdkgjhfaaaGreatDoor
open Go.RowKit

/-- Behind divBasic: the quotient's words in q, the rest in u; the stack stands. -/
def BasQ (w : World) (gs gu gq m n : Nat) (us0 vs : List Nat) (Su Sq : List Value) (B : Nat → Prop) (e : Ending) (w' : World) : Prop :=
  e = .returned (.tuple #[]) ∧ ∃ us qk, KnN m n 0 us0 vs us qk ∧ Blk w' gu 145 (wv us ++ Su).toArray ∧ Blk w' gq 145 (wv qk ++ Sq).toArray ∧ StkR w' gs 0 ∧ (∀ k, StkB w' gs k → B k ∨ w.heap.size ≤ k) ∧ Fr w w' (fun k => (k = gu ∨ k = gq) ∨ B k)

set_option maxHeartbeats 8000000 in
set_option maxRecDepth 40000 in
theorem divBasic_gen (gs gu gv gq m n L cq cu cv s0 : Nat) (B : Nat → Prop) (us0 vs : List Nat) (Su Sq qa : List Value) (w : World) (conSv : Calls Tryz.prog 168 #[.pointer (some ⟨gs, 0, none⟩)] w fun e w' => e = .returned (.int .i64 (s0 : Int)) ∧ w = w')
    (conNt : Calls Tryz.prog 170 #[.pointer (some ⟨gs, 0, none⟩), .int .i64 ((n + 1 : Nat) : Int)] w (NatP w gs s0 gv n cv (n + 1) vs B)) (hBB : ¬ B gu ∧ ¬ B gq) (hu : Blk w gu 145 (wv us0 ++ Su).toArray) (hq : Blk w gq 145 (qa ++ Sq).toArray) (hqa : qa.length = m)
    (hv : RdW w (.slice (some ⟨gv, 0, none⟩) n cv) vs) (ha : gu ≠ gq ∧ gu ≠ gv ∧ gq ≠ gv) (hL : L = m + n) (h0 : us0.length = m + n) (hd0 : Dig 18446744073709551616 us0) (hvl : vs.length = n) (hdv : Dig 18446744073709551616 vs) (hn2 : 2 ≤ n) (hn3 : n ≤ 100) (hm1 : 1 ≤ m) (hm : m ≤ 1000)
    (hnorm : 18446744073709551616 ≤ 2 * vs.getD (n - 1) 0) (htop : us0.getD (m + n - 1) 0 < vs.getD (n - 1) 0) (hlt : dval 18446744073709551616 (us0.drop m) < dval 18446744073709551616 vs) (hcu : L ≤ cu) (hcum : cu ≤ maxLen) (hcq : m ≤ cq) (hcqm : cq ≤ maxLen) (hcv : n ≤ cv) (hcvm : cv ≤ maxLen) :
    Calls Tryz.prog 173 #[.slice (some ⟨gq, 0, none⟩) m cq, .pointer (some ⟨gs, 0, none⟩), .slice (some ⟨gu, 0, none⟩) L cu, .slice (some ⟨gv, 0, none⟩) n cv] w (BasQ w gs gu gq m n us0 vs Su Sq B) := by
  obtain ⟨nh, hnh⟩ : ∃ nh, nh = n + 1 := ⟨_, rfl⟩
  obtain ⟨n1, hn1⟩ : ∃ i, n = i + 1 := ⟨n - 1, by omega⟩
  obtain ⟨n2, hn2'⟩ : ∃ i, n = i + 2 := ⟨n - 2, by omega⟩
  rw [← hnh] at conNt
  unfold NatP at conNt
  have ConN := hide conNt
  have ConSv := hide conSv
  have hqal : gq < w.heap.size := hq.lt
  have hgul : gu < w.heap.size := hu.lt
  obtain ⟨v1, hv1⟩ : ∃ v, v = vs.getD n1 0 := ⟨_, rfl⟩
  have hn1e : n - 1 = n1 := by omega
  have hn2e : n - 2 = n2 := by omega
  rw [hn1e, ← hv1] at hnorm htop
  have hv1l : v1 < 18446744073709551616 := by rw [hv1]; exact dig_getD (by omega) hdv _
  have ConR := hide (fun W => recip_any v1 W (by omega) hv1l)
  have i2 : (n : Int) + 1 = (nh : Int) := by omega
  have i4 : (n : Int) - 1 = (n1 : Int) := by omega
  have i6 : (n : Int) - 2 = (n2 : Int) := by omega
  have i8 : (L : Int) - (n : Int) = (m : Int) := by omega
  have j1 : n1 < n := by omega
  have g1 : -1000000 ≤ (nh : Int) ∧ (nh : Int) ≤ 1000000 := by omega
  have g2 : -1000000 ≤ (n1 : Int) ∧ (n1 : Int) ≤ 1000000 := by omega
  have g3 : -1000000 ≤ (n2 : Int) ∧ (n2 : Int) ≤ 1000000 := by omega
  have g4 : -1000000 ≤ (m : Int) ∧ (m : Int) ≤ 1000000 := by omega
  have j2 : n2 < n := by omega
  have H0 : Hid (KnN m n (m + 1) us0 vs us0 []) := ⟨h0, hd0, rfl, by
      have := dval_lt (b := 18446744073709551616) (by omega) (dig_drop hd0 (m + 1))
      have hl : (us0.drop (m + 1)).length = n1 := by rw [List.length_drop, h0]; omega
      rw [hl] at this
      have a1 := dval_split 18446744073709551616 n1 vs (by omega)
      rw [dval_drop1, ← hv1] at a1
      have : 18446744073709551616 ^ n1 * 1 ≤ 18446744073709551616 ^ n1 * (v1 + 18446744073709551616 * dval 18446744073709551616 (vs.drop (n1 + 1))) := Nat.mul_le_mul_left _ (by omega)
      omega, by simp, fun e he => by simp at he, by rw [dval_nil]; simp⟩
  have hvc : w.cell? ⟨gv, n1, none⟩ = some (.int .u64 (v1 : Int)) := by
    obtain ⟨g, o, e1, _, e2⟩ := RdG.at_ (k := .u64) hv n1 (by omega)
    injection e1 with e1
    injection e1 with e3 e4
    subst e3 e4
    rw [Nat.zero_add, ← hv1] at e2
    exact e2
  have HW := hide (And.intro hu (And.intro hq (And.intro hv (And.intro ha (And.intro hqa (And.intro hBB (And.intro hgul hqal)))))))
  have HV := hide (And.intro hv1 (And.intro hnorm (And.intro htop (And.intro hlt (And.intro hvl (And.intro hdv (And.intro hv1l h0)))))))
  have HN := hide (And.intro hnh (And.intro hn1 (And.intro hn2' (And.intro hL (And.intro hm1 hm)))))
  have HC := hide (And.intro hcu (And.intro hcum (And.intro hcq hcqm)))
  have hvc' := hide hvc
  clear hu hq hv hqa hBB ha conSv conNt hgul hv1 hnorm htop hlt hvl hdv h0 hd0 hnh hn1 hn2' hL hm1 hm hn1e hn2e hcum hcqm hcvm hqal hv1l hvc
  have i1 : IntKind.i64.wrap ((n : Int) + 1) = (nh : Int) := kn_i64 i2 g1
  have i3 : IntKind.i64.wrap ((n : Int) - 1) = (n1 : Int) := kn_i64 i4 g2
  have i5 : IntKind.i64.wrap ((n : Int) - 2) = (n2 : Int) := kn_i64 i6 g3
  have i7 : IntKind.i64.wrap ((L : Int) - (n : Int)) = (m : Int) := kn_i64 i8 g4
  have i1' : wrap64 ((n : Int) + 1) = (nh : Int) := kn_w64 i2 g1
  have i3' : wrap64 ((n : Int) - 1) = (n1 : Int) := kn_w64 i4 g2
  have i5' : wrap64 ((n : Int) - 2) = (n2 : Int) := kn_w64 i6 g3
  have i7' : wrap64 ((L : Int) - (n : Int)) = (m : Int) := kn_w64 i8 g4
  clear i2 i4 i6 i8
  have HI0 := hide (And.intro i1 (And.intro i3 (And.intro i5 (And.intro i7 (And.intro i1' (And.intro i3' (And.intro i5' i7')))))))
  clear g1 g2 g3 g4
  go_enter_defers Tryz.func173, Tryz.ntmps173
  go_wp2_with fail
  refine (ConSv.out).mono ?_
  rintro e wS ⟨rfl, rfl⟩
  clear ConSv
  go_wp2_with fail
  refine (ConN.out).mono ?_
  rintro e1 wA ⟨gh, oh, ch, Ph, hl0, Sh, rfl, hoh, hll, hnc, hcm, hBh, hgh, hpp, hst, hsb, hvr, hFB⟩
  clear i1 i3 i5 i7 i1' i3' i5' i7'
  have hbu := HW.out.1.fr hFB HW.out.2.2.2.2.2.1.1
  have hbq := HW.out.2.1.fr hFB HW.out.2.2.2.2.2.1.2
  have HA : Hid (KnY gu gv gq gh oh vs Ph) := ⟨HW.out.2.2.2.1.1, HW.out.2.2.2.1.2.1, HW.out.2.2.2.1.2.2, by rcases hgh with h | ⟨h, -⟩; (have := HW.out.2.2.2.2.2.2.1; omega); (rw [h]; exact HW.out.2.2.2.1.2.1), by rcases hgh with h | ⟨h, -⟩; (have := HW.out.2.2.2.2.2.2.2; omega); (rw [h]; exact HW.out.2.2.2.1.2.2), hoh, hpp⟩
  have HS1 : Hid (KnX wA gu gv gq gh oh n cv vs Su Sq Ph Sh qa (m + 1) us0 [] hl0 wA) := by
    refine ⟨hbu, ?_, hBh, hvr, Fr.refl _ _⟩
    rw [List.take_of_length_le (by rw [HW.out.2.2.2.2.1]; omega)]
    simpa [wv] using hbq
  have HLL := hide hll
  have vc : wA.cell? ⟨gv, n1, none⟩ = some (.int .u64 (v1 : Int)) := by rw [HV.out.1]; exact HS1.out.vcell (by rw [HV.out.2.2.2.2.1]; exact j1)
  have HWd : Hid (∀ k, (k = gu ∨ k = gq ∨ k = gh) → ∃ cs, Blk wA k 145 cs) := fun k h => by
    rcases h with h | h | h
    · rw [h]; exact ⟨_, hbu⟩
    · rw [h]; exact ⟨_, hbq⟩
    · rw [h]; exact ⟨_, hBh⟩
  have HST0 := hide (And.intro hst (And.intro hsb (And.intro hFB (show gh = gh → w.heap.size ≤ gh ∨ B gh from fun _ => hgh.imp id (fun h => by rw [h.1]; exact h.2)))))
  have HCH := hide hcm
  clear hBh hll hvc' ConN hcm hgh hoh hpp hst hsb hvr hFB hbu hbq
  obtain ⟨i1, i3, i5, i7, i1', i3', i5', i7'⟩ := HI0.out
  go_wp2_with fail
  refine (ConR.out _).mono ?_
  rintro e2 w2 ⟨rc, rfl, hrc, hb2⟩
  have HS2 := hide (HS1.out.below hb2)
  have HR := hide hrc.out
  clear vc HS1 hb2 hrc ConR
  go_wp2_with fail
  go_loopw [13, 14] (fun vt vj wr => ∃ (k : Nat) (us qk : List Nat) (hl : List Value) (t : Nat) (x : Int), vt = .int .u64 (t : Int) ∧ vj = .int .i64 x ∧ Hid (x = (k : Int) - 1 ∧ k ≤ m + 1 ∧ t = us.getD (k + n - 1) 0 ∧ hl.length = nh ∧ (k = m + 1 → us = us0 ∧ qk = []) ∧ KnN m n k us0 vs us qk ∧ KnX wA gu gv gq gh oh n cv vs Su Sq Ph Sh qa k us qk hl wr)) (fun _ vj _ => match vj with | .int _ i => (i + 1).toNat | _ => 0)
  case atStart =>
    clear i1 i3 i5 i7 i1' i3' i5' i7'
    refine ⟨m + 1, us0, [], hl0, 0, (m : Int), by rfl, rfl, ⟨by omega, Nat.le_refl _, ?_, HLL.out, fun _ => ⟨rfl, rfl⟩, H0.out, HS2.out⟩⟩
    rw [List.getD_eq_getElem?_getD, List.getElem?_eq_none (by have := H0.out.hu; omega)]; rfl
  case round =>
    clear i1 i3 i5 i7 i1' i3' i5' i7'
    obtain ⟨k, us, qk, hl, t, x, rfl, rfl, HR0⟩ := hrel
    clear HS2 H0 HLL
    obtain ⟨hx, hk, ht, hll, hst0, hN, hW⟩ := HR0.out
    cases k with
    | zero =>
      have hx1 : x = -1 := by omega
      subst hx1
      have hst : StkR wr gs s0 := HST0.out.1.fr hW.fr (fun k hk => HWd.out k hk)
      have hsb : ∀ k, StkB wr gs k → B k ∨ w.heap.size ≤ k := fun k hk => HST0.out.2.1 k (by
        unfold StkB at hk ⊢
        rcases HST0.out.1 with ⟨h1, -⟩ | ⟨gi, A, l, c, h1, -, -, -⟩
        · have h2 := (h1.fr hW.fr (fun hk2 => by obtain ⟨cs, hc⟩ := HWd.out gs hk2; exact h1.type_ne hc (by decide) rfl)).cell 0
          have h3 := h1.cell 0
          rw [h3, ← h2]; exact hk
        · have h2 := (h1.fr hW.fr (fun hk2 => by obtain ⟨cs, hc⟩ := HWd.out gs hk2; exact h1.type_ne hc (by decide) rfl)).cell 0
          have h3 := h1.cell 0
          rw [h3, ← h2]; exact hk)
      have HF : Hid (∀ w8, StkR w8 gs 0 → Fr wr w8 (StkB wr gs) → BasQ w gs gu gq m n us0 vs Su Sq B (.returned (.tuple #[])) w8) := fun w8 h8 f8 => by
        refine ⟨rfl, us, qk, hN, hW.u.fr f8 (fun h => hst.bne h hW.u rfl), ?_, h8, fun k hk => hsb k (hst.sb f8 hk), ?_⟩
        · have hq0 := hW.q
          have hq1 : Blk wr gq 145 (wv qk ++ Sq).toArray := by simpa using hq0
          exact hq1.fr f8 (fun h => hst.bne h hq1 rfl)
        · refine Fr.step (Fr.step (HST0.out.2.2.1.mono (fun _ _ h => .inr h)) hW.fr (fun k hk h => ?_)) f8 (fun k hk h => ?_)
          · rcases h with h | h | h
            · exact .inl (.inl h)
            · exact .inl (.inr h)
            · rw [h] at hk ⊢
              rcases HST0.out.2.2.2 trivial with h1 | h1
              · omega
              · exact .inr h1
          · rcases hsb k h with h1 | h1
            · exact .inr h1
            · omega
      clear hx hk ht hll hst0 hN hW HR0 hsb
      go_wp2
      refine leaves_cons (f := 167) (args := #[.pointer (some ⟨gs, 0, none⟩), .int .i64 (s0 : Int)]) (by simp) (by simp [go_sem]) ?_
      refine (restoreR_deferred gs s0 .returning _ hst).mono ?_
      rintro e1 u' w8 ⟨rfl, rfl, h8, f8⟩
      exact ⟨_, results_none rfl _ _ _, HF.out w8 h8 f8⟩
    | succ j =>
      obtain rfl : x = (j : Int) := by omega
      by_cases hj : j ≤ m
      · have hjm : j ≤ m := hj
        obtain ⟨jn, hjn⟩ : ∃ i, i = j + n := ⟨_, rfl⟩
        obtain ⟨p1, hp1⟩ : ∃ i, jn = i + 1 := ⟨jn - 1, by omega⟩
        obtain ⟨p2, hp2⟩ : ∃ i, jn = i + 2 := ⟨jn - 2, by omega⟩
        have hNN := HN.out
        have q2 : (j : Int) + (n : Int) = (jn : Int) := by omega
        have q4 : (jn : Int) - 1 = (p1 : Int) := by omega
        have q6 : (jn : Int) - 2 = (p2 : Int) := by omega
        have r1 : p1 < L := by omega
        have r2 : p2 < L := by omega
        have huL : us.length = L := by rw [hN.hu]; omega
        have xu1 := hW.ucell (i := p1) (by omega)
        have hwd := hN.words HV.out.2.2.2.2.1 hn2 HV.out.2.2.2.2.2.1 (by omega) (by rw [show n - 1 = n1 by omega, ← HV.out.1]; exact HV.out.2.1)
        obtain ⟨P, vl, k1, k2, k3, k4, k5, k6, k7⟩ := hwd
        rw [show n - 1 = n1 by omega, ← HV.out.1, show n - 2 = n2 by omega] at k1
        rw [show n - 1 = n1 by omega, ← HV.out.1] at k6
        have ht' : t = us.getD (j + n) 0 := by rw [ht, show j + 1 + n - 1 = j + n by omega]
        rw [← ht', show j + n - 1 = p1 by omega, show j + n - 2 = p2 by omega] at k4 k5
        rw [← ht'] at k6
        obtain ⟨u1, hu1⟩ : ∃ u, u = us.getD p1 0 := ⟨_, rfl⟩
        obtain ⟨u2, hu2⟩ : ∃ u, u = us.getD p2 0 := ⟨_, rfl⟩
        obtain ⟨v2, hv2⟩ : ∃ u, u = vs.getD n2 0 := ⟨_, rfl⟩
        rw [← hu1] at xu1 k4 k5
        rw [← hu2] at k4 k5
        rw [← hv2] at k1
        have hu1l : u1 < 18446744073709551616 := by rw [hu1]; exact dig_getD (by omega) hN.du _
        have hu2l : u2 < 18446744073709551616 := by rw [hu2]; exact dig_getD (by omega) hN.du _
        have hv2l : v2 < 18446744073709551616 := by rw [hv2]; exact dig_getD (by omega) HV.out.2.2.2.2.2.1 _
        have hUV := hN.u_lt
        have hb7 : -1000000 ≤ (jn : Int) ∧ (jn : Int) ≤ 1000000 := by omega
        have hb8 : -1000000 ≤ (p1 : Int) ∧ (p1 : Int) ≤ 1000000 := by omega
        have hb9 : -1000000 ≤ (p2 : Int) ∧ (p2 : Int) ≤ 1000000 := by omega
        have HK := hide (And.intro k1 (And.intro k2 (And.intro k3 (And.intro k4 (And.intro k5 (And.intro hUV (And.intro hu1l (And.intro hu2l (And.intro hv2l k7)))))))))
        have HJ := hide (And.intro hjm (And.intro hjn (And.intro hp1 (And.intro hp2 (And.intro hu2 (And.intro hv2 (And.intro huL hll)))))))
        have HX := hide (And.intro hN hW)
        have HST := hide hst0
        have HTU := hide (And.intro ht' hu1)
        have hnorm := HV.out.2.1
        have hv1l := HV.out.2.2.2.2.2.2.1
        by_cases htv : t = v1
        · obtain ⟨qm, hqm⟩ : ∃ q, q = 18446744073709551615 := ⟨_, rfl⟩
          have HQE : Hid ((18446744073709551615 : Int) = ((qm : Nat) : Int)) := (by show _ = _; rw [hqm]; rfl)
          have HW3 := hide HX.out.2
          have HGZ : Hid (t * 18446744073709551616 + u1 < v1 → qm = 0) := fun h => absurd h (by omega)
          have HG : Hid (KnG (dval 18446744073709551616 (us.drop j)) (dval 18446744073709551616 vs) qm) := by
            have a1 := HK.out.2.2.2.1
            have a2 : v1 * 18446744073709551616 * 18446744073709551616 * P ≤ dval 18446744073709551616 (us.drop j) := by
              refine Nat.le_trans (Nat.mul_le_mul_right P ?_) a1
              rw [htv]
              exact Nat.le_trans (Nat.mul_le_mul_right _ (Nat.le_add_right _ _)) (Nat.le_add_right _ _)
            rw [hqm]
            exact ⟨by omega, HK.out.2.2.2.2.2.1, kn_top HK.out.1 HK.out.2.1 rfl HK.out.2.2.2.2.2.2.2.2.1 hnorm a2 (by omega)⟩
          have htb : ((t : Int) != (v1 : Int)) = false := by rw [htv]; simp
          have htb2 : (t != v1) = false := by rw [htv]; simp
          have HQ0 := hide (And.intro (kn_i64 q2 hb7) (And.intro (kn_i64 q4 hb8) (And.intro (kn_i64 q6 hb9) (And.intro (kn_w64 q2 hb7) (And.intro (kn_w64 q4 hb8) (kn_w64 q6 hb9))))))
          have htv2 := htv.symm
          subst htv2
          clear hx hk ht hll hst0 hN hW HR0 hj hjm hjn hp1 hp2 hNN huL k1 k2 k3 k4 k5 k6 k7 ht' hu1 hu2 hv2 hu1l hu2l hv2l hUV hnorm hv1l hb7 hb8 hb9 q2 q4 q6 hqm xu1
          rcases Nat.lt_or_ge j m with hjlt | hjge
          · have HJL := hide hjlt
            have hJL := hjlt
            clear hjlt
            have hNN := HN.out
            have hJJ := HJ.out
            obtain ⟨jh, hjh⟩ : ∃ i, i = j + nh := ⟨_, rfl⟩
            have s1 : (j : Int) + (nh : Int) = (jh : Int) := by omega
            have s2 : -1000000 ≤ (jh : Int) ∧ (jh : Int) ≤ 1000000 := by omega
            have s3 : jh ≤ L := by omega
            have s4 : ¬ L < jh := by omega
            have s5 : j ≤ jh := by omega
            have s6 : jh ≤ cu := by omega
            have s7 : jh - j = nh := by omega
            have s8 : n < nh := by omega
            have s9 : n ≤ nh := by omega
            have s10 : n ≤ ch := by omega
            have ConM := hide (HW3.out.mav HA.out HV.out.2.2.2.2.1 HV.out.2.2.2.2.2.1 (by omega) (by omega) ch qm s10 HG.out.1)
            have HJH := hide (And.intro hjh (And.intro s1 s2))
            have HS := hide (And.intro s3 (And.intro s4 (And.intro s5 (And.intro s6 (And.intro s7 (And.intro s8 s9))))))
            clear hNN hJJ hJL hjh s1 s2 s3 s4 s5 s6 s7 s8 s9
            go_wp2_with fail
            rw [HQE.out]
            clear HQE
            refine (ConM.out).mono ?_
            rintro e6 w6 ⟨cc, rfl, hcc, hW6⟩
            clear ConM
            have hhl := HJ.out.2.2.2.2.2.2.2
            have hnh := HN.out.1
            obtain ⟨pp, hpp⟩ : ∃ p, p = (amul 18446744073709551616 qm (List.replicate n 0) vs 0).1 := ⟨_, rfl⟩
            have hpl : pp.length = n := by rw [hpp, amul_length _ _ _ (by simp; exact HV.out.2.2.2.2.1.symm)]; exact HV.out.2.2.2.2.1
            obtain ⟨z, hz⟩ := List.length_eq_one_iff.1 (show (hl.drop n).length = 1 by rw [List.length_drop]; omega)
            rw [← hpp, hz] at hW6
            obtain ⟨⟨uh, hch⟩, hfh, hW7⟩ := hW6.seth HA.out (.int .u64 (cc : Int)) (i := n) (by rw [List.length_append, wv_length]; simp; omega)
            have hset : (wv pp ++ [z]).set n (.int .u64 (cc : Int)) = wv (pp ++ [cc]) := by
              rw [wv_append, List.set_append_right _ _ (by rw [wv_length]; omega), wv_length, hpl, Nat.sub_self]; rfl
            rw [hset] at hW7
            obtain ⟨W7, hW7e⟩ : ∃ W, W = w6.setCell ⟨gh, oh + n, none⟩ (.int .u64 (cc : Int)) := ⟨_, rfl⟩
            rw [← hW7e] at hW7
            have hPV : dval 18446744073709551616 (pp ++ [cc]) = dval 18446744073709551616 vs * qm := by
              have h1 := amul_val 18446744073709551616 qm (zs := List.replicate n 0) (xs := vs) 0 (by simp; exact HV.out.2.2.2.2.1.symm)
              rw [← hpp, ← hcc.out, dval_replicate_zero, HV.out.2.2.2.2.1] at h1
              rw [dval_append, hpl, dval_cons, dval_nil]
              simpa using h1
            have hPD : Dig 18446744073709551616 (pp ++ [cc]) := dig_append (by rw [hpp]; exact amul_dig (by omega) _) (by
              intro d hd
              rw [List.mem_singleton.1 hd, hcc.out]
              exact amul_carry HG.out.1 _ (fun d hd => by rw [List.eq_of_mem_replicate hd]; omega) HV.out.2.2.2.2.2.1 (by omega))
            have hPL : nh = (pp ++ [cc]).length := by rw [List.length_append, hpl]; simp; omega
            have hchm := HCH.out
            have ConS := hide (fun c1 c2 h1 h2 => hW7.drew.sub HA.out j nh c1 c2 ch (pp ++ [cc]) (rd_part (P := Ph) (S := Sh) hW7.drew.h HA.out.o hPL hnc hchm) hPL (by rw [HJ.out.2.2.2.2.2.2.1]; have := HS.out.1; have := HJH.out.1; have := HJL.out; omega) (by omega) h1 h2)
            have vc7 : W7.cell? ⟨gv, n1, none⟩ = some (.int .u64 (v1 : Int)) := by rw [HV.out.1]; exact hW7.vcell (by rw [HV.out.2.2.2.2.1]; exact j1)
            have HP := hide (And.intro hPV (And.intro hPD hPL))
            have hcw : nh ≤ cu - j := by have := HS.out.2.2.2.1; have := HJH.out.1; omega
            have HCW := hide hcw
            have hcj : ¬ cu = j := by have := HN.out.1; omega
            clear hhl hnh hpl hz hset hPV hPD hPL hcc hpp hW6 hW7 hchm hcw
            obtain ⟨s3, s4, s5, s6, s7, s8, s9⟩ := HS.out
            have t1 : IntKind.i64.wrap ((j : Int) + (nh : Int)) = (jh : Int) := kn_i64 HJH.out.2.1 HJH.out.2.2
            have t2 : wrap64 ((j : Int) + (nh : Int)) = (jh : Int) := kn_w64 HJH.out.2.1 HJH.out.2.2
            go_wp2_with fail
            rw [← hW7e]
            clear hW7e uh hch hfh
            go_region_held3 (fun W => W.cell? ⟨gv, n1, none⟩ = some (.int .u64 (v1 : Int))) (first | exact vc7 | exact vc8 | go_keep)
              (first | (go_at_call 203; go_loud (refine (ConS.out _ _ HCW.out HCW.out).mono ?_; rintro e8 w8 ⟨bb, rfl, hbb, hW8⟩; have vc8 : w8.cell? ⟨gv, n1, none⟩ = some (.int .u64 (v1 : Int)) := (by rw [HV.out.1]; exact hW8.vcell (by rw [HV.out.2.2.2.2.1]; exact j1)); clear vc7)))
            clear ConS
            clear s3 s4 s5 s6 s7 s8 s9 t1 t2
            have hnh := HN.out.1
            have hjm := HJL.out
            rw [hnh] at hW8 hbb
            obtain ⟨f1, f2, f3, f4, f5⟩ := kn_sub HX.out.1 HV.out.2.2.2.2.1 HV.out.2.2.2.2.2.1 hjm (HP.out.2.2.symm.trans hnh) HP.out.2.1 HP.out.1
            rw [← hbb.out] at f3 f4
            obtain ⟨sd, hsd⟩ : ∃ sd, sd = (subL 18446744073709551616 ((us.drop j).take (n + 1)) (pp ++ [cc]) 0).1 := ⟨_, rfl⟩
            rw [← hsd] at f1 f2 f4 f5 hW8
            clear hbb hsd
            have hul : us.length = m + n := HX.out.1.hu
            have hjn := HJ.out.2.1
            have hp1 := HJ.out.2.2.1
            have hmN := HN.out.2.2.2.2.2
            have hqa := HW.out.2.2.2.2.1
            have hLe := HN.out.2.2.2.1
            obtain ⟨y, hy⟩ : ∃ y : Int, y = (j : Int) - 1 := ⟨_, rfl⟩
            have y1 : -1000000 ≤ y ∧ y ≤ 1000000 := by omega
            by_cases hb0 : bb = 0
            · rw [hb0, Nat.mul_zero, Nat.add_zero] at f4
              subst hb0
              have hN0 := kn_fin0 HX.out.1 HV.out.2.2.2.2.1 HV.out.2.2.2.2.2.1 hjm HV.out.2.2.2.2.2.2.2 HG.out f1 f2 f4
              obtain ⟨us8, hus8⟩ : ∃ l, l = us.take j ++ sd ++ us.drop (j + n + 1) := ⟨_, rfl⟩
              have hW8' : KnX wA gu gv gq gh oh n cv vs Su Sq Ph Sh qa (j + 1) (us.take j ++ sd ++ us.drop (j + n + 1)) qk (wv (pp ++ [cc])) w8 := hW8
              rw [← hus8] at hN0 hW8'
              obtain ⟨⟨uq, hqc⟩, hqf, hW9⟩ := hW8'.setq HA.out qm (by omega)
              obtain ⟨t', ht'⟩ : ∃ t', t' = us8.getD p1 0 := ⟨_, rfl⟩
              have x1c := hW8'.ucell (i := p1) (by rw [hN0.hu]; omega)
              rw [← ht'] at x1c
              have HE := hide (And.intro hy (And.intro (show j ≤ m + 1 by omega) (And.intro (show t' = us8.getD (j + n - 1) 0 by rw [ht', show j + n - 1 = p1 by omega]) (And.intro (show (wv (pp ++ [cc])).length = nh by rw [wv_length]; exact HP.out.2.2.symm) (And.intro (show j = m + 1 → us8 = us0 ∧ (qm :: qk) = [] from fun h => absurd h (by omega)) (And.intro hN0 hW9))))))
              have z1 : ((j : Int) == (m : Int)) = false := beq_eq_false_iff_ne.2 (by omega)
              have z2 : (j == m) = false := beq_eq_false_iff_ne.2 (by omega)
              have z3 : ¬ j = m := by omega
              have HM := hide (show (y + 1).toNat < ((j : Int) + 1).toNat by omega)
              have hqj : j < m := hjm
              clear hN0 hW8 hW8' hW9 hus8 ht' f1 f2 f3 f4 f5 hul hjn hp1 hmN hqa hLe hnh hjm
              obtain ⟨q1, q3, q5, q1', q3', q5'⟩ := HQ0.out
              have y2 : IntKind.i64.wrap ((j : Int) - 1) = y := kn_i64 hy.symm y1
              have y3 : wrap64 ((j : Int) - 1) = y := kn_w64 hy.symm y1
              clear hy y1
              go_wp2
              go_roundw
              case rel => exact ⟨j, us8, _, _, t', y, rfl, rfl, HE.out⟩
              case measure => exact HM.out
            · have hb1 : bb = 1 := by omega
              rw [hb1, Nat.mul_one] at f4
              obtain ⟨us8, hus8⟩ : ∃ l, l = us.take j ++ sd ++ us.drop (j + (n + 1)) := ⟨_, rfl⟩
              obtain ⟨l1, l2, l3⟩ := kn_l1 (us := us) (j := j) (n := n) (by omega) f1
              rw [← hus8] at l1 l2 l3 hW8
              have hu8l : us8.length = m + n := by rw [hus8]; simp only [List.length_append, List.length_take, List.length_drop, f1]; omega
              have hu8d : Dig 18446744073709551616 us8 := by rw [hus8]; exact dig_append (dig_append (dig_take HX.out.1.du j) f2) (dig_drop HX.out.1.du _)
              have ConA := hide (fun c1 c2 h1 h2 => hW8.drew.add HA.out HV.out.2.2.2.2.1 HV.out.2.2.2.2.2.1 hu8d j c1 c2 (by omega) (by omega) h1 h2)
              have u1 : j ≤ jn := by omega
              have u2' : jn ≤ cu := by omega
              have u3 : jn - j = n := by omega
              have hcw : n ≤ cu - j := by omega
              have HCW2 := hide hcw
              have z0 : ((bb : Int) != 0) = true := by rw [hb1]; rfl
              have z0' : (bb != 0) = true := by rw [hb1]; rfl
              have H8 := hide (And.intro f1 (And.intro f4 (And.intro f5 (And.intro l1 (And.intro l2 (And.intro l3 (And.intro hul (And.intro hjn (And.intro hp1 (And.intro hmN (And.intro hqa (And.intro hLe (And.intro hnh (And.intro hy y1))))))))))))))
              have hbn : ¬ bb = 0 := hb0
              clear f1 f2 f3 f4 f5 l1 l2 l3 hul hjn hp1 hmN hqa hLe hnh hy y1 hcw hb1 hu8l hu8d hW8 hus8 hjm hb0
              obtain ⟨q1, q3, q5, q1', q3', q5'⟩ := HQ0.out
              clear q3 q5 q3' q5'
              go_wp2_with fail
              go_region_held3 (fun W => W.cell? ⟨gv, n1, none⟩ = some (.int .u64 (v1 : Int))) (first | exact vc8 | exact vc9 | go_keep)
                (first | (go_at_call 204; go_loud (refine (ConA.out _ _ HCW2.out HCW2.out).mono ?_; rintro e9 w9 ⟨c2, rfl, hc2, hW9⟩; have vc9 : w9.cell? ⟨gv, n1, none⟩ = some (.int .u64 (v1 : Int)) := (by rw [HV.out.1]; exact hW9.vcell (by rw [HV.out.2.2.2.2.1]; exact j1)); clear vc8)))
              clear ConA vc9 q1 q1' u1 u2' u3
              obtain ⟨f1, f4, f5, l1, l2, l3, hul, hjn, hp1, hmN, hqa, hLe, hnh, hy, y1⟩ := H8.out
              have hvl := HV.out.2.2.2.2.1
              rw [l1, l2, l3] at hW9
              rw [l2] at hc2
              obtain ⟨ad, had⟩ : ∃ ad, ad = (amul 18446744073709551616 1 (sd.take n) vs 0).1 := ⟨_, rfl⟩
              have hzl : (sd.take n).length = vs.length := by rw [List.length_take, f1, hvl]; omega
              have hal : ad.length = n := by rw [had, amul_length _ _ _ hzl]; exact hvl
              have hadd : Dig 18446744073709551616 ad := by rw [had]; exact amul_dig (by omega) _
              have hav : dval 18446744073709551616 ad + 18446744073709551616 ^ n * c2 = dval 18446744073709551616 (sd.take n) + dval 18446744073709551616 vs := by
                have h := amul_val 18446744073709551616 1 (zs := sd.take n) (xs := vs) 0 hzl
                rw [← had, ← hc2.out, hvl, Nat.mul_one, Nat.add_zero] at h
                exact h
              rw [← had] at hW9
              obtain ⟨q9, hq9, hxc, hN1⟩ := kn_fin1 HX.out.1 hvl HV.out.2.2.2.2.2.1 HJL.out HV.out.2.2.2.2.2.2.2 HG.out f1 f4 f5 hal hadd hav
              obtain ⟨xx, hxx⟩ : ∃ x, x = sd.getD n 0 := ⟨_, rfl⟩
              rw [← hxx] at hW9 hxc
              have hjm : j < m := HJL.out
              obtain ⟨g1, g2⟩ := kn_l2 (us := us) (ad := ad) (tl := us.drop (j + (n + 1))) (j := j) (n := n) (x := xx) (by omega) hal
              obtain ⟨us9, hus9⟩ : ∃ l, l = us.take j ++ ad ++ xx :: us.drop (j + (n + 1)) := ⟨_, rfl⟩
              rw [← hus9] at g1 g2 hW9
              have hu9l : us9.length = m + n := by rw [hus9]; simp only [List.length_append, List.length_take, List.length_drop, List.length_cons, hal]; omega
              rw [← hjn] at g1 g2
              have xc := hW9.ucell (i := jn) (by omega)
              rw [g1] at xc
              obtain ⟨hf9, hW10⟩ := hW9.setu HA.out 0 (i := jn) (by omega)
              rw [g2] at hW10
              have hN2 : KnN m n j us0 vs (us.take j ++ (ad ++ [0]) ++ us.drop (j + (n + 1))) (q9 :: qk) := hN1
              obtain ⟨us10, hus10⟩ : ∃ l, l = us.take j ++ (ad ++ [0]) ++ us.drop (j + (n + 1)) := ⟨_, rfl⟩
              rw [← hus10] at hW10 hN2
              obtain ⟨W10, hW10e⟩ : ∃ W, W = w9.setCell ⟨gu, jn, none⟩ (.int .u64 ((0 : Nat) : Int)) := ⟨_, rfl⟩
              rw [← hW10e] at hW10
              obtain ⟨⟨uq, hqc⟩, hqf, hW11⟩ := hW10.setq HA.out q9 (by omega)
              obtain ⟨t', ht'⟩ : ∃ t', t' = us10.getD p1 0 := ⟨_, rfl⟩
              have x1c := hW10.ucell (i := p1) (by rw [hN2.hu]; omega)
              rw [← ht'] at x1c
              have HE := hide (And.intro hy (And.intro (show j ≤ m + 1 by omega) (And.intro (show t' = us10.getD (j + n - 1) 0 by rw [ht', show j + n - 1 = p1 by omega]) (And.intro (show (wv (pp ++ [cc])).length = nh by rw [wv_length]; exact HP.out.2.2.symm) (And.intro (show j = m + 1 → us10 = us0 ∧ (q9 :: qk) = [] from fun h => absurd h (by omega)) (And.intro hN2 hW11))))))
              have z1 : ((j : Int) == (m : Int)) = false := beq_eq_false_iff_ne.2 (by omega)
              have z2 : (j == m) = false := beq_eq_false_iff_ne.2 (by omega)
              have z3 : ¬ j = m := by omega
              have HM := hide (show (y + 1).toNat < ((j : Int) + 1).toNat by omega)
              have hjL : jn < L := by omega
              have hnn : n < nh := by omega
              have hwx0 : ((xx : Int) + (c2 : Int)) % 18446744073709551616 = ((0 : Nat) : Int) := by omega
              have hqx0 : ((qm : Int) - 1) % 18446744073709551616 = (q9 : Int) := by have := HG.out.1; omega
              rw [show ((0 : Nat) : Int) = 0 from rfl] at hW10e
              clear f1 f4 f5 l1 l2 l3 hul hjn hp1 hmN hqa hLe hnh hvl had hzl hal hadd hav hq9 hxc hN1 hxx g1 g2 hus9 hu9l hW9 hW10 hN2 hus10 hW11 ht' hc2
              obtain ⟨q1, q3, q5, q1', q3', q5'⟩ := HQ0.out
              have hwx : IntKind.u64.wrap ((xx : Int) + (c2 : Int)) = 0 := kn_u64 (y := 0) hwx0
              have hqx : IntKind.u64.wrap ((qm : Int) - 1) = (q9 : Int) := kn_u64 hqx0
              have y2 : IntKind.i64.wrap ((j : Int) - 1) = y := kn_i64 hy.symm y1
              have y3 : wrap64 ((j : Int) - 1) = y := kn_w64 hy.symm y1
              clear hy y1 hwx0 hqx0
              go_upto_region 33 with fail
              rw [← hW10e]
              clear hW10e xc hf9
              go_wp2
              go_roundw
              case rel => exact ⟨j, us10, _, _, t', y, rfl, rfl, HE.out⟩
              case measure => exact HM.out
          · exfalso
            have e1 : v1 = us.getD (j + n) 0 := HTU.out.1
            rw [List.getD_eq_getElem?_getD, List.getElem?_eq_none (by rw [HX.out.1.hu]; omega)] at e1
            have e2 := HV.out.2.1
            have e3 : v1 = 0 := e1
            omega
        · have htl : t < v1 := by omega
          have HTl := hide htl
          have ConD := hide (fun W => divWW_any t u1 v1 rc W hv1l hu1l htl HR.out)
          have htb : ((t : Int) != (v1 : Int)) = true := by rw [bne_iff_ne]; omega
          have htb2 : (t != v1) = true := by rw [bne_iff_ne]; omega
          have htb3 : ((t : Int) == (v1 : Int)) = false := beq_eq_false_iff_ne.2 (by omega)
          obtain ⟨i1, i3, i5, i7, i1', i3', i5', i7'⟩ := HI0.out
          have q1 : IntKind.i64.wrap ((j : Int) + (n : Int)) = (jn : Int) := kn_i64 q2 hb7
          have q3 : IntKind.i64.wrap ((jn : Int) - 1) = (p1 : Int) := kn_i64 q4 hb8
          have q5 : IntKind.i64.wrap ((jn : Int) - 2) = (p2 : Int) := kn_i64 q6 hb9
          have q1' : wrap64 ((j : Int) + (n : Int)) = (jn : Int) := kn_w64 q2 hb7
          have q3' : wrap64 ((jn : Int) - 1) = (p1 : Int) := kn_w64 q4 hb8
          have q5' : wrap64 ((jn : Int) - 2) = (p2 : Int) := kn_w64 q6 hb9
          clear q2 q4 q6
          have HQ := hide (And.intro hb7 (And.intro hb8 hb9))
          clear hb7 hb8 hb9 hx hk ht hll hN hW HR0 hj hjm hjn hp1 hp2 hNN huL k1 k2 k3 k4 k5 k6 k7 ht' hu1 hu2 hv2 hu1l hu2l hv2l hUV hnorm hv1l htv htl
          go_wp2_with fail
          refine (ConD.out _).mono ?_
          rintro e3 w3 ⟨q0, rr, rfl, hqr, hb3⟩
          have HQ0 := hide (And.intro q1 (And.intro q3 (And.intro q5 (And.intro q1' (And.intro q3' q5')))))
          clear i1 i3 i5 i7 i1' i3' i5' i7' q1 q3 q5 q1' q3' q5' ConD htb htb2 htb3
          have HW3 := hide (HX.out.2.below hb3)
          have v2c : w3.cell? ⟨gv, n2, none⟩ = some (.int .u64 (v2 : Int)) := by rw [HJ.out.2.2.2.2.2.1]; exact HW3.out.vcell (by rw [HV.out.2.2.2.2.1]; exact j2)
          have u2c : w3.cell? ⟨gu, p2, none⟩ = some (.int .u64 (u2 : Int)) := by rw [HJ.out.2.2.2.2.1]; exact HW3.out.ucell (by rw [HJ.out.2.2.2.2.2.2.1]; exact r2)
          have hT : t < v1 := HTl.out
          have hq0 : q0 < 18446744073709551616 := by
            rw [hqr.out.1, Nat.div_lt_iff_lt_mul (by omega)]
            have h1 : (t + 1) * 18446744073709551616 ≤ v1 * 18446744073709551616 := Nat.mul_le_mul_right _ hT
            have h2 := HK.out.2.2.2.2.2.2.1
            have e : 18446744073709551616 * v1 = v1 * 18446744073709551616 := Nat.mul_comm _ _
            omega
          have hv2l := HK.out.2.2.2.2.2.2.2.2.1
          have ConW := hide (mulWW_any q0 v2 hq0 hv2l w3)
          have hI0 : ∀ x1 x2, x1 = q0 * v2 / 18446744073709551616 ∧ x2 = q0 * v2 % 18446744073709551616 → KnI t u1 u2 v1 v2 q0 rr x1 x2 := by
            rintro x1 x2 ⟨rfl, rfl⟩
            have hv1l := HV.out.2.2.2.2.2.2.1
            have hm := Nat.mod_lt (t * 18446744073709551616 + u1) (show v1 > 0 by omega)
            refine ⟨?_, by rw [hqr.out.2]; omega, hq0, ?_, Nat.mod_lt _ (by omega), ?_, kn_first rfl rfl HK.out.2.2.2.2.2.2.2.1 (by omega) hqr.out.1, fun h => by rw [hqr.out.1]; exact Nat.div_eq_of_lt h⟩
            · rw [hqr.out.1, hqr.out.2, Nat.mul_comm]; exact Nat.div_add_mod _ _
            · rw [Nat.mul_comm]; exact Nat.div_add_mod _ _
            · rw [Nat.div_lt_iff_lt_mul (by omega)]
              exact Nat.mul_lt_mul'' hq0 hv2l
          have HI := hide hI0
          clear hq0 hv2l hI0 hb3 hT hqr
          obtain ⟨i1, i3, i5, i7, i1', i3', i5', i7'⟩ := HI0.out
          obtain ⟨q1, q3, q5, q1', q3', q5'⟩ := HQ0.out
          go_wp2_with fail
          refine (ConW.out).mono ?_
          rintro e4 w4 ⟨x1, x2, rfl, hx12, rfl⟩
          have HI1 := hide (HI.out x1 x2 hx12.out)
          clear hx12 HI ConW
          go_wp2_with fail
          clear i1 i3 i5 i7 i1' i3' i5' i7' q1 q3 q5 q1' q3' q5' v2c u2c
          go_loopw [15, 16, 18, 19] (fun a15 a16 a18 a19 wr2 => ∃ q r y1 y2 : Nat, a15 = .int .u64 (q : Int) ∧ a16 = .int .u64 (r : Int) ∧ a18 = .int .u64 (y1 : Int) ∧ a19 = .int .u64 (y2 : Int) ∧ w4 = wr2 ∧ Hid (KnI t u1 u2 v1 v2 q r y1 y2)) (fun a15 _ _ _ _ => (intOf a15).toNat)
          case atStart => exact ⟨q0, rr, x1, x2, rfl, rfl, rfl, rfl, by first | rfl | trivial, HI1⟩
          case round =>
            clear HI1
            obtain ⟨q, r, y1, y2, rfl, rfl, rfl, rfl, rfl, HI⟩ := hrel
            have con := gt_any y1 y2 r u2 HI.out.fx2 HK.out.2.2.2.2.2.2.2.1 w4
            rw [HI.out.fx] at con
            have hcond := hide (kn_cond (B := 18446744073709551616) (V2 := v1 * 18446744073709551616 + v2) (U3 := (t * 18446744073709551616 + u1) * 18446744073709551616 + u2) (qh := q) (r := r) rfl rfl HI.out.fe)
            by_cases hc : r * 18446744073709551616 + u2 < q * v2
            · rw [decide_eq_true hc] at con
              have HFZ := hide HI.out.fz
              have hq1 : 0 < q := by
                rcases Nat.eq_zero_or_pos q with h | h
                · subst h; omega
                · exact h
              obtain ⟨q', hq'⟩ : ∃ i, q = i + 1 := ⟨q - 1, by omega⟩
              have hx := HI.out.fx
              have hlo : (t * 18446744073709551616 + u1) * 18446744073709551616 + u2 < (q' + 1) * (v1 * 18446744073709551616 + v2) := by rw [← hq']; exact hcond.out.1 hc
              have HLO := hide hlo
              clear hlo
              have he := HI.out.fe
              have hm1 : q * v1 = q' * v1 + v1 := by rw [hq', Nat.add_mul, Nat.one_mul]
              have hm2 : q * v2 = q' * v2 + v2 := by rw [hq', Nat.add_mul, Nat.one_mul]
              have hrl := HI.out.fr
              have hql := HI.out.fq
              have hv1l := HV.out.2.2.2.2.2.2.1
              have hv2l := HK.out.2.2.2.2.2.2.2.2.1
              have hy2 := HI.out.fx2
              have hy1 := HI.out.fx1
              by_cases hr : r + v1 < 18446744073709551616
              · obtain ⟨r', hr'⟩ : ∃ i, i = r + v1 := ⟨_, rfl⟩
                have hn1 : ¬ r' < v1 := by omega
                have hn2' : decide (r' < v1) = false := decide_eq_false hn1
                have hn3 : decide ((r' : Int) < (v1 : Int)) = false := decide_eq_false (by omega)
                by_cases hy : y2 < v2
                · obtain ⟨z1, hz1⟩ : ∃ i, y1 = i + 1 := ⟨y1 - 1, by omega⟩
                  obtain ⟨z2, hz2⟩ : ∃ i, i = y2 + 18446744073709551616 - v2 := ⟨_, rfl⟩
                  have HN2 : Hid (KnI t u1 u2 v1 v2 q' r' z1 z2) := ⟨by omega, by omega, by omega, kn_x1 hx hm2 hz1 hz2 hv2l, by omega, by omega, HLO.out, fun h => absurd (HFZ.out h) (by omega)⟩
                  have HM2 : Hid (q' < q) := (by show q' < q; omega)
                  have Con := hide con
                  have hqm : ((q : Int) - 1) % 18446744073709551616 = (q' : Int) := by omega
                  have hrm : ((r : Int) + (v1 : Int)) % 18446744073709551616 = (r' : Int) := by omega
                  have hwm1 : ((y1 : Int) - 1) % 18446744073709551616 = (z1 : Int) := by omega
                  have hwm2 : ((y2 : Int) - (v2 : Int)) % 18446744073709551616 = (z2 : Int) := by omega
                  have hqq : IntKind.u64.wrap ((q : Int) - 1) = (q' : Int) := kn_u64 hqm
                  have hrr : IntKind.u64.wrap ((r : Int) + (v1 : Int)) = (r' : Int) := kn_u64 hrm
                  have hw1 : IntKind.u64.wrap ((y1 : Int) - 1) = (z1 : Int) := kn_u64 hwm1
                  have hw2 : IntKind.u64.wrap ((y2 : Int) - (v2 : Int)) = (z2 : Int) := kn_u64 hwm2
                  clear con hcond hc hq1 hq' hx HLO he hm1 hm2 hrl hql hv1l hv2l hy2 hy1 hr hr' hz1 hz2 HI hqm hrm hwm1 hwm2
                  go_wp2_with fail
                  refine (Con.out).mono ?_
                  rintro e5 w5 ⟨rfl, rfl⟩
                  clear Con
                  go_wp2
                  go_roundw
                  case rel => exact ⟨q', r', z1, z2, rfl, rfl, rfl, rfl, by first | rfl | trivial, HN2⟩
                  case measure => simp [intOf]; exact HM2.out
                · obtain ⟨z2, hz2⟩ : ∃ i, i = y2 - v2 := ⟨_, rfl⟩
                  have HN2 : Hid (KnI t u1 u2 v1 v2 q' r' y1 z2) := ⟨by omega, by omega, by omega, by omega, by omega, by omega, HLO.out, fun h => absurd (HFZ.out h) (by omega)⟩
                  have HM2 : Hid (q' < q) := (by show q' < q; omega)
                  have Con := hide con
                  have hqm : ((q : Int) - 1) % 18446744073709551616 = (q' : Int) := by omega
                  have hrm : ((r : Int) + (v1 : Int)) % 18446744073709551616 = (r' : Int) := by omega
                  have hwm2 : ((y2 : Int) - (v2 : Int)) % 18446744073709551616 = (z2 : Int) := by omega
                  have hqq : IntKind.u64.wrap ((q : Int) - 1) = (q' : Int) := kn_u64 hqm
                  have hrr : IntKind.u64.wrap ((r : Int) + (v1 : Int)) = (r' : Int) := kn_u64 hrm
                  have hw2 : IntKind.u64.wrap ((y2 : Int) - (v2 : Int)) = (z2 : Int) := kn_u64 hwm2
                  clear con hcond hc hq1 hq' hx HLO he hm1 hm2 hrl hql hv1l hv2l hy2 hy1 hr hr' hz2 HI hqm hrm hwm2
                  go_wp2_with fail
                  refine (Con.out).mono ?_
                  rintro e5 w5 ⟨rfl, rfl⟩
                  clear Con
                  go_wp2
                  go_roundw
                  case rel => exact ⟨q', r', y1, z2, rfl, rfl, rfl, rfl, by first | rfl | trivial, HN2⟩
                  case measure => simp [intOf]; exact HM2.out
              · obtain ⟨r', hr'⟩ : ∃ i, i = r + v1 - 18446744073709551616 := ⟨_, rfl⟩
                have hn1 : r' < v1 := by omega
                have hn2' : decide (r' < v1) = true := decide_eq_true hn1
                have hn3 : decide ((r' : Int) < (v1 : Int)) = true := decide_eq_true (by omega)
                have HG : Hid (KnG (dval 18446744073709551616 (us.drop j)) (dval 18446744073709551616 vs) q') := by
                  have hbr := kn_break (B := 18446744073709551616) (V2 := v1 * 18446744073709551616 + v2) (U3 := (t * 18446744073709551616 + u1) * 18446744073709551616 + u2) (qh := q') (r := r + v1) (u2 := u2) (T := t * 18446744073709551616 + u1) rfl rfl (by omega) (by omega) (by omega) hv2l
                  refine ⟨by omega, kn_lo (by rw [HK.out.1]; omega) HK.out.2.2.2.2.1 HLO.out, kn_hi HK.out.1 HK.out.2.1 HK.out.2.2.1 HK.out.2.2.2.1 (by omega) hbr⟩
                have HGN : Hid (¬ (t * 18446744073709551616 + u1 < v1)) := fun h => absurd (HFZ.out h) (by omega)
                have Con := hide con
                have hqm : ((q : Int) - 1) % 18446744073709551616 = (q' : Int) := by omega
                have hrm : ((r : Int) + (v1 : Int)) % 18446744073709551616 = (r' : Int) := by omega
                have hqq : IntKind.u64.wrap ((q : Int) - 1) = (q' : Int) := kn_u64 hqm
                have hrr : IntKind.u64.wrap ((r : Int) + (v1 : Int)) = (r' : Int) := kn_u64 hrm
                clear con hcond hc hq1 hq' hx HLO he hm1 hm2 hrl hql hv1l hv2l hy2 hy1 hr hr' HI hqm hrm
                go_wp2_with fail
                refine (Con.out).mono ?_
                rintro e5 w5 ⟨rfl, rfl⟩
                clear Con
                go_upto_region 24 with fail
                clear hqq hrr hn1 hn2' hn3
                rcases Nat.lt_or_ge j m with hjlt | hjge
                · have HJL := hide hjlt
                  have hJL := hjlt
                  clear hjlt
                  have hNN := HN.out
                  have hJJ := HJ.out
                  obtain ⟨jh, hjh⟩ : ∃ i, i = j + nh := ⟨_, rfl⟩
                  have s1 : (j : Int) + (nh : Int) = (jh : Int) := by omega
                  have s2 : -1000000 ≤ (jh : Int) ∧ (jh : Int) ≤ 1000000 := by omega
                  have s3 : jh ≤ L := by omega
                  have s4 : ¬ L < jh := by omega
                  have s5 : j ≤ jh := by omega
                  have s6 : jh ≤ cu := by omega
                  have s7 : jh - j = nh := by omega
                  have s8 : n < nh := by omega
                  have s9 : n ≤ nh := by omega
                  have s10 : n ≤ ch := by omega
                  have ConM := hide (HW3.out.mav HA.out HV.out.2.2.2.2.1 HV.out.2.2.2.2.2.1 (by omega) (by omega) ch q' s10 HG.out.1)
                  have HJH := hide (And.intro hjh (And.intro s1 s2))
                  have HS := hide (And.intro s3 (And.intro s4 (And.intro s5 (And.intro s6 (And.intro s7 (And.intro s8 s9))))))
                  clear hNN hJJ hJL hjh s1 s2 s3 s4 s5 s6 s7 s8 s9
                  go_wp2_with fail
                  refine (ConM.out).mono ?_
                  rintro e6 w6 ⟨cc, rfl, hcc, hW6⟩
                  clear ConM
                  have hhl := HJ.out.2.2.2.2.2.2.2
                  have hnh := HN.out.1
                  obtain ⟨pp, hpp⟩ : ∃ p, p = (amul 18446744073709551616 q' (List.replicate n 0) vs 0).1 := ⟨_, rfl⟩
                  have hpl : pp.length = n := by rw [hpp, amul_length _ _ _ (by simp; exact HV.out.2.2.2.2.1.symm)]; exact HV.out.2.2.2.2.1
                  obtain ⟨z, hz⟩ := List.length_eq_one_iff.1 (show (hl.drop n).length = 1 by rw [List.length_drop]; omega)
                  rw [← hpp, hz] at hW6
                  obtain ⟨⟨uh, hch⟩, hfh, hW7⟩ := hW6.seth HA.out (.int .u64 (cc : Int)) (i := n) (by rw [List.length_append, wv_length]; simp; omega)
                  have hset : (wv pp ++ [z]).set n (.int .u64 (cc : Int)) = wv (pp ++ [cc]) := by
                    rw [wv_append, List.set_append_right _ _ (by rw [wv_length]; omega), wv_length, hpl, Nat.sub_self]; rfl
                  rw [hset] at hW7
                  obtain ⟨W7, hW7e⟩ : ∃ W, W = w6.setCell ⟨gh, oh + n, none⟩ (.int .u64 (cc : Int)) := ⟨_, rfl⟩
                  rw [← hW7e] at hW7
                  have hPV : dval 18446744073709551616 (pp ++ [cc]) = dval 18446744073709551616 vs * q' := by
                    have h1 := amul_val 18446744073709551616 q' (zs := List.replicate n 0) (xs := vs) 0 (by simp; exact HV.out.2.2.2.2.1.symm)
                    rw [← hpp, ← hcc.out, dval_replicate_zero, HV.out.2.2.2.2.1] at h1
                    rw [dval_append, hpl, dval_cons, dval_nil]
                    simpa using h1
                  have hPD : Dig 18446744073709551616 (pp ++ [cc]) := dig_append (by rw [hpp]; exact amul_dig (by omega) _) (by
                    intro d hd
                    rw [List.mem_singleton.1 hd, hcc.out]
                    exact amul_carry HG.out.1 _ (fun d hd => by rw [List.eq_of_mem_replicate hd]; omega) HV.out.2.2.2.2.2.1 (by omega))
                  have hPL : nh = (pp ++ [cc]).length := by rw [List.length_append, hpl]; simp; omega
                  have hchm := HCH.out
                  have ConS := hide (fun c1 c2 h1 h2 => hW7.drew.sub HA.out j nh c1 c2 ch (pp ++ [cc]) (rd_part (P := Ph) (S := Sh) hW7.drew.h HA.out.o hPL hnc hchm) hPL (by rw [HJ.out.2.2.2.2.2.2.1]; have := HS.out.1; have := HJH.out.1; have := HJL.out; omega) (by omega) h1 h2)
                  have vc7 : W7.cell? ⟨gv, n1, none⟩ = some (.int .u64 (v1 : Int)) := by rw [HV.out.1]; exact hW7.vcell (by rw [HV.out.2.2.2.2.1]; exact j1)
                  have HP := hide (And.intro hPV (And.intro hPD hPL))
                  have hcw : nh ≤ cu - j := by have := HS.out.2.2.2.1; have := HJH.out.1; omega
                  have HCW := hide hcw
                  have hcj : ¬ cu = j := by have := HN.out.1; omega
                  clear hhl hnh hpl hz hset hPV hPD hPL hcc hpp hW6 hW7 hchm hcw
                  obtain ⟨s3, s4, s5, s6, s7, s8, s9⟩ := HS.out
                  have t1 : IntKind.i64.wrap ((j : Int) + (nh : Int)) = (jh : Int) := kn_i64 HJH.out.2.1 HJH.out.2.2
                  have t2 : wrap64 ((j : Int) + (nh : Int)) = (jh : Int) := kn_w64 HJH.out.2.1 HJH.out.2.2
                  go_wp2_with fail
                  rw [← hW7e]
                  clear hW7e uh hch hfh
                  go_region_held3 (fun W => W.cell? ⟨gv, n1, none⟩ = some (.int .u64 (v1 : Int))) (first | exact vc7 | exact vc8 | go_keep)
                    (first | (go_at_call 203; go_loud (refine (ConS.out _ _ HCW.out HCW.out).mono ?_; rintro e8 w8 ⟨bb, rfl, hbb, hW8⟩; have vc8 : w8.cell? ⟨gv, n1, none⟩ = some (.int .u64 (v1 : Int)) := (by rw [HV.out.1]; exact hW8.vcell (by rw [HV.out.2.2.2.2.1]; exact j1)); clear vc7)))
                  clear ConS
                  clear s3 s4 s5 s6 s7 s8 s9 t1 t2
                  have hnh := HN.out.1
                  have hjm := HJL.out
                  rw [hnh] at hW8 hbb
                  obtain ⟨f1, f2, f3, f4, f5⟩ := kn_sub HX.out.1 HV.out.2.2.2.2.1 HV.out.2.2.2.2.2.1 hjm (HP.out.2.2.symm.trans hnh) HP.out.2.1 HP.out.1
                  rw [← hbb.out] at f3 f4
                  obtain ⟨sd, hsd⟩ : ∃ sd, sd = (subL 18446744073709551616 ((us.drop j).take (n + 1)) (pp ++ [cc]) 0).1 := ⟨_, rfl⟩
                  rw [← hsd] at f1 f2 f4 f5 hW8
                  clear hbb hsd
                  have hul : us.length = m + n := HX.out.1.hu
                  have hjn := HJ.out.2.1
                  have hp1 := HJ.out.2.2.1
                  have hmN := HN.out.2.2.2.2.2
                  have hqa := HW.out.2.2.2.2.1
                  have hLe := HN.out.2.2.2.1
                  obtain ⟨y, hy⟩ : ∃ y : Int, y = (j : Int) - 1 := ⟨_, rfl⟩
                  have y1 : -1000000 ≤ y ∧ y ≤ 1000000 := by omega
                  by_cases hb0 : bb = 0
                  · rw [hb0, Nat.mul_zero, Nat.add_zero] at f4
                    subst hb0
                    have hN0 := kn_fin0 HX.out.1 HV.out.2.2.2.2.1 HV.out.2.2.2.2.2.1 hjm HV.out.2.2.2.2.2.2.2 HG.out f1 f2 f4
                    obtain ⟨us8, hus8⟩ : ∃ l, l = us.take j ++ sd ++ us.drop (j + n + 1) := ⟨_, rfl⟩
                    have hW8' : KnX wA gu gv gq gh oh n cv vs Su Sq Ph Sh qa (j + 1) (us.take j ++ sd ++ us.drop (j + n + 1)) qk (wv (pp ++ [cc])) w8 := hW8
                    rw [← hus8] at hN0 hW8'
                    obtain ⟨⟨uq, hqc⟩, hqf, hW9⟩ := hW8'.setq HA.out q' (by omega)
                    obtain ⟨t', ht'⟩ : ∃ t', t' = us8.getD p1 0 := ⟨_, rfl⟩
                    have x1c := hW8'.ucell (i := p1) (by rw [hN0.hu]; omega)
                    rw [← ht'] at x1c
                    have HE := hide (And.intro hy (And.intro (show j ≤ m + 1 by omega) (And.intro (show t' = us8.getD (j + n - 1) 0 by rw [ht', show j + n - 1 = p1 by omega]) (And.intro (show (wv (pp ++ [cc])).length = nh by rw [wv_length]; exact HP.out.2.2.symm) (And.intro (show j = m + 1 → us8 = us0 ∧ (q' :: qk) = [] from fun h => absurd h (by omega)) (And.intro hN0 hW9))))))
                    have z1 : ((j : Int) == (m : Int)) = false := beq_eq_false_iff_ne.2 (by omega)
                    have z2 : (j == m) = false := beq_eq_false_iff_ne.2 (by omega)
                    have z3 : ¬ j = m := by omega
                    have HM := hide (show (y + 1).toNat < ((j : Int) + 1).toNat by omega)
                    have hqj : j < m := hjm
                    clear hN0 hW8 hW8' hW9 hus8 ht' f1 f2 f3 f4 f5 hul hjn hp1 hmN hqa hLe hnh hjm
                    obtain ⟨q1, q3, q5, q1', q3', q5'⟩ := HQ0.out
                    have y2 : IntKind.i64.wrap ((j : Int) - 1) = y := kn_i64 hy.symm y1
                    have y3 : wrap64 ((j : Int) - 1) = y := kn_w64 hy.symm y1
                    clear hy y1
                    go_wp2
                    go_roundw
                    case rel => exact ⟨j, us8, _, _, t', y, rfl, rfl, HE.out⟩
                    case measure => exact HM.out
                  · have hb1 : bb = 1 := by omega
                    rw [hb1, Nat.mul_one] at f4
                    obtain ⟨us8, hus8⟩ : ∃ l, l = us.take j ++ sd ++ us.drop (j + (n + 1)) := ⟨_, rfl⟩
                    obtain ⟨l1, l2, l3⟩ := kn_l1 (us := us) (j := j) (n := n) (by omega) f1
                    rw [← hus8] at l1 l2 l3 hW8
                    have hu8l : us8.length = m + n := by rw [hus8]; simp only [List.length_append, List.length_take, List.length_drop, f1]; omega
                    have hu8d : Dig 18446744073709551616 us8 := by rw [hus8]; exact dig_append (dig_append (dig_take HX.out.1.du j) f2) (dig_drop HX.out.1.du _)
                    have ConA := hide (fun c1 c2 h1 h2 => hW8.drew.add HA.out HV.out.2.2.2.2.1 HV.out.2.2.2.2.2.1 hu8d j c1 c2 (by omega) (by omega) h1 h2)
                    have u1 : j ≤ jn := by omega
                    have u2' : jn ≤ cu := by omega
                    have u3 : jn - j = n := by omega
                    have hcw : n ≤ cu - j := by omega
                    have HCW2 := hide hcw
                    have z0 : ((bb : Int) != 0) = true := by rw [hb1]; rfl
                    have z0' : (bb != 0) = true := by rw [hb1]; rfl
                    have H8 := hide (And.intro f1 (And.intro f4 (And.intro f5 (And.intro l1 (And.intro l2 (And.intro l3 (And.intro hul (And.intro hjn (And.intro hp1 (And.intro hmN (And.intro hqa (And.intro hLe (And.intro hnh (And.intro hy y1))))))))))))))
                    have hbn : ¬ bb = 0 := hb0
                    clear f1 f2 f3 f4 f5 l1 l2 l3 hul hjn hp1 hmN hqa hLe hnh hy y1 hcw hb1 hu8l hu8d hW8 hus8 hjm hb0
                    obtain ⟨q1, q3, q5, q1', q3', q5'⟩ := HQ0.out
                    clear q3 q5 q3' q5'
                    go_wp2_with fail
                    go_region_held3 (fun W => W.cell? ⟨gv, n1, none⟩ = some (.int .u64 (v1 : Int))) (first | exact vc8 | exact vc9 | go_keep)
                      (first | (go_at_call 204; go_loud (refine (ConA.out _ _ HCW2.out HCW2.out).mono ?_; rintro e9 w9 ⟨c2, rfl, hc2, hW9⟩; have vc9 : w9.cell? ⟨gv, n1, none⟩ = some (.int .u64 (v1 : Int)) := (by rw [HV.out.1]; exact hW9.vcell (by rw [HV.out.2.2.2.2.1]; exact j1)); clear vc8)))
                    clear ConA vc9 q1 q1' u1 u2' u3
                    obtain ⟨f1, f4, f5, l1, l2, l3, hul, hjn, hp1, hmN, hqa, hLe, hnh, hy, y1⟩ := H8.out
                    have hvl := HV.out.2.2.2.2.1
                    rw [l1, l2, l3] at hW9
                    rw [l2] at hc2
                    obtain ⟨ad, had⟩ : ∃ ad, ad = (amul 18446744073709551616 1 (sd.take n) vs 0).1 := ⟨_, rfl⟩
                    have hzl : (sd.take n).length = vs.length := by rw [List.length_take, f1, hvl]; omega
                    have hal : ad.length = n := by rw [had, amul_length _ _ _ hzl]; exact hvl
                    have hadd : Dig 18446744073709551616 ad := by rw [had]; exact amul_dig (by omega) _
                    have hav : dval 18446744073709551616 ad + 18446744073709551616 ^ n * c2 = dval 18446744073709551616 (sd.take n) + dval 18446744073709551616 vs := by
                      have h := amul_val 18446744073709551616 1 (zs := sd.take n) (xs := vs) 0 hzl
                      rw [← had, ← hc2.out, hvl, Nat.mul_one, Nat.add_zero] at h
                      exact h
                    rw [← had] at hW9
                    obtain ⟨q9, hq9, hxc, hN1⟩ := kn_fin1 HX.out.1 hvl HV.out.2.2.2.2.2.1 HJL.out HV.out.2.2.2.2.2.2.2 HG.out f1 f4 f5 hal hadd hav
                    obtain ⟨xx, hxx⟩ : ∃ x, x = sd.getD n 0 := ⟨_, rfl⟩
                    rw [← hxx] at hW9 hxc
                    have hjm : j < m := HJL.out
                    obtain ⟨g1, g2⟩ := kn_l2 (us := us) (ad := ad) (tl := us.drop (j + (n + 1))) (j := j) (n := n) (x := xx) (by omega) hal
                    obtain ⟨us9, hus9⟩ : ∃ l, l = us.take j ++ ad ++ xx :: us.drop (j + (n + 1)) := ⟨_, rfl⟩
                    rw [← hus9] at g1 g2 hW9
                    have hu9l : us9.length = m + n := by rw [hus9]; simp only [List.length_append, List.length_take, List.length_drop, List.length_cons, hal]; omega
                    rw [← hjn] at g1 g2
                    have xc := hW9.ucell (i := jn) (by omega)
                    rw [g1] at xc
                    obtain ⟨hf9, hW10⟩ := hW9.setu HA.out 0 (i := jn) (by omega)
                    rw [g2] at hW10
                    have hN2 : KnN m n j us0 vs (us.take j ++ (ad ++ [0]) ++ us.drop (j + (n + 1))) (q9 :: qk) := hN1
                    obtain ⟨us10, hus10⟩ : ∃ l, l = us.take j ++ (ad ++ [0]) ++ us.drop (j + (n + 1)) := ⟨_, rfl⟩
                    rw [← hus10] at hW10 hN2
                    obtain ⟨W10, hW10e⟩ : ∃ W, W = w9.setCell ⟨gu, jn, none⟩ (.int .u64 ((0 : Nat) : Int)) := ⟨_, rfl⟩
                    rw [← hW10e] at hW10
                    obtain ⟨⟨uq, hqc⟩, hqf, hW11⟩ := hW10.setq HA.out q9 (by omega)
                    obtain ⟨t', ht'⟩ : ∃ t', t' = us10.getD p1 0 := ⟨_, rfl⟩
                    have x1c := hW10.ucell (i := p1) (by rw [hN2.hu]; omega)
                    rw [← ht'] at x1c
                    have HE := hide (And.intro hy (And.intro (show j ≤ m + 1 by omega) (And.intro (show t' = us10.getD (j + n - 1) 0 by rw [ht', show j + n - 1 = p1 by omega]) (And.intro (show (wv (pp ++ [cc])).length = nh by rw [wv_length]; exact HP.out.2.2.symm) (And.intro (show j = m + 1 → us10 = us0 ∧ (q9 :: qk) = [] from fun h => absurd h (by omega)) (And.intro hN2 hW11))))))
                    have z1 : ((j : Int) == (m : Int)) = false := beq_eq_false_iff_ne.2 (by omega)
                    have z2 : (j == m) = false := beq_eq_false_iff_ne.2 (by omega)
                    have z3 : ¬ j = m := by omega
                    have HM := hide (show (y + 1).toNat < ((j : Int) + 1).toNat by omega)
                    have hjL : jn < L := by omega
                    have hnn : n < nh := by omega
                    have hwx0 : ((xx : Int) + (c2 : Int)) % 18446744073709551616 = ((0 : Nat) : Int) := by omega
                    have hqx0 : ((q' : Int) - 1) % 18446744073709551616 = (q9 : Int) := by have := HG.out.1; omega
                    rw [show ((0 : Nat) : Int) = 0 from rfl] at hW10e
                    clear f1 f4 f5 l1 l2 l3 hul hjn hp1 hmN hqa hLe hnh hvl had hzl hal hadd hav hq9 hxc hN1 hxx g1 g2 hus9 hu9l hW9 hW10 hN2 hus10 hW11 ht' hc2
                    obtain ⟨q1, q3, q5, q1', q3', q5'⟩ := HQ0.out
                    have hwx : IntKind.u64.wrap ((xx : Int) + (c2 : Int)) = 0 := kn_u64 (y := 0) hwx0
                    have hqx : IntKind.u64.wrap ((q' : Int) - 1) = (q9 : Int) := kn_u64 hqx0
                    have y2 : IntKind.i64.wrap ((j : Int) - 1) = y := kn_i64 hy.symm y1
                    have y3 : wrap64 ((j : Int) - 1) = y := kn_w64 hy.symm y1
                    clear hy y1 hwx0 hqx0
                    go_upto_region 33 with fail
                    rw [← hW10e]
                    clear hW10e xc hf9
                    go_wp2
                    go_roundw
                    case rel => exact ⟨j, us10, _, _, t', y, rfl, rfl, HE.out⟩
                    case measure => exact HM.out
                · exfalso
                  have hjme : j = m := by have := HJ.out.1; omega
                  subst hjme
                  have hst := HST.out rfl
                  have ht0 : t = 0 := by
                    rw [HTU.out.1, List.getD_eq_getElem?_getD, List.getElem?_eq_none (by rw [HX.out.1.hu]; omega)]; rfl
                  refine HGN.out ?_
                  have e1 : u1 = us.getD p1 0 := HTU.out.2
                  have e2 := HV.out.2.2.1
                  rw [ht0, e1, hst.1, show p1 = j + n - 1 by have := HJ.out.2.1; have := HJ.out.2.2.1; omega]
                  omega
            · rw [decide_eq_false hc] at con
              have HG : Hid (KnG (dval 18446744073709551616 (us.drop j)) (dval 18446744073709551616 vs) q) := by
                refine ⟨HI.out.fq, kn_lo (by rw [HK.out.1]; omega) HK.out.2.2.2.2.1 HI.out.hi, kn_hi HK.out.1 HK.out.2.1 HK.out.2.2.1 HK.out.2.2.2.1 (by have := HI.out.fq; omega) (by exact Nat.le_of_not_lt (fun h => hc (hcond.out.2 h)))⟩
              have HGZ := hide HI.out.fz
              have Con := hide con
              clear con hcond hc HI
              go_wp2_with fail
              refine (Con.out).mono ?_
              rintro e5 w5 ⟨rfl, rfl⟩
              clear Con
              rcases Nat.lt_or_ge j m with hjlt | hjge
              · have HJL := hide hjlt
                have hJL := hjlt
                clear hjlt
                have hNN := HN.out
                have hJJ := HJ.out
                obtain ⟨jh, hjh⟩ : ∃ i, i = j + nh := ⟨_, rfl⟩
                have s1 : (j : Int) + (nh : Int) = (jh : Int) := by omega
                have s2 : -1000000 ≤ (jh : Int) ∧ (jh : Int) ≤ 1000000 := by omega
                have s3 : jh ≤ L := by omega
                have s4 : ¬ L < jh := by omega
                have s5 : j ≤ jh := by omega
                have s6 : jh ≤ cu := by omega
                have s7 : jh - j = nh := by omega
                have s8 : n < nh := by omega
                have s9 : n ≤ nh := by omega
                have s10 : n ≤ ch := by omega
                have ConM := hide (HW3.out.mav HA.out HV.out.2.2.2.2.1 HV.out.2.2.2.2.2.1 (by omega) (by omega) ch q s10 HG.out.1)
                have HJH := hide (And.intro hjh (And.intro s1 s2))
                have HS := hide (And.intro s3 (And.intro s4 (And.intro s5 (And.intro s6 (And.intro s7 (And.intro s8 s9))))))
                clear hNN hJJ hJL hjh s1 s2 s3 s4 s5 s6 s7 s8 s9
                go_wp2_with fail
                refine (ConM.out).mono ?_
                rintro e6 w6 ⟨cc, rfl, hcc, hW6⟩
                clear ConM
                have hhl := HJ.out.2.2.2.2.2.2.2
                have hnh := HN.out.1
                obtain ⟨pp, hpp⟩ : ∃ p, p = (amul 18446744073709551616 q (List.replicate n 0) vs 0).1 := ⟨_, rfl⟩
                have hpl : pp.length = n := by rw [hpp, amul_length _ _ _ (by simp; exact HV.out.2.2.2.2.1.symm)]; exact HV.out.2.2.2.2.1
                obtain ⟨z, hz⟩ := List.length_eq_one_iff.1 (show (hl.drop n).length = 1 by rw [List.length_drop]; omega)
                rw [← hpp, hz] at hW6
                obtain ⟨⟨uh, hch⟩, hfh, hW7⟩ := hW6.seth HA.out (.int .u64 (cc : Int)) (i := n) (by rw [List.length_append, wv_length]; simp; omega)
                have hset : (wv pp ++ [z]).set n (.int .u64 (cc : Int)) = wv (pp ++ [cc]) := by
                  rw [wv_append, List.set_append_right _ _ (by rw [wv_length]; omega), wv_length, hpl, Nat.sub_self]; rfl
                rw [hset] at hW7
                obtain ⟨W7, hW7e⟩ : ∃ W, W = w6.setCell ⟨gh, oh + n, none⟩ (.int .u64 (cc : Int)) := ⟨_, rfl⟩
                rw [← hW7e] at hW7
                have hPV : dval 18446744073709551616 (pp ++ [cc]) = dval 18446744073709551616 vs * q := by
                  have h1 := amul_val 18446744073709551616 q (zs := List.replicate n 0) (xs := vs) 0 (by simp; exact HV.out.2.2.2.2.1.symm)
                  rw [← hpp, ← hcc.out, dval_replicate_zero, HV.out.2.2.2.2.1] at h1
                  rw [dval_append, hpl, dval_cons, dval_nil]
                  simpa using h1
                have hPD : Dig 18446744073709551616 (pp ++ [cc]) := dig_append (by rw [hpp]; exact amul_dig (by omega) _) (by
                  intro d hd
                  rw [List.mem_singleton.1 hd, hcc.out]
                  exact amul_carry HG.out.1 _ (fun d hd => by rw [List.eq_of_mem_replicate hd]; omega) HV.out.2.2.2.2.2.1 (by omega))
                have hPL : nh = (pp ++ [cc]).length := by rw [List.length_append, hpl]; simp; omega
                have hchm := HCH.out
                have ConS := hide (fun c1 c2 h1 h2 => hW7.drew.sub HA.out j nh c1 c2 ch (pp ++ [cc]) (rd_part (P := Ph) (S := Sh) hW7.drew.h HA.out.o hPL hnc hchm) hPL (by rw [HJ.out.2.2.2.2.2.2.1]; have := HS.out.1; have := HJH.out.1; have := HJL.out; omega) (by omega) h1 h2)
                have vc7 : W7.cell? ⟨gv, n1, none⟩ = some (.int .u64 (v1 : Int)) := by rw [HV.out.1]; exact hW7.vcell (by rw [HV.out.2.2.2.2.1]; exact j1)
                have HP := hide (And.intro hPV (And.intro hPD hPL))
                have hcw : nh ≤ cu - j := by have := HS.out.2.2.2.1; have := HJH.out.1; omega
                have HCW := hide hcw
                have hcj : ¬ cu = j := by have := HN.out.1; omega
                clear hhl hnh hpl hz hset hPV hPD hPL hcc hpp hW6 hW7 hchm hcw
                obtain ⟨s3, s4, s5, s6, s7, s8, s9⟩ := HS.out
                have t1 : IntKind.i64.wrap ((j : Int) + (nh : Int)) = (jh : Int) := kn_i64 HJH.out.2.1 HJH.out.2.2
                have t2 : wrap64 ((j : Int) + (nh : Int)) = (jh : Int) := kn_w64 HJH.out.2.1 HJH.out.2.2
                go_wp2_with fail
                rw [← hW7e]
                clear hW7e uh hch hfh
                go_region_held3 (fun W => W.cell? ⟨gv, n1, none⟩ = some (.int .u64 (v1 : Int))) (first | exact vc7 | exact vc8 | go_keep)
                  (first | (go_at_call 203; go_loud (refine (ConS.out _ _ HCW.out HCW.out).mono ?_; rintro e8 w8 ⟨bb, rfl, hbb, hW8⟩; have vc8 : w8.cell? ⟨gv, n1, none⟩ = some (.int .u64 (v1 : Int)) := (by rw [HV.out.1]; exact hW8.vcell (by rw [HV.out.2.2.2.2.1]; exact j1)); clear vc7)))
                clear ConS
                clear s3 s4 s5 s6 s7 s8 s9 t1 t2
                have hnh := HN.out.1
                have hjm := HJL.out
                rw [hnh] at hW8 hbb
                obtain ⟨f1, f2, f3, f4, f5⟩ := kn_sub HX.out.1 HV.out.2.2.2.2.1 HV.out.2.2.2.2.2.1 hjm (HP.out.2.2.symm.trans hnh) HP.out.2.1 HP.out.1
                rw [← hbb.out] at f3 f4
                obtain ⟨sd, hsd⟩ : ∃ sd, sd = (subL 18446744073709551616 ((us.drop j).take (n + 1)) (pp ++ [cc]) 0).1 := ⟨_, rfl⟩
                rw [← hsd] at f1 f2 f4 f5 hW8
                clear hbb hsd
                have hul : us.length = m + n := HX.out.1.hu
                have hjn := HJ.out.2.1
                have hp1 := HJ.out.2.2.1
                have hmN := HN.out.2.2.2.2.2
                have hqa := HW.out.2.2.2.2.1
                have hLe := HN.out.2.2.2.1
                obtain ⟨y, hy⟩ : ∃ y : Int, y = (j : Int) - 1 := ⟨_, rfl⟩
                have y1 : -1000000 ≤ y ∧ y ≤ 1000000 := by omega
                by_cases hb0 : bb = 0
                · rw [hb0, Nat.mul_zero, Nat.add_zero] at f4
                  subst hb0
                  have hN0 := kn_fin0 HX.out.1 HV.out.2.2.2.2.1 HV.out.2.2.2.2.2.1 hjm HV.out.2.2.2.2.2.2.2 HG.out f1 f2 f4
                  obtain ⟨us8, hus8⟩ : ∃ l, l = us.take j ++ sd ++ us.drop (j + n + 1) := ⟨_, rfl⟩
                  have hW8' : KnX wA gu gv gq gh oh n cv vs Su Sq Ph Sh qa (j + 1) (us.take j ++ sd ++ us.drop (j + n + 1)) qk (wv (pp ++ [cc])) w8 := hW8
                  rw [← hus8] at hN0 hW8'
                  obtain ⟨⟨uq, hqc⟩, hqf, hW9⟩ := hW8'.setq HA.out q (by omega)
                  obtain ⟨t', ht'⟩ : ∃ t', t' = us8.getD p1 0 := ⟨_, rfl⟩
                  have x1c := hW8'.ucell (i := p1) (by rw [hN0.hu]; omega)
                  rw [← ht'] at x1c
                  have HE := hide (And.intro hy (And.intro (show j ≤ m + 1 by omega) (And.intro (show t' = us8.getD (j + n - 1) 0 by rw [ht', show j + n - 1 = p1 by omega]) (And.intro (show (wv (pp ++ [cc])).length = nh by rw [wv_length]; exact HP.out.2.2.symm) (And.intro (show j = m + 1 → us8 = us0 ∧ (q :: qk) = [] from fun h => absurd h (by omega)) (And.intro hN0 hW9))))))
                  have z1 : ((j : Int) == (m : Int)) = false := beq_eq_false_iff_ne.2 (by omega)
                  have z2 : (j == m) = false := beq_eq_false_iff_ne.2 (by omega)
                  have z3 : ¬ j = m := by omega
                  have HM := hide (show (y + 1).toNat < ((j : Int) + 1).toNat by omega)
                  have hqj : j < m := hjm
                  clear hN0 hW8 hW8' hW9 hus8 ht' f1 f2 f3 f4 f5 hul hjn hp1 hmN hqa hLe hnh hjm
                  obtain ⟨q1, q3, q5, q1', q3', q5'⟩ := HQ0.out
                  have y2 : IntKind.i64.wrap ((j : Int) - 1) = y := kn_i64 hy.symm y1
                  have y3 : wrap64 ((j : Int) - 1) = y := kn_w64 hy.symm y1
                  clear hy y1
                  go_wp2
                  go_roundw
                  case rel => exact ⟨j, us8, _, _, t', y, rfl, rfl, HE.out⟩
                  case measure => exact HM.out
                · have hb1 : bb = 1 := by omega
                  rw [hb1, Nat.mul_one] at f4
                  obtain ⟨us8, hus8⟩ : ∃ l, l = us.take j ++ sd ++ us.drop (j + (n + 1)) := ⟨_, rfl⟩
                  obtain ⟨l1, l2, l3⟩ := kn_l1 (us := us) (j := j) (n := n) (by omega) f1
                  rw [← hus8] at l1 l2 l3 hW8
                  have hu8l : us8.length = m + n := by rw [hus8]; simp only [List.length_append, List.length_take, List.length_drop, f1]; omega
                  have hu8d : Dig 18446744073709551616 us8 := by rw [hus8]; exact dig_append (dig_append (dig_take HX.out.1.du j) f2) (dig_drop HX.out.1.du _)
                  have ConA := hide (fun c1 c2 h1 h2 => hW8.drew.add HA.out HV.out.2.2.2.2.1 HV.out.2.2.2.2.2.1 hu8d j c1 c2 (by omega) (by omega) h1 h2)
                  have u1 : j ≤ jn := by omega
                  have u2' : jn ≤ cu := by omega
                  have u3 : jn - j = n := by omega
                  have hcw : n ≤ cu - j := by omega
                  have HCW2 := hide hcw
                  have z0 : ((bb : Int) != 0) = true := by rw [hb1]; rfl
                  have z0' : (bb != 0) = true := by rw [hb1]; rfl
                  have H8 := hide (And.intro f1 (And.intro f4 (And.intro f5 (And.intro l1 (And.intro l2 (And.intro l3 (And.intro hul (And.intro hjn (And.intro hp1 (And.intro hmN (And.intro hqa (And.intro hLe (And.intro hnh (And.intro hy y1))))))))))))))
                  have hbn : ¬ bb = 0 := hb0
                  clear f1 f2 f3 f4 f5 l1 l2 l3 hul hjn hp1 hmN hqa hLe hnh hy y1 hcw hb1 hu8l hu8d hW8 hus8 hjm hb0
                  obtain ⟨q1, q3, q5, q1', q3', q5'⟩ := HQ0.out
                  clear q3 q5 q3' q5'
                  go_wp2_with fail
                  go_region_held3 (fun W => W.cell? ⟨gv, n1, none⟩ = some (.int .u64 (v1 : Int))) (first | exact vc8 | exact vc9 | go_keep)
                    (first | (go_at_call 204; go_loud (refine (ConA.out _ _ HCW2.out HCW2.out).mono ?_; rintro e9 w9 ⟨c2, rfl, hc2, hW9⟩; have vc9 : w9.cell? ⟨gv, n1, none⟩ = some (.int .u64 (v1 : Int)) := (by rw [HV.out.1]; exact hW9.vcell (by rw [HV.out.2.2.2.2.1]; exact j1)); clear vc8)))
                  clear ConA vc9 q1 q1' u1 u2' u3
                  obtain ⟨f1, f4, f5, l1, l2, l3, hul, hjn, hp1, hmN, hqa, hLe, hnh, hy, y1⟩ := H8.out
                  have hvl := HV.out.2.2.2.2.1
                  rw [l1, l2, l3] at hW9
                  rw [l2] at hc2
                  obtain ⟨ad, had⟩ : ∃ ad, ad = (amul 18446744073709551616 1 (sd.take n) vs 0).1 := ⟨_, rfl⟩
                  have hzl : (sd.take n).length = vs.length := by rw [List.length_take, f1, hvl]; omega
                  have hal : ad.length = n := by rw [had, amul_length _ _ _ hzl]; exact hvl
                  have hadd : Dig 18446744073709551616 ad := by rw [had]; exact amul_dig (by omega) _
                  have hav : dval 18446744073709551616 ad + 18446744073709551616 ^ n * c2 = dval 18446744073709551616 (sd.take n) + dval 18446744073709551616 vs := by
                    have h := amul_val 18446744073709551616 1 (zs := sd.take n) (xs := vs) 0 hzl
                    rw [← had, ← hc2.out, hvl, Nat.mul_one, Nat.add_zero] at h
                    exact h
                  rw [← had] at hW9
                  obtain ⟨q9, hq9, hxc, hN1⟩ := kn_fin1 HX.out.1 hvl HV.out.2.2.2.2.2.1 HJL.out HV.out.2.2.2.2.2.2.2 HG.out f1 f4 f5 hal hadd hav
                  obtain ⟨xx, hxx⟩ : ∃ x, x = sd.getD n 0 := ⟨_, rfl⟩
                  rw [← hxx] at hW9 hxc
                  have hjm : j < m := HJL.out
                  obtain ⟨g1, g2⟩ := kn_l2 (us := us) (ad := ad) (tl := us.drop (j + (n + 1))) (j := j) (n := n) (x := xx) (by omega) hal
                  obtain ⟨us9, hus9⟩ : ∃ l, l = us.take j ++ ad ++ xx :: us.drop (j + (n + 1)) := ⟨_, rfl⟩
                  rw [← hus9] at g1 g2 hW9
                  have hu9l : us9.length = m + n := by rw [hus9]; simp only [List.length_append, List.length_take, List.length_drop, List.length_cons, hal]; omega
                  rw [← hjn] at g1 g2
                  have xc := hW9.ucell (i := jn) (by omega)
                  rw [g1] at xc
                  obtain ⟨hf9, hW10⟩ := hW9.setu HA.out 0 (i := jn) (by omega)
                  rw [g2] at hW10
                  have hN2 : KnN m n j us0 vs (us.take j ++ (ad ++ [0]) ++ us.drop (j + (n + 1))) (q9 :: qk) := hN1
                  obtain ⟨us10, hus10⟩ : ∃ l, l = us.take j ++ (ad ++ [0]) ++ us.drop (j + (n + 1)) := ⟨_, rfl⟩
                  rw [← hus10] at hW10 hN2
                  obtain ⟨W10, hW10e⟩ : ∃ W, W = w9.setCell ⟨gu, jn, none⟩ (.int .u64 ((0 : Nat) : Int)) := ⟨_, rfl⟩
                  rw [← hW10e] at hW10
                  obtain ⟨⟨uq, hqc⟩, hqf, hW11⟩ := hW10.setq HA.out q9 (by omega)
                  obtain ⟨t', ht'⟩ : ∃ t', t' = us10.getD p1 0 := ⟨_, rfl⟩
                  have x1c := hW10.ucell (i := p1) (by rw [hN2.hu]; omega)
                  rw [← ht'] at x1c
                  have HE := hide (And.intro hy (And.intro (show j ≤ m + 1 by omega) (And.intro (show t' = us10.getD (j + n - 1) 0 by rw [ht', show j + n - 1 = p1 by omega]) (And.intro (show (wv (pp ++ [cc])).length = nh by rw [wv_length]; exact HP.out.2.2.symm) (And.intro (show j = m + 1 → us10 = us0 ∧ (q9 :: qk) = [] from fun h => absurd h (by omega)) (And.intro hN2 hW11))))))
                  have z1 : ((j : Int) == (m : Int)) = false := beq_eq_false_iff_ne.2 (by omega)
                  have z2 : (j == m) = false := beq_eq_false_iff_ne.2 (by omega)
                  have z3 : ¬ j = m := by omega
                  have HM := hide (show (y + 1).toNat < ((j : Int) + 1).toNat by omega)
                  have hjL : jn < L := by omega
                  have hnn : n < nh := by omega
                  have hwx0 : ((xx : Int) + (c2 : Int)) % 18446744073709551616 = ((0 : Nat) : Int) := by omega
                  have hqx0 : ((q : Int) - 1) % 18446744073709551616 = (q9 : Int) := by have := HG.out.1; omega
                  rw [show ((0 : Nat) : Int) = 0 from rfl] at hW10e
                  clear f1 f4 f5 l1 l2 l3 hul hjn hp1 hmN hqa hLe hnh hvl had hzl hal hadd hav hq9 hxc hN1 hxx g1 g2 hus9 hu9l hW9 hW10 hN2 hus10 hW11 ht' hc2
                  obtain ⟨q1, q3, q5, q1', q3', q5'⟩ := HQ0.out
                  have hwx : IntKind.u64.wrap ((xx : Int) + (c2 : Int)) = 0 := kn_u64 (y := 0) hwx0
                  have hqx : IntKind.u64.wrap ((q : Int) - 1) = (q9 : Int) := kn_u64 hqx0
                  have y2 : IntKind.i64.wrap ((j : Int) - 1) = y := kn_i64 hy.symm y1
                  have y3 : wrap64 ((j : Int) - 1) = y := kn_w64 hy.symm y1
                  clear hy y1 hwx0 hqx0
                  go_upto_region 33 with fail
                  rw [← hW10e]
                  clear hW10e xc hf9
                  go_wp2
                  go_roundw
                  case rel => exact ⟨j, us10, _, _, t', y, rfl, rfl, HE.out⟩
                  case measure => exact HM.out
              · have hjme : j = m := by have := HJ.out.1; omega
                subst hjme
                have hst := HST.out rfl
                have hN1 := HX.out.1
                have ht0 : t = 0 := by
                  rw [HTU.out.1, List.getD_eq_getElem?_getD, List.getElem?_eq_none (by rw [hN1.hu]; omega)]; rfl
                have hQ0 : q = 0 := HGZ.out (by
                  have e1 : u1 = us.getD p1 0 := HTU.out.2
                  have e2 := HV.out.2.2.1
                  rw [ht0, e1, hst.1, show p1 = j + n - 1 by have := HJ.out.2.1; have := HJ.out.2.2.1; omega]
                  omega)
                have hNN := HN.out
                have hJJ := HJ.out
                obtain ⟨jh, hjh⟩ : ∃ i, i = j + nh := ⟨_, rfl⟩
                have s1 : (j : Int) + (nh : Int) = (jh : Int) := by omega
                have s2 : -1000000 ≤ (jh : Int) ∧ (jh : Int) ≤ 1000000 := by omega
                have s3 : L < jh := by omega
                have s4 : (nh : Int) - 1 = (n : Int) := by omega
                have s5 : -1000000 ≤ (n : Int) ∧ (n : Int) ≤ 1000000 := by omega
                have s6 : jn ≤ cu := by omega
                have s7 : jn - j = n := by omega
                have s8 : j ≤ jn := by omega
                have s9 : n < nh := by omega
                have s10 : n ≤ ch := by omega
                have s11 : ¬ cu = j := by omega
                have s12 : n ≤ cu - j := by omega
                have s13 : n ≤ nh := by omega
                have ConM := hide (HW3.out.mav HA.out HV.out.2.2.2.2.1 HV.out.2.2.2.2.2.1 (by omega) (by omega) ch q s10 HG.out.1)
                have HJH := hide (And.intro s1 (And.intro s2 (And.intro s4 s5)))
                have HS := hide (And.intro s3 (And.intro s6 (And.intro s7 (And.intro s8 (And.intro s9 (And.intro s11 (And.intro s12 s13)))))))
                clear hNN hJJ hjh s1 s2 s3 s4 s5 s6 s7 s8 s9 s11 s12 s13 hjge
                have HZ := hide (And.intro hst (And.intro hN1 hQ0))
                clear hst hN1 ht0 hQ0
                go_wp2_with fail
                refine (ConM.out).mono ?_
                rintro e6 w6 ⟨cc, rfl, hcc, hW6⟩
                clear ConM
                have hhl := HJ.out.2.2.2.2.2.2.2
                have hnh := HN.out.1
                have hvl := HV.out.2.2.2.2.1
                obtain ⟨pp, hpp⟩ : ∃ p, p = (amul 18446744073709551616 q (List.replicate n 0) vs 0).1 := ⟨_, rfl⟩
                have hpl : pp.length = n := by rw [hpp, amul_length _ _ _ (by simp; exact hvl.symm)]; exact hvl
                obtain ⟨z, hz⟩ := List.length_eq_one_iff.1 (show (hl.drop n).length = 1 by rw [List.length_drop]; omega)
                rw [← hpp, hz] at hW6
                obtain ⟨⟨uh, hch⟩, hfh, hW7⟩ := hW6.seth HA.out (.int .u64 (cc : Int)) (i := n) (by rw [List.length_append, wv_length]; simp; omega)
                have hset : (wv pp ++ [z]).set n (.int .u64 (cc : Int)) = wv (pp ++ [cc]) := by
                  rw [wv_append, List.set_append_right _ _ (by rw [wv_length]; omega), wv_length, hpl, Nat.sub_self]; rfl
                rw [hset] at hW7
                have hPV : dval 18446744073709551616 pp + 18446744073709551616 ^ n * cc = 0 := by
                  have h1 := amul_val 18446744073709551616 q (zs := List.replicate n 0) (xs := vs) 0 (by simp; exact hvl.symm)
                  rw [← hpp, ← hcc.out, dval_replicate_zero, hvl, HZ.out.2.2] at h1
                  simpa using h1
                have hc0 : cc = 0 := by
                  rcases Nat.eq_zero_or_pos cc with h | h
                  · exact h
                  · have : 0 < 18446744073709551616 ^ n * cc := Nat.mul_pos (Nat.pow_pos (by omega)) h
                    omega
                have hp0 : dval 18446744073709551616 pp = 0 := by omega
                have hpD : Dig 18446744073709551616 pp := by rw [hpp]; exact amul_dig (by omega) _
                subst hc0
                obtain ⟨W7, hW7e⟩ : ∃ W, W = w6.setCell ⟨gh, oh + n, none⟩ (.int .u64 ((0 : Nat) : Int)) := ⟨_, rfl⟩
                rw [← hW7e] at hW7
                have hzc : W7.cell? ⟨gh, oh + n, none⟩ = some (.int .u64 0) := by
                  have h1 := hW7.h
                  have h2 : Blk W7 gh 145 ((Ph ++ wv pp) ++ Value.int .u64 ((0 : Nat) : Int) :: Sh).toArray := by simpa [wv, List.append_assoc] using h1
                  exact (h2.part (i := oh + n) (by rw [List.length_append, wv_length, HA.out.o, hpl])).1
                have hchm := HCH.out
                have hrd : RdW W7.drew (.slice (some ⟨gh, oh, none⟩) n ch) pp := by
                  have h1 := hW7.drew.h
                  exact rd_part (P := Ph) (S := wv [0] ++ Sh) (by simpa [wv, List.append_assoc] using h1) HA.out.o hpl.symm s10 hchm
                have ConS := hide (fun c1 c2 h1 h2 => hW7.drew.sub HA.out j n c1 c2 ch pp hrd hpl.symm (by rw [HX.out.1.hu]; omega) (by omega) h1 h2)
                have vc7 : W7.cell? ⟨gv, n1, none⟩ = some (.int .u64 (v1 : Int)) := by rw [HV.out.1]; exact hW7.vcell (by rw [hvl]; exact j1)
                have HP := hide (And.intro hp0 (And.intro hpD (And.intro hpl (show (wv (pp ++ [0])).length = nh by rw [wv_length, List.length_append, hpl]; simp; omega))))
                rw [show ((0 : Nat) : Int) = 0 from rfl] at hW7e
                clear hhl hnh hvl hpl hz hset hPV hp0 hpD hcc hpp hW6 hW7 hchm hrd
                obtain ⟨s3, s6, s7, s8, s9, s11, s12, s13⟩ := HS.out
                have t1 : IntKind.i64.wrap ((j : Int) + (nh : Int)) = (jh : Int) := kn_i64 HJH.out.1 HJH.out.2.1
                have t2 : wrap64 ((j : Int) + (nh : Int)) = (jh : Int) := kn_w64 HJH.out.1 HJH.out.2.1
                have t3 : IntKind.i64.wrap ((nh : Int) - 1) = (n : Int) := kn_i64 HJH.out.2.2.1 HJH.out.2.2.2
                have t4 : wrap64 ((nh : Int) - 1) = (n : Int) := kn_w64 HJH.out.2.2.1 HJH.out.2.2.2
                go_upto_region 25 with fail
                rw [← hW7e]
                clear hW7e uh hch hfh
                have q1t := HQ0.out.1
                have q1t' := HQ0.out.2.2.2.1
                go_wp2_with fail
                go_region_held3 (fun W => W.cell? ⟨gv, n1, none⟩ = some (.int .u64 (v1 : Int))) (first | exact vc7 | exact vc8 | go_keep)
                  (first | (go_at_call 203; go_loud (refine (ConS.out _ _ s12 s12).mono ?_; rintro e8 w8 ⟨bb, rfl, hbb, hW8⟩; have vc8 : w8.cell? ⟨gv, n1, none⟩ = some (.int .u64 (v1 : Int)) := (by rw [HV.out.1]; exact hW8.vcell (by rw [HV.out.2.2.2.2.1]; exact j1)); clear vc7)))
                clear ConS vc8 s3 s6 s7 s8 s9 s11 s12 s13 t1 t2 t3 t4 q1t q1t' hzc
                have hvl := HV.out.2.2.2.2.1
                have hN1 := HZ.out.2.1
                have hul : us.length = j + n := hN1.hu
                have hzl : ((us.drop j).take n).length = pp.length := by rw [List.length_take, List.length_drop, hul, HP.out.2.2.1]; omega
                obtain ⟨sd, hsd⟩ : ∃ sd, sd = (subL 18446744073709551616 ((us.drop j).take n) pp 0).1 := ⟨_, rfl⟩
                have f1 : sd.length = n := by rw [hsd, subL_length _ _ hzl]; exact HP.out.2.2.1
                have f2 : Dig 18446744073709551616 sd := by rw [hsd]; exact subL_dig (by omega) _
                have f3 : dval 18446744073709551616 sd = dval 18446744073709551616 (us.drop j) + 18446744073709551616 ^ n * bb := by
                  have h1 := subL_val (b := 18446744073709551616) 0 hzl (dig_take (dig_drop hN1.du _) _) HP.out.2.1 (by omega)
                  rw [← hsd, ← hbb.out, HP.out.1, HP.out.2.2.1, List.take_of_length_le (by rw [List.length_drop, hul]; omega)] at h1
                  omega
                have hb0 : bb = 0 := by
                  have h1 := dval_lt (b := 18446744073709551616) (by omega) f2
                  rw [f1] at h1
                  rcases Nat.eq_zero_or_pos bb with h | h
                  · exact h
                  · have : 18446744073709551616 ^ n * 1 ≤ 18446744073709551616 ^ n * bb := Nat.mul_le_mul_left _ h
                    omega
                rw [hb0, Nat.mul_zero, Nat.add_zero] at f3
                subst hb0
                have hqk : qk = [] := HZ.out.1.2
                rw [hqk] at hN1 hW8
                have hN2 := hN1.last HV.out.2.2.2.2.2.2.2 f1 f2 f3 HV.out.2.2.2.1
                have hW9 : KnX wA gu gv gq gh oh n cv vs Su Sq Ph Sh qa j (us.take j ++ sd) [] (wv (pp ++ [0])) w8 := by
                  rw [← hsd, List.drop_of_length_le (by omega : us.length ≤ j + n), List.append_nil] at hW8
                  refine ⟨hW8.u, ?_, hW8.h, hW8.v, hW8.fr⟩
                  have h1 := hW8.q
                  rw [List.take_of_length_le (by rw [HW.out.2.2.2.2.1]; omega)] at h1
                  rw [List.take_of_length_le (by rw [HW.out.2.2.2.2.1]; omega)]
                  exact h1
                obtain ⟨us8, hus8⟩ : ∃ l, l = us.take j ++ sd := ⟨_, rfl⟩
                rw [← hus8] at hN2 hW9
                have hjn := HJ.out.2.1
                have hp1 := HJ.out.2.2.1
                have hmN := HN.out.2.2.2.2.2
                obtain ⟨y, hy⟩ : ∃ y : Int, y = (j : Int) - 1 := ⟨_, rfl⟩
                have y1 : -1000000 ≤ y ∧ y ≤ 1000000 := by omega
                obtain ⟨t', ht'⟩ : ∃ t', t' = us8.getD p1 0 := ⟨_, rfl⟩
                have x1c := hW9.ucell (i := p1) (by rw [hN2.hu]; omega)
                rw [← ht'] at x1c
                have HE := hide (And.intro hy (And.intro (show j ≤ j + 1 by omega) (And.intro (show t' = us8.getD (j + n - 1) 0 by rw [ht', show j + n - 1 = p1 by omega]) (And.intro HP.out.2.2.2 (And.intro (show j = j + 1 → us8 = us0 ∧ ([] : List Nat) = [] from fun h => absurd h (by omega)) (And.intro hN2 hW9))))))
                have HM := hide (show (y + 1).toNat < ((j : Int) + 1).toNat by omega)
                have hq0 : q = 0 := HZ.out.2.2
                have hqb : ((q : Int) == 0) = true := by rw [hq0]; rfl
                have hqb2 : (q == 0) = true := by rw [hq0]; rfl
                clear hvl hN1 hul hzl hsd f1 f2 f3 hbb hqk hN2 hW8 hW9 hus8 ht' hjn hp1 hmN hq0
                obtain ⟨q1, q3, q5, q1', q3', q5'⟩ := HQ0.out
                have y2 : IntKind.i64.wrap ((j : Int) - 1) = y := kn_i64 hy.symm y1
                have y3 : wrap64 ((j : Int) - 1) = y := kn_w64 hy.symm y1
                clear hy y1
                go_wp2
                go_roundw
                case rel => exact ⟨j, us8, [], _, t', y, rfl, rfl, HE.out⟩
                case measure => exact HM.out
      · omega
end Go.Proofs.YtfkcobdkgjhfaaaGreatDoor
