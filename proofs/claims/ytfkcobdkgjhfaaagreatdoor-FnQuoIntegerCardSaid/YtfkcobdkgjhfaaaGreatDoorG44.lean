/- Parts of the proofs: SpDm, Law2, Law3, Dec4, Neg. -/
import Derived.Test.YtfkcobdkgjhfaaaGreatDoorG7
import Derived.Test.YtfkcobdkgjhfaaaGreatDoorG24
import Derived.Test.YtfkcobdkgjhfaaaGreatDoorG31
import Derived.Test.YtfkcobdkgjhfaaaGreatDoorG37
import Derived.Test.YtfkcobdkgjhfaaaGreatDoorG42
import Derived.Test.YtfkcobdkgjhfaaaGreatDoorG43
/- Walk: the reference's DivMod. -/
set_option linter.unusedVariables false
set_option linter.unusedSimpArgs false
namespace Go.Proofs.YtfkcobdkgjhfaaaGreatDoor
open Go.RowKit

theorem blen_len {m l : Nat} (h : l = (digs 65536 m).length) : blen m ≤ 16 * l := by
  refine blen_le ?_
  rw [Nat.pow_mul]
  exact lt_of_digs_length (b := 65536) (by omega) (by omega)
theorem shl_len {b j la lb : Nat} (h : lb = (digs 65536 b).length) (hj : j ≤ 16 * la + 16) : (digs 65536 (b * 2 ^ j)).length ≤ lb + (la + 1) := by
  have h1 := lt_of_digs_length (b := 65536) (k := lb) (by omega) (show (digs 65536 b).length ≤ lb by omega)
  have h2 : 2 ^ j ≤ 2 ^ (16 * (la + 1)) := Nat.pow_le_pow_right (by omega) (by omega)
  rw [Nat.pow_mul] at h2
  refine digs_length_le (by omega) ?_
  rw [Nat.pow_add]
  exact Nat.lt_of_lt_of_le (Nat.mul_lt_mul_of_pos_right h1 (Nat.two_pow_pos _)) (Nat.mul_le_mul_left _ h2)

/-- Behind DivMod. -/
def DmP (w : World) (a b : Nat) (e : Ending) (w' : World) : Prop :=
  ∃ (Q R : Option Addr) (lq lr cq cr : Nat), e = .returned (.tuple #[.slice Q lq cq, .slice R lr cr]) ∧ OwnI w' w.heap.size (.slice Q lq cq) (digs 65536 (a / b)) ∧ RdG .i64 w' (.slice R lr cr) (digs 65536 (a % b)) ∧ Below w.heap.size w w'

set_option maxHeartbeats 1000000 in
theorem sdm_one (A B : Option Addr) (la ca cb a b : Nat) (w : World) (ha : RdG .i64 w (.slice A la ca) (digs 65536 a)) (hb : RdG .i64 w (.slice B 1 cb) (digs 65536 b)) (hla : la ≤ 100) :
    Calls Tryz.prog 43 #[.slice A la ca, .slice B 1 cb] w (DmP w a b) := by
  have hlen := RdG.len ha
  have hlb := RdG.len hb
  have hb0 : 0 < b := by
    rcases Nat.eq_zero_or_pos b with h | h
    · subst h; rw [digs_zero] at hlb; simp at hlb
    · exact h
  have hbl : b < 65536 := by
    have := lt_of_digs_length (b := 65536) (k := 1) (by omega) (show (digs 65536 b).length ≤ 1 by omega)
    omega
  obtain ⟨gb, ob, rfl, -, hc⟩ := RdG.at_ (k := .i64) hb 0 (by omega)
  have hd : digs 65536 b = [b] := by rw [digs_pos (by omega) hb0, Nat.div_eq_of_lt hbl, digs_zero, Nat.mod_eq_of_lt hbl]
  rw [hd] at hc
  have hc' : w.cell? ⟨gb, ob, none⟩ = some (.int .i64 (b : Int)) := hc
  have con1 := byDigit_any A la ca b (digs 65536 a) w ha hlen (by omega) hb0 hbl (dig_digs (by omega) _)
  unfold ByP at con1
  rw [dval_digs (by omega)] at con1
  have Con1 := hide con1
  obtain ⟨r, hr⟩ : ∃ r, r = a % b := ⟨_, rfl⟩
  have hrl : r < 65536 := by rw [hr]; have := Nat.mod_lt a hb0; omega
  have Con2 : Hid (∀ W, Calls Tryz.prog 75 #[.int .i64 (r : Int)] W (NewI W (digs 65536 r))) := fun W => small_any r W (by omega)
  unfold DmP
  rw [← hr] at Con1 ⊢
  clear ha hb hlen hlb hd con1 hc hr hb0 hbl
  generalize digs 65536 (a / b) = dq at *
  go_enter Tryz.func43, Tryz.ntmps43
  go_wp2_with fail
  refine (Con1.out).mono ?_
  rintro e w1 ⟨Q, cq, rfl, ho1, hb1⟩
  have H1 := hide (And.intro ho1 hb1)
  clear Con1 ho1 hb1
  generalize hlq : dq.length = lq at *
  have HLQ := hide hlq
  clear hlq
  go_wp2_with fail
  refine (Con2.out w1).mono ?_
  rintro e w2 ⟨R, cr, rfl, ho2, hb2⟩
  have hrd1 : OwnI w2 w.heap.size (.slice Q lq cq) dq := H1.out.1.below hb2
  have HF : Hid (∃ (Q' R' : Option Addr) (lq' lr' cq' cr' : Nat), Ending.returned (.tuple #[.slice Q lq cq, .slice R (digs 65536 r).length cr]) = .returned (.tuple #[.slice Q' lq' cq', .slice R' lr' cr']) ∧ OwnI w2 w.heap.size (.slice Q' lq' cq') dq ∧ RdG .i64 w2 (.slice R' lr' cr') (digs 65536 r) ∧ Below w.heap.size w w2) :=
    ⟨Q, R, _, _, cq, cr, rfl, hrd1, ho2.rd, below_next H1.out.2 hb2⟩
  clear ho2 hb2 hrd1 H1 HLQ Con2
  generalize (digs 65536 r).length = lr at *
  go_wp2
  go_ret2
  exact HF.out

/-- What the rounds hold. -/
structure DmL (w : World) (a b k q r : Nat) (Q R : Option Addr) (lq lr cq cr : Nat) (W : World) : Prop where
  num : DmS a b k q r
  rq : OwnI W w.heap.size (.slice Q lq cq) (digs 65536 q)
  rr : RdG .i64 W (.slice R lr cr) (digs 65536 r)
  bel : Below w.heap.size w W

set_option maxHeartbeats 2000000 in
set_option maxRecDepth 20000 in
theorem sdm_many (A B : Option Addr) (la lb ca cb a b : Nat) (w : World) (ha : RdG .i64 w (.slice A la ca) (digs 65536 a)) (hb : RdG .i64 w (.slice B lb cb) (digs 65536 b)) (hla : la ≤ 100) (hlb2 : 2 ≤ lb) (hlb : lb ≤ 100) :
    Calls Tryz.prog 43 #[.slice A la ca, .slice B lb cb] w (DmP w a b) := by
  have hlen := RdG.len ha
  have hlenb := RdG.len hb
  have hb0 : 0 < b := by
    rcases Nat.eq_zero_or_pos b with h | h
    · subst h; rw [digs_zero] at hlenb; simp at hlenb; omega
    · exact h
  have hba := blen_len hlen
  have hbb := blen_len hlenb
  obtain ⟨W1, hW1⟩ : ∃ W, W = w.alloc (.cells #[] 3) := ⟨_, rfl⟩
  have hbel : Below w.heap.size w W1 := by rw [hW1]; exact below_al (Below.refl _ _) _
  have ConA := hide (slen_any A la ca a W1 (ha.below hbel) (by omega))
  have ConB := hide (slen_any B lb cb b W1 (hb.below hbel) (by omega))
  have hst : DmL w a b (blen a + 1 - blen b) 0 a (some ⟨w.heap.size, 0, none⟩) A 0 la 0 ca W1 := by
    refine ⟨DmS.start hb0, ?_, ha.below hbel, hbel⟩
    rw [digs_zero]
    have h : OwnI W1 w.heap.size (.slice (some ⟨w.heap.size, 0, none⟩) 0 0) [] := by rw [hW1]; exact OwnG.mk (xs := []) (cur := #[]) (Nat.le_refl _) (Blk.new w _ _) (Nat.le_refl _) (Nat.zero_le _) rfl rfl
    exact h
  have hbl2 : ((lb : Int) == 1) = false := beq_eq_false_iff_ne.2 (by omega)
  have HS := hide hst
  have HB := hide (And.intro hb (And.intro hlenb (And.intro hlen hb0)))
  obtain ⟨xa, hxa⟩ : ∃ x, x = blen a := ⟨_, rfl⟩
  obtain ⟨xb, hxb⟩ : ∃ x, x = blen b := ⟨_, rfl⟩
  rw [← hxa] at ConA HS hba
  rw [← hxb] at ConB HS hbb
  have j1 : xa ≤ 1600 := by omega
  have j2 : xb ≤ 1600 := by omega
  have HJ : Hid (xa ≤ 16 * la) := hba
  clear ha hb hlen hlenb hb0 hbel hst hxa hxb hba hbb hlb2
  go_enter Tryz.func43, Tryz.ntmps43
  go_wp2_with fail
  rw [← hW1]
  clear hW1
  refine (ConA.out).mono ?_
  rintro e w1 ⟨rfl, rfl⟩
  clear ConA
  go_wp2_with fail
  refine (ConB.out).mono ?_
  rintro e w1 ⟨rfl, rfl⟩
  clear ConB
  go_wp2
  go_loopw [0, 8, 9] (fun va vq vi wr => ∃ (k q r lq lr cq cr : Nat) (Q R : Option Addr) (i : Int), va = .slice R lr cr ∧ vq = .slice Q lq cq ∧ vi = .int .i64 i ∧ ((k : Int) = i + 1 ∨ (k = 0 ∧ i < 0)) ∧ -2000 ≤ i ∧ k ≤ xa + 1 ∧ Hid (DmL w a b k q r Q R lq lr cq cr wr)) (fun _ _ vi _ => (intOf vi + 1).toNat)
  case atStart => exact ⟨xa + 1 - xb, 0, a, 0, la, 0, ca, _, A, (xa : Int) - (xb : Int), rfl, rfl, by go_num, by omega, by omega, by omega, HS⟩
  case round =>
    obtain ⟨k, q, r, lq, lr, cq, cr, Q, R, i, rfl, rfl, rfl, hki, hi0, hk, HR⟩ := hrel
    by_cases hp : 0 ≤ i
    · obtain ⟨j, hj⟩ : ∃ j : Nat, i = (j : Int) := ⟨i.toNat, by omega⟩
      subst hj
      have hkj : k = j + 1 := by omega
      subst hkj
      have hj16 : j ≤ 16 * la + 16 := by have := HJ.out; omega
      have hsl := shl_len (b := b) (j := j) (la := la) HB.out.2.1 hj16
      have hrl := RdG.len HR.out.rr
      have hql := RdG.len (OwnG.rd HR.out.rq)
      have hle := HR.out.num.le HB.out.2.2.2
      have hrm : (digs 65536 r).length ≤ la := by rw [HB.out.2.2.1]; exact digs_len_mono (by omega) hle.2
      have hqm : (digs 65536 q).length ≤ la := by rw [HB.out.2.2.1]; exact digs_len_mono (by omega) hle.1
      have Con1 := hide (sshl_any B lb cb b j wr (HB.out.1.below HR.out.bel) HB.out.2.2.2 (by omega) (by omega))
      have hp2 : (digs 65536 (2 ^ j)).length ≤ 200 := by rw [digs_pow2]; simp; omega
      have HZ := hide (And.intro hrl (And.intro hql (And.intro hrm (And.intro hqm (And.intro hsl hp2)))))
      clear hrl hql hrm hqm hsl hp2 hle HS hj16
      go_wp2_with fail
      refine (Con1.out).mono ?_
      rintro e w1 ⟨D, cd, rfl, hoD, hbD⟩
      have con2 := cmp_any D R cd cr (b * 2 ^ j) r w1 hoD.rd (by have h := HR.out.rr.below hbD; rwa [HZ.out.1] at h) (by have := HZ.out.2.2.2.2.1; omega) (by have := HZ.out.2.2.1; omega)
      unfold CmpP at con2
      rw [← HZ.out.1] at con2
      obtain ⟨ci, hci⟩ : ∃ i, i = cmpI (b * 2 ^ j) r := ⟨_, rfl⟩
      rw [← hci] at con2
      have Con2 := hide con2
      have HO := hide (And.intro hoD hbD)
      have HC := hide hci
      clear con2 hoD hbD hci Con1
      obtain ⟨ld, hld⟩ : ∃ l, l = (digs 65536 (b * 2 ^ j)).length := ⟨_, rfl⟩
      rw [← hld] at Con2 HO ⊢
      have HLD := hide hld
      clear hld
      go_wp2_with fail
      refine (Con2.out).mono ?_
      rintro e w2 ⟨rfl, hb2⟩
      have hbw := below_next HR.out.bel (below_next HO.out.2 hb2)
      have hrR := (HR.out.rr.below HO.out.2).below hb2
      have hrQ := (HR.out.rq.below HO.out.2).below hb2
      have hrD := (OwnG.rd HO.out.1).below hb2
      by_cases hcle : ci ≤ 0
      · have hle : b * 2 ^ j ≤ r := by
          have h := HC.out
          unfold cmpI at h
          rcases Nat.lt_or_ge r (b * 2 ^ j) with h1 | h1
          · rw [if_neg (by omega), if_pos h1] at h; omega
          · exact h1
        have con3 := ssub_any R D lr ld cr cd r (b * 2 ^ j) w2 hrR hrD HZ.out.1 HLD.out (by have := HZ.out.1; have := HZ.out.2.2.1; omega) (by have := HLD.out; have := HZ.out.2.2.2.2.1; omega) hle
        have Con3 := hide con3
        have Con4 := hide (fun W => sbit_any j W (by omega))
        have H2 := hide (And.intro hbw (And.intro hrQ hle))
        clear con3 hbw hrR hrQ hrD hb2 hle Con2 HC HO
        go_wp2_with fail
        refine (Con3.out).mono ?_
        rintro e w3 ⟨R3, c3, rfl, ho3, hb3⟩
        have H3 := hide (And.intro ho3 hb3)
        clear ho3 hb3 Con3
        obtain ⟨l3, hl3⟩ : ∃ l, l = (digs 65536 (r - b * 2 ^ j)).length := ⟨_, rfl⟩
        rw [← hl3] at H3 ⊢
        clear hl3
        go_wp2_with fail
        refine (Con4.out w3).mono ?_
        rintro e w4 ⟨R4, c4, rfl, ho4, hb4⟩
        have con5 := sadd_any Q R4 lq _ cq c4 (digs 65536 q) (digs 65536 (2 ^ j)) w4 (OwnG.rd ((H2.out.2.1.below H3.out.2).below hb4)) ho4.rd HZ.out.2.1 rfl (by have := HZ.out.2.1; have := HZ.out.2.2.2.1; omega) (by have := HZ.out.2.2.2.2.2; omega) (dig_digs (by omega) _) (dig_digs (by omega) _)
        rw [dval_digs (by omega), dval_digs (by omega)] at con5
        have Con5 := hide con5
        have H4 := hide hb4
        clear con5 ho4 hb4 Con4
        generalize (digs 65536 (2 ^ j)).length = l4 at Con5 ⊢
        go_wp2_with fail
        refine (Con5.out).mono ?_
        rintro e w5 ⟨R5, c5, rfl, ho5, hb5⟩
        have HN : Hid (DmL w a b j (q + 2 ^ j) (r - b * 2 ^ j) R5 R3 (digs 65536 (q + 2 ^ j)).length l3 c5 c3 w5) :=
          ⟨HR.out.num.yes H2.out.2.2, ho5.lower (below_next (below_next H2.out.1 H3.out.2) H4.out).size, ((OwnG.rd H3.out.1).below H4.out).below hb5, below_next (below_next (below_next H2.out.1 H3.out.2) H4.out) hb5⟩
        clear ho5 hb5 Con5 H2 H3 H4 HR HZ HB
        generalize (digs 65536 (q + 2 ^ j)).length = l5 at *
        go_wp2
        go_roundw
        case rel => exact ⟨j, _, _, l5, l3, c5, c3, R5, R3, (j : Int) - 1, rfl, rfl, by go_num, by omega, by omega, by omega, HN⟩
        case measure => simp [intOf]
      · have hlt : r < b * 2 ^ j := by
          have h := HC.out
          unfold cmpI at h
          rcases Nat.lt_or_ge r (b * 2 ^ j) with h1 | h1
          · exact h1
          · exfalso
            rcases Nat.eq_or_lt_of_le h1 with h2 | h2
            · rw [if_neg (by omega), if_neg (by omega)] at h; omega
            · rw [if_pos h2] at h; omega
        have HN : Hid (DmL w a b j q r Q R lq lr cq cr w2) := ⟨HR.out.num.no hlt, hrQ, hrR, hbw⟩
        clear hbw hrR hrQ hrD hb2 hlt Con2 HC HO HR HZ HB
        go_wp2
        go_roundw
        case rel => exact ⟨j, _, _, lq, lr, cq, cr, Q, R, (j : Int) - 1, rfl, rfl, by go_num, by omega, by omega, by omega, HN⟩
        case measure => simp [intOf]
    · have hk0 : k = 0 := by omega
      subst hk0
      obtain ⟨e1, e2⟩ := HR.out.num.end_
      subst e1 e2
      have HF : Hid (DmP w a b (.returned (.tuple #[.slice Q lq cq, .slice R lr cr])) wr) := ⟨Q, R, lq, lr, cq, cr, rfl, HR.out.rq, HR.out.rr, HR.out.bel⟩
      clear HR HS HB
      go_wp2
      go_ret2
      exact HF.out

theorem sdivmod_any (A B : Option Addr) (la lb ca cb a b : Nat) (w : World) (ha : RdG .i64 w (.slice A la ca) (digs 65536 a)) (hb : RdG .i64 w (.slice B lb cb) (digs 65536 b)) (hla : la ≤ 100) (hb0 : 0 < b) (hlb : lb ≤ 100) :
    Calls Tryz.prog 43 #[.slice A la ca, .slice B lb cb] w (DmP w a b) := by
  have hlenb := RdG.len hb
  have h1 : 1 ≤ lb := by rw [hlenb]; exact List.length_pos_iff.2 (digs_ne_nil (by omega) hb0)
  rcases Nat.eq_or_lt_of_le h1 with h | h
  · subst h; exact sdm_one A B la ca cb a b w ha hb hla
  · exact sdm_many A B la lb ca cb a b w ha hb hla h hlb
end Go.Proofs.YtfkcobdkgjhfaaaGreatDoor

/- Walks: IsDec of the reference, where it answers yes; Same of the thin package. -/
set_option linter.unusedVariables false
set_option linter.unusedSimpArgs false
namespace Go.Proofs.YtfkcobdkgjhfaaaGreatDoor
open Go.RowKit

theorem okB_digs (m : Nat) : okB 0 (digs 18446744073709551616 m) = true := by
  have : numW (digs 18446744073709551616 m) = m := dval_digs (by omega) m
  simp [okB, this, eqB_self]

set_option maxHeartbeats 2000000 in
theorem isDec_yes (neg neg2 : Bool) (A B : Option Addr) (c c2 m : Nat) (exp : Int) (w : World) (hx : RdG .u64 w (.slice A (digs 18446744073709551616 m).length c) (digs 18446744073709551616 m)) (hv : RdG .i64 w (.slice B (digs 65536 m).length c2) (digs 65536 m))
    (hn : (digs 18446744073709551616 m).length ≤ 1048576) (hneg : neg = neg2 ∨ m = 0) :
    Calls Tryz.prog 19 #[.agg #[.int .i64 0, .bool neg, .slice A (digs 18446744073709551616 m).length c, .int .i64 exp], .agg #[.bool neg2, .slice B (digs 65536 m).length c2, .int .i64 exp]] w (BoolP w true) := by
  have hnm : numW (digs 18446744073709551616 m) = m := dval_digs (by omega) m
  have hok := okB_digs m
  have hdg := dig_digs (b := 18446744073709551616) (by omega) m
  have hz : m = 0 → (digs 65536 m).length = 0 := by rintro rfl; rw [digs_zero]; rfl
  have hcl : (digs 65536 m).length ≤ 1099511627776 := by
    have := digs_len_words hdg
    rw [hnm] at this; omega
  have hci : cmpI m m = 0 := cmpI_eq rfl
  have HC := hide (And.intro hcl hci)
  clear hcl hci
  have con := fun W (h : Fr w W (fun _ => False)) => ofDec_any 0 neg (.slice A (digs 18446744073709551616 m).length c) (digs 18446744073709551616 m) exp W (hx.fr h (fun _ _ h => h)) hn hdg
  rw [hnm, hok] at con
  have Con := hide con
  have HV := hide hv
  have HZ := hide hz
  generalize digs 18446744073709551616 m = xs at *
  clear con hv hx hz hok hdg hnm
  go_enter Tryz.func19, Tryz.ntmps19
  go_wp2_with fail
  have hs : ((w.alloc (.cells #[.int .i64 0, .bool neg, .slice A xs.length c, .int .i64 exp] 24)).alloc (.cells #[.bool neg2, .slice B (digs 65536 m).length c2, .int .i64 exp] 29)).heap.size = w.heap.size + 2 := by simp
  have hf : Fr w ((w.alloc (.cells #[.int .i64 0, .bool neg, .slice A xs.length c, .int .i64 exp] 24)).alloc (.cells #[.bool neg2, .slice B (digs 65536 m).length c2, .int .i64 exp] 29)) (fun _ => False) := ((Fr.refl w _).alloc _).alloc _
  have hbv : Blk ((w.alloc (.cells #[.int .i64 0, .bool neg, .slice A xs.length c, .int .i64 exp] 24)).alloc (.cells #[.bool neg2, .slice B (digs 65536 m).length c2, .int .i64 exp] 29)) (w.heap.size + 1) 29 #[.bool neg2, .slice B (digs 65536 m).length c2, .int .i64 exp] := by
    have := Blk.new (w.alloc (.cells #[.int .i64 0, .bool neg, .slice A xs.length c, .int .i64 exp] 24)) 29 #[.bool neg2, .slice B (digs 65536 m).length c2, .int .i64 exp]
    simpa using this
  generalize ((w.alloc (.cells #[.int .i64 0, .bool neg, .slice A xs.length c, .int .i64 exp] 24)).alloc (.cells #[.bool neg2, .slice B (digs 65536 m).length c2, .int .i64 exp] 29)) = W at hs hf hbv ⊢
  refine (Con.out W hf).mono ?_
  rintro e w1 ⟨B1, c1, rfl, hown, hbel⟩
  have hf2 : Fr w (w1.alloc (.cells #[.bool neg, .slice B1 (digs 65536 m).length c1, .int .i64 exp] 29)) (fun _ => False) := Fr.alloc (Fr.step hf (Fr.of_below hbel (fun _ => False)) (fun _ _ h => h)) _
  have hb2 : Blk (w1.alloc (.cells #[.bool neg, .slice B1 (digs 65536 m).length c1, .int .i64 exp] 29)) (w.heap.size + 1) 29 #[.bool neg2, .slice B (digs 65536 m).length c2, .int .i64 exp] := (hbv.below hbel).alloc _
  have hb3 : Blk (w1.alloc (.cells #[.bool neg, .slice B1 (digs 65536 m).length c1, .int .i64 exp] 29)) w1.heap.size 29 #[.bool neg, .slice B1 (digs 65536 m).length c1, .int .i64 exp] := Blk.new _ _ _
  have hown2 := hown.fr (Fr.alloc (Fr.refl w1 (fun _ => False)) (.cells #[.bool neg, .slice B1 (digs 65536 m).length c1, .int .i64 exp] 29)) (fun _ _ h => h)
  have hsz : w.heap.size + 2 ≤ w1.heap.size := by have := hbel.size; omega
  have x0 : (w1.alloc (.cells #[.bool neg, .slice B1 (digs 65536 m).length c1, .int .i64 exp] 29)).cell? ⟨w.heap.size + 1, 0, none⟩ = some (.bool neg2) := hb2.cell 0
  have x1 : (w1.alloc (.cells #[.bool neg, .slice B1 (digs 65536 m).length c1, .int .i64 exp] 29)).cell? ⟨w.heap.size + 1, 1, none⟩ = some (.slice B (digs 65536 m).length c2) := hb2.cell 1
  have x2 : (w1.alloc (.cells #[.bool neg, .slice B1 (digs 65536 m).length c1, .int .i64 exp] 29)).cell? ⟨w.heap.size + 1, 2, none⟩ = some (.int .i64 exp) := hb2.cell 2
  have HH := hide (And.intro hf2 (And.intro hb2 (And.intro hb3 hown2)))
  clear hs hf hbv hown hbel hf2 hb2 hb3 hown2 Con
  go_wp2_with fail
  refine (cmp_any B1 B c1 c2 m m _ ?_ ?_ HC.out.1 HC.out.1).mono ?_
  · exact HH.out.2.2.2.rd
  · exact HV.out.fr HH.out.1 (fun _ _ h => h)
  rintro e w2 ⟨rfl, hb⟩
  rw [HC.out.2]
  have y0 : w2.cell? ⟨w.heap.size + 1, 0, none⟩ = some (.bool neg2) := (HH.out.2.1.below hb).cell 0
  have y1 : w2.cell? ⟨w.heap.size + 1, 1, none⟩ = some (.slice B (digs 65536 m).length c2) := (HH.out.2.1.below hb).cell 1
  have y2 : w2.cell? ⟨w.heap.size + 1, 2, none⟩ = some (.int .i64 exp) := (HH.out.2.1.below hb).cell 2
  have u0 : w2.cell? ⟨w1.heap.size, 0, none⟩ = some (.bool neg) := (HH.out.2.2.1.below hb).cell 0
  have u2 : w2.cell? ⟨w1.heap.size, 2, none⟩ = some (.int .i64 exp) := (HH.out.2.2.1.below hb).cell 2
  have fin : BoolP w true (.returned (.bool true)) w2 := ⟨rfl, (Fr.step HH.out.1 (Fr.of_below hb (fun _ => False)) (fun _ _ h => h)).below (Nat.le_refl _) (fun _ h => h.elim)⟩
  have Fin := hide fin
  clear fin hb HH x0 x1 x2 HV
  rcases hneg with rfl | h0
  · have e0 : (neg == neg) = true := by simp
    cases neg
    all_goals go_wp2
    all_goals go_ret
    all_goals exact Fin.out
  · have hl0 := HZ.out h0
    rw [hl0] at y1
    cases neg <;> cases neg2
    all_goals go_wp2
    all_goals go_ret
    all_goals exact Fin.out
end Go.Proofs.YtfkcobdkgjhfaaaGreatDoor

/- Walks: Same of the thin package, and the law FnSame. -/
set_option linter.unusedVariables false
set_option linter.unusedSimpArgs false
namespace Go.Proofs.YtfkcobdkgjhfaaaGreatDoor
open Go.RowKit

abbrev decA (form : Int) (neg : Bool) (v : Value) (exp : Int) : Array Value := #[.int .i64 form, .bool neg, v, .int .i64 exp]

/-- The store of a Dec into a result's variable, and all that is left behind it. -/
theorem store_dec {w w1 : World} {g : Nat} {neg : Bool} {exp : Int} {A : Option Addr} {c : Nat} {xs : List Nat} (hg : w.heap.size ≤ g) (hb : Blk w1 g 24 (decA 0 false (.slice none 0 0) 0)) (hbel : Below w.heap.size w w1) (base : Nat) (hbase : w.heap.size ≤ base) (hown : OwnU w1 base (.slice A xs.length c) xs) :
    Blk ((((w1.setCell ⟨g, 0, none⟩ (.int .i64 0)).setCell ⟨g, 1, none⟩ (.bool neg)).setCell ⟨g, 2, none⟩ (.slice A xs.length c)).setCell ⟨g, 3, none⟩ (.int .i64 exp)) g 24 (decA 0 neg (.slice A xs.length c) exp) ∧
    ToldFin w neg exp xs (.returned (.agg #[.int .i64 0, .bool neg, .slice A xs.length c, .int .i64 exp])) ((((w1.setCell ⟨g, 0, none⟩ (.int .i64 0)).setCell ⟨g, 1, none⟩ (.bool neg)).setCell ⟨g, 2, none⟩ (.slice A xs.length c)).setCell ⟨g, 3, none⟩ (.int .i64 exp)) := by
  have hn := hown.ne_blk hb (by decide)
  have fr := ((((Fr.refl w1 (fun k => k = g)).setCell (p := ⟨g, 0, none⟩) (fun _ => rfl) (.int .i64 0)).setCell (p := ⟨g, 1, none⟩) (fun _ => rfl) (.bool neg)).setCell (p := ⟨g, 2, none⟩) (fun _ => rfl) (.slice A xs.length c)).setCell (p := ⟨g, 3, none⟩) (fun _ => rfl) (.int .i64 exp)
  refine ⟨(((hb.set 0 _).set 1 _).set 2 _).set 3 _, A, c, rfl, (hown.fr fr hn).lower hbase, ?_⟩
  exact (Fr.step (S := fun k => w.heap.size ≤ k) (Fr.of_below hbel _) fr (fun i _ h => by omega)).below (Nat.le_refl _) (fun k h => h)

end Go.Proofs.YtfkcobdkgjhfaaaGreatDoor

/- Walks: Decimal.Abs, and DecAbs of the thin package. -/
set_option linter.unusedVariables false
set_option linter.unusedSimpArgs false
namespace Go.Proofs.YtfkcobdkgjhfaaaGreatDoor
open Go.RowKit

theorem dabs_any (base gz gx : Nat) (fz : Int) (nz : Bool) (ez : Int) (bz : Bool) (vz : Value) (mz : Bool) (fx : Int) (nx : Bool) (ex : Int) (bx : Bool) (vx : Value) (mx : Bool) (m : Nat) (xs : List Nat) (w : World)
    (hz : Blk w gz 71 (decC fz nz ez bz vz mz)) (hzr : Room w base vz m) (hx : Blk w gx 71 (decC fx nx ex bx vx mx)) (hxr : RdW w vx xs) (hxb : ∀ k, vx.ownBlock = some k → k ≠ gz)
    (hne : gz ≠ gx) (hb : base ≤ w.heap.size) (hn : xs.length ≤ 1099511627776) :
    Calls Tryz.prog 148 #[.pointer (some ⟨gz, 0, none⟩), .pointer (some ⟨gx, 0, none⟩)] w (DsetP w base gz fx false ex bx vz mx xs) := by
  have Con := hide (dset_any base gz gx fz nz ez bz vz mz fx nx ex bx vx mx m xs w hz hzr hx hxr hxb hne hb hn)
  clear hz hzr hx hxr
  go_enter Tryz.func148, Tryz.ntmps148
  go_wp2_with fail
  refine (Con.out).mono ?_
  rintro e w1 ⟨rfl, A, c, hr, hrb, hB, hF⟩
  have c1 : w1.cell? ⟨gz, 1, none⟩ = some (.bool nx) := hB.cell 1
  have f1 := hB.frozen 1
  have hg : ∀ k, (Value.slice A xs.length c).ownBlock = some k → k ≠ gz := hr.room.ne_blk hB (by decide)
  have fin : DsetP w base gz fx false ex bx vz mx xs (.returned (.pointer (some ⟨gz, 0, none⟩))) (w1.setCell ⟨gz, 1, none⟩ (.bool false)) :=
    ⟨rfl, A, c, hr.fr ((Fr.refl w1 (fun k => k = gz)).setCell (p := ⟨gz, 1, none⟩) (fun _ => rfl) _) hg, hrb, hB.set 1 _, hF.setCell (p := ⟨gz, 1, none⟩) (fun _ => .inl rfl) _⟩
  have Fin := hide fin
  clear fin hr hrb hB hF hg Con
  go_wp2
  go_ret
  exact Fin.out

end Go.Proofs.YtfkcobdkgjhfaaaGreatDoor

/- Walks: Decimal.Neg, DecNeg of the thin package, Opposite of the reference. -/
set_option linter.unusedVariables false
set_option linter.unusedSimpArgs false
namespace Go.Proofs.YtfkcobdkgjhfaaaGreatDoor
open Go.RowKit

/-- The sign behind 'Neg'. -/
def negT (neg : Bool) (n : Nat) : Bool := if n = 0 then false else !neg
theorem negT_zero (neg : Bool) : negT neg 0 = false := rfl
theorem negT_pos {n : Nat} (neg : Bool) (h : n ≠ 0) : negT neg n = !neg := by simp [negT, h]


theorem opposite_result (n : Nat) (tmps : Array Value) (h : tmps.getD 2 undef = .pointer (some ⟨n, 0, none⟩)) (W : World) (a b c : Value) (c0 : W.cell? ⟨n, 0, none⟩ = some a) (c1 : W.cell? ⟨n, 1, none⟩ = some b) (c2 : W.cell? ⟨n, 2, none⟩ = some c) :
    (results Tryz.f37 tmps).run Tryz.prog W = .ok (.agg #[a, b, c]) W := by
  have h2 : tmps[2]?.getD undef = .pointer (some ⟨n, 0, none⟩) := by simpa using h
  simp [results, Tryz.results37, go_sem, h2, c0, c1, c2]

theorem opposite_any (neg : Bool) (A : Option Addr) (n c : Nat) (exp : Int) (w : World) :
    Calls Tryz.prog 37 #[.agg #[.bool neg, .slice A n c, .int .i64 exp]] w fun e w' => e = .returned (.agg #[.bool (!neg), .slice A n c, .int .i64 exp]) ∧ Below w.heap.size w w' := by
  have hb0 := hide (below_al (below_al (Below.refl w.heap.size w) (.cells #[.bool neg, .slice A n c, .int .i64 exp] 29)) (.cells #[.bool (!neg), .slice A n c, .int .i64 exp] 29))
  have hB : Blk ((w.alloc (.cells #[.bool neg, .slice A n c, .int .i64 exp] 29)).alloc (.cells #[.bool (!neg), .slice A n c, .int .i64 exp] 29)) (w.heap.size + 1) 29 #[.bool (!neg), .slice A n c, .int .i64 exp] := by
    have := Blk.new (w.alloc (.cells #[.bool neg, .slice A n c, .int .i64 exp] 29)) 29 #[.bool (!neg), .slice A n c, .int .i64 exp]
    simpa using this
  have HB := hide hB
  clear hB
  go_enter Tryz.func37, Tryz.ntmps37
  go_wp2
  exact bodyPost_ret (opposite_result (w.heap.size + 1) _ rfl _ (.bool (!neg)) (.slice A n c) (.int .i64 exp) (HB.out.cell 0) (HB.out.cell 1) (HB.out.cell 2)) rfl ⟨rfl, hb0.out⟩
end Go.Proofs.YtfkcobdkgjhfaaaGreatDoor
