/- Parts of the proofs: LaidT, DecTxt2, SpText. -/
import Derived.Deep.RegionHeld3
import Derived.BigQuiet
import Derived.Test.YtlepebogjpcfoaaGreatDoorG28
import Derived.Test.YtlepebogjpcfoaaGreatDoorG29
import Derived.Test.YtlepebogjpcfoaaGreatDoorG31
import Derived.Test.YtlepebogjpcfoaaGreatDoorG48
import Derived.Test.YtlepebogjpcfoaaGreatDoorG51
/- What the laid package variables give the walks of texts: VarsL, and the table of powers of 10. -/
set_option linter.unusedVariables false
set_option linter.unusedSimpArgs false
namespace Go.Proofs.YtlepebogjpcfoaaGreatDoor
open Go Go.RowKit

def VarsT (w : World) : Prop := VarsL w w.heap.size ∧ Lib.TabBelow Tryz.prog w.heap.size w "internal/strconv.uint64pow10" .u64 Lib.pow10Tab
theorem VarsT.below {w w' : World} (h : VarsT w) (hb : Below w.heap.size w w') : VarsT w' :=
  ⟨(h.1.below hb).raise hb.size, fun w2 h2 => h.2 w2 (below_next hb h2)⟩
set_option maxRecDepth 20000 in
theorem laid_tab {w : World} {name : String} {k : IntKind} {zs : List Int} {g : Nat} {t e : TypeId} {n : Nat} (hg : Tryz.prog.globalNamed name = some g) (hty : (Tryz.prog.globals[g]?).map (·.type) = some t) (ht : Tryz.prog.underlying t = some (.array n e)) (he : Tryz.prog.underlying e = some (.int k)) (hce : Tryz.prog.cellsOf e = 1) (hct : Tryz.prog.cellsOf t = n) :
    ∀ {l : List (String × DataW Unit)} {ps : List MemPlace}, DataW.LaidVars Tryz.prog w l ps → (name, Lib.tabData k zs) ∈ l → Lib.TabIs Tryz.prog w name k zs
  | [], _, _, hm => by cases hm
  | (m, d) :: l, ps, h, hm => by
    obtain ⟨g0, t0, cs0, f0, p0, q0, hg0, ht0, hv0, hd0, hr, -⟩ := h
    rcases List.mem_cons.1 hm with e1 | hm
    · injection e1 with e1 e2
      subst e1 e2
      obtain rfl := Option.some.inj (hg.symm.trans hg0)
      obtain rfl := Option.some.inj (hty.symm.trans ht0)
      unfold Lib.TabIs
      rw [hv0, ← Lib.cells_of_tab ht he hce hct hd0]
    · exact laid_tab hg hty ht he hce hct hr hm
set_option maxRecDepth 20000 in
theorem tabT_of {w : World} {l : List (String × DataW Unit)} (h : laidMetH Tryz.prog l w) (hp : (l.filter fun x => x.2.handleName?.isSome) = [])
    (m : ("internal/strconv.uint64pow10", (Lib.tabData .u64 Lib.pow10Tab : DataW Unit)) ∈ l) : Lib.TabBelow Tryz.prog w.heap.size w "internal/strconv.uint64pow10" .u64 Lib.pow10Tab := by
  unfold laidMetH at h
  rw [hp] at h
  obtain ⟨ps, hl, -⟩ := h
  exact Lib.tabBelow_of_tabIs (laid_tab (g := 8) (t := 246) (e := 117) (n := 20) (by kernel_rfl) (by kernel_rfl) (by kernel_rfl) (by kernel_rfl) (by kernel_rfl) (by kernel_rfl) hl m)
end Go.Proofs.YtlepebogjpcfoaaGreatDoor

/- Walks: Decimal.Text, Decimal.String, the thin package's Text and String, at the letters that are formats. -/
set_option linter.unusedVariables false
set_option linter.unusedSimpArgs false
namespace Go.Proofs.YtlepebogjpcfoaaGreatDoor
open Go.RowKit

/-- Append at a letter lays this text. -/
def AppOK (neg : Bool) (v : Nat) (exp : Int) (ch : Int) (T : List Nat) : Prop :=
  ∀ (g bx base c : Nat) (A : Option Addr) (buf : Value) (w : World), CoefAt w g neg exp A c v bx → VarsL w base → Buf w base buf [] → base ≤ w.heap.size → (∀ k, buf.ownBlock = some k → k ≠ g ∧ (Value.slice A (digs 18446744073709551616 v).length c).ownBlock ≠ some k ∧ base ≤ k) →
    Lib.TabBelow Tryz.prog base w "internal/strconv.uint64pow10" .u64 Lib.pow10Tab → Calls Tryz.prog 55 #[.pointer (some ⟨g, 0, none⟩), buf, .int .u8 ch] w (AppP w base buf T)
theorem decB_100 {v : Nat} (h : (digs 18446744073709551616 v).length ≤ 3) : (decB v).length ≤ 100 := by
  rw [decB_length]
  unfold figs
  split
  · omega
  · exact digs_length_le (by omega) (Nat.lt_of_lt_of_le (lt_of_digs_length (by omega) h) (by decide))
theorem appOK_e (neg : Bool) (v : Nat) (exp : Int) (hl : (digs 18446744073709551616 v).length ≤ 3) (hx : -1000 ≤ exp ∧ exp ≤ 1000) : AppOK neg v exp 101 (sgnT neg (codeE (decB v) exp 101)) := by
  intro g bx base c A buf w hD hv hB hb hgb ht
  cases neg
  · exact dapp_ep g bx base c v exp A buf w hD hl hv hB hb hgb hx (decB_100 hl) ht
  · exact dapp_en g bx base c v exp A buf w hD hl hv hB hb hgb hx (decB_100 hl) ht
theorem appOK_E (neg : Bool) (v : Nat) (exp : Int) (hl : (digs 18446744073709551616 v).length ≤ 3) (hx : -1000 ≤ exp ∧ exp ≤ 1000) : AppOK neg v exp 69 (sgnT neg (codeE (decB v) exp 69)) := by
  intro g bx base c A buf w hD hv hB hb hgb ht
  cases neg
  · exact dapp_Ep g bx base c v exp A buf w hD hl hv hB hb hgb hx (decB_100 hl) ht
  · exact dapp_En g bx base c v exp A buf w hD hl hv hB hb hgb hx (decB_100 hl) ht
theorem appOK_f (neg : Bool) (v : Nat) (exp : Int) (hl : (digs 18446744073709551616 v).length ≤ 3) (hx : -1000 ≤ exp ∧ exp ≤ 1000) : AppOK neg v exp 102 (sgnT neg (codeF (decB v) exp)) := by
  intro g bx base c A buf w hD hv hB hb hgb ht
  cases neg
  · exact dapp_fp g bx base c v exp A buf w hD hl hv hB hb hgb hx (decB_100 hl) ht
  · exact dapp_fn g bx base c v exp A buf w hD hl hv hB hb hgb hx (decB_100 hl) ht
theorem appOK_g (neg : Bool) (v : Nat) (exp : Int) (hl : (digs 18446744073709551616 v).length ≤ 3) (hx : -1000 ≤ exp ∧ exp ≤ 1000) (hthin : v = 0 → -6 ≤ exp) : AppOK neg v exp 103 (sgnT neg (natT v exp 101)) := by
  intro g bx base c A buf w hD hv hB hb hgb ht
  cases neg
  · exact dapp_gp g bx base c v exp A buf w hD hl hv hB hb hgb hx (decB_100 hl) ht hthin
  · exact dapp_gn g bx base c v exp A buf w hD hl hv hB hb hgb hx (decB_100 hl) ht hthin
theorem appOK_G (neg : Bool) (v : Nat) (exp : Int) (hl : (digs 18446744073709551616 v).length ≤ 3) (hx : -1000 ≤ exp ∧ exp ≤ 1000) (hthin : v = 0 → -6 ≤ exp) : AppOK neg v exp 71 (sgnT neg (natT v exp 69)) := by
  intro g bx base c A buf w hD hv hB hb hgb ht
  cases neg
  · exact dapp_Gp g bx base c v exp A buf w hD hl hv hB hb hgb hx (decB_100 hl) ht hthin
  · exact dapp_Gn g bx base c v exp A buf w hD hl hv hB hb hgb hx (decB_100 hl) ht hthin

set_option maxRecDepth 20000 in
theorem dtext_ok (g bx c v : Nat) (neg : Bool) (exp ch : Int) (T : List Nat) (A : Option Addr) (w : World) (hD : CoefAt w g neg exp A c v bx) (hv : VarsT w) (ok : AppOK neg v exp ch T) :
    Calls Tryz.prog 33 #[.pointer (some ⟨g, 0, none⟩), .int .u8 ch] w (TextP w T) := by
  obtain ⟨W1, hW1⟩ : ∃ W1, W1 = w.alloc (.cells (Array.replicate 16 (.int .u8 0)) 107) := ⟨_, rfl⟩
  have hW1' : W1 = w.alloc (.cells #[.int .u8 0, .int .u8 0, .int .u8 0, .int .u8 0, .int .u8 0, .int .u8 0, .int .u8 0, .int .u8 0, .int .u8 0, .int .u8 0, .int .u8 0, .int .u8 0, .int .u8 0, .int .u8 0, .int .u8 0, .int .u8 0] 107) := hW1
  have hf1 : Fr w W1 (fun _ => False) := by rw [hW1]; exact (Fr.refl w _).alloc _
  obtain ⟨g1, hg1⟩ : ∃ g1, g1 = w.heap.size := ⟨_, rfl⟩
  have hS1 : Buf W1 g1 (.slice (some ⟨g1, 0, none⟩) 0 16) [] := by rw [hW1, hg1]; exact buf_new w 16 107 (by omega)
  have hD1 := hD.fr hf1 (fun h => h) (fun _ _ h => h)
  have hs1 : W1.heap.size = g1 + 1 := by rw [hW1, hg1]; simp
  have con := ok g bx g1 c A (.slice (some ⟨g1, 0, none⟩) 0 16) W1 hD1 ((hv.1.fr hf1 (fun _ h => h.elim)).raise (by omega)) hS1 (by omega)
    (fun k hk => by
      have e : g1 = k := by injection hk
      subst e
      refine ⟨?_, ?_, Nat.le_refl _⟩
      · have := hD.blk.lt; omega
      · intro h; have := (hD.own.lt h).2; omega) (by rw [hg1]; exact hv.2.on (hf1.below (Nat.le_refl _) (fun _ h => h.elim)))
  have Con := hide con
  have HF := hide (And.intro hf1 hg1)
  clear hf1 hS1 hD1 hs1 con hD hv hW1 ok
  go_enter Tryz.func33, Tryz.ntmps33
  go_wp2_with fail
  rw [← hW1', ← hg1]
  clear hW1' hg1
  refine (Con.out).mono ?_
  rintro e w2 ⟨v2, rfl, hB2, hF2, -⟩
  obtain ⟨A2, c2, hv2⟩ := hB2.slice
  subst hv2
  have hcv : (convert 38 9 (.slice A2 T.length c2)).run Tryz.prog w2 = .ok (.string (bstr T)) w2 := conv_text hB2.rd
  have HE : Hid (TextP w T (.returned (.string (bstr T))) w2) := ⟨rfl, (Fr.step HF.out.1 (hF2.mono (S' := fun k => g1 = k) (fun k _ h => by injection h)) (fun i hi h => by have := HF.out.2; omega)).below (Nat.le_refl _) (fun _ h => h.elim)⟩
  clear hB2 hF2 Con
  generalize bstr T = q at *
  generalize T.length = n at *
  go_wp2
  go_ret
  exact HE.out
theorem dstr_ok (g bx c v : Nat) (neg : Bool) (exp : Int) (T : List Nat) (A : Option Addr) (w : World) (hD : CoefAt w g neg exp A c v bx) (hv : VarsT w) (ok : AppOK neg v exp 71 T) :
    Calls Tryz.prog 39 #[.pointer (some ⟨g, 0, none⟩)] w (TextP w T) := by
  have Con := hide (dtext_ok g bx c v neg exp 71 T A w hD hv ok)
  clear hD hv ok
  go_enter Tryz.func39, Tryz.ntmps39
  go_wp2_with fail
  refine (Con.out).mono ?_
  rintro e w2 ⟨rfl, hb⟩
  have HF : Hid (TextP w T (.returned (.string (bstr T))) w2) := ⟨rfl, hb⟩
  clear hb Con
  generalize bstr T = q at *
  go_wp2
  go_ret
  exact HF.out
theorem itext_ok (neg : Bool) (A : Option Addr) (c m : Nat) (exp ch : Int) (T : List Nat) (w : World) (hv : RdW w (.slice A (digs 18446744073709551616 m).length c) (digs 18446744073709551616 m)) (hn : (digs 18446744073709551616 m).length ≤ 3) (he0 : -2147483648 ≤ exp) (he1 : exp ≤ 2147483647) (hvars : VarsT w) (ok : AppOK neg m exp ch T) :
    Calls Tryz.prog 12 #[.agg #[.int .i64 0, .bool neg, .slice A (digs 18446744073709551616 m).length c, .int .i64 exp], .int .u8 ch] w (TextP w T) := by
  have hb1 : Below w.heap.size w (w.alloc (.cells #[.int .i64 0, .bool neg, .slice A (digs 18446744073709551616 m).length c, .int .i64 exp] 24)) := below_al (Below.refl _ _) _
  have con := made_fin 0 neg (.slice A (digs 18446744073709551616 m).length c) (digs 18446744073709551616 m) exp _ (RdG.below (k := .u64) hv hb1) (by omega) (by decide) (by decide) (by decide) he0 he1
  rw [trimz_of_canon (canon_digs (by omega) _)] at con
  obtain ⟨x0, x1, x2, x3⟩ := (Blk.new w 24 #[.int .i64 0, .bool neg, .slice A (digs 18446744073709551616 m).length c, .int .i64 exp]).dec4
  have HV := hide (And.intro hb1 (And.intro hvars ok))
  have Con := hide con
  clear con hv hb1 hvars ok hn
  go_enter Tryz.func12, Tryz.ntmps12
  go_wp2_with fail
  refine (Con.out).mono ?_
  rintro e w1 ⟨g, A1, c1, rfl, hg, ho, hB, hbel⟩
  have hb2 := below_next HV.out.1 hbel
  have Con2 := hide (dtext_ok g _ c1 m neg exp ch T A1 w1 ⟨hB, ho⟩ (HV.out.2.1.below hb2) HV.out.2.2)
  have HB := hide hb2
  clear ho hB hbel hb2 Con hg x0 x1 x2 x3
  go_wp2_with fail
  refine (Con2.out).mono ?_
  rintro e w2 ⟨rfl, hb3⟩
  have HF : Hid (TextP w T (.returned (.string (bstr T))) w2) := ⟨rfl, below_next HB.out hb3⟩
  clear hb3 HB Con2
  generalize bstr T = q at *
  go_wp2
  go_ret
  exact HF.out
theorem istr_ok (neg : Bool) (A : Option Addr) (c m : Nat) (exp : Int) (T : List Nat) (w : World) (hv : RdW w (.slice A (digs 18446744073709551616 m).length c) (digs 18446744073709551616 m)) (hn : (digs 18446744073709551616 m).length ≤ 3) (he0 : -2147483648 ≤ exp) (he1 : exp ≤ 2147483647) (hvars : VarsT w) (ok : AppOK neg m exp 71 T) :
    Calls Tryz.prog 18 #[.agg #[.int .i64 0, .bool neg, .slice A (digs 18446744073709551616 m).length c, .int .i64 exp]] w (TextP w T) := by
  have hb1 : Below w.heap.size w (w.alloc (.cells #[.int .i64 0, .bool neg, .slice A (digs 18446744073709551616 m).length c, .int .i64 exp] 24)) := below_al (Below.refl _ _) _
  have con := made_fin 0 neg (.slice A (digs 18446744073709551616 m).length c) (digs 18446744073709551616 m) exp _ (RdG.below (k := .u64) hv hb1) (by omega) (by decide) (by decide) (by decide) he0 he1
  rw [trimz_of_canon (canon_digs (by omega) _)] at con
  obtain ⟨x0, x1, x2, x3⟩ := (Blk.new w 24 #[.int .i64 0, .bool neg, .slice A (digs 18446744073709551616 m).length c, .int .i64 exp]).dec4
  have HV := hide (And.intro hb1 (And.intro hvars ok))
  have Con := hide con
  clear con hv hb1 hvars ok hn
  go_enter Tryz.func18, Tryz.ntmps18
  go_wp2_with fail
  refine (Con.out).mono ?_
  rintro e w1 ⟨g, A1, c1, rfl, hg, ho, hB, hbel⟩
  have hb2 := below_next HV.out.1 hbel
  have Con2 := hide (dstr_ok g _ c1 m neg exp T A1 w1 ⟨hB, ho⟩ (HV.out.2.1.below hb2) HV.out.2.2)
  have HB := hide hb2
  clear ho hB hbel hb2 Con hg x0 x1 x2 x3
  go_wp2_with fail
  refine (Con2.out).mono ?_
  rintro e w2 ⟨rfl, hb3⟩
  have HF : Hid (TextP w T (.returned (.string (bstr T))) w2) := ⟨rfl, below_next HB.out hb3⟩
  clear hb3 HB Con2
  generalize bstr T = q at *
  go_wp2
  go_ret
  exact HF.out
end Go.Proofs.YtlepebogjpcfoaaGreatDoor

/- Walks: the reference's signed, whole, pointed. -/
set_option linter.unusedVariables false
set_option linter.unusedSimpArgs false
namespace Go.Proofs.YtlepebogjpcfoaaGreatDoor
open Go.RowKit

theorem i64_sm {x y : Int} (e : x = y) (h : -1000000 ≤ y ∧ y ≤ 1000000) : IntKind.i64.wrap x = y := by subst e; simp [IntKind.wrap, IntKind.signed, IntKind.bits]; omega

theorem ssigned_any (n : Bool) (s : List Nat) (w : World) (hs : s.length ≤ 100000) :
    Calls Tryz.prog 35 #[.bool n, .string (bstr s)] w fun e w' => e = .returned (.string (bstr (sgnT n s))) ∧ w = w' := by
  have hadd : ∀ W, (Op.stringOp .add ⟨#[45]⟩ (bstr s)).run Tryz.prog W = .ok (.string (bstr (45 :: s))) W := fun W => add_text (a := ⟨#[45]⟩) (b := bstr s) (c := bstr (45 :: s)) (bstr_append [45] s).symm (by rw [bstr_size]; simp [ByteArray.size]; omega) W
  have e1 : sgnT true s = 45 :: s := rfl
  have e2 : sgnT false s = s := rfl
  cases n
  · rw [e2]
    clear e1 e2 hadd
    generalize bstr s = S at *
    go_enter Tryz.func35, Tryz.ntmps35
    go_wp2
    go_ret
    exact ⟨rfl, rfl⟩
  · rw [e1]
    clear e1 e2
    generalize bstr (45 :: s) = T at *
    generalize bstr s = S at *
    go_enter Tryz.func35, Tryz.ntmps35
    go_wp2
    go_ret
    exact ⟨rfl, rfl⟩

theorem swhole_any (x : Int) (w : World) (hx : -100000 ≤ x ∧ x ≤ 100000) : Calls Tryz.prog 36 #[.int .i64 x] w (StrP w (wholeT x)) := by
  obtain ⟨q, hq⟩ : ∃ q : Nat, q = x.natAbs := ⟨_, rfl⟩
  have hqs : q ≤ 100000 := by omega
  have hlen : (decB q).length ≤ 1000 := by
    rw [decB_length]; unfold figs; split
    · omega
    · exact Nat.le_trans (digs_length_le (k := 10) (by omega) (by omega)) (by omega)
  have Con1 : Hid (∀ W, Calls Tryz.prog 56 #[.int .i64 (q : Int)] W (NewI W (digs 65536 q))) := fun W => small_any q W (by omega)
  have hdl : (digs 65536 q).length ≤ 100000 := Nat.le_trans (digs_length_le (k := 10) (by omega) (by omega)) (by omega)
  have Con2 : Hid (∀ A c W, RdG .i64 W (.slice A (digs 65536 q).length c) (digs 65536 q) → Calls Tryz.prog 34 #[.slice A (digs 65536 q).length c] W (StrP W (decB q))) := fun A c W h => sdigits_any A _ c q W h hdl
  have hadd : ∀ (d : Nat) W, (Op.stringOp .add (bstr [d]) (bstr (decB q))).run Tryz.prog W = .ok (.string (bstr (d :: decB q))) W := fun d W => add_text (a := bstr [d]) (b := bstr (decB q)) (c := bstr (d :: decB q)) (bstr_append [d] _).symm (by rw [bstr_size, bstr_size]; simp; omega) W
  unfold NewI at Con1
  unfold StrP at Con2
  clear hlen hdl
  by_cases hn : x < 0
  · have e1 : wholeT x = 45 :: decB q := by unfold wholeT; rw [if_pos hn, hq]
    rw [e1]
    have ha : ∀ W, (Op.stringOp .add ⟨#[45]⟩ (bstr (decB q))).run Tryz.prog W = .ok (.string (bstr (45 :: decB q))) W := fun W => hadd 45 W
    have w1 : IntKind.i64.wrap (-x) = (q : Int) := i64_sm (by omega) (by omega)
    have w2 : -x = (q : Int) := by omega
    have w3 : wrap64 (q : Int) = (q : Int) := by unfold wrap64; omega
    have HF : Hid (∀ w', Below w.heap.size w w' → StrP w (45 :: decB q) (.returned (.string (bstr (45 :: decB q)))) w') := fun w' h => ⟨rfl, h⟩
    clear hadd e1 hq hqs hx
    generalize bstr (45 :: decB q) = T at *
    generalize (digs 65536 q).length = l at *
    generalize digs 65536 q = dg at *
    go_enter Tryz.func36, Tryz.ntmps36
    go_wp2_with fail
    refine (Con1.out _).mono ?_
    rintro e w1 ⟨A, c, rfl, ho, hb⟩
    have hrd := ho.rd
    have HB := hide hb
    have HO := hide hrd
    clear ho hb hrd
    go_wp2_with fail
    refine (Con2.out A c w1 HO.out).mono ?_
    rintro e w2 ⟨rfl, hb2⟩
    have HE := hide (HF.out w2 (below_next HB.out hb2))
    clear hb2 HF Con1 Con2 HB HO
    generalize bstr (decB q) = S at *
    go_wp2
    go_ret
    exact HE.out
  · have e1 : wholeT x = 43 :: decB q := by unfold wholeT; rw [if_neg hn, hq]
    rw [e1]
    have ha : ∀ W, (Op.stringOp .add ⟨#[43]⟩ (bstr (decB q))).run Tryz.prog W = .ok (.string (bstr (43 :: decB q))) W := fun W => hadd 43 W
    obtain rfl : x = (q : Int) := by omega
    have HF : Hid (∀ w', Below w.heap.size w w' → StrP w (43 :: decB q) (.returned (.string (bstr (43 :: decB q)))) w') := fun w' h => ⟨rfl, h⟩
    clear hadd e1 hq hqs hx
    generalize bstr (43 :: decB q) = T at *
    generalize (digs 65536 q).length = l at *
    generalize digs 65536 q = dg at *
    go_enter Tryz.func36, Tryz.ntmps36
    go_wp2_with fail
    refine (Con1.out _).mono ?_
    rintro e w1 ⟨A, c, rfl, ho, hb⟩
    have hrd := ho.rd
    have HB := hide hb
    have HO := hide hrd
    clear ho hb hrd
    go_wp2_with fail
    refine (Con2.out A c w1 HO.out).mono ?_
    rintro e w2 ⟨rfl, hb2⟩
    have HE := hide (HF.out w2 (below_next HB.out hb2))
    clear hb2 HF Con1 Con2 HB HO
    generalize bstr (decB q) = S at *
    go_wp2
    go_ret
    exact HE.out

set_option maxHeartbeats 1000000 in
theorem spointed_any (s : List Nat) (k : Nat) (w : World) (hs : s.length ≤ 1000) (hk : k ≤ 1000) :
    Calls Tryz.prog 37 #[.string (bstr s), .int .i64 (k : Int)] w fun e w' => e = .returned (.string (bstr (pointT s k))) ∧ Below w.heap.size w w' := by
  have HS := hide (And.intro hs hk)
  clear hs hk
  obtain ⟨m, hm⟩ : ∃ m, m = k + 1 - s.length := ⟨_, rfl⟩
  have Hm := hide hm
  clear hm
  go_enter Tryz.func37, Tryz.ntmps37
  go_wp2_with fail
  go_loopw [0] (fun vs wr => ∃ j : Nat, j ≤ m ∧ vs = .string (bstr (List.replicate j 48 ++ s)) ∧ wr = w) (fun vs _ => match vs with | .string t => m + s.length - t.size | _ => 0)
  case atStart => exact ⟨0, by omega, rfl, rfl⟩
  case round =>
    obtain ⟨j, hj, rfl, rfl⟩ := hrel
    have hsz : (bstr (List.replicate j 48 ++ s)).size = j + s.length := by rw [bstr_size]; simp
    by_cases h : j = m
    · have hgt : ¬ (((j + s.length : Nat) : Int) ≤ (k : Int)) := by have := Hm.out; omega
      have ep : List.replicate j 48 ++ s = padT s k := by unfold padT; rw [h, Hm.out]
      have hpl : (padT s k).length = j + s.length := by rw [← ep]; simp
      rw [ep] at hsz ⊢
      by_cases h0 : k = 0
      · subst h0
        have e1 : pointT s 0 = padT s 0 := by unfold pointT; rw [if_pos rfl]
        have HE : Hid ((Ending.returned (.string (bstr (padT s 0))) = .returned (.string (bstr (pointT s 0))))) := by rw [e1]; rfl
        clear ep hpl e1
        generalize bstr (padT s 0) = S at *
        generalize j + s.length = N at *
        go_wp2
        go_ret
        exact ⟨HE.out, Below.refl _ _⟩
      · obtain ⟨p, hp⟩ : ∃ p, p = (padT s k).length - k := ⟨_, rfl⟩
        have hpk : p + k = j + s.length := by have := Hm.out; have := HS.out; omega
        have e1 : pointT s k = ((padT s k).take p ++ [46]) ++ (padT s k).drop p := by unfold pointT; rw [if_neg h0, ← hp]; simp
        have hb0 : ((k : Int) == 0) = false := beq_eq_false_iff_ne.2 (by omega)
        have hNs : j + s.length ≤ 5000 := by have := Hm.out; have := HS.out; omega
        have w1 : IntKind.i64.wrap (((j + s.length : Nat) : Int) - (k : Int)) = (p : Int) := i64_sm (by omega) (by omega)
        have s1 : ∀ W, (Instr.slice 9 (.string (bstr (padT s k))) none (some (.int .i64 (p : Int))) none).run Tryz.prog W = .ok (.string (bstr ((padT s k).take p))) W := fun W => by
          rw [run_slice_string_h W 9 (bstr (padT s k)) (by kernel_rfl) .i64 (p : Int) (by omega) (by rw [bstr_size, hpl]; omega), bstr_extract]
          simp
        have s2 : ∀ W, (Instr.slice 9 (.string (bstr (padT s k))) (some (.int .i64 (p : Int))) none none).run Tryz.prog W = .ok (.string (bstr ((padT s k).drop p))) W := fun W => by
          rw [run_slice_string_l W 9 (bstr (padT s k)) (by kernel_rfl) .i64 (p : Int) (by omega) (by rw [bstr_size, hpl]; omega), bstr_extract, bstr_size]
          rw [List.take_of_length_le (by simp)]
          simp
        have a1 : ∀ W, (Op.stringOp .add (bstr ((padT s k).take p)) ⟨#[46]⟩).run Tryz.prog W = .ok (.string (bstr ((padT s k).take p ++ [46]))) W := fun W => add_text (b := bstr [46]) (bstr_append _ _).symm (by rw [bstr_size, bstr_size, List.length_take]; simp; omega) W
        have a2 : ∀ W, (Op.stringOp .add (bstr ((padT s k).take p ++ [46])) (bstr ((padT s k).drop p))).run Tryz.prog W = .ok (.string (bstr (pointT s k))) W := fun W => add_text (by rw [e1, ← bstr_append]) (by rw [bstr_size, bstr_size]; simp; omega) W
        clear ep hpl hp hpk e1 hNs
        obtain ⟨R, hR⟩ : ∃ R, R = bstr (pointT s k) := ⟨_, rfl⟩
        rw [← hR] at a2
        have HR := hide hR
        clear hR
        generalize bstr ((padT s k).take p ++ [46]) = R1 at *
        generalize bstr ((padT s k).take p) = R2 at *
        generalize bstr ((padT s k).drop p) = R3 at *
        generalize bstr (padT s k) = S at *
        generalize j + s.length = N at *
        go_wp2_with fail
        go_quiet (fail)
        go_wp2
        go_ret
        exact ⟨congrArg (fun r => Ending.returned (Value.string r)) HR.out, Below.mk rfl rfl rfl (Nat.le_refl _) (fun _ _ => rfl)⟩
    · have hlt : (((j + s.length : Nat) : Int) ≤ (k : Int)) := by have := Hm.out; omega
      have hrow : bstr [48] ++ bstr (List.replicate j 48 ++ s) = bstr (List.replicate (j + 1) 48 ++ s) := by rw [← bstr_append]; simp [List.replicate_succ]
      have ha : ∀ W, (Op.stringOp .add ⟨#[48]⟩ (bstr (List.replicate j 48 ++ s))).run Tryz.prog W = .ok (.string (bstr (List.replicate (j + 1) 48 ++ s))) W := fun W => add_text (a := bstr [48]) hrow (by rw [bstr_size, hsz]; have := HS.out; have := Hm.out; simp; omega) W
      have hsz2 : (bstr (List.replicate (j + 1) 48 ++ s)).size = j + 1 + s.length := by rw [bstr_size]; simp
      have HM : Hid (m + s.length - (bstr (List.replicate (j + 1) 48 ++ s)).size < m + s.length - (bstr (List.replicate j 48 ++ s)).size) := by rw [hsz, hsz2]; show _ < _; omega
      have HR : Hid (∃ j' : Nat, j' ≤ m ∧ (Value.string (bstr (List.replicate (j + 1) 48 ++ s))) = .string (bstr (List.replicate j' 48 ++ s)) ∧ True) := ⟨j + 1, by omega, rfl, trivial⟩
      clear hrow hsz2 hj
      generalize j + s.length = N at *
      go_wp2
      go_roundw
      case rel => exact HR.out
      case measure => exact HM.out
end Go.Proofs.YtlepebogjpcfoaaGreatDoor
