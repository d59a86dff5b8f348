/- Parts of the proofs: FmtE. -/
import Derived.Test.YtlepebogjpcfoaaGreatDoorG48
/- Walk: fmtE. -/
set_option linter.unusedVariables false
set_option linter.unusedSimpArgs false
namespace Go.Proofs.YtlepebogjpcfoaaGreatDoor
open Go.RowKit

theorem _root_.Go.Lib.TabBelow.here' {w : World} {base : Nat} {buf dgv : Value} {bd : Nat} {ys : List Nat} {v : Value} {xs : List Nat} {W : World} (h : Go.Lib.TabBelow Tryz.prog base w "internal/strconv.uint64pow10" .u64 Go.Lib.pow10Tab) (hs : St w base buf dgv bd ys v xs W) (hbb : ∀ k, buf.ownBlock = some k → base ≤ k) (hb : base ≤ w.heap.size) : Go.Lib.TabIs Tryz.prog W "internal/strconv.uint64pow10" .u64 Go.Lib.pow10Tab :=
  h W (hs.bel hb hbb)

set_option maxHeartbeats 4000000 in
set_option maxRecDepth 20000 in
theorem fmte_one_pos (g gd base bd cd n q : Nat) (exp : Int) (d0 : Nat) (ds : List Nat) (ch : Nat) (buf : Value) (xs : List Nat) (w : World) (hB : Buf w base buf xs) (hD : Buf w bd (.slice (some ⟨gd, 0, none⟩) n cd) (d0 :: ds)) (hn : n = ds.length + 1) (hcd : n ≤ cd) (hcm : cd ≤ maxLen) (hap : BufApart w buf (.slice (some ⟨gd, 0, none⟩) n cd)) (he : w.cell? ⟨g, 2, none⟩ = some (.int .i32 exp)) (hb : base ≤ w.heap.size) (hbb : ∀ k, buf.ownBlock = some k → base ≤ k)
    (hl : xs.length ≤ 10) (hdl : ds.length ≤ 500) (h1 : n = 1) (hadj : exp + (n : Int) - 1 = (q : Int)) (hq : 0 ≤ q ∧ q ≤ 100000) (hx : -100000 ≤ exp ∧ exp ≤ 100000) (htab : Lib.TabBelow Tryz.prog base w "internal/strconv.uint64pow10" .u64 Lib.pow10Tab) :
    Calls Tryz.prog 84 #[buf, .int .u8 (ch : Int), .pointer (some ⟨g, 0, none⟩), .slice (some ⟨gd, 0, none⟩) n cd] w (AppP w base buf (xs ++ codeE (d0 :: ds) exp ch)) := by
  obtain ⟨i0, hi, hz0, hz1, hz2⟩ := u8_parts
  have HI := hide (And.intro hi (And.intro hz0 (And.intro hz1 hz2)))
  have c0 : w.cell? ⟨gd, 0, none⟩ = some (.int .u8 (d0 : Int)) := by
    obtain ⟨g', c', e1, -, -, -, h5⟩ := hD.split (by simp)
    injection e1 with e1 e2 e3
    injection e1 with e1
    injection e1 with e1
    rw [e1]
    exact h5 0 d0 rfl
  have Hb := hide (And.intro hb (And.intro hl hdl))
  have Hdb := hide hap
  have S0 := hide (St.start hB hD)
  have hds : ds = [] := List.eq_nil_of_length_eq_zero (by omega)
  subst h1
  subst hds
  obtain ⟨a1, ha1⟩ : ∃ a1 : Int, a1 = exp + (1 : Int) := ⟨_, rfl⟩
  have w1' : IntKind.i64.wrap exp = exp := by simp [IntKind.wrap, IntKind.signed, IntKind.bits]; omega
  have w2' : IntKind.i64.wrap (exp + (1 : Int)) = a1 := by rw [ha1]; simp [IntKind.wrap, IntKind.signed, IntKind.bits]; omega
  have w3' : IntKind.i64.wrap (a1 - 1) = (q : Int) := by
    have e1 : a1 - 1 = (q : Int) := by omega
    rw [e1]; simp [IntKind.wrap, IntKind.signed, IntKind.bits]; omega
  have hlt : ¬ (q : Int) < 0 := by omega
  have HQ := hide (And.intro hq.1 hq.2)
  have HBB := hide hbb
  have HTb := hide htab
  have hfin : ((((xs ++ [d0]) ++ [ch]) ++ [43]) ++ decB q) = xs ++ codeE [d0] exp ch := by
    unfold codeE
    have e1 : exp + (([d0].length : Nat) : Int) - 1 = (q : Int) := by rw [← hadj]; simp
    have e3 : Int.natAbs (q : Int) = q := Int.natAbs_natCast q
    rw [e1, e3, if_neg (show ¬ 1 < [d0].length by simp), if_neg hlt]
    simp

  have HFin := hide hfin
  clear hi hz0 hz1 hz2 hB hD hap hb hl hdl ha1 hadj hq hx hbb htab hfin hcm hcd hn
  go_enter Tryz.func84, Tryz.ntmps84
  go_wp2_with (first
    | (at_builtin; refine wp_append_buf _ rfl (.tmp 20) (.tmp 24) 38 rfl i0 HI.out.1 HI.out.2.1 HI.out.2.2.1 HI.out.2.2.2 (v := buf) (xs := xs) (base := base) rfl (S0.out.b.fr ((Fr.refl _ (fun _ => False)).alloc _) (fun _ _ h => h)) (.slice (some ⟨w.heap.size, 0, none⟩) 1 1) [d0] rfl (src_new w _ [d0] rfl _) (Nat.le_trans Hb.out.1 (Nat.le_trans S0.out.f.size (by simp))) (by have := Hb.out.2.1; have := Hb.out.2.2; simp; omega) ?_; go_loud (intro v1 w1 hB hF hO; have S1 := hide (S0.out.al Hdb.out hB hF hO); clear hB hF hO))
    | (at_builtin; refine wp_append_buf _ rfl (.tmp 36) (.tmp 38) 38 rfl i0 HI.out.1 HI.out.2.1 HI.out.2.2.1 HI.out.2.2.2 (v := v1) (xs := (xs ++ [d0])) (base := base) rfl (S1.out.b.fr ((Fr.refl _ (fun _ => False)).alloc _) (fun _ _ h => h)) (.slice (some ⟨w1.heap.size, 0, none⟩) 1 1) [ch] rfl (src_new w1 _ [ch] rfl _) (Nat.le_trans Hb.out.1 (Nat.le_trans S1.out.f.size (by simp))) (by have := Hb.out.2.1; have := Hb.out.2.2; simp; omega) ?_; go_loud (intro v2 w2 hB hF hO; have S2 := hide (S1.out.al Hdb.out hB hF hO); clear hB hF hO))
    | (at_builtin; refine wp_append_buf _ rfl (.tmp 44) (.tmp 46) 38 rfl i0 HI.out.1 HI.out.2.1 HI.out.2.2.1 HI.out.2.2.2 (v := v2) (xs := ((xs ++ [d0]) ++ [ch])) (base := base) rfl (S2.out.b.fr ((Fr.refl _ (fun _ => False)).alloc _) (fun _ _ h => h)) (.slice (some ⟨w2.heap.size, 0, none⟩) 1 1) [43] rfl (src_new w2 _ [43] rfl _) (Nat.le_trans Hb.out.1 (Nat.le_trans S2.out.f.size (by simp))) (by have := Hb.out.2.1; have := Hb.out.2.2; simp; omega) ?_; go_loud (intro v3 w3 hB hF hO; have S3 := hide (S2.out.al Hdb.out hB hF hO); clear hB hF hO))
    | (go_at_call 109; go_loud (refine (appint_any q (by have := HQ.out.2; omega) base v3 (((xs ++ [d0]) ++ [ch]) ++ [43]) w3 S3.out.b (Nat.le_trans Hb.out.1 S3.out.f.size) (by have := Hb.out.2.1; have := Hb.out.2.2; simp; omega) (HTb.out.here' S3.out HBB.out Hb.out.1)).mono ?_; rintro e w9 ⟨v9, rfl, hB, hF, hO⟩; have S9 := hide (S3.out.st Hdb.out hB hF hO); clear hB hF hO)))
  have HE := hide (S9.out.app HFin.out)
  go_wp2
  go_ret
  exact HE.out

set_option maxHeartbeats 4000000 in
set_option maxRecDepth 20000 in
theorem fmte_one_neg (g gd base bd cd n q : Nat) (exp : Int) (d0 : Nat) (ds : List Nat) (ch : Nat) (buf : Value) (xs : List Nat) (w : World) (hB : Buf w base buf xs) (hD : Buf w bd (.slice (some ⟨gd, 0, none⟩) n cd) (d0 :: ds)) (hn : n = ds.length + 1) (hcd : n ≤ cd) (hcm : cd ≤ maxLen) (hap : BufApart w buf (.slice (some ⟨gd, 0, none⟩) n cd)) (he : w.cell? ⟨g, 2, none⟩ = some (.int .i32 exp)) (hb : base ≤ w.heap.size) (hbb : ∀ k, buf.ownBlock = some k → base ≤ k)
    (hl : xs.length ≤ 10) (hdl : ds.length ≤ 500) (h1 : n = 1) (hadj : exp + (n : Int) - 1 = (-(q : Int))) (hq : 0 < q ∧ q ≤ 100000) (hx : -100000 ≤ exp ∧ exp ≤ 100000) (htab : Lib.TabBelow Tryz.prog base w "internal/strconv.uint64pow10" .u64 Lib.pow10Tab) :
    Calls Tryz.prog 84 #[buf, .int .u8 (ch : Int), .pointer (some ⟨g, 0, none⟩), .slice (some ⟨gd, 0, none⟩) n cd] w (AppP w base buf (xs ++ codeE (d0 :: ds) exp ch)) := by
  obtain ⟨i0, hi, hz0, hz1, hz2⟩ := u8_parts
  have HI := hide (And.intro hi (And.intro hz0 (And.intro hz1 hz2)))
  have c0 : w.cell? ⟨gd, 0, none⟩ = some (.int .u8 (d0 : Int)) := by
    obtain ⟨g', c', e1, -, -, -, h5⟩ := hD.split (by simp)
    injection e1 with e1 e2 e3
    injection e1 with e1
    injection e1 with e1
    rw [e1]
    exact h5 0 d0 rfl
  have Hb := hide (And.intro hb (And.intro hl hdl))
  have Hdb := hide hap
  have S0 := hide (St.start hB hD)
  have hds : ds = [] := List.eq_nil_of_length_eq_zero (by omega)
  subst h1
  subst hds
  obtain ⟨a1, ha1⟩ : ∃ a1 : Int, a1 = exp + (1 : Int) := ⟨_, rfl⟩
  have w1' : IntKind.i64.wrap exp = exp := by simp [IntKind.wrap, IntKind.signed, IntKind.bits]; omega
  have w2' : IntKind.i64.wrap (exp + (1 : Int)) = a1 := by rw [ha1]; simp [IntKind.wrap, IntKind.signed, IntKind.bits]; omega
  have w3' : IntKind.i64.wrap (a1 - 1) = (-(q : Int)) := by
    have e1 : a1 - 1 = (-(q : Int)) := by omega
    rw [e1]; simp [IntKind.wrap, IntKind.signed, IntKind.bits]; omega
  have hlt : -(q : Int) < 0 := by omega
  have w4' : IntKind.i64.wrap (-(-(q : Int))) = (q : Int) := by simp [IntKind.wrap, IntKind.signed, IntKind.bits]; omega
  have w5' : -(-(q : Int)) = (q : Int) := by omega
  have w6' : wrap64 (q : Int) = (q : Int) := by unfold wrap64; omega
  have HQ := hide (And.intro hq.1 hq.2)
  have HBB := hide hbb
  have HTb := hide htab
  have hfin : ((((xs ++ [d0]) ++ [ch]) ++ [45]) ++ decB q) = xs ++ codeE [d0] exp ch := by
    unfold codeE
    have e1 : exp + (([d0].length : Nat) : Int) - 1 = (-(q : Int)) := by rw [← hadj]; simp
    have e3 : Int.natAbs (-(q : Int)) = q := by rw [Int.natAbs_neg]; exact Int.natAbs_natCast q
    rw [e1, e3, if_neg (show ¬ 1 < [d0].length by simp), if_pos hlt]
    simp

  have HFin := hide hfin
  clear hi hz0 hz1 hz2 hB hD hap hb hl hdl ha1 hadj hq hx hbb htab hfin hcm hcd hn
  go_enter Tryz.func84, Tryz.ntmps84
  go_wp2_with (first
    | (at_builtin; refine wp_append_buf _ rfl (.tmp 20) (.tmp 24) 38 rfl i0 HI.out.1 HI.out.2.1 HI.out.2.2.1 HI.out.2.2.2 (v := buf) (xs := xs) (base := base) rfl (S0.out.b.fr ((Fr.refl _ (fun _ => False)).alloc _) (fun _ _ h => h)) (.slice (some ⟨w.heap.size, 0, none⟩) 1 1) [d0] rfl (src_new w _ [d0] rfl _) (Nat.le_trans Hb.out.1 (Nat.le_trans S0.out.f.size (by simp))) (by have := Hb.out.2.1; have := Hb.out.2.2; simp; omega) ?_; go_loud (intro v1 w1 hB hF hO; have S1 := hide (S0.out.al Hdb.out hB hF hO); clear hB hF hO))
    | (at_builtin; refine wp_append_buf _ rfl (.tmp 36) (.tmp 38) 38 rfl i0 HI.out.1 HI.out.2.1 HI.out.2.2.1 HI.out.2.2.2 (v := v1) (xs := (xs ++ [d0])) (base := base) rfl (S1.out.b.fr ((Fr.refl _ (fun _ => False)).alloc _) (fun _ _ h => h)) (.slice (some ⟨w1.heap.size, 0, none⟩) 1 1) [ch] rfl (src_new w1 _ [ch] rfl _) (Nat.le_trans Hb.out.1 (Nat.le_trans S1.out.f.size (by simp))) (by have := Hb.out.2.1; have := Hb.out.2.2; simp; omega) ?_; go_loud (intro v2 w2 hB hF hO; have S2 := hide (S1.out.al Hdb.out hB hF hO); clear hB hF hO))
    | (at_builtin; refine wp_append_buf _ rfl (.tmp 44) (.tmp 46) 38 rfl i0 HI.out.1 HI.out.2.1 HI.out.2.2.1 HI.out.2.2.2 (v := v2) (xs := ((xs ++ [d0]) ++ [ch])) (base := base) rfl (S2.out.b.fr ((Fr.refl _ (fun _ => False)).alloc _) (fun _ _ h => h)) (.slice (some ⟨w2.heap.size, 0, none⟩) 1 1) [45] rfl (src_new w2 _ [45] rfl _) (Nat.le_trans Hb.out.1 (Nat.le_trans S2.out.f.size (by simp))) (by have := Hb.out.2.1; have := Hb.out.2.2; simp; omega) ?_; go_loud (intro v3 w3 hB hF hO; have S3 := hide (S2.out.al Hdb.out hB hF hO); clear hB hF hO))
    | (go_at_call 109; go_loud (refine (appint_any q (by have := HQ.out.2; omega) base v3 (((xs ++ [d0]) ++ [ch]) ++ [45]) w3 S3.out.b (Nat.le_trans Hb.out.1 S3.out.f.size) (by have := Hb.out.2.1; have := Hb.out.2.2; simp; omega) (HTb.out.here' S3.out HBB.out Hb.out.1)).mono ?_; rintro e w9 ⟨v9, rfl, hB, hF, hO⟩; have S9 := hide (S3.out.st Hdb.out hB hF hO); clear hB hF hO)))
  have HE := hide (S9.out.app HFin.out)
  go_wp2
  go_ret
  exact HE.out

set_option maxHeartbeats 4000000 in
set_option maxRecDepth 20000 in
theorem fmte_long_pos (g gd base bd cd n q : Nat) (exp : Int) (d0 : Nat) (ds : List Nat) (ch : Nat) (buf : Value) (xs : List Nat) (w : World) (hB : Buf w base buf xs) (hD : Buf w bd (.slice (some ⟨gd, 0, none⟩) n cd) (d0 :: ds)) (hn : n = ds.length + 1) (hcd : n ≤ cd) (hcm : cd ≤ maxLen) (hap : BufApart w buf (.slice (some ⟨gd, 0, none⟩) n cd)) (he : w.cell? ⟨g, 2, none⟩ = some (.int .i32 exp)) (hb : base ≤ w.heap.size) (hbb : ∀ k, buf.ownBlock = some k → base ≤ k)
    (hl : xs.length ≤ 10) (hdl : ds.length ≤ 500) (h1 : 1 < n) (hadj : exp + (n : Int) - 1 = (q : Int)) (hq : 0 ≤ q ∧ q ≤ 100000) (hx : -100000 ≤ exp ∧ exp ≤ 100000) (htab : Lib.TabBelow Tryz.prog base w "internal/strconv.uint64pow10" .u64 Lib.pow10Tab) :
    Calls Tryz.prog 84 #[buf, .int .u8 (ch : Int), .pointer (some ⟨g, 0, none⟩), .slice (some ⟨gd, 0, none⟩) n cd] w (AppP w base buf (xs ++ codeE (d0 :: ds) exp ch)) := by
  obtain ⟨i0, hi, hz0, hz1, hz2⟩ := u8_parts
  have HI := hide (And.intro hi (And.intro hz0 (And.intro hz1 hz2)))
  have c0 : w.cell? ⟨gd, 0, none⟩ = some (.int .u8 (d0 : Int)) := by
    obtain ⟨g', c', e1, -, -, -, h5⟩ := hD.split (by simp)
    injection e1 with e1 e2 e3
    injection e1 with e1
    injection e1 with e1
    rw [e1]
    exact h5 0 d0 rfl
  have Hb := hide (And.intro hb (And.intro hl hdl))
  have Hdb := hide hap
  have S0 := hide (St.start hB hD)
  obtain ⟨n1, hn1⟩ : ∃ n1, n1 = n - 1 := ⟨_, rfl⟩
  obtain ⟨cd1, hcd1⟩ : ∃ cd1, cd1 = cd - 1 := ⟨_, rfl⟩
  have hsl : ∀ W, (Instr.slice 38 (.slice (some ⟨gd, 0, none⟩) n cd) (some (.int .i64 1)) none none).run Tryz.prog W = .ok (.slice (some ⟨gd, 1, none⟩) n1 cd1) W := fun W => by
    rw [run_slice_l W 38 (some ⟨gd, 0, none⟩) n cd (by kernel_rfl) .i64 1 (by omega) (by omega)]
    have hs : (Tryz.prog.elem 38) = 5 := by kernel_rfl
    have hne : ¬ cd = 1 := by omega
    go_simp
    try simp [sliced, hne, hn1, hcd1, Addr.add]
  have Hsrc : Hid (∀ W, Buf W bd (.slice (some ⟨gd, 0, none⟩) n cd) (d0 :: ds) → Src Tryz.prog 1 38 (.slice (some ⟨gd, 1, none⟩) n1 cd1) ds.length (gv .u8 ds) W) := fun W h => by
    obtain ⟨g', c', e1, -, -, -, h5⟩ := h.split (by simp)
    injection e1 with e1 e2 e3
    injection e1 with e1
    injection e1 with e1
    subst e1
    exact src_part 1 (fun i d hd => by rw [Nat.add_comm]; exact h5 (i + 1) d (by simpa using hd)) (by omega) (by omega) (by omega)
  have hni : (1 : Int) < (n : Int) := by omega
  obtain ⟨a1, ha1⟩ : ∃ a1 : Int, a1 = exp + (n : Int) := ⟨_, rfl⟩
  have w1' : IntKind.i64.wrap exp = exp := by simp [IntKind.wrap, IntKind.signed, IntKind.bits]; omega
  have w2' : IntKind.i64.wrap (exp + (n : Int)) = a1 := by rw [ha1]; simp [IntKind.wrap, IntKind.signed, IntKind.bits]; omega
  have w3' : IntKind.i64.wrap (a1 - 1) = (q : Int) := by
    have e1 : a1 - 1 = (q : Int) := by omega
    rw [e1]; simp [IntKind.wrap, IntKind.signed, IntKind.bits]; omega
  have hlt : ¬ (q : Int) < 0 := by omega
  have HQ := hide (And.intro hq.1 hq.2)
  have HBB := hide hbb
  have HTb := hide htab
  have hfin : ((((((xs ++ [d0]) ++ [46]) ++ ds) ++ [ch]) ++ [43]) ++ decB q) = xs ++ codeE (d0 :: ds) exp ch := by
    unfold codeE
    have e1 : exp + (((d0 :: ds).length : Nat) : Int) - 1 = (q : Int) := by rw [← hadj]; simp; omega
    have e3 : Int.natAbs (q : Int) = q := Int.natAbs_natCast q
    rw [e1, e3, if_pos (show 1 < (d0 :: ds).length by rw [List.length_cons, ← hn]; exact h1), if_neg hlt]
    simp

  have HFin := hide hfin
  clear hi hz0 hz1 hz2 hB hD hap hb hl hdl ha1 hadj hq hx hbb htab hfin hcm hcd hn hn1 hcd1
  go_enter Tryz.func84, Tryz.ntmps84
  go_wp2_with (first
    | (at_builtin; refine wp_append_buf _ rfl (.tmp 20) (.tmp 24) 38 rfl i0 HI.out.1 HI.out.2.1 HI.out.2.2.1 HI.out.2.2.2 (v := buf) (xs := xs) (base := base) rfl (S0.out.b.fr ((Fr.refl _ (fun _ => False)).alloc _) (fun _ _ h => h)) (.slice (some ⟨w.heap.size, 0, none⟩) 1 1) [d0] rfl (src_new w _ [d0] rfl _) (Nat.le_trans Hb.out.1 (Nat.le_trans S0.out.f.size (by simp))) (by have := Hb.out.2.1; have := Hb.out.2.2; simp; omega) ?_; go_loud (intro v1 w1 hB hF hO; have S1 := hide (S0.out.al Hdb.out hB hF hO); clear hB hF hO))
    | (at_builtin; refine wp_append_buf _ rfl (.tmp 29) (.tmp 30) 38 rfl i0 HI.out.1 HI.out.2.1 HI.out.2.2.1 HI.out.2.2.2 (v := v1) (xs := (xs ++ [d0])) (base := base) rfl (S1.out.b.fr ((Fr.refl _ (fun _ => False)).alloc _) (fun _ _ h => h)) (.slice (some ⟨w1.heap.size, 0, none⟩) 1 1) [46] rfl (src_new w1 _ [46] rfl _) (Nat.le_trans Hb.out.1 (Nat.le_trans S1.out.f.size (by simp))) (by have := Hb.out.2.1; have := Hb.out.2.2; simp; omega) ?_; go_loud (intro v2 w2 hB hF hO; have S2 := hide (S1.out.al Hdb.out hB hF hO); clear hB hF hO))
    | (at_builtin; refine wp_append_buf _ rfl (.tmp 32) (.tmp 34) 38 rfl i0 HI.out.1 HI.out.2.1 HI.out.2.2.1 HI.out.2.2.2 (v := v2) (xs := ((xs ++ [d0]) ++ [46])) (base := base) rfl S2.out.b (.slice (some ⟨gd, 1, none⟩) n1 cd1) ds rfl (Hsrc.out _ S2.out.d) (Nat.le_trans Hb.out.1 (Nat.le_trans S2.out.f.size (Nat.le_refl _))) (by have := Hb.out.2.1; have := Hb.out.2.2; simp; omega) ?_; go_loud (intro v3 w3 hB hF hO; have S3 := hide (S2.out.st Hdb.out hB hF hO); clear hB hF hO))
    | (at_builtin; refine wp_append_buf _ rfl (.tmp 36) (.tmp 38) 38 rfl i0 HI.out.1 HI.out.2.1 HI.out.2.2.1 HI.out.2.2.2 (v := v3) (xs := (((xs ++ [d0]) ++ [46]) ++ ds)) (base := base) rfl (S3.out.b.fr ((Fr.refl _ (fun _ => False)).alloc _) (fun _ _ h => h)) (.slice (some ⟨w3.heap.size, 0, none⟩) 1 1) [ch] rfl (src_new w3 _ [ch] rfl _) (Nat.le_trans Hb.out.1 (Nat.le_trans S3.out.f.size (by simp))) (by have := Hb.out.2.1; have := Hb.out.2.2; simp; omega) ?_; go_loud (intro v4 w4 hB hF hO; have S4 := hide (S3.out.al Hdb.out hB hF hO); clear hB hF hO))
    | (at_builtin; refine wp_append_buf _ rfl (.tmp 44) (.tmp 46) 38 rfl i0 HI.out.1 HI.out.2.1 HI.out.2.2.1 HI.out.2.2.2 (v := v4) (xs := ((((xs ++ [d0]) ++ [46]) ++ ds) ++ [ch])) (base := base) rfl (S4.out.b.fr ((Fr.refl _ (fun _ => False)).alloc _) (fun _ _ h => h)) (.slice (some ⟨w4.heap.size, 0, none⟩) 1 1) [43] rfl (src_new w4 _ [43] rfl _) (Nat.le_trans Hb.out.1 (Nat.le_trans S4.out.f.size (by simp))) (by have := Hb.out.2.1; have := Hb.out.2.2; simp; omega) ?_; go_loud (intro v5 w5 hB hF hO; have S5 := hide (S4.out.al Hdb.out hB hF hO); clear hB hF hO))
    | (go_at_call 109; go_loud (refine (appint_any q (by have := HQ.out.2; omega) base v5 (((((xs ++ [d0]) ++ [46]) ++ ds) ++ [ch]) ++ [43]) w5 S5.out.b (Nat.le_trans Hb.out.1 S5.out.f.size) (by have := Hb.out.2.1; have := Hb.out.2.2; simp; omega) (HTb.out.here' S5.out HBB.out Hb.out.1)).mono ?_; rintro e w9 ⟨v9, rfl, hB, hF, hO⟩; have S9 := hide (S5.out.st Hdb.out hB hF hO); clear hB hF hO)))
  have HE := hide (S9.out.app HFin.out)
  go_wp2
  go_ret
  exact HE.out

set_option maxHeartbeats 4000000 in
set_option maxRecDepth 20000 in
theorem fmte_long_neg (g gd base bd cd n q : Nat) (exp : Int) (d0 : Nat) (ds : List Nat) (ch : Nat) (buf : Value) (xs : List Nat) (w : World) (hB : Buf w base buf xs) (hD : Buf w bd (.slice (some ⟨gd, 0, none⟩) n cd) (d0 :: ds)) (hn : n = ds.length + 1) (hcd : n ≤ cd) (hcm : cd ≤ maxLen) (hap : BufApart w buf (.slice (some ⟨gd, 0, none⟩) n cd)) (he : w.cell? ⟨g, 2, none⟩ = some (.int .i32 exp)) (hb : base ≤ w.heap.size) (hbb : ∀ k, buf.ownBlock = some k → base ≤ k)
    (hl : xs.length ≤ 10) (hdl : ds.length ≤ 500) (h1 : 1 < n) (hadj : exp + (n : Int) - 1 = (-(q : Int))) (hq : 0 < q ∧ q ≤ 100000) (hx : -100000 ≤ exp ∧ exp ≤ 100000) (htab : Lib.TabBelow Tryz.prog base w "internal/strconv.uint64pow10" .u64 Lib.pow10Tab) :
    Calls Tryz.prog 84 #[buf, .int .u8 (ch : Int), .pointer (some ⟨g, 0, none⟩), .slice (some ⟨gd, 0, none⟩) n cd] w (AppP w base buf (xs ++ codeE (d0 :: ds) exp ch)) := by
  obtain ⟨i0, hi, hz0, hz1, hz2⟩ := u8_parts
  have HI := hide (And.intro hi (And.intro hz0 (And.intro hz1 hz2)))
  have c0 : w.cell? ⟨gd, 0, none⟩ = some (.int .u8 (d0 : Int)) := by
    obtain ⟨g', c', e1, -, -, -, h5⟩ := hD.split (by simp)
    injection e1 with e1 e2 e3
    injection e1 with e1
    injection e1 with e1
    rw [e1]
    exact h5 0 d0 rfl
  have Hb := hide (And.intro hb (And.intro hl hdl))
  have Hdb := hide hap
  have S0 := hide (St.start hB hD)
  obtain ⟨n1, hn1⟩ : ∃ n1, n1 = n - 1 := ⟨_, rfl⟩
  obtain ⟨cd1, hcd1⟩ : ∃ cd1, cd1 = cd - 1 := ⟨_, rfl⟩
  have hsl : ∀ W, (Instr.slice 38 (.slice (some ⟨gd, 0, none⟩) n cd) (some (.int .i64 1)) none none).run Tryz.prog W = .ok (.slice (some ⟨gd, 1, none⟩) n1 cd1) W := fun W => by
    rw [run_slice_l W 38 (some ⟨gd, 0, none⟩) n cd (by kernel_rfl) .i64 1 (by omega) (by omega)]
    have hs : (Tryz.prog.elem 38) = 5 := by kernel_rfl
    have hne : ¬ cd = 1 := by omega
    go_simp
    try simp [sliced, hne, hn1, hcd1, Addr.add]
  have Hsrc : Hid (∀ W, Buf W bd (.slice (some ⟨gd, 0, none⟩) n cd) (d0 :: ds) → Src Tryz.prog 1 38 (.slice (some ⟨gd, 1, none⟩) n1 cd1) ds.length (gv .u8 ds) W) := fun W h => by
    obtain ⟨g', c', e1, -, -, -, h5⟩ := h.split (by simp)
    injection e1 with e1 e2 e3
    injection e1 with e1
    injection e1 with e1
    subst e1
    exact src_part 1 (fun i d hd => by rw [Nat.add_comm]; exact h5 (i + 1) d (by simpa using hd)) (by omega) (by omega) (by omega)
  have hni : (1 : Int) < (n : Int) := by omega
  obtain ⟨a1, ha1⟩ : ∃ a1 : Int, a1 = exp + (n : Int) := ⟨_, rfl⟩
  have w1' : IntKind.i64.wrap exp = exp := by simp [IntKind.wrap, IntKind.signed, IntKind.bits]; omega
  have w2' : IntKind.i64.wrap (exp + (n : Int)) = a1 := by rw [ha1]; simp [IntKind.wrap, IntKind.signed, IntKind.bits]; omega
  have w3' : IntKind.i64.wrap (a1 - 1) = (-(q : Int)) := by
    have e1 : a1 - 1 = (-(q : Int)) := by omega
    rw [e1]; simp [IntKind.wrap, IntKind.signed, IntKind.bits]; omega
  have hlt : -(q : Int) < 0 := by omega
  have w4' : IntKind.i64.wrap (-(-(q : Int))) = (q : Int) := by simp [IntKind.wrap, IntKind.signed, IntKind.bits]; omega
  have w5' : -(-(q : Int)) = (q : Int) := by omega
  have w6' : wrap64 (q : Int) = (q : Int) := by unfold wrap64; omega
  have HQ := hide (And.intro hq.1 hq.2)
  have HBB := hide hbb
  have HTb := hide htab
  have hfin : ((((((xs ++ [d0]) ++ [46]) ++ ds) ++ [ch]) ++ [45]) ++ decB q) = xs ++ codeE (d0 :: ds) exp ch := by
    unfold codeE
    have e1 : exp + (((d0 :: ds).length : Nat) : Int) - 1 = (-(q : Int)) := by rw [← hadj]; simp; omega
    have e3 : Int.natAbs (-(q : Int)) = q := by rw [Int.natAbs_neg]; exact Int.natAbs_natCast q
    rw [e1, e3, if_pos (show 1 < (d0 :: ds).length by rw [List.length_cons, ← hn]; exact h1), if_pos hlt]
    simp

  have HFin := hide hfin
  clear hi hz0 hz1 hz2 hB hD hap hb hl hdl ha1 hadj hq hx hbb htab hfin hcm hcd hn hn1 hcd1
  go_enter Tryz.func84, Tryz.ntmps84
  go_wp2_with (first
    | (at_builtin; refine wp_append_buf _ rfl (.tmp 20) (.tmp 24) 38 rfl i0 HI.out.1 HI.out.2.1 HI.out.2.2.1 HI.out.2.2.2 (v := buf) (xs := xs) (base := base) rfl (S0.out.b.fr ((Fr.refl _ (fun _ => False)).alloc _) (fun _ _ h => h)) (.slice (some ⟨w.heap.size, 0, none⟩) 1 1) [d0] rfl (src_new w _ [d0] rfl _) (Nat.le_trans Hb.out.1 (Nat.le_trans S0.out.f.size (by simp))) (by have := Hb.out.2.1; have := Hb.out.2.2; simp; omega) ?_; go_loud (intro v1 w1 hB hF hO; have S1 := hide (S0.out.al Hdb.out hB hF hO); clear hB hF hO))
    | (at_builtin; refine wp_append_buf _ rfl (.tmp 29) (.tmp 30) 38 rfl i0 HI.out.1 HI.out.2.1 HI.out.2.2.1 HI.out.2.2.2 (v := v1) (xs := (xs ++ [d0])) (base := base) rfl (S1.out.b.fr ((Fr.refl _ (fun _ => False)).alloc _) (fun _ _ h => h)) (.slice (some ⟨w1.heap.size, 0, none⟩) 1 1) [46] rfl (src_new w1 _ [46] rfl _) (Nat.le_trans Hb.out.1 (Nat.le_trans S1.out.f.size (by simp))) (by have := Hb.out.2.1; have := Hb.out.2.2; simp; omega) ?_; go_loud (intro v2 w2 hB hF hO; have S2 := hide (S1.out.al Hdb.out hB hF hO); clear hB hF hO))
    | (at_builtin; refine wp_append_buf _ rfl (.tmp 32) (.tmp 34) 38 rfl i0 HI.out.1 HI.out.2.1 HI.out.2.2.1 HI.out.2.2.2 (v := v2) (xs := ((xs ++ [d0]) ++ [46])) (base := base) rfl S2.out.b (.slice (some ⟨gd, 1, none⟩) n1 cd1) ds rfl (Hsrc.out _ S2.out.d) (Nat.le_trans Hb.out.1 (Nat.le_trans S2.out.f.size (Nat.le_refl _))) (by have := Hb.out.2.1; have := Hb.out.2.2; simp; omega) ?_; go_loud (intro v3 w3 hB hF hO; have S3 := hide (S2.out.st Hdb.out hB hF hO); clear hB hF hO))
    | (at_builtin; refine wp_append_buf _ rfl (.tmp 36) (.tmp 38) 38 rfl i0 HI.out.1 HI.out.2.1 HI.out.2.2.1 HI.out.2.2.2 (v := v3) (xs := (((xs ++ [d0]) ++ [46]) ++ ds)) (base := base) rfl (S3.out.b.fr ((Fr.refl _ (fun _ => False)).alloc _) (fun _ _ h => h)) (.slice (some ⟨w3.heap.size, 0, none⟩) 1 1) [ch] rfl (src_new w3 _ [ch] rfl _) (Nat.le_trans Hb.out.1 (Nat.le_trans S3.out.f.size (by simp))) (by have := Hb.out.2.1; have := Hb.out.2.2; simp; omega) ?_; go_loud (intro v4 w4 hB hF hO; have S4 := hide (S3.out.al Hdb.out hB hF hO); clear hB hF hO))
    | (at_builtin; refine wp_append_buf _ rfl (.tmp 44) (.tmp 46) 38 rfl i0 HI.out.1 HI.out.2.1 HI.out.2.2.1 HI.out.2.2.2 (v := v4) (xs := ((((xs ++ [d0]) ++ [46]) ++ ds) ++ [ch])) (base := base) rfl (S4.out.b.fr ((Fr.refl _ (fun _ => False)).alloc _) (fun _ _ h => h)) (.slice (some ⟨w4.heap.size, 0, none⟩) 1 1) [45] rfl (src_new w4 _ [45] rfl _) (Nat.le_trans Hb.out.1 (Nat.le_trans S4.out.f.size (by simp))) (by have := Hb.out.2.1; have := Hb.out.2.2; simp; omega) ?_; go_loud (intro v5 w5 hB hF hO; have S5 := hide (S4.out.al Hdb.out hB hF hO); clear hB hF hO))
    | (go_at_call 109; go_loud (refine (appint_any q (by have := HQ.out.2; omega) base v5 (((((xs ++ [d0]) ++ [46]) ++ ds) ++ [ch]) ++ [45]) w5 S5.out.b (Nat.le_trans Hb.out.1 S5.out.f.size) (by have := Hb.out.2.1; have := Hb.out.2.2; simp; omega) (HTb.out.here' S5.out HBB.out Hb.out.1)).mono ?_; rintro e w9 ⟨v9, rfl, hB, hF, hO⟩; have S9 := hide (S5.out.st Hdb.out hB hF hO); clear hB hF hO)))
  have HE := hide (S9.out.app HFin.out)
  go_wp2
  go_ret
  exact HE.out

end Go.Proofs.YtlepebogjpcfoaaGreatDoor
