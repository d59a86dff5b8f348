/- Parts of the proofs: FmtF. -/
import Derived.Test.YtlepebogjpcfoaaGreatDoorG49
/- Walk: fmtF. -/
set_option linter.unusedVariables false
set_option linter.unusedSimpArgs false
namespace Go.Proofs.YtlepebogjpcfoaaGreatDoor
open Go.RowKit

theorem St.cell {w : World} {base : Nat} {buf dgv : Value} {bd : Nat} {ys : List Nat} {v : Value} {xs : List Nat} {W : World} (h : St w base buf dgv bd ys v xs W) {g : Nat} (hg : g < w.heap.size) (hgb : buf.ownBlock ≠ some g) (i : Nat) : W.cell? ⟨g, i, none⟩ = w.cell? ⟨g, i, none⟩ :=
  World.cell?_of_block (a := ⟨g, i, none⟩) (h.f.block g hg hgb)

theorem i64_small {x y : Int} (e : x = y) (h : -1000000 ≤ y ∧ y ≤ 1000000) : IntKind.i64.wrap x = y := by subst e; simp [IntKind.wrap, IntKind.signed, IntKind.bits]; omega
theorem wrap64_small {x : Int} (h : -1000000 ≤ x ∧ x ≤ 1000000) : wrap64 x = x := by unfold wrap64; omega
theorem i64_inc {i L : Nat} (h : i < L) (hL : L ≤ 10000) : IntKind.i64.wrap ((i : Int) + 1) = ((i + 1 : Nat) : Int) := by simp [IntKind.wrap, IntKind.signed, IntKind.bits]; omega
theorem i32_inc {i L : Nat} (h : i < L) (hL : L ≤ 10000) : IntKind.i32.wrap ((i : Int) + 1) = ((i + 1 : Nat) : Int) := by simp [IntKind.wrap, IntKind.signed, IntKind.bits]; omega
theorem meas_lt {i L : Nat} (h : i < L) : L - ((i : Int) + 1).toNat < L - (i : Int).toNat := by omega
theorem len_grow {xs : List Nat} {i L : Nat} (h : xs.length ≤ 600) (hi : i ≤ L) (hL : L ≤ 10000) : (xs ++ List.replicate i 48).length + [48].length ≤ 1000000 := by simp; omega

set_option maxHeartbeats 4000000 in
set_option maxRecDepth 20000 in
theorem fmtf_ahead (g gd base bd cd n k L : Nat) (exp : Int) (ys : List Nat) (buf : Value) (xs : List Nat) (w : World) (hB : Buf w base buf xs) (hD : Buf w bd (.slice (some ⟨gd, 0, none⟩) n cd) ys) (hn : n = ys.length) (hn0 : 0 < n) (hcd : n ≤ cd) (hcm : cd ≤ maxLen) (hap : BufApart w buf (.slice (some ⟨gd, 0, none⟩) n cd)) (he : w.cell? ⟨g, 2, none⟩ = some (.int .i32 exp)) (hg : g < w.heap.size ∧ buf.ownBlock ≠ some g) (hb : base ≤ w.heap.size)
    (hl : xs.length ≤ 10) (hdl : ys.length ≤ 500) (hk1 : -exp = (k : Int)) (hneg : exp < 0) (hL : (k : Int) - (n : Int) = (L : Int)) (hk : k ≤ 10000) :
    Calls Tryz.prog 85 #[buf, .pointer (some ⟨g, 0, none⟩), .slice (some ⟨gd, 0, none⟩) n cd] w (AppP w base buf (xs ++ codeF ys exp)) := by
  obtain ⟨i0, hi, hz0, hz1, hz2⟩ := u8_parts
  have HI := hide (And.intro hi (And.intro hz0 (And.intro hz1 hz2)))
  have Hb := hide (And.intro hb (And.intro hl hdl))
  have Hdb := hide hap
  have S0 := hide (St.start hB hD)
  have HC : Hid (∀ v zs W, St w base buf (.slice (some ⟨gd, 0, none⟩) n cd) bd ys v zs W → W.cell? ⟨g, 2, none⟩ = some (.int .i32 exp)) := fun v zs W h => (h.cell hg.1 hg.2 2).trans he
  have HG : Hid (∀ (W : World), Buf W bd (.slice (some ⟨gd, 0, none⟩) n cd) ys → ∀ i d, ys[i]? = some d → W.cell? ⟨gd, i, none⟩ = some (.int .u8 (d : Nat))) := fun W h => by
    obtain ⟨g', c', e1, -, -, -, h5⟩ := h.split (by omega)
    injection e1 with e1 e2 e3
    injection e1 with e1
    injection e1 with e1
    subst e1
    exact h5
  have hL0 : (0 : Int) ≤ (L : Int) := by omega
  have hLs : L ≤ 10000 := by omega
  have hLi : -1000000 ≤ (L : Int) ∧ (L : Int) ≤ 1000000 := by omega
  have hki : -1000000 ≤ (k : Int) ∧ (k : Int) ≤ 1000000 := by omega
  have hei : -1000000 ≤ exp ∧ exp ≤ 1000000 := by omega
  have hlen1 : xs.length + [48, 46].length ≤ 1000000 := by simp; omega
  have hlen2 : (xs ++ [48, 46]).length ≤ 600 := by simp; omega
  have hlen3 : ((xs ++ [48, 46]) ++ List.replicate L 48).length + ys.length ≤ 1000000 := by simp; omega
  have HLn := hide (And.intro hlen1 (And.intro hlen2 hlen3))
  have hfin : ((xs ++ [48, 46]) ++ List.replicate L 48) ++ ys = xs ++ codeF ys exp := by
    unfold codeF
    have e1 : -exp - ((ys.length : Nat) : Int) = (L : Int) := by rw [hk1, ← hn]; exact hL
    rw [if_pos hneg, e1, if_pos hL0, Int.toNat_natCast]
    simp
  have w1 : IntKind.i64.wrap exp = exp := i64_small rfl hei
  have w2 : IntKind.i64.wrap (-exp) = (k : Int) := i64_small hk1 hki
  have w3 : IntKind.i64.wrap (k : Int) = (k : Int) := i64_small rfl hki
  have w4 : wrap64 (k : Int) = (k : Int) := wrap64_small hki
  have w5 : IntKind.i64.wrap ((k : Int) - (n : Int)) = (L : Int) := i64_small hL hLi
  have w6 : wrap64 (L : Int) = (L : Int) := wrap64_small hLi
  have HFin := hide hfin
  have HLs := hide hLs
  have HNn := hide hn
  have HSrc : Hid (∀ W, Buf W bd (.slice (some ⟨gd, 0, none⟩) n cd) ys → Src Tryz.prog 1 38 (.slice (some ⟨gd, 0, none⟩) n cd) ys.length (gv .u8 ys) W) := fun W h => src_rd h.rd
  clear hi hz0 hz1 hz2 hB hD hap hb hl hdl hfin hcm hcd hg hn hLs hn0 hLi hki hei hlen1 hlen2 hlen3
  go_enter Tryz.func85, Tryz.ntmps85
  go_wp2_with (first
    | (at_builtin; refine wp_append_buf _ rfl (.tmp 27) (.const (.string { data := #[48, 46] })) 9 rfl i0 HI.out.1 HI.out.2.1 HI.out.2.2.1 HI.out.2.2.2 (v := buf) (xs := xs) (base := base) rfl S0.out.b (.string { data := #[48, 46] }) [48, 46] rfl (src_text w [48, 46] (by decide)) (Nat.le_trans Hb.out.1 (Nat.le_trans S0.out.f.size (Nat.le_refl _))) HLn.out.1 ?_; go_loud (intro v1 w1 hB hF hO; have S1 := hide (S0.out.st Hdb.out hB hF hO); clear hB hF hO)))
  go_loopw [0, 8] (fun vb vi wr => ∃ i : Nat, i ≤ L ∧ vi = .int .i64 (i : Int) ∧ Hid (St w base buf (.slice (some ⟨gd, 0, none⟩) n cd) bd ys vb ((xs ++ [48, 46]) ++ List.replicate i 48) wr)) (fun _ vi _ => match vi with | .int _ i => L - i.toNat | _ => 0)
  case atStart => exact ⟨0, by omega, rfl, by simpa using S1⟩
  case round =>
    obtain ⟨i, hi, rfl, HR⟩ := hrel
    clear S1 S0
    by_cases h : i = L
    · subst h
      have hii : ¬ ((i : Int) < (i : Int)) := Int.lt_irrefl _
      go_wp2_with (first
        | (at_builtin; refine wp_append_buf _ rfl (.tmp 37) (.tmp 38) 38 rfl i0 HI.out.1 HI.out.2.1 HI.out.2.2.1 HI.out.2.2.2 (v := _) (xs := ((xs ++ [48, 46]) ++ List.replicate i 48)) (base := base) rfl HR.out.b (.slice (some ⟨gd, 0, none⟩) n cd) ys rfl (HSrc.out _ HR.out.d) (Nat.le_trans Hb.out.1 (Nat.le_trans HR.out.f.size (Nat.le_refl _))) HLn.out.2.2 ?_; go_loud (intro v3 w3 hB hF hO; have S3 := hide (HR.out.st Hdb.out hB hF hO); clear hB hF hO)))
      have HE := hide (S3.out.app HFin.out)
      go_wp2
      go_ret
      exact HE.out
    · have hlN : i < L := Nat.lt_of_le_of_ne hi h
      have hlt : (i : Int) < (L : Int) := Int.ofNat_lt.2 hlN
      have hw := i64_inc hlN HLs.out
      go_wp2_with (first
        | (at_builtin; refine wp_append_buf _ rfl (.tmp 34) (.tmp 35) 38 rfl i0 HI.out.1 HI.out.2.1 HI.out.2.2.1 HI.out.2.2.2 (v := _) (xs := ((xs ++ [48, 46]) ++ List.replicate i 48)) (base := base) rfl (HR.out.b.fr ((Fr.refl _ (fun _ => False)).alloc _) (fun _ _ h => h)) (.slice (some ⟨wr.heap.size, 0, none⟩) 1 1) [48] rfl (src_new wr _ [48] rfl _) (Nat.le_trans Hb.out.1 (Nat.le_trans HR.out.f.size (by simp))) (len_grow HLn.out.2.1 hi HLs.out) ?_; go_loud (intro v3 w3 hB hF hO; have S3 := hide (HR.out.al Hdb.out hB hF hO); clear hB hF hO)))
      have HN : Hid (St w base buf (.slice (some ⟨gd, 0, none⟩) n cd) bd ys v3 ((xs ++ [48, 46]) ++ List.replicate (i + 1) 48) w3) := by
        have h := S3.out
        rw [List.append_assoc _ _ [48], show List.replicate i 48 ++ [48] = List.replicate (i + 1) 48 from (List.replicate_succ' ..).symm] at h
        exact h
      clear S3 HR
      go_wp2
      go_roundw
      case rel => exact ⟨i + 1, hlN, rfl, HN⟩
      case measure => exact meas_lt hlN

set_option maxHeartbeats 4000000 in
set_option maxRecDepth 20000 in
theorem fmtf_point (g gd base bd cd n k o : Nat) (exp : Int) (ys : List Nat) (buf : Value) (xs : List Nat) (w : World) (hB : Buf w base buf xs) (hD : Buf w bd (.slice (some ⟨gd, 0, none⟩) n cd) ys) (hn : n = ys.length) (hn0 : 0 < n) (hcd : n ≤ cd) (hcm : cd ≤ maxLen) (hap : BufApart w buf (.slice (some ⟨gd, 0, none⟩) n cd)) (he : w.cell? ⟨g, 2, none⟩ = some (.int .i32 exp)) (hg : g < w.heap.size ∧ buf.ownBlock ≠ some g) (hb : base ≤ w.heap.size)
    (hl : xs.length ≤ 10) (hdl : ys.length ≤ 500) (hk1 : -exp = (k : Int)) (hneg : exp < 0) (ho : (n : Int) - (k : Int) = (o : Int)) (ho0 : 0 < o) (hk : k ≤ 10000) :
    Calls Tryz.prog 85 #[buf, .pointer (some ⟨g, 0, none⟩), .slice (some ⟨gd, 0, none⟩) n cd] w (AppP w base buf (xs ++ codeF ys exp)) := by
  obtain ⟨i0, hi, hz0, hz1, hz2⟩ := u8_parts
  have HI := hide (And.intro hi (And.intro hz0 (And.intro hz1 hz2)))
  have Hb := hide (And.intro hb (And.intro hl hdl))
  have Hdb := hide hap
  have S0 := hide (St.start hB hD)
  have HC : Hid (∀ v zs W, St w base buf (.slice (some ⟨gd, 0, none⟩) n cd) bd ys v zs W → W.cell? ⟨g, 2, none⟩ = some (.int .i32 exp)) := fun v zs W h => (h.cell hg.1 hg.2 2).trans he
  have HG : Hid (∀ (W : World), Buf W bd (.slice (some ⟨gd, 0, none⟩) n cd) ys → ∀ i d, ys[i]? = some d → W.cell? ⟨gd, i, none⟩ = some (.int .u8 (d : Nat))) := fun W h => by
    obtain ⟨g', c', e1, -, -, -, h5⟩ := h.split (by omega)
    injection e1 with e1 e2 e3
    injection e1 with e1
    injection e1 with e1
    subst e1
    exact h5
  obtain ⟨m1, hm1⟩ : ∃ m1 : Int, m1 = (k : Int) - (n : Int) := ⟨_, rfl⟩
  have hmo : -m1 = (o : Int) := by omega
  have hm0 : ¬ 0 ≤ m1 := by omega
  have hm2 : m1 < 0 := by omega
  have hon : o < n := by omega
  obtain ⟨n1, hn1⟩ : ∃ n1, n1 = n - o := ⟨_, rfl⟩
  obtain ⟨cd1, hcd1⟩ : ∃ cd1, cd1 = cd - o := ⟨_, rfl⟩
  have hsh : ∀ W, (Instr.slice 38 (.slice (some ⟨gd, 0, none⟩) n cd) none (some (.int .i64 (o : Int))) none).run Tryz.prog W = .ok (.slice (some ⟨gd, 0, none⟩) o cd) W := fun W => by
    rw [run_slice_h W 38 (some ⟨gd, 0, none⟩) n cd (by kernel_rfl) .i64 (o : Int) (by omega) (by omega)]
    have hs : (Tryz.prog.elem 38) = 5 := by kernel_rfl
    go_simp
    try simp [sliced]
  have hsl : ∀ W, (Instr.slice 38 (.slice (some ⟨gd, 0, none⟩) n cd) (some (.int .i64 (o : Int))) none none).run Tryz.prog W = .ok (.slice (some ⟨gd, o, none⟩) n1 cd1) W := fun W => by
    rw [run_slice_l W 38 (some ⟨gd, 0, none⟩) n cd (by kernel_rfl) .i64 (o : Int) (by omega) (by omega)]
    have hs : (Tryz.prog.elem 38) = 5 := by kernel_rfl
    have hne : ¬ cd = o := by omega
    go_simp
    try simp [sliced, hne, hn1, hcd1, Addr.add]
  have HSh : Hid (∀ W, Buf W bd (.slice (some ⟨gd, 0, none⟩) n cd) ys → Src Tryz.prog 1 38 (.slice (some ⟨gd, 0, none⟩) o cd) (ys.take o).length (gv .u8 (ys.take o)) W) := fun W h =>
    src_part 0 (fun i d hd => by rw [Nat.zero_add]; rw [List.getElem?_take] at hd; split at hd; exact HG.out W h i d hd; cases hd) (by rw [List.length_take]; omega) (by omega) hcm
  have HSl : Hid (∀ W, Buf W bd (.slice (some ⟨gd, 0, none⟩) n cd) ys → Src Tryz.prog 1 38 (.slice (some ⟨gd, o, none⟩) n1 cd1) (ys.drop o).length (gv .u8 (ys.drop o)) W) := fun W h =>
    src_part o (fun i d hd => by rw [List.getElem?_drop] at hd; exact HG.out W h (o + i) d hd) (by rw [List.length_drop]; omega) (by omega) (by omega)
  have hfin : ((xs ++ ys.take o) ++ [46]) ++ ys.drop o = xs ++ codeF ys exp := by
    unfold codeF
    have e1 : ¬ 0 ≤ -exp - ((ys.length : Nat) : Int) := by rw [hk1, ← hn]; omega
    have e2 : ((ys.length : Nat) : Int) + exp = (o : Int) := by rw [← hn, ← ho, ← hk1]; omega
    rw [if_pos hneg, if_neg e1, e2, Int.toNat_natCast]
    simp
  have hlt1 : (ys.take o).length ≤ 500 := by rw [List.length_take]; omega
  have hlt2 : (ys.drop o).length ≤ 500 := by rw [List.length_drop]; omega
  have hln1 : xs.length + (ys.take o).length ≤ 1000000 := by omega
  have hln2 : (xs ++ ys.take o).length + [46].length ≤ 1000000 := by rw [List.length_append, List.length_singleton]; omega
  have hln3 : ((xs ++ ys.take o) ++ [46]).length + (ys.drop o).length ≤ 1000000 := by rw [List.length_append, List.length_append, List.length_singleton]; omega
  have HLn := hide (And.intro hln1 (And.intro hln2 hln3))
  have hei : -1000000 ≤ exp ∧ exp ≤ 1000000 := by omega
  have hki : -1000000 ≤ (k : Int) ∧ (k : Int) ≤ 1000000 := by omega
  have hoi : -1000000 ≤ (o : Int) ∧ (o : Int) ≤ 1000000 := by omega
  have hmi : -1000000 ≤ m1 ∧ m1 ≤ 1000000 := by omega
  have w1 : IntKind.i64.wrap exp = exp := i64_small rfl hei
  have w2 : IntKind.i64.wrap (-exp) = (k : Int) := i64_small hk1 hki
  have w3 : IntKind.i64.wrap (k : Int) = (k : Int) := i64_small rfl hki
  have w4 : wrap64 (k : Int) = (k : Int) := wrap64_small hki
  have w5 : IntKind.i64.wrap ((k : Int) - (n : Int)) = m1 := i64_small hm1.symm hmi
  have w6 : IntKind.i64.wrap (-m1) = (o : Int) := i64_small hmo hoi
  have w7 : wrap64 (o : Int) = (o : Int) := wrap64_small hoi
  have w8 : IntKind.i64.wrap (o : Int) = (o : Int) := i64_small rfl hoi
  have HFin := hide hfin
  clear hi hz0 hz1 hz2 hB hD hap hb hl hdl hfin hcm hcd hg hn hn0 hn1 hcd1 hlt1 hlt2 ho ho0 hon hm1 hln1 hln2 hln3 hei hki hoi hmi
  go_enter Tryz.func85, Tryz.ntmps85
  go_wp2_with (first
    | (at_builtin; refine wp_append_buf _ rfl (.tmp 44) (.tmp 47) 38 rfl i0 HI.out.1 HI.out.2.1 HI.out.2.2.1 HI.out.2.2.2 (v := buf) (xs := xs) (base := base) rfl S0.out.b (.slice (some ⟨gd, 0, none⟩) o cd) (ys.take o) rfl (HSh.out _ S0.out.d) (Nat.le_trans Hb.out.1 (Nat.le_trans S0.out.f.size (Nat.le_refl _))) HLn.out.1 ?_; go_loud (intro v1 w1 hB hF hO; have S1 := hide (S0.out.st Hdb.out hB hF hO); clear hB hF hO))
    | (at_builtin; refine wp_append_buf _ rfl (.tmp 49) (.tmp 50) 38 rfl i0 HI.out.1 HI.out.2.1 HI.out.2.2.1 HI.out.2.2.2 (v := v1) (xs := (xs ++ ys.take o)) (base := base) rfl (S1.out.b.fr ((Fr.refl _ (fun _ => False)).alloc _) (fun _ _ h => h)) (.slice (some ⟨w1.heap.size, 0, none⟩) 1 1) [46] rfl (src_new w1 _ [46] rfl _) (Nat.le_trans Hb.out.1 (Nat.le_trans S1.out.f.size (by simp))) HLn.out.2.1 ?_; go_loud (intro v2 w2 hB hF hO; have S2 := hide (S1.out.al Hdb.out hB hF hO); clear hB hF hO))
    | (at_builtin; refine wp_append_buf _ rfl (.tmp 52) (.tmp 55) 38 rfl i0 HI.out.1 HI.out.2.1 HI.out.2.2.1 HI.out.2.2.2 (v := v2) (xs := ((xs ++ ys.take o) ++ [46])) (base := base) rfl S2.out.b (.slice (some ⟨gd, o, none⟩) n1 cd1) (ys.drop o) rfl (HSl.out _ S2.out.d) (Nat.le_trans Hb.out.1 (Nat.le_trans S2.out.f.size (Nat.le_refl _))) HLn.out.2.2 ?_; go_loud (intro v3 w3 hB hF hO; have S3 := hide (S2.out.st Hdb.out hB hF hO); clear hB hF hO)))
  have HE := hide (S3.out.app HFin.out)
  go_wp2
  go_ret
  exact HE.out

set_option maxHeartbeats 4000000 in
set_option maxRecDepth 20000 in
theorem fmtf_behind (g gd base bd cd n k : Nat) (exp : Int) (ys : List Nat) (buf : Value) (xs : List Nat) (w : World) (hB : Buf w base buf xs) (hD : Buf w bd (.slice (some ⟨gd, 0, none⟩) n cd) ys) (hn : n = ys.length) (hn0 : 0 < n) (hcd : n ≤ cd) (hcm : cd ≤ maxLen) (hap : BufApart w buf (.slice (some ⟨gd, 0, none⟩) n cd)) (he : w.cell? ⟨g, 2, none⟩ = some (.int .i32 exp)) (hg : g < w.heap.size ∧ buf.ownBlock ≠ some g) (hb : base ≤ w.heap.size)
    (hl : xs.length ≤ 10) (hdl : ys.length ≤ 500) (hk1 : exp = (k : Int)) (hk : k ≤ 10000) :
    Calls Tryz.prog 85 #[buf, .pointer (some ⟨g, 0, none⟩), .slice (some ⟨gd, 0, none⟩) n cd] w (AppP w base buf (xs ++ codeF ys exp)) := by
  obtain ⟨i0, hi, hz0, hz1, hz2⟩ := u8_parts
  have HI := hide (And.intro hi (And.intro hz0 (And.intro hz1 hz2)))
  have Hb := hide (And.intro hb (And.intro hl hdl))
  have Hdb := hide hap
  have S0 := hide (St.start hB hD)
  have HC : Hid (∀ v zs W, St w base buf (.slice (some ⟨gd, 0, none⟩) n cd) bd ys v zs W → W.cell? ⟨g, 2, none⟩ = some (.int .i32 exp)) := fun v zs W h => (h.cell hg.1 hg.2 2).trans he
  have HG : Hid (∀ (W : World), Buf W bd (.slice (some ⟨gd, 0, none⟩) n cd) ys → ∀ i d, ys[i]? = some d → W.cell? ⟨gd, i, none⟩ = some (.int .u8 (d : Nat))) := fun W h => by
    obtain ⟨g', c', e1, -, -, -, h5⟩ := h.split (by omega)
    injection e1 with e1 e2 e3
    injection e1 with e1
    injection e1 with e1
    subst e1
    exact h5
  have hneg : ¬ exp < 0 := by omega
  have hge : 0 ≤ exp := by omega
  have hfin : (xs ++ ys) ++ List.replicate k 48 = xs ++ codeF ys exp := by
    unfold codeF
    rw [if_neg hneg, hk1, Int.toNat_natCast]
    simp
  have HFin := hide hfin
  have hlen : (xs ++ ys).length ≤ 600 := by simp; omega
  have HLn := hide hlen
  have HK := hide hk
  have HE1 := hide hk1
  have HNn := hide hn
  have HSrc : Hid (∀ W, Buf W bd (.slice (some ⟨gd, 0, none⟩) n cd) ys → Src Tryz.prog 1 38 (.slice (some ⟨gd, 0, none⟩) n cd) ys.length (gv .u8 ys) W) := fun W h => src_rd h.rd
  clear hi hz0 hz1 hz2 hB hD hap hb hl hdl hfin hcm hcd hg hn hn0 hk hk1 hlen
  go_enter Tryz.func85, Tryz.ntmps85
  go_wp2_with (first
    | (at_builtin; refine wp_append_buf _ rfl (.tmp 62) (.tmp 63) 38 rfl i0 HI.out.1 HI.out.2.1 HI.out.2.2.1 HI.out.2.2.2 (v := buf) (xs := xs) (base := base) rfl S0.out.b (.slice (some ⟨gd, 0, none⟩) n cd) ys rfl (HSrc.out _ S0.out.d) (Nat.le_trans Hb.out.1 (Nat.le_trans S0.out.f.size (Nat.le_refl _))) (by have := Hb.out.2.1; have := Hb.out.2.2; simp; omega) ?_; go_loud (intro v1 w1 hB hF hO; have S1 := hide (S0.out.st Hdb.out hB hF hO); clear hB hF hO; have he1 := HC.out _ _ _ S1.out; clear he)))
  go_loopw [0, 10] (fun vb vi wr => ∃ i : Nat, i ≤ k ∧ vi = .int .i32 (i : Int) ∧ Hid (St w base buf (.slice (some ⟨gd, 0, none⟩) n cd) bd ys vb ((xs ++ ys) ++ List.replicate i 48) wr)) (fun _ vi _ => match vi with | .int _ i => k - i.toNat | _ => 0)
  case atStart => exact ⟨0, by omega, rfl, by simpa using S1⟩
  case round =>
    obtain ⟨i, hi, rfl, HR⟩ := hrel
    have he2 := HC.out _ _ _ HR.out
    clear S1 S0
    try clear he1
    by_cases h : i = k
    · subst h
      have hii : ¬ ((i : Int) < exp) := by have := HE1.out; omega
      have HE := hide (HR.out.app HFin.out)
      go_wp2
      go_ret
      exact HE.out
    · have hlN : i < k := Nat.lt_of_le_of_ne hi h
      have hlt : (i : Int) < exp := by have := HE1.out; omega
      have hw := i32_inc hlN HK.out
      go_wp2_with (first
        | (at_builtin; refine wp_append_buf _ rfl (.tmp 73) (.tmp 74) 38 rfl i0 HI.out.1 HI.out.2.1 HI.out.2.2.1 HI.out.2.2.2 (v := _) (xs := ((xs ++ ys) ++ List.replicate i 48)) (base := base) rfl (HR.out.b.fr ((Fr.refl _ (fun _ => False)).alloc _) (fun _ _ h => h)) (.slice (some ⟨wr.heap.size, 0, none⟩) 1 1) [48] rfl (src_new wr _ [48] rfl _) (Nat.le_trans Hb.out.1 (Nat.le_trans HR.out.f.size (by simp))) (len_grow HLn.out hi HK.out) ?_; go_loud (intro v3 w3 hB hF hO; have S3 := hide (HR.out.al Hdb.out hB hF hO); clear hB hF hO)))
      have HN : Hid (St w base buf (.slice (some ⟨gd, 0, none⟩) n cd) bd ys v3 ((xs ++ ys) ++ List.replicate (i + 1) 48) w3) := by
        have h := S3.out
        rw [List.append_assoc _ _ [48], show List.replicate i 48 ++ [48] = List.replicate (i + 1) 48 from (List.replicate_succ' ..).symm] at h
        exact h
      clear S3 HR
      go_wp2
      go_roundw
      case rel => exact ⟨i + 1, hlN, rfl, HN⟩
      case measure => exact meas_lt hlN

end Go.Proofs.YtlepebogjpcfoaaGreatDoor
