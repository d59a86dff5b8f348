/- Parts of the proofs: MulB, Int2, Big1. -/
import Derived.Lib.SliceRun
import Derived.BigQuiet
import Derived.Test.YtfkcobdkgjhfaaaGreatDoorG5
import Derived.Test.YtfkcobdkgjhfaaaGreatDoorG7
/- Walks: basicMul. -/
set_option linter.unusedVariables false
set_option linter.unusedSimpArgs false
namespace Go.Proofs.YtfkcobdkgjhfaaaGreatDoor
open Go.RowKit

theorem Blk.setCells {g : Nat} {t : TypeId} : ∀ {vs us P S : List Value} {w : World}, Blk w g t (P ++ us ++ S).toArray → us.length = vs.length → Blk (w.setCells g P.length vs) g t (P ++ vs ++ S).toArray
  | [], [], _, _, _, h, _ => h
  | [], _ :: _, _, _, _, _, h => by simp at h
  | _ :: _, [], _, _, _, _, h => by simp at h
  | v :: vs, u :: us, P, S, w, h, hl => by
    have h1 : Blk w g t (P ++ u :: (us ++ S)).toArray := by simpa using h
    have h2 := (h1.part rfl).2.2 v
    have h3 : Blk (w.setCell ⟨g, P.length, none⟩ v) g t ((P ++ [v]) ++ us ++ S).toArray := by simpa using h2
    have h4 := Blk.setCells (vs := vs) h3 (by simpa using hl)
    have h5 : Blk ((w.setCell ⟨g, P.length, none⟩ v).setCells g (P.length + 1) vs) g t ((P ++ [v]) ++ vs ++ S).toArray := by simpa using h4
    show Blk ((w.setCell ⟨g, P.length, none⟩ v).setCells g (P.length + 1) vs) g t _
    simpa using h5
theorem Fr.setCells {a : World} {Q : Nat → Prop} {g : Nat} (hg : g < a.heap.size → Q g) : ∀ (vs : List Value) (o : Nat) {b : World}, Fr a b Q → Fr a (b.setCells g o vs) Q
  | [], _, _, h => h
  | v :: vs, o, _, h => Fr.setCells hg vs (o + 1) (h.setCell (p := ⟨g, o, none⟩) hg v)

/-- 'z[i:i+m]'. -/
theorem sl_mid (g i m cz n : Nat) (h : Int) (W : World) (hh : h = ((i + m : Nat) : Int)) (h1 : i < cz) (h2 : i + m ≤ cz) : (Instr.slice 65 (.slice (some ⟨g, 0, none⟩) n cz) (some (.int .i64 (i : Int))) (some (.int .i64 h)) none).run Tryz.prog W = .ok (.slice (some ⟨g, i, none⟩) m (cz - i)) W := by
  subst hh
  have ht : Tryz.prog.underlying 65 = some (.slice (Tryz.prog.elem 65)) := by kernel_rfl
  have hs : (Tryz.prog.info? (Tryz.prog.elem 65)).map (·.size) = some 1 := by kernel_rfl
  obtain ⟨j, hj, hsz⟩ := Option.map_eq_some_iff.1 hs
  rw [run_slice_lh W 65 _ _ _ ht _ _ _ _ (by omega) (by omega) (by omega)]
  have h3 : ¬ cz = i := by omega
  have h4 : ((i + m : Nat) : Int).toNat - ((i : Nat) : Int).toNat = m := by omega
  cases i with
  | zero => simp [sizeOf, typeInfo, hj, sliced, Addr.add]
  | succ i => simp [sizeOf, typeInfo, hj, hsz, sliced, Addr.add, Result.andThen]; omega

/-- What a round of the school method holds. -/
structure BmS (w : World) (g i ly : Nat) (S : List Value) (xs ys : List Nat) (W : World) : Prop where
  row : ∃ R, R.length = xs.length + i ∧ Dig 18446744073709551616 R ∧ dval 18446744073709551616 R = dval 18446744073709551616 xs * dval 18446744073709551616 (ys.take i) ∧ Blk W g 145 (wv R ++ (wv (List.replicate (ly - i) 0) ++ S)).toArray
  fr : Fr w W (fun k => k = g)

theorem BmS.zero {w W : World} {g i ly : Nat} {S : List Value} {xs ys : List Nat} (h : BmS w g i ly S xs ys W) (hly : ly = ys.length) (hi : i < ly) (hd : ys.getD i 0 = 0) (hdx : Dig 18446744073709551616 xs) : BmS w g (i + 1) ly S xs ys W := by
  obtain ⟨R, h1, h2, h3, h4⟩ := h.row
  obtain ⟨s1, s2, s3⟩ := school_step (b := 18446744073709551616) (by omega) hdx (by omega) h2 h1 h3 (by omega) hd
  rw [amul_zero (by omega) (by rw [List.length_drop]; omega) (fun e he => h2 e (List.mem_of_mem_drop he)), List.take_append_drop] at s1 s2 s3
  refine ⟨⟨R ++ [0], s1, s2, s3, ?_⟩, h.fr⟩
  have e : wv (R ++ [0]) ++ (wv (List.replicate (ly - (i + 1)) 0) ++ S) = wv R ++ (wv (List.replicate (ly - i) 0) ++ S) := by
    rw [show ly - i = (ly - (i + 1)) + 1 by omega, List.replicate_succ, wv_append, wv_cons]
    simp [wv]
  rw [e]; exact h4

/-- The window, and how a round ends. -/
theorem BmS.win {w W : World} {g i ly lx d : Nat} {S : List Value} {xs ys : List Nat} (h : BmS w g i ly S xs ys W) (hlx : lx = xs.length) (hly : ly = ys.length) (hi : i < ly) (hd : ys.getD i 0 = d) (hdl : d < 18446744073709551616) (hdx : Dig 18446744073709551616 xs) :
    ∃ (P S2 : List Value) (zs : List Nat), P.length = i ∧ zs.length = xs.length ∧ Dig 18446744073709551616 zs ∧ Blk W g 145 (P ++ wv zs ++ S2).toArray ∧
      ∀ W1 q, q = (amul 18446744073709551616 d zs xs 0).2 → Blk W1 g 145 (P ++ wv (amul 18446744073709551616 d zs xs 0).1 ++ S2).toArray → Fr W W1 (fun k => k = g) →
        (∃ u, W1.cell? ⟨g, lx + i, none⟩ = some u) ∧ W1.frozen? ⟨g, lx + i, none⟩ = false ∧ BmS w g (i + 1) ly S xs ys (W1.setCell ⟨g, lx + i, none⟩ (.int .u64 (q : Int))) := by
  obtain ⟨R, h1, h2, h3, h4⟩ := h.row
  obtain ⟨s1, s2, s3⟩ := school_step (b := 18446744073709551616) (by omega) hdx hdl h2 h1 h3 (by omega) hd
  have hdl2 : (R.drop i).length = xs.length := by rw [List.length_drop]; omega
  refine ⟨wv (R.take i), wv (List.replicate (ly - i) 0) ++ S, R.drop i, by rw [wv_length, List.length_take]; omega, hdl2, fun e he => h2 e (List.mem_of_mem_drop he), ?_, ?_⟩
  · rw [← wv_append, List.take_append_drop]; exact h4
  · intro W1 q hq hB hF
    rw [show ly - i = (ly - (i + 1)) + 1 by omega, List.replicate_succ, wv_cons, List.cons_append] at hB
    obtain ⟨p1, p2, p3⟩ := hB.part (i := lx + i) (by rw [List.length_append, wv_length, wv_length, amul_length _ _ _ hdl2, List.length_take]; omega)
    refine ⟨⟨_, p1⟩, p2, ⟨_, s1, s2, s3, ?_⟩, (Fr.step h.fr hF (fun _ _ h => h)).setCell (p := ⟨g, lx + i, none⟩) (fun _ => rfl) _⟩
    have := p3 (.int .u64 (q : Int))
    rw [hq] at this ⊢
    rw [wv_append, wv_append]
    simpa [wv, List.append_assoc] using this

/-- Behind basicMul. -/
def BmP (w : World) (g : Nat) (S : List Value) (xs ys : List Nat) (e : Ending) (w' : World) : Prop :=
  e = .returned (.tuple #[]) ∧ (∃ R, R.length = xs.length + ys.length ∧ Dig 18446744073709551616 R ∧ dval 18446744073709551616 R = dval 18446744073709551616 xs * dval 18446744073709551616 ys ∧ Blk w' g 145 (wv R ++ S).toArray) ∧ Fr w w' (fun k => k = g)

set_option maxHeartbeats 1000000 in
set_option maxRecDepth 20000 in
theorem basicMul_any (g n cz lx ly ca cb : Nat) (A B : Option Addr) (us : List Value) (S : List Value) (xs ys : List Nat) (w : World) (hb : Blk w g 145 (us ++ S).toArray) (hus : us.length = n) (hn : n = lx + ly) (hlx : lx = xs.length) (hly : ly = ys.length) (hx1 : 1 ≤ lx) (hy1 : 1 ≤ ly) (hcz : cz = (us ++ S).length) (hm : cz ≤ maxLen) (hlb : lx ≤ 1048576)
    (hx : RdW w (.slice A lx ca) xs) (hxb : ∀ k, (Value.slice A lx ca).ownBlock = some k → k ≠ g) (hy : RdW w (.slice B ly cb) ys) (hyb : ∀ k, (Value.slice B ly cb).ownBlock = some k → k ≠ g) (hdx : Dig 18446744073709551616 xs) (hdy : Dig 18446744073709551616 ys) :
    Calls Tryz.prog 207 #[.slice (some ⟨g, 0, none⟩) n cz, .slice A lx ca, .slice B ly cb] w (BmP w g S xs ys) := by
  unfold maxLen at hm
  have hlc : lx + ly ≤ cz := by rw [← hn, hcz, List.length_append]; omega
  have hcn : n ≤ cz := by rw [hcz, List.length_append]; omega
  have hclr : ∀ ty, (Builtin.clear_ #[65] ty #[.slice (some ⟨g, 0, none⟩) (lx + ly) cz]).run Tryz.prog w = .ok (.tuple #[]) (w.setCells g 0 (List.replicate n (.int .u64 0))) := by
    intro ty
    rw [← hn]
    obtain ⟨i0, hi, hz0, hz1, hz2⟩ := info_parts infoWord
    refine Lib.run_clear_slice w 65 145 ty (.int .u64 0) Tryz.underlying65 (fun W => ?_) rfl rfl g 0 n cz (by omega) (fun j hj => ?_) (fun j hj => ?_)
    · kernel_rfl
    · rw [Nat.zero_add, hb.cell]; simp; omega
    · exact hb.frozen _
  have hst : BmS w g 0 ly S xs ys (w.setCells g 0 (List.replicate n (.int .u64 0))) := by
    refine ⟨⟨List.replicate lx 0, by simp [hlx], fun d hd => by rw [List.eq_of_mem_replicate hd]; omega, by rw [dval_replicate_zero]; simp [dval], ?_⟩, Fr.setCells (Q := fun k => k = g) (fun _ => rfl) _ _ (Fr.refl _ _)⟩
    have := Blk.setCells (vs := List.replicate n (Value.int .u64 0)) (P := []) (us := us) (S := S) (by simpa using hb) (by simpa using hus)
    have e : wv (List.replicate lx 0) ++ (wv (List.replicate (ly - 0) 0) ++ S) = [] ++ List.replicate n (Value.int .u64 0) ++ S := by
      rw [← List.append_assoc, ← wv_append, List.replicate_append_replicate, Nat.sub_zero, hn]; simp [wv]
    rw [e]; exact this
  have HS0 := hide hst
  clear hst
  generalize w.setCells g 0 (List.replicate n (.int .u64 0)) = W0 at hclr HS0
  have HZ := hide (And.intro hn (And.intro hlx (And.intro hly (And.intro hdx (And.intro hdy hcz)))))
  have HY := hide (And.intro hx (And.intro hxb (And.intro hy hyb)))
  clear hb hus hx hxb hy hyb hdx hdy hlx hly hcz hn
  go_enter Tryz.func207, Tryz.ntmps207
  go_wp2
  go_loopw [17] (fun vi wr => ∃ i : Nat, i ≤ ly ∧ vi = .int .i64 (i : Int) ∧ Hid (BmS w g i ly S xs ys wr)) (fun vi _ => ly - (intOf vi).toNat)
  case atStart => exact ⟨0, Nat.zero_le _, by go_num, HS0⟩
  case round =>
    obtain ⟨i, hi, rfl, HR⟩ := hrel
    by_cases hlt : i < ly
    · obtain ⟨gy, oy, rfl, _, hcell⟩ := RdG.at_ (k := .u64) HY.out.2.2.1 i (by have := HZ.out.2.2.1; omega)
      have hcy : wr.cell? ⟨gy, oy + i, none⟩ = some (.int .u64 (ys.getD i 0 : Nat)) := HR.out.fr.cell hcell (HY.out.2.2.2 gy rfl)
      have hyl : ys.getD i 0 < 18446744073709551616 := HZ.out.2.2.2.2.1 _ (by rw [getD_at (by have := HZ.out.2.2.1; omega)]; exact List.getElem_mem _)
      by_cases h0 : ys.getD i 0 = 0
      · have HN := hide (HR.out.zero HZ.out.2.2.1 hlt h0 HZ.out.2.2.2.1)
        rw [h0] at hcy
        clear hcell HS0 HR hyl h0
        go_wp2
        go_roundw
        case rel => exact ⟨i + 1, by omega, by go_num, HN⟩
        case measure => simp [intOf]; omega
      · obtain ⟨P, S2, zs, hP, hzl, hzd, hB, hst⟩ := HR.out.win HZ.out.2.1 HZ.out.2.2.1 hlt rfl hyl HZ.out.2.2.2.1
        have con := fun W (hb : Blk W g 145 (P ++ wv zs ++ S2).toArray) (hf : Fr w W (fun k => k = g)) => amv_any g i lx (cz - i) (cz - i) 0 (ys.getD i 0) P S2 A ca zs xs W hb hP.symm hzl HZ.out.2.1 (by omega) (by omega) (by omega)
          (HY.out.1.fr hf (fun k hk => HY.out.2.1 k hk)) HY.out.2.1 (by omega) hyl hzd HZ.out.2.2.2.1
        have Con := hide con
        have HST := hide hst
        have HBF := hide (And.intro hB HR.out.fr)
        have hin : lx + i < n := by have := HZ.out.1; omega
        have hsl : ∀ W, (Instr.slice 65 (.slice (some ⟨g, 0, none⟩) n cz) (some (.int .i64 (i : Int))) (some (.int .i64 ((i : Int) + (lx : Int)))) none).run Tryz.prog W = .ok (.slice (some ⟨g, i, none⟩) lx (cz - i)) W := fun W => sl_mid g i lx cz n _ W (by omega) (by omega) (by omega)
        have hw1 : IntKind.i64.wrap ((i : Int) + (lx : Int)) = (i : Int) + (lx : Int) := by simp [IntKind.wrap, IntKind.signed, IntKind.bits]; omega
        have hw2 : IntKind.i64.wrap ((lx : Int) + (i : Int)) = (lx : Int) + (i : Int) := by simp [IntKind.wrap, IntKind.signed, IntKind.bits]; omega
        have hb0 : (((ys.getD i 0 : Nat) : Int) == 0) = false := beq_eq_false_iff_ne.2 (by omega)
        clear hcell HS0 HR hyl h0 con hst hB hzd hP hzl
        generalize ys.getD i 0 = d at *
        go_wp2_with fail
        go_region_with (go_at_call 239; go_loud (refine (Con.out _ ?_ ?_).mono ?_; exact HBF.out.1; exact HBF.out.2.drew; rintro e w3 ⟨q, rfl, hq, hb3, hf3⟩; obtain ⟨⟨u, k1⟩, k2, HN⟩ := HST.out w3 q hq.out hb3 ⟨hf3.os, hf3.tape, hf3.output, hf3.size, hf3.block⟩; have HN2 := hide HN; clear hq hb3 hf3 HN))
        all_goals go_wp2
        all_goals go_roundw
        case rel => exact ⟨i + 1, by omega, by go_num, HN2⟩
        case measure => simp [intOf]; omega
    · obtain rfl : i = ly := by omega
      have HF : Hid (BmP w g S xs ys (.returned (.tuple #[])) wr) := by
        obtain ⟨R, h1, h2, h3, h4⟩ := HR.out.row
        rw [HZ.out.2.2.1, List.take_of_length_le (Nat.le_refl _)] at h3
        refine ⟨rfl, ⟨R, by rw [h1, HZ.out.2.2.1], h2, h3, ?_⟩, HR.out.fr⟩
        simpa [wv] using h4
      clear HS0 HR
      go_wp2
      go_end0
      exact HF.out
end Go.Proofs.YtfkcobdkgjhfaaaGreatDoor

/- Walks: Int's SetBits, Bits; BigInt's Set, SetMathBigInt, MathBigInt. -/
set_option linter.unusedVariables false
set_option linter.unusedSimpArgs false
namespace Go.Proofs.YtfkcobdkgjhfaaaGreatDoor
open Go.RowKit

/-- SetBits: the row that comes in is the Int's from now on. -/
def BitsP (w : World) (base g o : Nat) (t : TypeId) (cs : Array Value) (v : Value) (xs : List Nat) (e : Ending) (w' : World) : Prop :=
  e = .returned (.pointer (some ⟨g, o, none⟩)) ∧ ∃ A c, Own w' base (.slice A (trimz xs).length c) (trimz xs) ∧ (Value.slice A (trimz xs).length c).ownBlock = v.ownBlock ∧ Blk w' g t (setInt cs o false (.slice A (trimz xs).length c)) ∧ Fr w w' (fun k => k = g)

set_option maxHeartbeats 800000 in
theorem setBits_any (base g o : Nat) (t : TypeId) (cs : Array Value) (n0 : Bool) (v0 v : Value) (xs : List Nat) (w : World)
    (hz : Blk w g t cs) (hz0 : cs[o]? = some (.bool n0)) (hz1 : cs[o + 1]? = some v0) (hv : Own w base v xs) (ht : t ≠ 145) :
    Calls Tryz.prog 89 #[.pointer (some ⟨g, o, none⟩), v] w (BitsP w base g o t cs v xs) := by
  have c1 : w.cell? ⟨g, o + 1, none⟩ = some v0 := (hz.cell _).trans hz1
  have f1 : w.frozen? ⟨g, o + 1, none⟩ = false := hz.frozen _
  have key : ∀ (r : Value), (w.setCell ⟨g, o + 1, none⟩ r).cell? ⟨g, o, none⟩ = some (.bool n0) ∧ (w.setCell ⟨g, o + 1, none⟩ r).frozen? ⟨g, o, none⟩ = false := by
    intro r
    refine ⟨?_, ?_⟩
    · rw [World.cell?_setCell_other _ _ _ _ (by intro e; injection e with e1 e2; omega)]
      exact (hz.cell _).trans hz0
    · rw [World.frozen?_setCell]; exact hz.frozen _
  have fin : ∀ A c, Own w base (.slice A (trimz xs).length c) (trimz xs) → (Value.slice A (trimz xs).length c).ownBlock = v.ownBlock →
      BitsP w base g o t cs v xs (.returned (.pointer (some ⟨g, o, none⟩))) ((w.setCell ⟨g, o + 1, none⟩ (.slice A (trimz xs).length c)).setCell ⟨g, o, none⟩ (.bool false)) := by
    intro A c hr hrb
    refine ⟨rfl, A, c, ?_, hrb, (hz.set _ _).set _ _, ?_⟩
    · have hg := hr.room.ne_blk hz ht
      exact (hr.fr (Fr.setCell (Fr.refl w (fun k => k = g)) (p := ⟨g, o + 1, none⟩) (fun _ => rfl) _) hg).fr (Fr.setCell (Fr.refl _ (fun k => k = g)) (p := ⟨g, o, none⟩) (fun _ => rfl) _) hg
    · exact ((Fr.refl w (fun k => k = g)).setCell (p := ⟨g, o + 1, none⟩) (fun _ => rfl) _).setCell (p := ⟨g, o, none⟩) (fun _ => rfl) _
  have Key := hide key
  have Fin := hide fin
  clear hz hz0 hz1 key fin
  go_enter Tryz.func89, Tryz.ntmps89
  go_wp2_with fail
  refine (norm_own base v xs _ hv).mono ?_
  rintro e w1 ⟨A, c, rfl, hr, hrb, rfl⟩
  obtain ⟨k1, k2⟩ := Key.out (.slice A (trimz xs).length c)
  have HF := hide (Fin.out A c hr hrb)
  clear hr hrb
  go_wp2
  go_ret
  exact HF.out

theorem bits_any (g o : Nat) (v : Value) (w : World) (h : w.cell? ⟨g, o + 1, none⟩ = some v) :
    Calls Tryz.prog 97 #[.pointer (some ⟨g, o, none⟩)] w fun e w' => e = .returned v ∧ w = w' := by
  go_enter Tryz.func97, Tryz.ntmps97
  go_wp2
  go_ret
  exact ⟨rfl, rfl⟩

/-- The cells of a BigInt behind a write. -/
def setBig (cs : Array Value) (o : Nat) (neg : Bool) (r : Value) (minus : Bool) : Array Value := setInt (cs.setIfInBounds (o + 2) (.bool minus)) o neg r

def BigP (w : World) (base g o : Nat) (t : TypeId) (cs : Array Value) (vz : Value) (neg minus : Bool) (xs : List Nat) (e : Ending) (w' : World) : Prop :=
  e = .returned (.pointer (some ⟨g, o, none⟩)) ∧ ∃ A c, Own w' base (.slice A xs.length c) xs ∧ ((Value.slice A xs.length c).ownBlock = vz.ownBlock ∨ ∃ k, (Value.slice A xs.length c).ownBlock = some k ∧ w.heap.size ≤ k) ∧ Blk w' g t (setBig cs o neg (.slice A xs.length c) minus) ∧ Fr w w' (fun k => k = g ∨ vz.ownBlock = some k)

theorem getElem?_set_ne {cs : Array Value} {i j : Nat} {u : Value} (h : i ≠ j) : (cs.setIfInBounds i u)[j]? = cs[j]? := by
  simp [Array.getElem?_setIfInBounds, h]

set_option maxHeartbeats 800000 in
theorem bset_any (base gz oz gx ox : Nat) (tz tx : TypeId) (cz cx : Array Value) (nz nx mz mx : Bool) (vz vx : Value) (m : Nat) (xs : List Nat) (w : World)
    (hz : Blk w gz tz cz) (hz0 : cz[oz]? = some (.bool nz)) (hz1 : cz[oz + 1]? = some vz) (hz2 : cz[oz + 2]? = some (.bool mz)) (hzr : Room w base vz m) (htz : tz ≠ 145)
    (hx : Blk w gx tx cx) (hx0 : cx[ox]? = some (.bool nx)) (hx1 : cx[ox + 1]? = some vx) (hx2 : cx[ox + 2]? = some (.bool mx)) (hxr : RdW w vx xs) (hxb : ∀ k, vx.ownBlock = some k → k ≠ gz) (htx : tx ≠ 145)
    (hne : gz ≠ gx) (hb : base ≤ w.heap.size) (hn : xs.length ≤ 1099511627776) :
    Calls Tryz.prog 48 #[.pointer (some ⟨gz, oz, none⟩), .pointer (some ⟨gx, ox, none⟩)] w (BigP w base gz oz tz cz vz nx mx xs) := by
  have c1 : w.cell? ⟨gz, oz + 2, none⟩ = some (.bool mz) := (hz.cell _).trans hz2
  have f1 : w.frozen? ⟨gz, oz + 2, none⟩ = false := hz.frozen _
  have c2 : w.cell? ⟨gx, ox + 2, none⟩ = some (.bool mx) := (hx.cell _).trans hx2
  have hf0 : Fr w (w.setCell ⟨gz, oz + 2, none⟩ (.bool mx)) (fun k => k = gz) := (Fr.refl w (fun k => k = gz)).setCell (p := ⟨gz, oz + 2, none⟩) (fun _ => rfl) _
  have con := iset_any base gz oz gx ox tz tx (cz.setIfInBounds (oz + 2) (.bool mx)) cx nz nx vz vx m xs (w.setCell ⟨gz, oz + 2, none⟩ (.bool mx)).drew
    (hz.set _ _) (by rw [getElem?_set_ne (by omega)]; exact hz0) (by rw [getElem?_set_ne (by omega)]; exact hz1) (hzr.fr hf0.drew (hzr.ne_blk hz htz)) htz
    (hx.far (p := ⟨gz, oz + 2, none⟩) (Ne.symm hne) _) hx0 hx1 (hxr.fr hf0.drew hxb) htx (.inl hne) (by simpa using hb) hn
  have fin : ∀ e w', IntP (w.setCell ⟨gz, oz + 2, none⟩ (.bool mx)).drew base gz oz tz (cz.setIfInBounds (oz + 2) (.bool mx)) vz nx xs e w' → BigP w base gz oz tz cz vz nx mx xs e w' := by
    rintro e w' ⟨he, r, hr, hrb, hB, hF⟩
    obtain ⟨A, c, rfl⟩ := hr.room.slice
    refine ⟨he, A, c, hr, ?_, hB, ?_⟩
    · simpa using hrb
    · exact Fr.step ((hf0.mono (fun k _ h => .inl h)).drew) hF (fun i _ h => h)
  have Con := hide con
  have Fin := hide fin
  clear hz hz0 hz1 hz2 hx hx0 hx1 hx2 con fin hf0 hxr hxb hzr
  go_enter Tryz.func48, Tryz.ntmps48
  go_wp2_with fail
  go_region_with (go_at_call 87; go_loud (refine (Con.out).mono ?_; rintro e w1 HI; have HI2 := hide HI; obtain ⟨rfl, _⟩ := HI))
  all_goals go_wp2
  all_goals go_ret
  all_goals exact Fin.out _ _ HI2.out
end Go.Proofs.YtfkcobdkgjhfaaaGreatDoor

/- Walks: BigInt's SetMathBigInt, MathBigInt; whole, words of the thin package. -/
set_option linter.unusedVariables false
set_option linter.unusedSimpArgs false
namespace Go.Proofs.YtfkcobdkgjhfaaaGreatDoor
open Go.RowKit

set_option maxHeartbeats 800000 in
theorem setMath_any (base gz oz gx ox : Nat) (tz tx : TypeId) (cz cx : Array Value) (nz nx mz : Bool) (vz vx : Value) (m : Nat) (xs : List Nat) (w : World)
    (hz : Blk w gz tz cz) (hz0 : cz[oz]? = some (.bool nz)) (hz1 : cz[oz + 1]? = some vz) (hz2 : cz[oz + 2]? = some (.bool mz)) (hzr : Room w base vz m) (htz : tz ≠ 145)
    (hx : Blk w gx tx cx) (hx0 : cx[ox]? = some (.bool nx)) (hx1 : cx[ox + 1]? = some vx) (hxr : RdW w vx xs) (hxb : ∀ k, vx.ownBlock = some k → k ≠ gz) (htx : tx ≠ 145)
    (hne : gz ≠ gx) (hb : base ≤ w.heap.size) (hn : xs.length ≤ 1099511627776) :
    Calls Tryz.prog 88 #[.pointer (some ⟨gz, oz, none⟩), .pointer (some ⟨gx, ox, none⟩)] w (BigP w base gz oz tz cz vz nx false xs) := by
  have c1 : w.cell? ⟨gz, oz + 2, none⟩ = some (.bool mz) := (hz.cell _).trans hz2
  have f1 : w.frozen? ⟨gz, oz + 2, none⟩ = false := hz.frozen _
  have hf0 : Fr w (w.setCell ⟨gz, oz + 2, none⟩ (.bool false)) (fun k => k = gz) := (Fr.refl w (fun k => k = gz)).setCell (p := ⟨gz, oz + 2, none⟩) (fun _ => rfl) _
  have con := iset_any base gz oz gx ox tz tx (cz.setIfInBounds (oz + 2) (.bool false)) cx nz nx vz vx m xs (w.setCell ⟨gz, oz + 2, none⟩ (.bool false))
    (hz.set _ _) (by rw [getElem?_set_ne (by omega)]; exact hz0) (by rw [getElem?_set_ne (by omega)]; exact hz1) (hzr.fr hf0 (hzr.ne_blk hz htz)) htz
    (hx.far (p := ⟨gz, oz + 2, none⟩) (Ne.symm hne) _) hx0 hx1 (hxr.fr hf0 hxb) htx (.inl hne) (by simpa using hb) hn
  have fin : ∀ e w', IntP (w.setCell ⟨gz, oz + 2, none⟩ (.bool false)) base gz oz tz (cz.setIfInBounds (oz + 2) (.bool false)) vz nx xs e w' → BigP w base gz oz tz cz vz nx false xs e w' := by
    rintro e w' ⟨he, r, hr, hrb, hB, hF⟩
    obtain ⟨A, c, rfl⟩ := hr.room.slice
    refine ⟨he, A, c, hr, ?_, hB, ?_⟩
    · simpa using hrb
    · exact Fr.step (hf0.mono (fun k _ h => .inl h)) hF (fun i _ h => h)
  have Con := hide con
  have Fin := hide fin
  clear hz hz0 hz1 hz2 hx hx0 hx1 con fin hf0 hxr hxb hzr
  go_enter Tryz.func88, Tryz.ntmps88
  go_wp2_with fail
  refine (Con.out).mono ?_
  rintro e w1 HI
  have HI2 := hide HI
  obtain ⟨rfl, _⟩ := HI
  go_wp2
  go_ret
  exact Fin.out _ _ HI2.out

/-- A new Int holds what came in. -/
def NewIntP (w : World) (neg : Bool) (xs : List Nat) (e : Ending) (w' : World) : Prop :=
  ∃ g A c, e = .returned (.pointer (some ⟨g, 0, none⟩)) ∧ w.heap.size ≤ g ∧ Own w' w.heap.size (.slice A xs.length c) xs ∧ Blk w' g 67 #[.bool neg, .slice A xs.length c] ∧ Below w.heap.size w w'

set_option maxHeartbeats 800000 in
theorem mathBig_any (gx ox : Nat) (tx : TypeId) (cx : Array Value) (nx : Bool) (vx : Value) (xs : List Nat) (w : World)
    (hx : Blk w gx tx cx) (hx0 : cx[ox]? = some (.bool nx)) (hx1 : cx[ox + 1]? = some vx) (hxr : RdW w vx xs) (htx : tx ≠ 145) (hn : xs.length ≤ 1099511627776) :
    Calls Tryz.prog 96 #[.pointer (some ⟨gx, ox, none⟩)] w (NewIntP w nx xs) := by
  have hf0 : Fr w (w.alloc (.cells #[.bool false, .slice none 0 0] 67)) (fun _ => False) := (Fr.refl w _).alloc _
  have con := iset_any w.heap.size w.heap.size 0 gx ox 67 tx #[.bool false, .slice none 0 0] cx false nx (.slice none 0 0) vx 0 xs (w.alloc (.cells #[.bool false, .slice none 0 0] 67))
    (Blk.new w _ _) rfl rfl (Own.nil _ _).room (by decide) (hx.fr hf0 (fun h => h)) hx0 hx1 (hxr.fr hf0 (fun _ _ h => h)) htx (.inl (Nat.ne_of_gt hx.lt)) (by simp) hn
  have fin : ∀ e w', IntP (w.alloc (.cells #[.bool false, .slice none 0 0] 67)) w.heap.size w.heap.size 0 67 #[.bool false, .slice none 0 0] (.slice none 0 0) nx xs e w' → NewIntP w nx xs e w' := by
    rintro e w' ⟨he, r, hr, hrb, hB, hF⟩
    obtain ⟨A, c, rfl⟩ := hr.room.slice
    refine ⟨w.heap.size, A, c, he, Nat.le_refl _, hr, hB, ?_⟩
    refine (Fr.step (S := fun k => k = w.heap.size) (hf0.mono (fun _ _ h => h.elim)) hF ?_).below (Nat.le_refl _) (fun k hk => by omega)
    rintro i hi (h | h)
    · exact h
    · cases h
  have Con := hide con
  have Fin := hide fin
  clear hx hx0 hx1 con fin hf0 hxr
  go_enter Tryz.func96, Tryz.ntmps96
  go_wp2_with fail
  refine (Con.out).mono ?_
  rintro e w1 HI
  have HI2 := hide HI
  obtain ⟨rfl, _⟩ := HI
  go_wp2
  go_ret
  exact Fin.out _ _ HI2.out
end Go.Proofs.YtfkcobdkgjhfaaaGreatDoor
