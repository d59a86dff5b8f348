/- Parts of the proofs: Spec4, Spec5, Spec6. -/
import Derived.Test.YtfkcobdkgjhfaaaGreatDoorG23
/- Walks: spec's Words. -/
set_option linter.unusedVariables false
set_option linter.unusedSimpArgs false
namespace Go.Proofs.YtfkcobdkgjhfaaaGreatDoor
open Go.RowKit

abbrev OwnN (w : World) (base : Nat) (v : Value) (xs : List Nat) : Prop := OwnG 46 .u64 w base v xs
theorem infoU : (Tryz.prog.info? 46).map (fun i => (i.zero, i.size, i.bytes)) = some (some (.int .u64 0), 1, 8) := by kernel_rfl
/-- New words. -/
def NewN (w : World) (xs : List Nat) (e : Ending) (w' : World) : Prop :=
  ∃ A c, e = .returned (.slice A xs.length c) ∧ OwnN w' w.heap.size (.slice A xs.length c) xs ∧ Below w.heap.size w w'

theorem or_add (p d s : Nat) (i : Nat) (hs : s = 2 ^ i) (hp : p < s) (hd : d * s < 18446744073709551616) (hp2 : p < 18446744073709551616) : bits .or .u64 (p : Int) ((d * s : Nat) : Int) = ((p + s * d : Nat) : Int) := by
  rw [u64_or_nat p (d * s) hp2 hd, Nat.or_comm, nat_join i (d * s) p (by rw [hs]; exact Nat.mul_mod_left _ _) (by rw [← hs]; exact hp), Nat.add_comm, Nat.mul_comm]
theorem or1 (p d : Nat) (hp : p < 65536 ^ 1) (hd : d < 65536) : bits .or .u64 (p : Int) ((d : Int) * 65536) = ((p + 65536 ^ 1 * d : Nat) : Int) := or_add p d 65536 16 rfl hp (by omega) (by omega)
theorem or2 (p d : Nat) (hp : p < 65536 ^ 2) (hd : d < 65536) : bits .or .u64 (p : Int) ((d : Int) * 4294967296) = ((p + 65536 ^ 2 * d : Nat) : Int) := or_add p d 4294967296 32 rfl hp (by omega) (by omega)
theorem or3 (p d : Nat) (hp : p < 65536 ^ 3) (hd : d < 65536) : bits .or .u64 (p : Int) ((d : Int) * 281474976710656) = ((p + 65536 ^ 3 * d : Nat) : Int) := or_add p d 281474976710656 48 rfl hp (by omega) (by omega)
theorem or0 (d : Nat) (hd : d < 65536) : bits .or .u64 (0 : Int) (d : Int) = (d : Int) := by
  have := u64_or_nat 0 d (by omega) (by omega)
  simpa using this

/-- A round that adds a digit to the last word. -/
theorem words_step {wr : World} {base g2 q cl k r : Nat} {ys : List Nat} {d : Nat} {e : Int} (hy : ys.length = k) (hr : k % 4 = r) (hr0 : r ≠ 0) (hq : k / 4 = q) (he : e = (((pk ys).getD q 0 + 65536 ^ r * d : Nat) : Int))
    (h : OwnN wr base (.slice (some ⟨g2, 0, none⟩) (q + 1) cl) (pk ys)) : OwnN (wr.setCell ⟨g2, q, none⟩ (.int .u64 e)).drew base (.slice (some ⟨g2, 0, none⟩) (q + 1) cl) (pk (ys ++ [d])) := by
  subst hr; subst hq; subst hy; subst he
  rw [pk_snoc hr0]
  exact (h.set (ys.length / 4) _ (by rw [pk_length]; omega))

set_option maxHeartbeats 2000000 in
theorem swords_any (A : Option Addr) (c : Nat) (xs : List Nat) (w : World) (hv : RdG .i64 w (.slice A xs.length c) xs) (hn : xs.length ≤ 4194304) (hd : Dig 65536 xs) :
    Calls Tryz.prog 58 #[.slice A xs.length c] w (NewN w (pk xs)) := by
  obtain ⟨i0, hi, hz0, hz1, hz2⟩ := info_parts infoU
  have HR := hide hv.at_
  have HI := hide (And.intro hi (And.intro hz0 (And.intro hz1 hz2)))
  have HD := hide hd
  clear hv hi hz0 hz1 hz2 hd
  go_enter Tryz.func58, Tryz.ntmps58
  go_wp2
  go_loopw [3, 9] (fun l i wr => ∃ (k : Nat) (B : Option Addr) (cl : Nat), k ≤ xs.length ∧ i = .int .i64 k ∧ l = .slice B ((k + 3) / 4) cl ∧ Hid (OwnN wr w.heap.size (.slice B ((k + 3) / 4) cl) (pk (xs.take k))) ∧ Hid (Below w.heap.size w wr)) (fun _ i _ => xs.length - (intOf i).toNat)
  case atStart => exact ⟨0, some ⟨w.heap.size, 0, none⟩, 0, Nat.zero_le _, rfl, rfl, by rw [List.take_zero, pk_nil]; exact OwnG.mk (xs := []) (cur := #[]) (Nat.le_refl _) (Blk.new w _ _) (Nat.le_refl _) (Nat.zero_le _) rfl rfl, (Below.refl _ _).alloc (Nat.le_refl _) _⟩
  case round =>
    obtain ⟨k, B, cl, hk, rfl, rfl, hown, hbel⟩ := hrel
    by_cases hlt : k < xs.length
    · obtain ⟨g, o, rfl, hg, hc⟩ := HR.out k hlt
      have hcell : wr.cell? ⟨g, o + k, none⟩ = some (.int .i64 (xs.getD k 0 : Nat)) := (hbel.out.cell hg).trans hc
      have htl : (xs.take k).length = k := by rw [List.length_take]; omega
      have hpl := pk_length (xs.take k)
      rw [htl] at hpl
      have hts : xs.take (k + 1) = xs.take k ++ [xs.getD k 0] := by rw [List.take_succ_eq_append_getElem hlt, getD_at hlt]
      have hdd : xs.getD k 0 < 65536 := HD.out _ (by rw [getD_at hlt]; exact List.getElem_mem hlt)
      have hlast := pk_last (xs := xs.take k) (fun x hx => HD.out x (List.mem_of_mem_take hx))
      rw [htl] at hlast
      have HT := hide (And.intro htl (And.intro hpl (And.intro hts hlast)))
      have hdn : (0 : Int) ≤ (xs.getD k 0 : Nat) := by omega
      have hdu : ((xs.getD k 0 : Nat) : Int) < 65536 := by omega
      clear hc htl hpl hts hlast hdd
      generalize xs.getD k 0 = d at hcell HT hdn hdu
      have e2 : ((k : Int) / 4) = ((k / 4 : Nat) : Int) := by omega
      have hr : k % 4 = 0 ∨ k % 4 = 1 ∨ k % 4 = 2 ∨ k % 4 = 3 := by omega
      rcases hr with hr | hr | hr | hr
      · have e1 : ((k : Int) % 4) = 0 := by omega
        have hq : (k + 3) / 4 = k / 4 := by omega
        rw [hq] at hown ⊢
        obtain ⟨q, hqq⟩ : ∃ q, k / 4 = q := ⟨_, rfl⟩
        rw [hqq] at hown e2 ⊢
        have hq2 : (k + 1 + 3) / 4 = q + 1 := by omega
        have hpk : (pk (xs.take k)).length = q := by rw [HT.out.2.1]; omega
        have hps : pk (xs.take (k + 1)) = (pk (xs.take k) ++ [0]).set q d := by
          rw [HT.out.2.2.1, pk_snoc0 (by rw [HT.out.1]; exact hr), List.set_append_right _ _ (by omega), hpk, Nat.sub_self]; rfl
        have HQ := hide (And.intro hq2 (And.intro hpk (And.intro hps (show q ≤ 1048576 by omega))))
        have hb0 : (0 : Int) ≤ (q : Int) := by omega
        have hb1 : (q : Int) < (q : Int) + 1 := by omega
        clear hq hq2 hpk hps hqq hr HR HT
        go_wp2_with (at_builtin; refine wpList_append_own _ rfl (.tmp 17) (.tmp 18) 22 rfl w.heap.size 46 i0 (.int .u64 0) 1 8 Tryz.underlying22 HI.out.1 HI.out.2.1 HI.out.2.2.1 HI.out.2.2.2 rfl (by decide) _ _ _ rfl (hown.out.alloc _) ⟨wr.heap.size, 0, none⟩ 1 1 [.int .u64 0] rfl rfl ?c1 ?c2 ?c3 ?c4 ?c5 ?_)
        case c1 => exact cell_one_new _ _ _
        case c2 => intro u hu; rw [List.mem_singleton.1 hu]; rfl
        case c3 => have := HQ.out; simp only [maxLen]; omega
        case c4 => have := HQ.out; omega
        case c5 => have := hbel.out.size; simp; omega
        intro v' w1 hown' hgrow _
        obtain ⟨B', cl', rfl, hown1⟩ := OwnG.grown (t := 46) (k := .u64) (w1 := w1) (base := w.heap.size) (v' := v') (xs := pk (xs.take k)) (d := 0) HQ.out.2.1 (by have h9 := hown'; rw [HQ.out.2.1] at h9; exact h9)
        have hb1' := hide (below_app hbel.out hbel.out.size _ hgrow (fun j hj => (hown.out.lt hj).1))
        obtain ⟨g2, rfl, hg2, hlt2, hcs, hfs⟩ := hown1.block (by omega)
        have hcq : w1.cell? ⟨g2, q, none⟩ = some (.int .u64 0) := by
          have := hcs q (by rw [List.length_append, HQ.out.2.1]; simp)
          have e9 := getD_snoc (pk (xs.take k)) 0
          rw [HQ.out.2.1] at e9
          rw [e9] at this
          exact this
        have hfq : w1.frozen? ⟨g2, q, none⟩ = false := hfs q
        have hstep : OwnN (w1.setCell ⟨g2, q, none⟩ (.int .u64 (bits .or .u64 0 (d : Int)))).drew w.heap.size (.slice (some ⟨g2, 0, none⟩) (q + 1) cl') (pk (xs.take (k + 1))) := by
          rw [HQ.out.2.2.1, or0 d (by omega)]
          exact hown1.set q d (by rw [List.length_append, HQ.out.2.1]; simp)
        have hbe : Below w.heap.size w (w1.setCell ⟨g2, q, none⟩ (.int .u64 (bits .or .u64 0 (d : Int)))).drew := (hb1'.out.setCell (p := ⟨g2, q, none⟩) hg2 _).drew
        have HS := hide hstep
        have HBE := hide hbe
        clear hstep hbe hown' hgrow hown hown1 hb1' hcs hfs hbel hlt2 hcell
        go_wp2
        go_region
        all_goals go_wp2
        all_goals go_roundw
        case rel => exact ⟨k + 1, some ⟨g2, 0, none⟩, cl', by omega, by go_num, by rw [HQ.out.1], by rw [HQ.out.1]; exact HS, HBE⟩
        case measure => simp [intOf]; omega
      · have e1 : ((k : Int) % 4) = 1 := by omega
        have hq : (k + 3) / 4 = k / 4 + 1 := by omega
        rw [hq] at hown ⊢
        obtain ⟨q, hqq⟩ : ∃ q, k / 4 = q := ⟨_, rfl⟩
        rw [hqq] at hown e2 ⊢
        obtain ⟨g2, rfl, hg2, hlt2, hcs, hfs⟩ := hown.out.block (by omega)
        have hcq : wr.cell? ⟨g2, q, none⟩ = some (.int .u64 ((pk (xs.take k)).getD q 0 : Nat)) := hcs q (by rw [HT.out.2.1]; omega)
        have hfq : wr.frozen? ⟨g2, q, none⟩ = false := hfs q
        have hb0 : (0 : Int) ≤ (q : Int) := by omega
        have hb1 : (q : Int) < (q : Int) + 1 := by omega
        have hpl := HT.out.2.2.2
        rw [hqq, hr] at hpl
        have hstep := words_step (d := d) HT.out.1 hr (by omega) hqq (or1 _ d hpl (by omega)) hown.out
        rw [← HT.out.2.2.1] at hstep
        have hbe : Below w.heap.size w (wr.setCell ⟨g2, q, none⟩ (.int .u64 (bits .or .u64 ((pk (xs.take k)).getD q 0 : Nat) ((d : Int) * 65536)))).drew := (hbel.out.setCell (p := ⟨g2, q, none⟩) hg2 _).drew
        have hq2 : (k + 1 + 3) / 4 = q + 1 := by omega
        generalize (pk (xs.take k)).getD q 0 = p at hcq hstep hbe
        have HS := hide hstep
        have HBE := hide hbe
        have HQ := hide hq2
        clear hstep hbe hq2 hq hqq hr hcs hfs hown hbel hpl HT HR hlt2
        go_wp2
        go_region
        all_goals go_wp2
        all_goals go_roundw
        case rel => exact ⟨k + 1, some ⟨g2, 0, none⟩, cl, by omega, by go_num, by rw [HQ.out], by rw [HQ.out]; exact HS, HBE⟩
        case measure => simp [intOf]; omega
      · have e1 : ((k : Int) % 4) = 2 := by omega
        have hq : (k + 3) / 4 = k / 4 + 1 := by omega
        rw [hq] at hown ⊢
        obtain ⟨q, hqq⟩ : ∃ q, k / 4 = q := ⟨_, rfl⟩
        rw [hqq] at hown e2 ⊢
        obtain ⟨g2, rfl, hg2, hlt2, hcs, hfs⟩ := hown.out.block (by omega)
        have hcq : wr.cell? ⟨g2, q, none⟩ = some (.int .u64 ((pk (xs.take k)).getD q 0 : Nat)) := hcs q (by rw [HT.out.2.1]; omega)
        have hfq : wr.frozen? ⟨g2, q, none⟩ = false := hfs q
        have hb0 : (0 : Int) ≤ (q : Int) := by omega
        have hb1 : (q : Int) < (q : Int) + 1 := by omega
        have hpl := HT.out.2.2.2
        rw [hqq, hr] at hpl
        have hstep := words_step (d := d) HT.out.1 hr (by omega) hqq (or2 _ d hpl (by omega)) hown.out
        rw [← HT.out.2.2.1] at hstep
        have hbe : Below w.heap.size w (wr.setCell ⟨g2, q, none⟩ (.int .u64 (bits .or .u64 ((pk (xs.take k)).getD q 0 : Nat) ((d : Int) * 4294967296)))).drew := (hbel.out.setCell (p := ⟨g2, q, none⟩) hg2 _).drew
        have hq2 : (k + 1 + 3) / 4 = q + 1 := by omega
        generalize (pk (xs.take k)).getD q 0 = p at hcq hstep hbe
        have HS := hide hstep
        have HBE := hide hbe
        have HQ := hide hq2
        clear hstep hbe hq2 hq hqq hr hcs hfs hown hbel hpl HT HR hlt2
        go_wp2
        go_region
        all_goals go_wp2
        all_goals go_roundw
        case rel => exact ⟨k + 1, some ⟨g2, 0, none⟩, cl, by omega, by go_num, by rw [HQ.out], by rw [HQ.out]; exact HS, HBE⟩
        case measure => simp [intOf]; omega
      · have e1 : ((k : Int) % 4) = 3 := by omega
        have hq : (k + 3) / 4 = k / 4 + 1 := by omega
        rw [hq] at hown ⊢
        obtain ⟨q, hqq⟩ : ∃ q, k / 4 = q := ⟨_, rfl⟩
        rw [hqq] at hown e2 ⊢
        obtain ⟨g2, rfl, hg2, hlt2, hcs, hfs⟩ := hown.out.block (by omega)
        have hcq : wr.cell? ⟨g2, q, none⟩ = some (.int .u64 ((pk (xs.take k)).getD q 0 : Nat)) := hcs q (by rw [HT.out.2.1]; omega)
        have hfq : wr.frozen? ⟨g2, q, none⟩ = false := hfs q
        have hb0 : (0 : Int) ≤ (q : Int) := by omega
        have hb1 : (q : Int) < (q : Int) + 1 := by omega
        have hpl := HT.out.2.2.2
        rw [hqq, hr] at hpl
        have hstep := words_step (d := d) HT.out.1 hr (by omega) hqq (or3 _ d hpl (by omega)) hown.out
        rw [← HT.out.2.2.1] at hstep
        have hbe : Below w.heap.size w (wr.setCell ⟨g2, q, none⟩ (.int .u64 (bits .or .u64 ((pk (xs.take k)).getD q 0 : Nat) ((d : Int) * 281474976710656)))).drew := (hbel.out.setCell (p := ⟨g2, q, none⟩) hg2 _).drew
        have hq2 : (k + 1 + 3) / 4 = q + 1 := by omega
        generalize (pk (xs.take k)).getD q 0 = p at hcq hstep hbe
        have HS := hide hstep
        have HBE := hide hbe
        have HQ := hide hq2
        clear hstep hbe hq2 hq hqq hr hcs hfs hown hbel hpl HT HR hlt2
        go_wp2
        go_region
        all_goals go_wp2
        all_goals go_roundw
        case rel => exact ⟨k + 1, some ⟨g2, 0, none⟩, cl, by omega, by go_num, by rw [HQ.out], by rw [HQ.out]; exact HS, HBE⟩
        case measure => simp [intOf]; omega
    · obtain rfl : k = xs.length := by omega
      have hk' : xs.take xs.length = xs := List.take_of_length_le (Nat.le_refl _)
      have hpl := pk_length xs
      rw [hk'] at hown
      rw [← hpl] at hown ⊢
      have fin : NewN w (pk xs) (.returned (.slice B (pk xs).length cl)) wr := ⟨B, cl, rfl, hown.out, hbel.out⟩
      have Fin := hide fin
      clear fin hpl hk' hown hbel HR HI HD
      go_wp2
      go_ret
      exact Fin.out
end Go.Proofs.YtfkcobdkgjhfaaaGreatDoor

/- Walks: spec's HasWords, Cmp. -/
set_option linter.unusedVariables false
set_option linter.unusedSimpArgs false
namespace Go.Proofs.YtfkcobdkgjhfaaaGreatDoor
open Go.RowKit

/-- Are two lists of numbers one? (Under a name: the walk leaves it.) -/
def eqB (xs ys : List Nat) : Bool := decide (xs = ys)
theorem eqB_true {xs ys : List Nat} (h : xs = ys) : eqB xs ys = true := decide_eq_true h
theorem eqB_false {xs ys : List Nat} (h : xs ≠ ys) : eqB xs ys = false := decide_eq_false h
theorem eqB_self (xs : List Nat) : eqB xs xs = true := eqB_true rfl
theorem list_ext_getD {xs ys : List Nat} (hl : xs.length = ys.length) (h : ∀ i, i < xs.length → xs.getD i 0 = ys.getD i 0) : xs = ys := by
  apply List.ext_getElem hl
  intro i h1 h2
  have := h i h1
  rwa [getD_at h1, getD_at h2] at this

def BoolP (w : World) (b : Bool) (e : Ending) (w' : World) : Prop := e = .returned (.bool b) ∧ Below w.heap.size w w'

set_option maxHeartbeats 2000000 in
theorem hasWords_any (A B : Option Addr) (c c2 : Nat) (xs ys : List Nat) (w : World) (hx : RdG .u64 w (.slice A xs.length c) xs) (hy : RdG .i64 w (.slice B ys.length c2) ys) (hnx : xs.length ≤ 1048576) (hny : ys.length ≤ 4194304) (hd : Dig 65536 ys) :
    Calls Tryz.prog 32 #[.slice A xs.length c, .slice B ys.length c2] w (BoolP w (eqB xs (pk ys))) := by
  have hpl : (pk ys).length ≤ 1048576 := by rw [pk_length]; omega
  have con := swords_any B c2 ys w hy hny hd
  have hxr := hx.at_
  have Con := hide con
  have HX := hide hxr
  clear con hxr hx hy hd
  go_enter Tryz.func32, Tryz.ntmps32
  go_wp2_with fail
  refine (Con.out).mono ?_
  rintro e w1 ⟨B1, c1, rfl, hown, hbel⟩
  have hyr := hown.rd.at_
  have hxr : ∀ i, i < xs.length → ∃ g o, A = some ⟨g, o, none⟩ ∧ g < w1.heap.size ∧ w1.cell? ⟨g, o + i, none⟩ = some (.int .u64 (xs.getD i 0 : Nat)) := by
    intro i hi
    obtain ⟨g, o, e1, e2, e3⟩ := HX.out i hi
    exact ⟨g, o, e1, by have := hbel.size; omega, (hbel.cell e2).trans e3⟩
  have HXR := hide hxr
  have HYR := hide hyr
  have HB := hide hbel
  clear hyr hxr hown hbel Con HX
  obtain ⟨zs, hzs⟩ : ∃ zs, zs = pk ys := ⟨_, rfl⟩
  rw [← hzs] at hpl HYR ⊢
  have HZ := hide hzs
  clear hzs
  by_cases hlen : xs.length = zs.length
  · rw [hlen] at HXR hnx ⊢
    have HL := hide hlen
    clear hlen
    go_wp2
    go_loopw [16] (fun i wr => ∃ k : Nat, k ≤ zs.length ∧ i = .int .i64 k ∧ Hid (∀ j, j < k → xs.getD j 0 = zs.getD j 0) ∧ Hid (Below w1.heap.size w1 wr)) (fun i _ => zs.length - (intOf i).toNat)
    case atStart => exact ⟨0, Nat.zero_le _, rfl, fun j hj => by omega, Below.refl _ _⟩
    case round =>
      obtain ⟨k, hk, rfl, hall, hbel⟩ := hrel
      by_cases hlt : k < zs.length
      · obtain ⟨g, o, rfl, hg, hc⟩ := HXR.out k hlt
        obtain ⟨g2, o2, rfl, hg2, hc2⟩ := HYR.out k hlt
        have hcell : wr.cell? ⟨g, o + k, none⟩ = some (.int .u64 (xs.getD k 0 : Nat)) := (hbel.out.cell hg).trans hc
        have hcell2 : wr.cell? ⟨g2, o2 + k, none⟩ = some (.int .u64 (zs.getD k 0 : Nat)) := (hbel.out.cell hg2).trans hc2
        have hb0 : (0 : Int) ≤ (k : Int) := by omega
        have hb1 : (k : Int) < (zs.length : Int) := by omega
        by_cases heq : xs.getD k 0 = zs.getD k 0
        · have hall2 : Hid (∀ j, j < k + 1 → xs.getD j 0 = zs.getD j 0) := fun j hj => by
            rcases Nat.lt_or_ge j k with h | h
            · exact hall.out j h
            · obtain rfl : j = k := by omega
              exact heq
          have hbe : Hid (Below w1.heap.size w1 wr.drew) := hbel.out.drew
          rw [heq] at hcell
          clear heq hc hc2 HXR HYR hall hbel
          generalize zs.getD k 0 = d at hcell hcell2
          have hne : ((d : Int) != (d : Int)) = false := by simp
          go_wp2
          go_region
          all_goals go_wp2
          all_goals go_roundw
          case rel => exact ⟨k + 1, by omega, by go_num, hall2, hbe⟩
          case measure => simp [intOf]; omega
        · have hfin : BoolP w (eqB xs (pk ys)) (.returned (.bool false)) wr.drew := by
            rw [← HZ.out]
            refine ⟨by rw [eqB_false (fun h => heq (by rw [h]))], (below_next HB.out hbel.out).drew⟩
          have Fin := hide hfin
          clear hfin hc hc2 HXR HYR hall hbel
          generalize zs.getD k 0 = d at hcell2 heq
          generalize xs.getD k 0 = d' at hcell heq
          have hne : ((d' : Int) != (d : Int)) = true := by rw [bne_iff_ne]; omega
          clear heq
          go_wp2
          go_region
          all_goals go_wp2
          all_goals go_ret
          all_goals exact Fin.out
      · obtain rfl : k = zs.length := by omega
        have hfin : BoolP w (eqB xs (pk ys)) (.returned (.bool true)) wr := by
          rw [← HZ.out]
          exact ⟨by rw [eqB_true (list_ext_getD HL.out (fun i hi => hall.out i (by rw [← HL.out]; exact hi)))], below_next HB.out hbel.out⟩
        have Fin := hide hfin
        clear hfin hall hbel HXR HYR
        go_wp2
        go_ret
        exact Fin.out
  · have hfin : BoolP w (eqB xs (pk ys)) (.returned (.bool false)) w1 := by
      rw [← HZ.out]
      exact ⟨by rw [eqB_false (fun h => hlen (by rw [h]))], HB.out⟩
    have Fin := hide hfin
    have hne : ((xs.length : Int) != (zs.length : Int)) = true := by simp; omega
    clear hfin hlen
    go_wp2
    go_ret
    exact Fin.out
end Go.Proofs.YtfkcobdkgjhfaaaGreatDoor

/- Walks: spec's Cmp. -/
set_option linter.unusedVariables false
set_option linter.unusedSimpArgs false
namespace Go.Proofs.YtfkcobdkgjhfaaaGreatDoor
open Go.RowKit

/-- -1, 0 or 1 by the order of two numbers. (Under a name: the walk leaves it.) -/
def cmpI (m n : Nat) : Int := if m < n then -1 else if n < m then 1 else 0
theorem cmpI_lt {m n : Nat} (h : m < n) : cmpI m n = -1 := if_pos h
theorem cmpI_gt {m n : Nat} (h : n < m) : cmpI m n = 1 := by unfold cmpI; rw [if_neg (by omega), if_pos h]
theorem cmpI_eq {m n : Nat} (h : m = n) : cmpI m n = 0 := by unfold cmpI; rw [if_neg (by omega), if_neg (by omega)]

theorem top_lt {b : Nat} : ∀ {xs ys : List Nat} {i : Nat}, Dig b xs → xs.length = ys.length → i < xs.length → xs.getD i 0 < ys.getD i 0 → (∀ j, i < j → j < xs.length → xs.getD j 0 = ys.getD j 0) → dval b xs < dval b ys
  | [], _, _, _, _, h, _, _ => by simp at h
  | d :: r, [], _, _, h, _, _, _ => by simp at h
  | d :: r, e :: s, 0, _, hl, _, hlt, he => by
    have : r = s := list_ext_getD (by simpa using hl) (fun i hi => by have := he (i + 1) (by omega) (by simpa using hi); simpa using this)
    subst this
    rw [dval_cons, dval_cons]
    simp at hlt
    omega
  | d :: r, e :: s, i + 1, hd, hl, hi, hlt, he => by
    have h := top_lt (b := b) (xs := r) (ys := s) (i := i) (fun x hx => hd x (by simp [hx])) (by simpa using hl) (by simpa using hi) (by simpa using hlt)
      (fun j h1 h2 => by have := he (j + 1) (by omega) (by simpa using h2); simpa using this)
    have h1 := hd d (by simp)
    rw [dval_cons, dval_cons]
    have h2 : b * (dval b r + 1) ≤ b * dval b s := Nat.mul_le_mul_left b h
    rw [Nat.mul_add] at h2
    omega
theorem len_lt {b m n : Nat} (hb : 1 < b) (h : (digs b m).length < (digs b n).length) : m < n :=
  Nat.lt_of_lt_of_le (lt_of_digs_length hb (Nat.le_refl _)) (le_of_digs_length hb h)
theorem digs_top_lt {b m n i : Nat} (hb : 1 < b) (hl : (digs b m).length = (digs b n).length) (hi : i < (digs b n).length) (h : (digs b m).getD i 0 < (digs b n).getD i 0) (he : ∀ j, i < j → j < (digs b n).length → (digs b m).getD j 0 = (digs b n).getD j 0) : m < n := by
  have := top_lt (dig_digs hb m) hl (by omega) h (fun j h1 h2 => he j h1 (by omega))
  rwa [dval_digs hb, dval_digs hb] at this

def CmpP (w : World) (m n : Nat) (e : Ending) (w' : World) : Prop := e = .returned (.int .i64 (cmpI m n)) ∧ Below w.heap.size w w'

set_option maxHeartbeats 2000000 in
theorem cmp_any (A B : Option Addr) (c c2 : Nat) (m n : Nat) (w : World) (hx : RdG .i64 w (.slice A (digs 65536 m).length c) (digs 65536 m)) (hy : RdG .i64 w (.slice B (digs 65536 n).length c2) (digs 65536 n)) (hnx : (digs 65536 m).length ≤ 1099511627776) (hny : (digs 65536 n).length ≤ 1099511627776) :
    Calls Tryz.prog 35 #[.slice A (digs 65536 m).length c, .slice B (digs 65536 n).length c2] w (CmpP w m n) := by
  have lt1 := len_lt (b := 65536) (m := m) (n := n) (by omega)
  have lt2 := len_lt (b := 65536) (m := n) (n := m) (by omega)
  have tp1 := fun i => digs_top_lt (b := 65536) (m := m) (n := n) (i := i) (by omega)
  have tp2 := fun i => digs_top_lt (b := 65536) (m := n) (n := m) (i := i) (by omega)
  have inj : digs 65536 m = digs 65536 n → m = n := digs_inj (by omega)
  have HXR := hide hx.at_
  have HYR := hide hy.at_
  clear hx hy
  generalize digs 65536 m = xs at *
  generalize digs 65536 n = ys at *
  have HF := hide (And.intro lt1 (And.intro lt2 (And.intro tp1 (And.intro tp2 inj))))
  clear lt1 lt2 tp1 tp2 inj
  by_cases h1 : xs.length < ys.length
  · have fin : CmpP w m n (.returned (.int .i64 (-1))) w := ⟨by rw [cmpI_lt (HF.out.1 h1)], Below.refl _ _⟩
    have Fin := hide fin
    clear fin HF HXR HYR
    go_enter Tryz.func35, Tryz.ntmps35
    go_wp2
    go_ret
    exact Fin.out
  by_cases h2 : ys.length < xs.length
  · have fin : CmpP w m n (.returned (.int .i64 1)) w := ⟨by rw [cmpI_gt (HF.out.2.1 h2)], Below.refl _ _⟩
    have Fin := hide fin
    clear fin HF HXR HYR
    go_enter Tryz.func35, Tryz.ntmps35
    go_wp2
    go_ret
    exact Fin.out
  have hl : xs.length = ys.length := by omega
  have HL := hide hl
  rw [hl] at HXR hnx ⊢
  clear h1 h2 hl hnx
  go_enter Tryz.func35, Tryz.ntmps35
  go_wp2
  go_loopw [5] (fun i wr => ∃ k : Nat, k ≤ ys.length ∧ i = .int .i64 ((k : Int) - 1) ∧ Hid (∀ j, k ≤ j → j < ys.length → xs.getD j 0 = ys.getD j 0) ∧ Hid (Below w.heap.size w wr)) (fun i _ => (intOf i + 1).toNat)
  case atStart => exact ⟨ys.length, Nat.le_refl _, rfl, fun j h1 h2 => by omega, Below.refl _ _⟩
  case round =>
    obtain ⟨k, hk, rfl, hall, hbel⟩ := hrel
    rcases Nat.eq_zero_or_pos k with rfl | hp
    · have fin : CmpP w m n (.returned (.int .i64 0)) wr := ⟨by rw [cmpI_eq (HF.out.2.2.2.2 (list_ext_getD HL.out (fun i hi => hall.out i (Nat.zero_le _) (by rw [← HL.out]; exact hi))))], hbel.out⟩
      have Fin := hide fin
      clear fin HF HXR HYR hall hbel
      rw [show (((0 : Nat) : Int) - 1) = -1 from rfl]
      go_wp2
      go_ret
      exact Fin.out
    · obtain ⟨k, rfl⟩ : ∃ m, k = m + 1 := ⟨k - 1, by omega⟩
      have e1 : (((k + 1 : Nat) : Int) - 1) = (k : Int) := by omega
      rw [e1]
      clear e1
      obtain ⟨g, o, rfl, hg, hc⟩ := HXR.out k (by first | omega | (have := HL.out; omega))
      obtain ⟨g2, o2, rfl, hg2, hc2⟩ := HYR.out k (by omega)
      have hcell : wr.cell? ⟨g, o + k, none⟩ = some (.int .i64 (xs.getD k 0 : Nat)) := (hbel.out.cell hg).trans hc
      have hcell2 : wr.cell? ⟨g2, o2 + k, none⟩ = some (.int .i64 (ys.getD k 0 : Nat)) := (hbel.out.cell hg2).trans hc2
      have hb0 : (0 : Int) ≤ (k : Int) := by omega
      have hb1 : (k : Int) < (ys.length : Int) := by omega
      by_cases h1 : xs.getD k 0 < ys.getD k 0
      · have fin : CmpP w m n (.returned (.int .i64 (-1))) wr.drew := ⟨by rw [cmpI_lt (HF.out.2.2.1 k HL.out (by omega) h1 (fun j a b => hall.out j a b))], hbel.out.drew⟩
        have Fin := hide fin
        clear fin HF HXR HYR hall hbel hc hc2
        generalize xs.getD k 0 = d at *
        generalize ys.getD k 0 = d' at *
        have hlt : ((d : Int) < (d' : Int)) := by omega
        clear h1
        go_wp2
        go_region
        all_goals go_wp2
        all_goals go_ret
        all_goals exact Fin.out
      by_cases h2 : ys.getD k 0 < xs.getD k 0
      · have fin : CmpP w m n (.returned (.int .i64 1)) wr.drew.drew := ⟨by rw [cmpI_gt (HF.out.2.2.2.1 k HL.out.symm (by rw [HL.out]; omega) h2 (fun j a b => (hall.out j a (by rw [← HL.out]; exact b)).symm))], hbel.out.drew.drew⟩
        have Fin := hide fin
        clear fin HF HXR HYR hall hbel hc hc2
        generalize xs.getD k 0 = d at *
        generalize ys.getD k 0 = d' at *
        have hlt : ((d' : Int) < (d : Int)) := by omega
        clear h1 h2
        go_wp2
        go_region
        all_goals go_wp2
        all_goals go_region
        all_goals go_wp2
        all_goals go_ret
        all_goals exact Fin.out
      · have hall2 : Hid (∀ j, k ≤ j → j < ys.length → xs.getD j 0 = ys.getD j 0) := fun j a b => by
          rcases Nat.eq_or_lt_of_le a with rfl | h
          · omega
          · exact hall.out j h b
        have hbe : Hid (Below w.heap.size w wr.drew.drew) := hbel.out.drew.drew
        have heq : xs.getD k 0 = ys.getD k 0 := by omega
        rw [heq] at hcell
        clear h1 h2 heq hc hc2 HXR HYR hall hbel HF
        generalize ys.getD k 0 = d' at *
        go_wp2
        go_region
        all_goals go_wp2
        all_goals go_region
        all_goals go_wp2
        all_goals go_roundw
        case rel => exact ⟨k, by omega, rfl, hall2, hbe⟩
        case measure => simp [intOf]
end Go.Proofs.YtfkcobdkgjhfaaaGreatDoor
