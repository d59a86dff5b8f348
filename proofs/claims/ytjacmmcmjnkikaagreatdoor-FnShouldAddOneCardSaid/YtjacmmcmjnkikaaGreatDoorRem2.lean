/- Walks: BigInt.Rem by a number of one word; NewBigInt, bigFive, bigTen; the last bit of Int and BigInt. -/
import Derived.Test.YtjacmmcmjnkikaaGreatDoorRem
import Derived.Test.YtjacmmcmjnkikaaGreatDoorSgn
set_option linter.unusedVariables false
set_option linter.unusedSimpArgs false
namespace Go.Proofs.YtjacmmcmjnkikaaGreatDoor
open Go.RowKit

set_option maxHeartbeats 1000000 in
theorem brem_any (base gz oz gx ox gy oy : Nat) (tz tx : TypeId) (cz cx : Array Value) (nz mz nx : Bool) (vz : Value) (m y : Nat) (A : Option Addr) (n c gv ov cv : Nat) (xs : List Nat) (w : World)
    (hz : Blk w gz tz cz) (hz0 : cz[oz]? = some (.bool nz)) (hz1 : cz[oz + 1]? = some vz) (hz2 : cz[oz + 2]? = some (.bool mz)) (hzr : Room w base vz m) (htz : tz ≠ 43)
    (hx : Blk w gx tx cx) (hx0 : cx[ox]? = some (.bool nx)) (hx1 : cx[ox + 1]? = some (.slice A n c)) (hxr : RdW w (.slice A n c) xs) (hxb : ∀ k, (Value.slice A n c).ownBlock = some k → k ≠ gz) (htx : tx ≠ 43)
    (hy : w.cell? ⟨gy, oy + 1, none⟩ = some (.slice (some ⟨gv, ov, none⟩) 1 cv)) (hyr : w.cell? ⟨gv, ov, none⟩ = some (.int .u64 (y : Int))) (hyg : gy ≠ gz) (hvg : gv ≠ gz)
    (hne : gz ≠ gx) (hb : base ≤ w.heap.size) (hn : n = xs.length) (hnb : n ≤ 1099511627776) (hd : Dig 18446744073709551616 xs) (hy1 : 1 < y) (hyb : y < 18446744073709551616) :
    Calls Tryz.prog 26 #[.pointer (some ⟨gz, oz, none⟩), .pointer (some ⟨gx, ox, none⟩), .pointer (some ⟨gy, oy, none⟩)] w
      (BigP w base gz oz tz cz vz (decide (0 < dval 18446744073709551616 xs % y) && nx) false (digs 18446744073709551616 (dval 18446744073709551616 xs % y))) := by
  have c1 : w.cell? ⟨gz, oz + 2, none⟩ = some (.bool mz) := (hz.cell _).trans hz2
  have f1 : w.frozen? ⟨gz, oz + 2, none⟩ = false := hz.frozen _
  have hf0 : Fr w (w.setCell ⟨gz, oz + 2, none⟩ (.bool false)) (fun k => k = gz) := (Fr.refl w (fun k => k = gz)).setCell (p := ⟨gz, oz + 2, none⟩) (fun _ => rfl) _
  have con := irem_any base gz oz gx ox gy oy tz tx 0 (cz.setIfInBounds (oz + 2) (.bool false)) cx #[] nz nx vz m y A n c gv ov cv xs (w.setCell ⟨gz, oz + 2, none⟩ (.bool false)).drew
    (hz.set _ _) (by rw [getElem?_set_ne (by omega)]; exact hz0) (by rw [getElem?_set_ne (by omega)]; exact hz1) (hzr.fr hf0.drew (hzr.ne_blk hz htz)) htz
    (hx.far (p := ⟨gz, oz + 2, none⟩) (Ne.symm hne) _) hx0 hx1 (hxr.fr hf0.drew hxb) htx
    (hf0.drew.cell hy (fun h => hyg h)) (hf0.drew.cell hyr (fun h => hvg h)) hne (by simpa using hb) hn hnb hd hy1 hyb
  generalize dval 18446744073709551616 xs % y = r at con ⊢
  have fin : ∀ e w', IntP (w.setCell ⟨gz, oz + 2, none⟩ (.bool false)).drew base gz oz tz (cz.setIfInBounds (oz + 2) (.bool false)) vz (decide (0 < r) && nx) (digs 18446744073709551616 r) e w' → BigP w base gz oz tz cz vz (decide (0 < r) && nx) false (digs 18446744073709551616 r) e w' := by
    rintro e w' ⟨he, v, hr, hrb, hB, hF⟩
    obtain ⟨B, d, rfl⟩ := hr.room.slice
    refine ⟨he, B, d, hr, ?_, hB, ?_⟩
    · simpa using hrb
    · exact Fr.step ((hf0.mono (fun k _ h => .inl h)).drew) hF (fun i _ h => h)
  have Con := hide con
  have Fin := hide fin
  clear hz hz0 hz1 hz2 hx hx0 hx1 con fin hf0 hxr hxb hzr hy hyr hn
  go_enter Tryz.func26, Tryz.ntmps26
  go_wp2_with fail
  go_region_with (go_at_call 33; go_loud (refine (Con.out).mono ?_; rintro e w1 HI; have HI2 := hide HI; obtain ⟨rfl, _⟩ := HI))
  all_goals go_wp2
  all_goals go_ret
  all_goals exact Fin.out _ _ HI2.out

set_option maxHeartbeats 500000 in
theorem newBig_any (x : Nat) (w : World) (hx : x < 9223372036854775808) :
    Calls Tryz.prog 34 #[.int .i64 (x : Int)] w (NewBigP w (digs 18446744073709551616 x)) := by
  have con := isetInt64_any w.heap.size w.heap.size 0 48 #[.bool false, .slice none 0 0, .bool false] false (.slice none 0 0) 0 (x : Int) (w.alloc (.cells #[.bool false, .slice none 0 0, .bool false] 48))
    (Blk.new w _ _) rfl rfl (Own.nil _ _).room (by decide) (by simp) (by omega) (by omega)
  rw [decide_eq_false (by omega : ¬ (x : Int) < 0), Int.natAbs_natCast] at con
  have fin : ∀ e w', IntP (w.alloc (.cells #[.bool false, .slice none 0 0, .bool false] 48)) w.heap.size w.heap.size 0 48 #[.bool false, .slice none 0 0, .bool false] (.slice none 0 0) false (digs 18446744073709551616 x) e w' →
      NewBigP w (digs 18446744073709551616 x) (.returned (.pointer (some ⟨w.heap.size, 0, none⟩))) w' := by
    rintro e w' ⟨_, v, hr, hrb, hB, hF⟩
    obtain ⟨A, c, rfl⟩ := hr.room.slice
    refine ⟨_, A, c, rfl, Nat.le_refl _, hr, hB, ?_⟩
    exact ((Below.refl w.heap.size w).alloc (Nat.le_refl _) _).trans (hF.below (by simp) (fun k hk => by rcases hk with rfl | h; exact Nat.le_refl _; cases h))
  have Con := hide con
  have Fin := hide fin
  clear con fin
  obtain ⟨xi, hxi⟩ : ∃ xi : Int, xi = (x : Int) := ⟨_, rfl⟩
  rw [← hxi] at Con ⊢
  clear hxi
  go_enter Tryz.func34, Tryz.ntmps34
  go_wp2_with fail
  refine (Con.out).mono ?_
  rintro e w1 HI
  have HI2 := hide (Fin.out _ _ HI)
  obtain ⟨rfl, _⟩ := HI
  clear Con Fin
  go_wp2
  go_ret
  exact HI2.out
theorem five_any (w : World) : Calls Tryz.prog 27 #[] w (NewBigP w [5]) := by
  have con := newBig_any 5 w (by omega)
  rw [digs_word (by omega) (by omega)] at con
  have Con := hide con
  clear con
  go_enter Tryz.func27, Tryz.ntmps27
  go_wp2_with fail
  refine (Con.out).mono ?_
  rintro e w1 ⟨g, A, c, rfl, h⟩
  have fin : NewBigP w [5] (.returned (.pointer (some ⟨g, 0, none⟩))) w1 := ⟨g, A, c, rfl, h⟩
  have Fin := hide fin
  clear fin h Con
  go_wp2
  go_ret
  exact Fin.out
theorem ten_any (w : World) : Calls Tryz.prog 29 #[] w (NewBigP w [10]) := by
  have con := newBig_any 10 w (by omega)
  rw [digs_word (by omega) (by omega)] at con
  have Con := hide con
  clear con
  go_enter Tryz.func29, Tryz.ntmps29
  go_wp2_with fail
  refine (Con.out).mono ?_
  rintro e w1 ⟨g, A, c, rfl, h⟩
  have fin : NewBigP w [10] (.returned (.pointer (some ⟨g, 0, none⟩))) w1 := ⟨g, A, c, rfl, h⟩
  have Fin := hide fin
  clear fin h Con
  go_wp2
  go_ret
  exact Fin.out

theorem dval_mod2 (xs : List Nat) : dval 18446744073709551616 xs % 2 = xs.getD 0 0 % 2 := by
  cases xs with
  | nil => rfl
  | cons d r => rw [dval_cons]; show _ = d % 2; omega
theorem and_one (x : Nat) (hx : x < 18446744073709551616) : bits .and .u64 (x : Int) 1 = ((x % 2 : Nat) : Int) := by
  rw [show (1 : Int) = ((1 : Nat) : Int) from rfl, u64_and_nat x 1 hx (by omega), Nat.and_one_is_mod]

theorem ibit0_any (g o : Nat) (A : Option Addr) (n c : Nat) (xs : List Nat) (w : World) (h1 : w.cell? ⟨g, o + 1, none⟩ = some (.slice A n c)) (hx : RdW w (.slice A n c) xs) (hn : n = xs.length) (hd : Dig 18446744073709551616 xs) :
    Calls Tryz.prog 32 #[.pointer (some ⟨g, o, none⟩), .int .i64 0] w fun e w' => e = .returned (.int .u64 ((dval 18446744073709551616 xs % 2 : Nat) : Int)) ∧ w = w' := by
  rw [dval_mod2]
  by_cases h0 : n = 0
  · subst h0
    obtain rfl := List.eq_nil_of_length_eq_zero hn.symm
    clear hx hn hd
    go_enter Tryz.func32, Tryz.ntmps32
    go_wp2
    go_ret
    exact ⟨rfl, rfl⟩
  · obtain ⟨gx, ox, rfl, _, hc⟩ := RdG.at_ (k := .u64) hx 0 (by omega)
    have hc0 : w.cell? ⟨gx, ox, none⟩ = some (.int .u64 (xs.getD 0 0 : Nat)) := hc
    have hlt : xs.getD 0 0 < 18446744073709551616 := hd _ (by rw [getD_at (by omega)]; exact List.getElem_mem _)
    have ha := and_one _ hlt
    have hp : 0 < n := by omega
    clear hx hc hn h0
    generalize xs.getD 0 0 = d at *
    generalize hm : ((d % 2 : Nat) : Int) = m at *
    go_enter Tryz.func32, Tryz.ntmps32
    go_wp2
    go_ret
    exact ⟨rfl, rfl⟩
theorem bbit0_any (g o : Nat) (A : Option Addr) (n c : Nat) (xs : List Nat) (w : World) (h1 : w.cell? ⟨g, o + 1, none⟩ = some (.slice A n c)) (hx : RdW w (.slice A n c) xs) (hn : n = xs.length) (hd : Dig 18446744073709551616 xs) :
    Calls Tryz.prog 25 #[.pointer (some ⟨g, o, none⟩), .int .i64 0] w fun e w' => e = .returned (.int .u64 ((dval 18446744073709551616 xs % 2 : Nat) : Int)) ∧ w = w' := by
  have Con := hide (ibit0_any g o A n c xs w h1 hx hn hd)
  clear h1 hx hn
  go_enter Tryz.func25, Tryz.ntmps25
  go_wp2_with fail
  refine (Con.out).mono ?_
  rintro e w1 ⟨rfl, rfl⟩
  go_wp2
  go_ret
  exact ⟨rfl, rfl⟩
end Go.Proofs.YtjacmmcmjnkikaaGreatDoor
