/- Walks: Int.Rem and BigInt.Rem by a number of one word. -/
import Derived.Test.YtjacmmcmjnkikaaGreatDoorDivOne0
set_option linter.unusedVariables false
set_option linter.unusedSimpArgs false
namespace Go.Proofs.YtjacmmcmjnkikaaGreatDoor
open Go.RowKit

theorem digs_len_pos {b n : Nat} (hb : 1 < b) : (decide (0 < ((digs b n).length : Int))) = decide (0 < n) := by
  rcases Nat.eq_zero_or_pos n with rfl | h
  · rw [digs_zero]; rfl
  · have := List.length_pos_iff.2 (digs_ne_nil hb h)
    rw [decide_eq_true h, decide_eq_true (by omega)]

set_option maxHeartbeats 1000000 in
theorem irem_any (base gz oz gx ox gy oy : Nat) (tz tx ty : TypeId) (cz cx cy : Array Value) (nz nx : Bool) (vz : Value) (m y : Nat) (A : Option Addr) (n c gv ov cv : Nat) (xs : List Nat) (w : World)
    (hz : Blk w gz tz cz) (hz0 : cz[oz]? = some (.bool nz)) (hz1 : cz[oz + 1]? = some vz) (hzr : Room w base vz m) (htz : tz ≠ 43)
    (hx : Blk w gx tx cx) (hx0 : cx[ox]? = some (.bool nx)) (hx1 : cx[ox + 1]? = some (.slice A n c)) (hxr : RdW w (.slice A n c) xs) (htx : tx ≠ 43)
    (hy : w.cell? ⟨gy, oy + 1, none⟩ = some (.slice (some ⟨gv, ov, none⟩) 1 cv)) (hyr : w.cell? ⟨gv, ov, none⟩ = some (.int .u64 (y : Int)))
    (hne : gz ≠ gx) (hb : base ≤ w.heap.size) (hn : n = xs.length) (hnb : n ≤ 1099511627776) (hd : Dig 18446744073709551616 xs) (hy1 : 1 < y) (hyb : y < 18446744073709551616) :
    Calls Tryz.prog 33 #[.pointer (some ⟨gz, oz, none⟩), .pointer (some ⟨gx, ox, none⟩), .pointer (some ⟨gy, oy, none⟩)] w
      (IntP w base gz oz tz cz vz (decide (0 < dval 18446744073709551616 xs % y) && nx) (digs 18446744073709551616 (dval 18446744073709551616 xs % y))) := by
  have c1 : w.cell? ⟨gz, oz + 1, none⟩ = some vz := (hz.cell _).trans hz1
  have c2 : w.cell? ⟨gx, ox + 1, none⟩ = some (.slice A n c) := (hx.cell _).trans hx1
  have hzne : ∀ k, vz.ownBlock = some k → k ≠ gz := hzr.ne_blk hz htz
  have hxne : ∀ k, vz.ownBlock = some k → k ≠ gx := hzr.ne_blk hx htx
  have con := divRem_all base n vz m y A c xs gv ov cv w.drew hzr hb hn hnb hxr hyr hy1 hyb hd
  have hlen := digs_len_pos (b := 18446744073709551616) (n := dval 18446744073709551616 xs % y) (by omega)
  generalize dval 18446744073709551616 xs % y = r at con hlen ⊢
  have key : ∀ (v : Value) (w1 : World), Fr w w1 (fun k => vz.ownBlock = some k) → w1.cell? ⟨gz, oz + 1, none⟩ = some vz ∧ w1.frozen? ⟨gz, oz + 1, none⟩ = false ∧ (w1.setCell ⟨gz, oz + 1, none⟩ v).cell? ⟨gz, oz + 1, none⟩ = some v ∧
      (w1.setCell ⟨gz, oz + 1, none⟩ v).cell? ⟨gx, ox, none⟩ = some (.bool nx) ∧ (w1.setCell ⟨gz, oz + 1, none⟩ v).cell? ⟨gz, oz, none⟩ = some (.bool nz) ∧ (w1.setCell ⟨gz, oz + 1, none⟩ v).frozen? ⟨gz, oz, none⟩ = false := by
    intro v w1 hf
    have b1 : Blk w1 gz tz cz := hz.fr hf (fun h => hzne gz h rfl)
    have b2 : Blk w1 gx tx cx := hx.fr hf (fun h => hxne gx h rfl)
    refine ⟨(b1.cell _).trans hz1, b1.frozen _, ?_, ?_, ?_, ?_⟩
    · have hlt : oz + 1 < cz.size := (Array.getElem?_eq_some_iff.1 hz1).1
      rw [(b1.set _ _).cell]; simp [hlt]
    · rw [World.cell?_setCell_other _ _ _ _ (by intro e; injection e with e1 e2; omega)]
      exact (b2.cell _).trans hx0
    · rw [World.cell?_setCell_other _ _ _ _ (by intro e; injection e with e1 e2; omega)]
      exact (b1.cell _).trans hz0
    · rw [World.frozen?_setCell]; exact b1.frozen _
  have fin : ∀ (s : Bool) (v : Value) (w1 : World), Own w1 base v (digs 18446744073709551616 r) → (v.ownBlock = vz.ownBlock ∨ ∃ k, v.ownBlock = some k ∧ w.heap.size ≤ k) → Fr w w1 (fun k => vz.ownBlock = some k) →
      IntP w base gz oz tz cz vz s (digs 18446744073709551616 r) (.returned (.pointer (some ⟨gz, oz, none⟩))) ((w1.setCell ⟨gz, oz + 1, none⟩ v).setCell ⟨gz, oz, none⟩ (.bool s)) := by
    intro s v w1 hr hrb hf
    have b1 : Blk w1 gz tz cz := hz.fr hf (fun h => hzne gz h rfl)
    refine ⟨rfl, v, ?_, hrb, (b1.set _ _).set _ _, ?_⟩
    · have hg : ∀ k, v.ownBlock = some k → k ≠ gz := hr.room.ne_blk b1 htz
      exact (hr.fr (Fr.setCell (Fr.refl w1 (fun k => k = gz)) (p := ⟨gz, oz + 1, none⟩) (fun _ => rfl) v) hg).fr (Fr.setCell (Fr.refl _ (fun k => k = gz)) (p := ⟨gz, oz, none⟩) (fun _ => rfl) _) hg
    · exact ((hf.mono (fun k _ h => .inr h)).setCell (p := ⟨gz, oz + 1, none⟩) (fun _ => .inl rfl) _).setCell (p := ⟨gz, oz, none⟩) (fun _ => .inl rfl) _
  have Con := hide con
  have Key := hide key
  have Fin := hide fin
  have HL := hide hlen
  clear hz hz0 hz1 hx hx0 hx1 key fin hzne hxne con hlen hzr hxr hn hyr
  go_enter Tryz.func33, Tryz.ntmps33
  go_wp2_with fail
  go_region_with (go_at_call 40; go_loud (refine (Con.out).mono ?_; rintro e w1 ⟨Q, R, nq, cq, cr, rfl, hr, hrb, hf⟩; obtain ⟨k1, k2, k3, k4, k5, k6⟩ := Key.out (.slice R (digs 18446744073709551616 r).length cr) w1 ⟨hf.os, hf.tape, hf.output, hf.size, hf.block⟩; have HF := hide (fun s => Fin.out s (.slice R (digs 18446744073709551616 r).length cr) w1 hr hrb ⟨hf.os, hf.tape, hf.output, hf.size, hf.block⟩); clear hr hrb hf))
  all_goals clear Con c1 c2 hy
  all_goals go_wp2
  all_goals go_ret
  all_goals first
    | exact (by have e : (decide (0 < r) && nx) = nx := (by rw [← HL.out, decide_eq_true (by omega)]; rfl); rw [e]; exact HF.out nx)
    | exact (by have e : (decide (0 < r) && nx) = false := (by rw [← HL.out, decide_eq_false (by omega)]; rfl); rw [e]; exact HF.out false)
end Go.Proofs.YtjacmmcmjnkikaaGreatDoor
