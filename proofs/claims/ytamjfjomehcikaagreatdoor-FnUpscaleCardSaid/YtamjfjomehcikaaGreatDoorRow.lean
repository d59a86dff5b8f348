/- A Dec that came in as an argument, opened. -/
import Derived.Test.YtamjfjomehcikaaGreatDoorRows
import Derived.Test.YtamjfjomehcikaaGreatDoorGen
import Derived.ProofKit
import Derived.OpenShut
import Derived.ChangeOld
import Derived.Lib.SmallJoins
set_option linter.unusedVariables false
set_option linter.unusedSimpArgs false
namespace Go.Proofs.YtamjfjomehcikaaGreatDoor
open Go.ChangeShapes Go.WideShapes Go.ChangeAt Go.RowKit Go.Joins

theorem own : ownKnob Tryz.prog.godebug = none := by kernel_rfl
theorem laidOut : laidOutB Tryz.prog = true := by kernel_rfl
theorem cellsDec : Tryz.prog.cellsOf 31 = 4 := by kernel_rfl

theorem u64_nat {n : Int} (h : (Lit.int .u64 n).wf = true) : 0 ≤ n ∧ n < 18446744073709551616 := by
  simp [Lit.wf, IntKind.min, IntKind.max, IntKind.signed, IntKind.bits] at h
  omega

theorem row_open {w : World} {a : Addr} {len cap : Nat} {zs : List Int} (hl : len ≤ cap) (hm : cap ≤ maxLen) (hz : zs.length = cap) (hcell : ∀ i, i < zs.length → w.cell? (a.add i) = some (.int .u64 (zs.getD i 0)))
    (hwz : ∀ n ∈ zs, (Lit.int .u64 n).wf = true) :
    ∃ xs : List Nat, xs.length = len ∧ Dig 18446744073709551616 xs ∧ RdG .u64 w (.slice (some a) xs.length cap) xs := by
  have hlen : ((zs.take len).map Int.toNat).length = len := by simp; omega
  refine ⟨(zs.take len).map Int.toNat, hlen, ?_, ?_⟩
  · intro d hd
    simp only [List.mem_map] at hd
    obtain ⟨z, hz1, rfl⟩ := hd
    have := u64_nat (hwz z (List.mem_of_mem_take hz1))
    omega
  · rw [hlen]
    by_cases h0 : len = 0
    · subst h0
      exact .inl ⟨_, _, rfl, by simp, hm⟩
    · obtain ⟨b, o, s⟩ := a
      obtain rfl : s = none := by simpa [Addr.add] using World.cell?_spot (hcell 0 (by omega))
      refine .inr ⟨b, o, cap, by rw [hlen], by rw [hlen]; exact hl, hm, fun i hi => ?_⟩
      rw [hlen] at hi
      have h1 := hcell i (by omega)
      have h2 := u64_nat (hwz (zs.getD i 0) (by rw [List.getD_eq_getElem?_getD, List.getElem?_eq_getElem (by omega)]; exact List.getElem_mem _))
      have h3 : (((zs.take len).map Int.toNat).getD i 0 : Nat) = (zs.getD i 0).toNat := by
        simp [List.getD_eq_getElem?_getD, List.getElem?_take, hi]
        cases zs[i]? <;> simp
      rw [h3, Int.toNat_of_nonneg h2.1]
      have h4 : (⟨b, o, none⟩ : Addr).add i = ⟨b, o + i, none⟩ := by cases i <;> simp [Addr.add]
      rw [← h4]
      exact h1

section
variable {H : Type} {enc : TypeId × Value → H} {w : World}
set_option maxRecDepth 100000 in
theorem dec_open {v : Value} {d : DataW H} {p : List MemPlace} (hv : Value.okWide Tryz.prog w .any 0 31 v) (h : DataW.Trod enc Tryz.prog w 0 (fun _ => true) true 31 v d p) :
    ∃ (form : Int) (neg : Bool) (A : Option Addr) (c : Nat) (xs : List Nat) (exp : Int), v = .agg #[.int .i64 form, .bool neg, .slice A xs.length c, .int .i64 exp] ∧
      RdG .u64 w (.slice A xs.length c) xs ∧ Dig 18446744073709551616 xs ∧ (Lit.int .i64 form).wf = true ∧ (Lit.int .i64 exp).wf = true := by
  obtain ⟨c0, c1, c2, c3, y0, y1, y2, y3, m, rfl, -, -, hy0, hy1, hy2, hy3⟩ := open_agg4 Tryz.underlying31 (by kernel_rfl) cellsDec hv h
  obtain ⟨form, e0, -, wa⟩ := DataW.trod_int Tryz.underlying3 hy0
  obtain ⟨neg, e1, -⟩ := DataW.trod_bool Tryz.underlying4 hy1
  obtain ⟨exp, e3, -, wb⟩ := DataW.trod_int Tryz.underlying3 hy3
  simp at e0 e1 e3
  subst e0 e1 e3
  rcases open_ints Tryz.underlying24 Tryz.underlying50 (by kernel_rfl) hy2 with ⟨hcs, -⟩ | ⟨x, l, c, zs, hcs, -, hl, hm, hz, -, hcell, hwz⟩
  · simp at hcs
    subst hcs
    exact ⟨form, neg, none, 0, [], exp, rfl, .inl ⟨_, _, rfl, rfl, Nat.zero_le _⟩, fun d hd => by simp at hd, wa, wb⟩
  · simp at hcs
    subst hcs
    obtain ⟨xs, rfl, hd, hr⟩ := row_open hl hm (by simpa using hz) hcell hwz
    exact ⟨form, neg, _, c, xs, exp, rfl, hr, hd, wa, wb⟩

set_option maxRecDepth 100000 in
theorem uints_open {v : Value} {d : DataW H} {p : List MemPlace} (hv : Value.okWide Tryz.prog w .any 0 24 v) (h : DataW.Trod enc Tryz.prog w 0 (fun _ => true) true 24 v d p) :
    ∃ (A : Option Addr) (c : Nat) (xs : List Nat), v = .slice A xs.length c ∧ RdG .u64 w (.slice A xs.length c) xs ∧ Dig 18446744073709551616 xs := by
  obtain ⟨a, len, cap, rfl⟩ := okWide_slice Tryz.underlying24 hv
  obtain ⟨fuel, hf⟩ := h
  have hc1 : Tryz.prog.cellsOf 50 = 1 := by kernel_rfl
  rcases open_ints Tryz.underlying24 Tryz.underlying50 hc1 hf with ⟨hcs, -⟩ | ⟨x, l, c, zs, hcs, -, hl, hm, hz, -, hcell, hwz⟩
  · simp [Value.cells] at hcs
    obtain ⟨rfl, rfl, rfl⟩ := hcs
    exact ⟨none, 0, [], rfl, .inl ⟨_, _, rfl, rfl, Nat.zero_le _⟩, fun d hd => by simp at hd⟩
  · simp [Value.cells] at hcs
    obtain ⟨rfl, rfl, rfl⟩ := hcs
    obtain ⟨xs, rfl, hd, hr⟩ := row_open hl hm (by simpa using hz) hcell hwz
    exact ⟨_, cap, xs, rfl, hr, hd⟩

theorem trodVars_len {P : Program} {sp : Nat → Bool} : ∀ {ns : List String} {gs : List (DataW H)} {ps : List MemPlace}, DataW.TrodVars enc P w sp ns gs ps → gs.length = ns.length
  | [], [], _, _ => rfl
  | [], _ :: _, _, h => h.elim
  | _ :: _, [], _, h => h.elim
  | _ :: ns, _ :: gs, _, h => by
    obtain ⟨_, _, _, _, _, _, _, _, _, _, h2, _⟩ := h
    simp [trodVars_len h2]
end
end Go.Proofs.YtamjfjomehcikaaGreatDoor
