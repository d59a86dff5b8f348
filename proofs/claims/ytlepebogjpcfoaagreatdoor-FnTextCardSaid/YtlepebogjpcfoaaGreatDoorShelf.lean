/-
  DERIVED: THE SHELF's CONTRACTS AT THIS DUMP, IN PLAIN WORDS (tools/lay-plain.mjs out of 'TryzShelf.lean', which tools/lay-shelf.mjs wrote): THE SAME DECLARATIONS UNDER THE SAME NAMES: 'import', 'namespace', 'open', 'def', 'theorem' AND NOTHING ELSE: no command of the shelf's: FOR A HAND-IN. Each laying: the table of numbers ('.._ren') and one theorem, a field a fact of the dump's own or the kernel's comparison; each contract: ONE APPLICATION.
-/
import Derived.Shelf.Small.Bits
import Derived.Shelf.Strconv.Itoa0
import Derived.Shelf.Strconv.Itoa1
import Derived.Shelf.LaysM
import Derived.Shelf.Strconv.Itoa2
import Derived.Shelf.Strconv.AppendUint10
import Derived.Shelf.Bits.Mul64
import Derived.Test.YtlepebogjpcfoaaGreatDoorProg
namespace Go.Proofs
open Go.Shelf
def Tryz.lays128_ren : Go.Shelf.Ren := ⟨fun | 128 => 172 | n => n, fun | 51 => 93 | 3 => 3 | 4 => 4 | 46 => 57 | 5 => 5 | 9 => 9 | n => n, fun | n => n⟩
theorem Tryz.lays128 : Go.Proofs.Lays.n128 Tryz.prog Tryz.lays128_ren := {
  mixed := by kernel_rfl
  f128 := Tryz.func172.trans (congrArg some (by kernel_rfl))
  t3 := Tryz.underlying3
  a3 := Tryz.isAgg3
  z3 := Tryz.sizeOf3
  v3 := Tryz.zeroValue3
  t4 := Tryz.underlying4
  a4 := Tryz.isAgg4
  z4 := Tryz.sizeOf4
  v4 := Tryz.zeroValue4
  t5 := Tryz.underlying5
  a5 := Tryz.isAgg5
  z5 := Tryz.sizeOf5
  v5 := Tryz.zeroValue5
  t9 := Tryz.underlying9
  a9 := Tryz.isAgg9
  z9 := Tryz.sizeOf9
  v9 := Tryz.zeroValue9
  t46 := Tryz.underlying57
  a46 := Tryz.isAgg57
  z46 := Tryz.sizeOf57
  v46 := Tryz.zeroValue57
  t51 := Tryz.underlying93
  a51 := Tryz.isAgg93
  z51 := Tryz.sizeOf93
  v51 := Tryz.zeroValue93 }
/-- bits.Len32: "Len32 returns the minimum number of bits required to represent x; the result is 0 for x == 0.": IT RETURNS 'Lib.bitLen x'; the world is as it was. ('h0', 'h1': x is a uint32.) (LAID: no walk: one application.) -/
theorem Tryz.bits_Len32 (x : Int) (w : World) (h0 : 0 ≤ x) (h1 : x ≤ 4294967295) :
    Calls Tryz.prog 172 #[.int .u32 x] w fun e w' => e = .returned (.int .i64 (Lib.bitLen x.toNat)) ∧ w' = w := Any.bits_Len32 Tryz.lays128 x w h0 h1
def Tryz.lays125_ren : Go.Shelf.Ren := ⟨fun | 125 => 144 | 128 => 172 | 129 => 173 | n => n, fun | 46 => 57 | 3 => 3 | 51 => 93 | 53 => 117 | 4 => 4 | 5 => 5 | 9 => 9 | n => n, fun | n => n⟩
theorem Tryz.lays125 : Go.Proofs.Lays.n125 Tryz.prog Tryz.lays125_ren := {
  mixed := by kernel_rfl
  f125 := Tryz.func144.trans (congrArg some (by kernel_rfl))
  f128 := Tryz.func172.trans (congrArg some (by kernel_rfl))
  f129 := Tryz.func173.trans (congrArg some (by kernel_rfl))
  t3 := Tryz.underlying3
  a3 := Tryz.isAgg3
  z3 := Tryz.sizeOf3
  v3 := Tryz.zeroValue3
  t4 := Tryz.underlying4
  a4 := Tryz.isAgg4
  z4 := Tryz.sizeOf4
  v4 := Tryz.zeroValue4
  t5 := Tryz.underlying5
  a5 := Tryz.isAgg5
  z5 := Tryz.sizeOf5
  v5 := Tryz.zeroValue5
  t9 := Tryz.underlying9
  a9 := Tryz.isAgg9
  z9 := Tryz.sizeOf9
  v9 := Tryz.zeroValue9
  t46 := Tryz.underlying57
  a46 := Tryz.isAgg57
  z46 := Tryz.sizeOf57
  v46 := Tryz.zeroValue57
  t51 := Tryz.underlying93
  a51 := Tryz.isAgg93
  z51 := Tryz.sizeOf93
  v51 := Tryz.zeroValue93
  t53 := Tryz.underlying117
  a53 := Tryz.isAgg117
  z53 := Tryz.sizeOf117
  v53 := Tryz.zeroValue117 }
/-- bits.Len: "Len returns the minimum number of bits required to represent x; the result is 0 for x == 0.": IT RETURNS 'Lib.bitLen x'; the world is as it was. (A uint has 64 bits in the model.) ITS CALLEE bits.Len64 IS MET BY ITS OWN CONTRACT OFF THE SHELF (lay that first). (LAID: no walk: one application.) -/
theorem Tryz.bits_Len (x : Int) (w : World) (h0 : 0 ≤ x) (h1 : x ≤ 18446744073709551615) :
    Calls Tryz.prog 144 #[.int .u64 x] w fun e w' => e = .returned (.int .i64 (Lib.bitLen x.toNat)) ∧ w' = w := Any.bits_Len Tryz.lays125 x w h0 h1
def Tryz.lays134_ren : Go.Shelf.Ren := ⟨fun | 134 => 242 | 129 => 173 | n => n, fun | 53 => 117 | 3 => 3 | 4 => 4 | 46 => 57 | 5 => 5 | 9 => 9 | n => n, fun | n => n⟩
theorem Tryz.lays134 : Go.Proofs.Lays.n134 Tryz.prog Tryz.lays134_ren := {
  mixed := by kernel_rfl
  f129 := Tryz.func173.trans (congrArg some (by kernel_rfl))
  f134 := Tryz.func242.trans (congrArg some (by kernel_rfl))
  t3 := Tryz.underlying3
  a3 := Tryz.isAgg3
  z3 := Tryz.sizeOf3
  v3 := Tryz.zeroValue3
  t4 := Tryz.underlying4
  a4 := Tryz.isAgg4
  z4 := Tryz.sizeOf4
  v4 := Tryz.zeroValue4
  t5 := Tryz.underlying5
  a5 := Tryz.isAgg5
  z5 := Tryz.sizeOf5
  v5 := Tryz.zeroValue5
  t9 := Tryz.underlying9
  a9 := Tryz.isAgg9
  z9 := Tryz.sizeOf9
  v9 := Tryz.zeroValue9
  t46 := Tryz.underlying57
  a46 := Tryz.isAgg57
  z46 := Tryz.sizeOf57
  v46 := Tryz.zeroValue57
  t53 := Tryz.underlying117
  a53 := Tryz.isAgg117
  z53 := Tryz.sizeOf117
  v53 := Tryz.zeroValue117 }
/-- bits.LeadingZeros64: "LeadingZeros64 returns the number of leading zero bits in x; the result is 64 for x == 0.": IT RETURNS '64 - Lib.bitLen x'; the world is as it was. ITS CALLEE bits.Len64 IS MET BY ITS OWN CONTRACT OFF THE SHELF (lay that first): entered in place it sends the kernel out of memory. (LAID: no walk: one application.) -/
theorem Tryz.bits_LeadingZeros64 (x : Int) (w : World) (h0 : 0 ≤ x) (h1 : x ≤ 18446744073709551615) :
    Calls Tryz.prog 242 #[.int .u64 x] w fun e w' => e = .returned (.int .i64 (64 - (Lib.bitLen x.toNat : Int))) ∧ w' = w := Any.bits_LeadingZeros64 Tryz.lays134 x w h0 h1
def Tryz.lays130_ren : Go.Shelf.Ren := ⟨fun | 130 => 189 | 125 => 144 | 128 => 172 | 129 => 173 | n => n, fun | 46 => 57 | 3 => 3 | 51 => 93 | 53 => 117 | 4 => 4 | 5 => 5 | 9 => 9 | n => n, fun | n => n⟩
theorem Tryz.lays130 : Go.Proofs.Lays.n130 Tryz.prog Tryz.lays130_ren := {
  mixed := by kernel_rfl
  f125 := Tryz.func144.trans (congrArg some (by kernel_rfl))
  f128 := Tryz.func172.trans (congrArg some (by kernel_rfl))
  f129 := Tryz.func173.trans (congrArg some (by kernel_rfl))
  f130 := Tryz.func189.trans (congrArg some (by kernel_rfl))
  t3 := Tryz.underlying3
  a3 := Tryz.isAgg3
  z3 := Tryz.sizeOf3
  v3 := Tryz.zeroValue3
  t4 := Tryz.underlying4
  a4 := Tryz.isAgg4
  z4 := Tryz.sizeOf4
  v4 := Tryz.zeroValue4
  t5 := Tryz.underlying5
  a5 := Tryz.isAgg5
  z5 := Tryz.sizeOf5
  v5 := Tryz.zeroValue5
  t9 := Tryz.underlying9
  a9 := Tryz.isAgg9
  z9 := Tryz.sizeOf9
  v9 := Tryz.zeroValue9
  t46 := Tryz.underlying57
  a46 := Tryz.isAgg57
  z46 := Tryz.sizeOf57
  v46 := Tryz.zeroValue57
  t51 := Tryz.underlying93
  a51 := Tryz.isAgg93
  z51 := Tryz.sizeOf93
  v51 := Tryz.zeroValue93
  t53 := Tryz.underlying117
  a53 := Tryz.isAgg117
  z53 := Tryz.sizeOf117
  v53 := Tryz.zeroValue117 }
/-- bits.LeadingZeros: "LeadingZeros returns the number of leading zero bits in x; the result is [UintSize] for x == 0.": IT RETURNS '64 - Lib.bitLen x'; the world is as it was. ITS CALLEE bits.Len IS MET BY ITS OWN CONTRACT OFF THE SHELF (lay that first): entered in place it sends the kernel out of memory. (LAID: no walk: one application.) -/
theorem Tryz.bits_LeadingZeros (x : Int) (w : World) (h0 : 0 ≤ x) (h1 : x ≤ 18446744073709551615) :
    Calls Tryz.prog 189 #[.int .u64 x] w fun e w' => e = .returned (.int .i64 (64 - (Lib.bitLen x.toNat : Int))) ∧ w' = w := Any.bits_LeadingZeros Tryz.lays130 x w h0 h1
def Tryz.lays129_ren : Go.Shelf.Ren := ⟨fun | 129 => 173 | n => n, fun | 53 => 117 | 3 => 3 | 4 => 4 | 46 => 57 | 5 => 5 | 9 => 9 | n => n, fun | n => n⟩
theorem Tryz.lays129 : Go.Proofs.Lays.n129 Tryz.prog Tryz.lays129_ren := {
  mixed := by kernel_rfl
  f129 := Tryz.func173.trans (congrArg some (by kernel_rfl))
  t3 := Tryz.underlying3
  a3 := Tryz.isAgg3
  z3 := Tryz.sizeOf3
  v3 := Tryz.zeroValue3
  t4 := Tryz.underlying4
  a4 := Tryz.isAgg4
  z4 := Tryz.sizeOf4
  v4 := Tryz.zeroValue4
  t5 := Tryz.underlying5
  a5 := Tryz.isAgg5
  z5 := Tryz.sizeOf5
  v5 := Tryz.zeroValue5
  t9 := Tryz.underlying9
  a9 := Tryz.isAgg9
  z9 := Tryz.sizeOf9
  v9 := Tryz.zeroValue9
  t46 := Tryz.underlying57
  a46 := Tryz.isAgg57
  z46 := Tryz.sizeOf57
  v46 := Tryz.zeroValue57
  t53 := Tryz.underlying117
  a53 := Tryz.isAgg117
  z53 := Tryz.sizeOf117
  v53 := Tryz.zeroValue117 }
/-- bits.Len64: "Len64 returns the minimum number of bits required to represent x; the result is 0 for x == 0.": IT RETURNS 'Lib.bitLen x'; the world is as it was. ('h0', 'h1': x is a uint64.) (LAID: no walk: one application.) -/
theorem Tryz.bits_Len64 (x : Int) (w : World) (h0 : 0 ≤ x) (h1 : x ≤ 18446744073709551615) :
    Calls Tryz.prog 173 #[.int .u64 x] w fun e w' => e = .returned (.int .i64 (Lib.bitLen x.toNat)) ∧ w' = w := Any.bits_Len64 Tryz.lays129 x w h0 h1
def Tryz.lays317_ren : Go.Shelf.Ren := ⟨fun | 317 => 205 | n => n, fun | 3 => 3 | 46 => 57 | n => n, fun | n => n⟩
theorem Tryz.lays317 : Go.Proofs.Lays.n317 Tryz.prog Tryz.lays317_ren := {
  mixed := by kernel_rfl
  f317 := Tryz.func205.trans (congrArg some (by kernel_rfl))
  t3 := Tryz.underlying3
  a3 := Tryz.isAgg3
  z3 := Tryz.sizeOf3
  v3 := Tryz.zeroValue3
  t46 := Tryz.underlying57
  a46 := Tryz.isAgg57
  z46 := Tryz.sizeOf57
  v46 := Tryz.zeroValue57 }
open Go.Lib in
/-- internal/strconv.log10Pow2: "log10Pow2(x) returns ⌊log₁₀ 2**x⌋ = ⌊x * log₁₀ 2⌋.": '(x * 78913) >> 18', at an x up to 64 (a length in bits). The world is as it was. (LAID: no walk: one application.) -/
theorem Tryz.internal_strconv_log10Pow2 (x : Nat) (h : x ≤ 64) (w : World) :
    Calls Tryz.prog 205 #[.int .i64 x] w fun e w' => e = .returned (.int .i64 (Lib.l10 x)) ∧ w' = w := Any.internal_strconv_log10Pow2 Tryz.lays317 x h w
def Tryz.lays318_ren : Go.Shelf.Ren := ⟨fun | 318 => 206 | n => n, fun | 3 => 3 | 4 => 4 | n => n, fun | n => n⟩
theorem Tryz.lays318 : Go.Proofs.Lays.n318 Tryz.prog Tryz.lays318_ren := {
  mixed := by kernel_rfl
  f318 := Tryz.func206.trans (congrArg some (by kernel_rfl))
  t3 := Tryz.underlying3
  a3 := Tryz.isAgg3
  z3 := Tryz.sizeOf3
  v3 := Tryz.zeroValue3
  t4 := Tryz.underlying4
  a4 := Tryz.isAgg4
  z4 := Tryz.sizeOf4
  v4 := Tryz.zeroValue4 }
open Go.Lib in
/-- internal/strconv.bool2: "bool2 converts b to an integer: 1 for true, 0 for false." The world is as it was. (LAID: no walk: one application.) -/
theorem Tryz.internal_strconv_bool2_int (b : Bool) (w : World) :
    Calls Tryz.prog 206 #[.bool b] w fun e w' => e = .returned (.int .i64 (if b then 1 else 0)) ∧ w' = w := Any.internal_strconv_bool2_int Tryz.lays318 b w
def Tryz.lays283_ren : Go.Shelf.Ren := ⟨fun | 283 => 168 | n => n, fun | 3 => 3 | 9 => 9 | 4 => 4 | n => n, fun | n => n⟩
theorem Tryz.lays283 : Go.Proofs.Lays.n283 Tryz.prog Tryz.lays283_ren := {
  mixed := by kernel_rfl
  f283 := Tryz.func168.trans (congrArg some (by kernel_rfl))
  t3 := Tryz.underlying3
  a3 := Tryz.isAgg3
  z3 := Tryz.sizeOf3
  v3 := Tryz.zeroValue3
  t4 := Tryz.underlying4
  a4 := Tryz.isAgg4
  z4 := Tryz.sizeOf4
  v4 := Tryz.zeroValue4
  t9 := Tryz.underlying9
  a9 := Tryz.isAgg9
  z9 := Tryz.sizeOf9
  v9 := Tryz.zeroValue9 }
open Go.Lib in
/-- internal/strconv.small: "small returns the string for an i with 0 <= i < nSmalls.": i's decimal numeral. The world is as it was. (LAID: no walk: one application.) -/
theorem Tryz.internal_strconv_small (i : Nat) (h : i < 100) (w : World) :
    Calls Tryz.prog 168 #[.int .i64 i] w fun e w' => e = .returned (.string ⟨(Lib.decDigits i).toArray⟩) ∧ w' = w := Any.internal_strconv_small Tryz.lays283 i h w
def Tryz.laysM284_ren : Go.Shelf.Ren := ⟨fun | 284 => 169 | 129 => 173 | 317 => 205 | 318 => 206 | n => n, fun | 53 => 117 | 3 => 3 | 212 => 246 | 0 => 0 | 4 => 4 | 46 => 57 | 5 => 5 | 9 => 9 | n => n, fun | 17 => 8 | n => n⟩
theorem Tryz.laysM284 : Go.Proofs.LaysM.n284 Tryz.prog Tryz.laysM284_ren := {
  mixed := by kernel_rfl
  f129 := Tryz.func173.trans (congrArg some (by kernel_rfl))
  f284 := Tryz.func169.trans (congrArg some (by kernel_rfl))
  f317 := Tryz.func205.trans (congrArg some (by kernel_rfl))
  f318 := Tryz.func206.trans (congrArg some (by kernel_rfl))
  t0 := Tryz.underlying0
  a0 := Tryz.isAgg0
  z0 := Tryz.sizeOf0
  v0 := Tryz.zeroValue0
  t3 := Tryz.underlying3
  a3 := Tryz.isAgg3
  z3 := Tryz.sizeOf3
  v3 := Tryz.zeroValue3
  t4 := Tryz.underlying4
  a4 := Tryz.isAgg4
  z4 := Tryz.sizeOf4
  v4 := Tryz.zeroValue4
  t5 := Tryz.underlying5
  a5 := Tryz.isAgg5
  z5 := Tryz.sizeOf5
  v5 := Tryz.zeroValue5
  t9 := Tryz.underlying9
  a9 := Tryz.isAgg9
  z9 := Tryz.sizeOf9
  v9 := Tryz.zeroValue9
  t46 := Tryz.underlying57
  a46 := Tryz.isAgg57
  z46 := Tryz.sizeOf57
  v46 := Tryz.zeroValue57
  t53 := Tryz.underlying117
  a53 := Tryz.isAgg117
  z53 := Tryz.sizeOf117
  v53 := Tryz.zeroValue117
  t212 := Tryz.underlying246
  a212 := Tryz.isAgg246
  z212 := Tryz.sizeOf246
  v212 := Tryz.zeroValue246
  g17 := by kernel_rfl
  i0 := by kernel_rfl
  i3 := by kernel_rfl
  i4 := by kernel_rfl
  i5 := by kernel_rfl
  i9 := by kernel_rfl
  i46 := by kernel_rfl
  i53 := by kernel_rfl
  i212 := by kernel_rfl
  m17 := by kernel_rfl }
open Go.Lib in
/-- internal/strconv.numDigits, at a d that is not 0: THE NUMBER OF d's DECIMAL DIGITS. The world is as it was. (LAID: no walk: one application.) -/
theorem Tryz.internal_strconv_numDigits (u : Nat) (h1 : 1 ≤ u) (h2 : u < 18446744073709551616) (w : World) (htab : Lib.TabIs Tryz.prog w "internal/strconv.uint64pow10" .u64 Lib.pow10Tab) :
    Calls Tryz.prog 169 #[.int .u64 u] w fun e w' => e = .returned (.int .i64 (Lib.nDigits u)) ∧ w' = w := Any.internal_strconv_numDigits Tryz.laysM284 u h1 h2 w htab
def Tryz.lays285_ren : Go.Shelf.Ren := ⟨fun | 285 => 170 | n => n, fun | 37 => 38 | 53 => 117 | 3 => 3 | 4 => 4 | 51 => 93 | 9 => 9 | 5 => 5 | 0 => 0 | n => n, fun | n => n⟩
theorem Tryz.lays285 : Go.Proofs.Lays.n285 Tryz.prog Tryz.lays285_ren := {
  mixed := by kernel_rfl
  f285 := Tryz.func170.trans (congrArg some (by kernel_rfl))
  t0 := Tryz.underlying0
  a0 := Tryz.isAgg0
  z0 := Tryz.sizeOf0
  v0 := Tryz.zeroValue0
  t3 := Tryz.underlying3
  a3 := Tryz.isAgg3
  z3 := Tryz.sizeOf3
  v3 := Tryz.zeroValue3
  t4 := Tryz.underlying4
  a4 := Tryz.isAgg4
  z4 := Tryz.sizeOf4
  v4 := Tryz.zeroValue4
  t5 := Tryz.underlying5
  a5 := Tryz.isAgg5
  z5 := Tryz.sizeOf5
  v5 := Tryz.zeroValue5
  t9 := Tryz.underlying9
  a9 := Tryz.isAgg9
  z9 := Tryz.sizeOf9
  v9 := Tryz.zeroValue9
  t37 := Tryz.underlying38
  a37 := Tryz.isAgg38
  z37 := Tryz.sizeOf38
  v37 := Tryz.zeroValue38
  t51 := Tryz.underlying93
  a51 := Tryz.isAgg93
  z51 := Tryz.sizeOf93
  v51 := Tryz.zeroValue93
  t53 := Tryz.underlying117
  a53 := Tryz.isAgg117
  z53 := Tryz.sizeOf117
  v53 := Tryz.zeroValue117 }
open Go.RowKit Go.Sort Go.Lib in
/-- internal/strconv.formatBase10: "formatBase10 formats the decimal representation of u into a. The caller is responsible for ensuring that a is big enough to hold u. If a is too big, leading zeros will be filled in as needed.": THE ROW HOLDS u's DIGITS ('FmtInv .. 0 ..': every place t holds 'dg u (len - 1 - t)'); all else is as it was but for the count of draws. (LAID: no walk: one application.) -/
theorem Tryz.internal_strconv_formatBase10 (blk off cap : Nat) (u : Nat) (d : Array UInt8) (w : World) (hH : Holds (fun (b : UInt8) => Value.int .u8 (b.toNat : Int)) w blk off d) (hu : u < 10 ^ d.size) (hu64 : u < 18446744073709551616) (hsz : d.size < 4611686018427387904) :
    Calls Tryz.prog 170 #[.slice (some ⟨blk, off, none⟩) d.size cap, .int .u64 u] w fun e w' =>
      e = .returned (.tuple #[]) ∧ ∃ (n v' : Nat) (dk : Array UInt8), w' = (putRow (fun (b : UInt8) => Value.int .u8 (b.toNat : Int)) w blk off dk).drewN n ∧ FmtInv d.size u 0 v' dk := Any.internal_strconv_formatBase10 Tryz.lays285 blk off cap u d w hH hu hu64 hsz
def Tryz.laysM288_ren : Go.Shelf.Ren := ⟨fun | 288 => 143 | 283 => 168 | 284 => 169 | 285 => 170 | 286 => 171 | 129 => 173 | 317 => 205 | 318 => 206 | 319 => 207 | 320 => 139 | 337 => 164 | 338 => 165 | n => n, fun | 37 => 38 | 53 => 117 | 3 => 3 | 4 => 4 | 9 => 9 | 171 => 212 | 0 => 0 | 173 => 214 | 212 => 246 | 51 => 93 | 5 => 5 | 20 => 20 | 213 => 247 | 46 => 57 | 232 => 242 | 233 => 243 | n => n, fun | 17 => 8 | 18 => 6 | 19 => 7 | n => n⟩
theorem Tryz.laysM288 : Go.Proofs.LaysM.n288 Tryz.prog Tryz.laysM288_ren := {
  mixed := by kernel_rfl
  f129 := Tryz.func173.trans (congrArg some (by kernel_rfl))
  f283 := Tryz.func168.trans (congrArg some (by kernel_rfl))
  f284 := Tryz.func169.trans (congrArg some (by kernel_rfl))
  f285 := Tryz.func170.trans (congrArg some (by kernel_rfl))
  f286 := Tryz.func171.trans (congrArg some (by kernel_rfl))
  f288 := Tryz.func143.trans (congrArg some (by kernel_rfl))
  f317 := Tryz.func205.trans (congrArg some (by kernel_rfl))
  f318 := Tryz.func206.trans (congrArg some (by kernel_rfl))
  f319 := Tryz.func207.trans (congrArg some (by kernel_rfl))
  f320 := Tryz.func139.trans (congrArg some (by kernel_rfl))
  f337 := Tryz.func164.trans (congrArg some (by kernel_rfl))
  f338 := Tryz.func165.trans (congrArg some (by kernel_rfl))
  t0 := Tryz.underlying0
  a0 := Tryz.isAgg0
  z0 := Tryz.sizeOf0
  v0 := Tryz.zeroValue0
  t3 := Tryz.underlying3
  a3 := Tryz.isAgg3
  z3 := Tryz.sizeOf3
  v3 := Tryz.zeroValue3
  t4 := Tryz.underlying4
  a4 := Tryz.isAgg4
  z4 := Tryz.sizeOf4
  v4 := Tryz.zeroValue4
  t5 := Tryz.underlying5
  a5 := Tryz.isAgg5
  z5 := Tryz.sizeOf5
  v5 := Tryz.zeroValue5
  t9 := Tryz.underlying9
  a9 := Tryz.isAgg9
  z9 := Tryz.sizeOf9
  v9 := Tryz.zeroValue9
  t20 := Tryz.underlying20
  a20 := Tryz.isAgg20
  z20 := Tryz.sizeOf20
  v20 := Tryz.zeroValue20
  t37 := Tryz.underlying38
  a37 := Tryz.isAgg38
  z37 := Tryz.sizeOf38
  v37 := Tryz.zeroValue38
  t46 := Tryz.underlying57
  a46 := Tryz.isAgg57
  z46 := Tryz.sizeOf57
  v46 := Tryz.zeroValue57
  t51 := Tryz.underlying93
  a51 := Tryz.isAgg93
  z51 := Tryz.sizeOf93
  v51 := Tryz.zeroValue93
  t53 := Tryz.underlying117
  a53 := Tryz.isAgg117
  z53 := Tryz.sizeOf117
  v53 := Tryz.zeroValue117
  t171 := Tryz.underlying212
  a171 := Tryz.isAgg212
  z171 := Tryz.sizeOf212
  v171 := Tryz.zeroValue212
  t173 := Tryz.underlying214
  a173 := Tryz.isAgg214
  z173 := Tryz.sizeOf214
  v173 := Tryz.zeroValue214
  t212 := Tryz.underlying246
  a212 := Tryz.isAgg246
  z212 := Tryz.sizeOf246
  v212 := Tryz.zeroValue246
  t213 := Tryz.underlying247
  a213 := Tryz.isAgg247
  z213 := Tryz.sizeOf247
  t232 := Tryz.underlying242
  a232 := Tryz.isAgg242
  z232 := Tryz.sizeOf242
  v232 := Tryz.zeroValue242
  t233 := Tryz.underlying243
  a233 := Tryz.isAgg243
  z233 := Tryz.sizeOf243
  v233 := Tryz.zeroValue243
  g17 := by kernel_rfl
  g18 := by kernel_rfl
  g19 := by kernel_rfl
  i0 := by kernel_rfl
  i3 := by kernel_rfl
  i4 := by kernel_rfl
  i5 := by kernel_rfl
  i9 := by kernel_rfl
  i20 := by kernel_rfl
  i37 := by kernel_rfl
  i46 := by kernel_rfl
  i51 := by kernel_rfl
  i53 := by kernel_rfl
  i171 := by kernel_rfl
  i173 := by kernel_rfl
  i212 := by kernel_rfl
  i232 := by kernel_rfl
  i233 := by kernel_rfl
  m17 := by kernel_rfl
  m18 := by kernel_rfl
  m19 := by kernel_rfl }
open Go.RowKit Go.Sort Go.Lib in
/-- internal/strconv.AppendUint(dst, i, 10), i BELOW 100: WHAT COMES BACK OWNS dst's CELLS AND, BEHIND THEM, i's DECIMAL NUMERAL. No table is read. Below the call's own blocks nothing has turned. (LAID: no walk: one application.) -/
theorem Tryz.internal_strconv_AppendUint_10_small (B n u : Nat) (hu : u < 100) (sv : Value) (xs : List Value) (w : World) (hown : w.ownsRow B 5 1 sv n xs) (hBw : B ≤ w.heap.size) (hlim : n + 20 ≤ 140737488355328) :
    Calls Tryz.prog 143 #[sv, .int .u64 u, .int .i64 10] w fun e w' => ∃ v', e = .returned v' ∧ w'.ownsRow B 5 1 v' (n + (Lib.decDigits u).length) (xs ++ Lib.byteCells (Lib.decDigits u)) ∧ Below B w w' ∧ Lib.OthersKept 5 none w w' := Any.internal_strconv_AppendUint_10_small Tryz.laysM288 B n u hu sv xs w hown hBw hlim
open Go.RowKit Go.Sort Go.Lib in
/-- internal/strconv.AppendUint(dst, i, 10), i FROM 100 ON: likewise; the digits are laid in an array of the call's own and appended. (LAID: no walk: one application.) -/
theorem Tryz.internal_strconv_AppendUint_10_big (B n u : Nat) (hu : 100 ≤ u) (hu64 : u < 18446744073709551616) (sv : Value) (xs : List Value) (w : World) (hown : w.ownsRow B 5 1 sv n xs) (hBw : B ≤ w.heap.size) (hlim : n + 20 ≤ 140737488355328) (htab : Lib.TabIs Tryz.prog w "internal/strconv.uint64pow10" .u64 Lib.pow10Tab) :
    Calls Tryz.prog 143 #[sv, .int .u64 u, .int .i64 10] w fun e w' => ∃ v', e = .returned v' ∧ w'.ownsRow B 5 1 v' (n + (Lib.decDigits u).length) (xs ++ Lib.byteCells (Lib.decDigits u)) ∧ Below B w w' ∧ Lib.OthersKept 5 none w w' := Any.internal_strconv_AppendUint_10_big Tryz.laysM288 B n u hu hu64 sv xs w hown hBw hlim htab
def Tryz.lays264_ren : Go.Shelf.Ren := ⟨fun | 264 => 236 | n => n, fun | 53 => 117 | 46 => 57 | n => n, fun | n => n⟩
theorem Tryz.lays264 : Go.Proofs.Lays.n264 Tryz.prog Tryz.lays264_ren := {
  mixed := by kernel_rfl
  f264 := Tryz.func236.trans (congrArg some (by kernel_rfl))
  t46 := Tryz.underlying57
  a46 := Tryz.isAgg57
  z46 := Tryz.sizeOf57
  v46 := Tryz.zeroValue57
  t53 := Tryz.underlying117
  a53 := Tryz.isAgg117
  z53 := Tryz.sizeOf117
  v53 := Tryz.zeroValue117 }
open Go.RowKit Go.Lib in
theorem Tryz.bits_Mul64 (x y : Nat) (hx : x < 18446744073709551616) (hy : y < 18446744073709551616) (w : World) :
    Calls Tryz.prog 236 #[.int .u64 x, .int .u64 y] w fun e w' => e = .returned (.tuple #[.int .u64 ((x * y / 18446744073709551616 : Nat) : Int), .int .u64 ((x * y % 18446744073709551616 : Nat) : Int)]) ∧ w' = w := Any.bits_Mul64 Tryz.lays264 x y hx hy w
def Tryz.lays212_ren : Go.Shelf.Ren := ⟨fun | 212 => 208 | 263 => 235 | 264 => 236 | n => n, fun | 46 => 57 | 51 => 93 | 146 => 262 | 53 => 117 | 148 => 253 | n => n, fun | n => n⟩
theorem Tryz.lays212 : Go.Proofs.Lays.n212 Tryz.prog Tryz.lays212_ren := {
  mixed := by kernel_rfl
  f212 := Tryz.func208.trans (congrArg some (by kernel_rfl))
  f263 := Tryz.func235.trans (congrArg some (by kernel_rfl))
  f264 := Tryz.func236.trans (congrArg some (by kernel_rfl))
  t46 := Tryz.underlying57
  a46 := Tryz.isAgg57
  z46 := Tryz.sizeOf57
  v46 := Tryz.zeroValue57
  t51 := Tryz.underlying93
  a51 := Tryz.isAgg93
  z51 := Tryz.sizeOf93
  v51 := Tryz.zeroValue93
  t53 := Tryz.underlying117
  a53 := Tryz.isAgg117
  z53 := Tryz.sizeOf117
  v53 := Tryz.zeroValue117
  t146 := Tryz.underlying262
  a146 := Tryz.isAgg262
  z146 := Tryz.sizeOf262
  v146 := Tryz.zeroValue262
  t148 := Tryz.underlying253
  a148 := Tryz.isAgg253
  z148 := Tryz.sizeOf253
  v148 := Tryz.zeroValue253 }
open Go.RowKit Go.Lib in
/-- math/bits.Mul: "Mul returns the full-width product of x and y": on a machine of 64 bits: Mul64's. (LAID: no walk: one application.) -/
theorem Tryz.bits_Mul (x y : Nat) (hx : x < 18446744073709551616) (hy : y < 18446744073709551616) (w : World) :
    Calls Tryz.prog 208 #[.int .u64 x, .int .u64 y] w fun e w' => e = .returned (.tuple #[.int .u64 ((x * y / 18446744073709551616 : Nat) : Int), .int .u64 ((x * y % 18446744073709551616 : Nat) : Int)]) ∧ w' = w := Any.bits_Mul Tryz.lays212 x y hx hy w
end Go.Proofs
