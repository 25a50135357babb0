/-
  DERIVED: THE SHELF's CONTRACTS AT THIS DUMP, IN PLAIN WORDS (tools/lay-plain.mjs out of 'TryfShelf.lean', which tools/lay-shelf.mjs wrote): THE SAME DECLARATIONS UNDER THE SAME NAMES: 'import', 'namespace', 'open', 'def', 'theorem' AND NOTHING ELSE: no command of the shelf's: FOR A HAND-IN. Each laying: the table of numbers ('.._ren') and one theorem, a field a fact of the dump's own or the kernel's comparison; each contract: ONE APPLICATION.
-/
import Derived.Shelf.Strconv.Itoa0
import Derived.Shelf.Strconv.Itoa1
import Derived.Shelf.LaysM
import Derived.Shelf.Strconv.Itoa2
import Derived.Test.Qxb6621633aFmtRows
namespace Go.Proofs
open Go.Shelf
def Tryf.lays129_ren : Go.Shelf.Ren := ⟨fun | 129 => 22 | n => n, fun | 53 => 29 | 3 => 3 | 4 => 4 | 46 => 34 | 5 => 5 | 9 => 9 | n => n, fun | n => n⟩
theorem Tryf.lays129 : Go.Proofs.Lays.n129 Tryf.prog Tryf.lays129_ren := {
  mixed := by kernel_rfl
  f129 := Tryf.func22.trans (congrArg some (by kernel_rfl))
  t3 := Tryf.underlying3
  a3 := Tryf.isAgg3
  z3 := Tryf.sizeOf3
  v3 := Tryf.zeroValue3
  t4 := Tryf.underlying4
  a4 := Tryf.isAgg4
  z4 := Tryf.sizeOf4
  v4 := Tryf.zeroValue4
  t5 := Tryf.underlying5
  a5 := Tryf.isAgg5
  z5 := Tryf.sizeOf5
  v5 := Tryf.zeroValue5
  t9 := Tryf.underlying9
  a9 := Tryf.isAgg9
  z9 := Tryf.sizeOf9
  v9 := Tryf.zeroValue9
  t46 := Tryf.underlying34
  a46 := Tryf.isAgg34
  z46 := Tryf.sizeOf34
  v46 := Tryf.zeroValue34
  t53 := Tryf.underlying29
  a53 := Tryf.isAgg29
  z53 := Tryf.sizeOf29
  v53 := Tryf.zeroValue29 }
/-- bits.Len64: "Len64 returns the minimum number of bits required to represent x; the result is 0 for x == 0.": IT RETURNS 'Lib.bitLen x'; the world is as it was. ('h0', 'h1': x is a uint64.) (LAID: no walk: one application.) -/
theorem Tryf.bits_Len64 (x : Int) (w : World) (h0 : 0 ≤ x) (h1 : x ≤ 18446744073709551615) :
    Calls Tryf.prog 22 #[.int .u64 x] w fun e w' => e = .returned (.int .i64 (Lib.bitLen x.toNat)) ∧ w' = w := Any.bits_Len64 Tryf.lays129 x w h0 h1
def Tryf.lays317_ren : Go.Shelf.Ren := ⟨fun | 317 => 21 | n => n, fun | 3 => 3 | 46 => 34 | n => n, fun | n => n⟩
theorem Tryf.lays317 : Go.Proofs.Lays.n317 Tryf.prog Tryf.lays317_ren := {
  mixed := by kernel_rfl
  f317 := Tryf.func21.trans (congrArg some (by kernel_rfl))
  t3 := Tryf.underlying3
  a3 := Tryf.isAgg3
  z3 := Tryf.sizeOf3
  v3 := Tryf.zeroValue3
  t46 := Tryf.underlying34
  a46 := Tryf.isAgg34
  z46 := Tryf.sizeOf34
  v46 := Tryf.zeroValue34 }
open Go.Lib in
/-- internal/strconv.log10Pow2: "log10Pow2(x) returns ⌊log₁₀ 2**x⌋ = ⌊x * log₁₀ 2⌋.": '(x * 78913) >> 18', at an x up to 64 (a length in bits). The world is as it was. (LAID: no walk: one application.) -/
theorem Tryf.internal_strconv_log10Pow2 (x : Nat) (h : x ≤ 64) (w : World) :
    Calls Tryf.prog 21 #[.int .i64 x] w fun e w' => e = .returned (.int .i64 (Lib.l10 x)) ∧ w' = w := Any.internal_strconv_log10Pow2 Tryf.lays317 x h w
def Tryf.lays318_ren : Go.Shelf.Ren := ⟨fun | 318 => 23 | n => n, fun | 3 => 3 | 4 => 4 | n => n, fun | n => n⟩
theorem Tryf.lays318 : Go.Proofs.Lays.n318 Tryf.prog Tryf.lays318_ren := {
  mixed := by kernel_rfl
  f318 := Tryf.func23.trans (congrArg some (by kernel_rfl))
  t3 := Tryf.underlying3
  a3 := Tryf.isAgg3
  z3 := Tryf.sizeOf3
  v3 := Tryf.zeroValue3
  t4 := Tryf.underlying4
  a4 := Tryf.isAgg4
  z4 := Tryf.sizeOf4
  v4 := Tryf.zeroValue4 }
open Go.Lib in
/-- internal/strconv.bool2: "bool2 converts b to an integer: 1 for true, 0 for false." The world is as it was. (LAID: no walk: one application.) -/
theorem Tryf.internal_strconv_bool2_int (b : Bool) (w : World) :
    Calls Tryf.prog 23 #[.bool b] w fun e w' => e = .returned (.int .i64 (if b then 1 else 0)) ∧ w' = w := Any.internal_strconv_bool2_int Tryf.lays318 b w
def Tryf.lays283_ren : Go.Shelf.Ren := ⟨fun | 283 => 17 | n => n, fun | 3 => 3 | 9 => 9 | 4 => 4 | n => n, fun | n => n⟩
theorem Tryf.lays283 : Go.Proofs.Lays.n283 Tryf.prog Tryf.lays283_ren := {
  mixed := by kernel_rfl
  f283 := Tryf.func17.trans (congrArg some (by kernel_rfl))
  t3 := Tryf.underlying3
  a3 := Tryf.isAgg3
  z3 := Tryf.sizeOf3
  v3 := Tryf.zeroValue3
  t4 := Tryf.underlying4
  a4 := Tryf.isAgg4
  z4 := Tryf.sizeOf4
  v4 := Tryf.zeroValue4
  t9 := Tryf.underlying9
  a9 := Tryf.isAgg9
  z9 := Tryf.sizeOf9
  v9 := Tryf.zeroValue9 }
open Go.Lib in
/-- internal/strconv.small: "small returns the string for an i with 0 <= i < nSmalls.": i's decimal numeral. The world is as it was. (LAID: no walk: one application.) -/
theorem Tryf.internal_strconv_small (i : Nat) (h : i < 100) (w : World) :
    Calls Tryf.prog 17 #[.int .i64 i] w fun e w' => e = .returned (.string ⟨(Lib.decDigits i).toArray⟩) ∧ w' = w := Any.internal_strconv_small Tryf.lays283 i h w
def Tryf.laysM284_ren : Go.Shelf.Ren := ⟨fun | 284 => 18 | 129 => 22 | 317 => 21 | 318 => 23 | n => n, fun | 53 => 29 | 3 => 3 | 212 => 56 | 0 => 0 | 4 => 4 | 46 => 34 | 5 => 5 | 9 => 9 | n => n, fun | 17 => 0 | n => n⟩
theorem Tryf.laysM284 : Go.Proofs.LaysM.n284 Tryf.prog Tryf.laysM284_ren := {
  mixed := by kernel_rfl
  f129 := Tryf.func22.trans (congrArg some (by kernel_rfl))
  f284 := Tryf.func18.trans (congrArg some (by kernel_rfl))
  f317 := Tryf.func21.trans (congrArg some (by kernel_rfl))
  f318 := Tryf.func23.trans (congrArg some (by kernel_rfl))
  t0 := Tryf.underlying0
  a0 := Tryf.isAgg0
  z0 := Tryf.sizeOf0
  v0 := Tryf.zeroValue0
  t3 := Tryf.underlying3
  a3 := Tryf.isAgg3
  z3 := Tryf.sizeOf3
  v3 := Tryf.zeroValue3
  t4 := Tryf.underlying4
  a4 := Tryf.isAgg4
  z4 := Tryf.sizeOf4
  v4 := Tryf.zeroValue4
  t5 := Tryf.underlying5
  a5 := Tryf.isAgg5
  z5 := Tryf.sizeOf5
  v5 := Tryf.zeroValue5
  t9 := Tryf.underlying9
  a9 := Tryf.isAgg9
  z9 := Tryf.sizeOf9
  v9 := Tryf.zeroValue9
  t46 := Tryf.underlying34
  a46 := Tryf.isAgg34
  z46 := Tryf.sizeOf34
  v46 := Tryf.zeroValue34
  t53 := Tryf.underlying29
  a53 := Tryf.isAgg29
  z53 := Tryf.sizeOf29
  v53 := Tryf.zeroValue29
  t212 := Tryf.underlying56
  a212 := Tryf.isAgg56
  z212 := Tryf.sizeOf56
  v212 := Tryf.zeroValue56
  g17 := by kernel_rfl
  i0 := by kernel_rfl
  i3 := by kernel_rfl
  i4 := by kernel_rfl
  i5 := by kernel_rfl
  i9 := by kernel_rfl
  i46 := by kernel_rfl
  i53 := by kernel_rfl
  i212 := by kernel_rfl
  m17 := by kernel_rfl }
open Go.Lib in
/-- internal/strconv.numDigits, at a d that is not 0: THE NUMBER OF d's DECIMAL DIGITS. The world is as it was. (LAID: no walk: one application.) -/
theorem Tryf.internal_strconv_numDigits (u : Nat) (h1 : 1 ≤ u) (h2 : u < 18446744073709551616) (w : World) (htab : Lib.TabIs Tryf.prog w (Qxb6621633aFmt.Rows.fnSetTTLPrintsBackRow.named.headD default) .u64 Lib.pow10Tab) :
    Calls Tryf.prog 18 #[.int .u64 u] w fun e w' => e = .returned (.int .i64 (Lib.nDigits u)) ∧ w' = w := Any.internal_strconv_numDigits Tryf.laysM284 u h1 h2 w htab
def Tryf.lays285_ren : Go.Shelf.Ren := ⟨fun | 285 => 19 | n => n, fun | 37 => 38 | 53 => 29 | 3 => 3 | 4 => 4 | 51 => 25 | 9 => 9 | 5 => 5 | 0 => 0 | n => n, fun | n => n⟩
theorem Tryf.lays285 : Go.Proofs.Lays.n285 Tryf.prog Tryf.lays285_ren := {
  mixed := by kernel_rfl
  f285 := Tryf.func19.trans (congrArg some (by kernel_rfl))
  t0 := Tryf.underlying0
  a0 := Tryf.isAgg0
  z0 := Tryf.sizeOf0
  v0 := Tryf.zeroValue0
  t3 := Tryf.underlying3
  a3 := Tryf.isAgg3
  z3 := Tryf.sizeOf3
  v3 := Tryf.zeroValue3
  t4 := Tryf.underlying4
  a4 := Tryf.isAgg4
  z4 := Tryf.sizeOf4
  v4 := Tryf.zeroValue4
  t5 := Tryf.underlying5
  a5 := Tryf.isAgg5
  z5 := Tryf.sizeOf5
  v5 := Tryf.zeroValue5
  t9 := Tryf.underlying9
  a9 := Tryf.isAgg9
  z9 := Tryf.sizeOf9
  v9 := Tryf.zeroValue9
  t37 := Tryf.underlying38
  a37 := Tryf.isAgg38
  z37 := Tryf.sizeOf38
  v37 := Tryf.zeroValue38
  t51 := Tryf.underlying25
  a51 := Tryf.isAgg25
  z51 := Tryf.sizeOf25
  v51 := Tryf.zeroValue25
  t53 := Tryf.underlying29
  a53 := Tryf.isAgg29
  z53 := Tryf.sizeOf29
  v53 := Tryf.zeroValue29 }
open Go.RowKit Go.Sort Go.Lib in
/-- internal/strconv.formatBase10: "formatBase10 formats the decimal representation of u into a. The caller is responsible for ensuring that a is big enough to hold u. If a is too big, leading zeros will be filled in as needed.": THE ROW HOLDS u's DIGITS ('FmtInv .. 0 ..': every place t holds 'dg u (len - 1 - t)'); all else is as it was but for the count of draws. (LAID: no walk: one application.) -/
theorem Tryf.internal_strconv_formatBase10 (blk off cap : Nat) (u : Nat) (d : Array UInt8) (w : World) (hH : Holds (fun (b : UInt8) => Value.int .u8 (b.toNat : Int)) w blk off d) (hu : u < 10 ^ d.size) (hu64 : u < 18446744073709551616) (hsz : d.size < 4611686018427387904) :
    Calls Tryf.prog 19 #[.slice (some ⟨blk, off, none⟩) d.size cap, .int .u64 u] w fun e w' =>
      e = .returned (.tuple #[]) ∧ ∃ (n v' : Nat) (dk : Array UInt8), w' = (putRow (fun (b : UInt8) => Value.int .u8 (b.toNat : Int)) w blk off dk).drewN n ∧ FmtInv d.size u 0 v' dk := Any.internal_strconv_formatBase10 Tryf.lays285 blk off cap u d w hH hu hu64 hsz
end Go.Proofs
