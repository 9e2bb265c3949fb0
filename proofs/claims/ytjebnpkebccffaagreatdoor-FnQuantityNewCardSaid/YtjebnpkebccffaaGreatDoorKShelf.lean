import Derived.Test.YtjebnpkebccffaaGreatDoorProg
import Derived.Shelf.Small.Bits
import Derived.Shelf.Strconv.Itoa0
import Derived.Shelf.Strconv.Itoa1
import Derived.Shelf.LaysM
import Derived.Shelf.Strconv.Itoa2
import Derived.Shelf.Strconv.ParseIntEmpty
import Derived.Shelf.Strconv.Clone
import Derived.Shelf.Strconv.SyntaxError
import Derived.Shelf.LaysC
import Derived.Shelf.Strconv.ToError
import Derived.Shelf.Strconv.Lower
import Derived.Shelf.Strconv.ParseUint10
import Derived.Shelf.Strconv.ParseUint10Empty
import Derived.Shelf.Strconv.ParseUint10Any
import Derived.Shelf.Strconv.ParseInt10
import Derived.Shelf.Strconv.RangeError
import Derived.Shelf.Strconv.ToErrorRange
import Derived.Shelf.Strconv.ParseUintEmpty
import Derived.Shelf.Strconv.ParseUint10b64
import Derived.Shelf.Strconv.ParseUint10b32
import Derived.Shelf.Strconv.ParseUint10b16
import Derived.Shelf.Strconv.ParseUint10b8
import Derived.Shelf.Strconv.ParseUint10At
import Derived.Shelf.Strconv.ParseInt10At64
import Derived.Shelf.Strconv.ParseInt10At32
import Derived.Shelf.Strconv.ParseInt10At16
import Derived.Shelf.Strconv.ParseInt10At8
import Derived.Shelf.Strconv.ParseInt10All
import Derived.Shelf.Strconv.ParseIntPublic10
import Derived.Shelf.Strconv.ErrVarParseInt
import Derived.Shelf.Strconv.AppendUint10
import Derived.Shelf.Strconv.AppendInt10
import Derived.Shelf.Strconv.AppendIntPublic10
import Derived.Shelf.Strings.Prefix
import Derived.Shelf.Bits.Mul64
import Derived.Shelf.Unicode.DecodeSlow
import Derived.Shelf.Unicode.DecodeAny
set_option linter.unusedSimpArgs false
set_option linter.unusedVariables false
set_option linter.unusedSectionVars false
namespace Go.Proofs
open Go.Shelf
def Tryz.lays125_ren : Go.Shelf.Ren := ⟨fun | 125 => 273 | 128 => 287 | 129 => 281 | n => n, fun | 46 => 120 | 3 => 3 | 51 => 329 | 53 => 79 | 4 => 4 | 5 => 5 | 9 => 9 | n => n, fun | n => n⟩
theorem Tryz.lays125 : Go.Proofs.Lays.n125 Tryz.prog Tryz.lays125_ren := {
  mixed := by kernel_rfl
  f125 := Tryz.func273.trans (congrArg some (by kernel_rfl))
  f128 := Tryz.func287.trans (congrArg some (by kernel_rfl))
  f129 := Tryz.func281.trans (congrArg some (by kernel_rfl))
  t3 := Tryz.underlying3
  a3 := Tryz.isAgg3
  z3 := Tryz.sizeOf3
  v3 := Tryz.zeroValue3
  t4 := Tryz.underlying4
  a4 := Tryz.isAgg4
  z4 := Tryz.sizeOf4
  v4 := Tryz.zeroValue4
  t5 := Tryz.underlying5
  a5 := Tryz.isAgg5
  z5 := Tryz.sizeOf5
  v5 := Tryz.zeroValue5
  t9 := Tryz.underlying9
  a9 := Tryz.isAgg9
  z9 := Tryz.sizeOf9
  v9 := Tryz.zeroValue9
  t46 := Tryz.underlying120
  a46 := Tryz.isAgg120
  z46 := Tryz.sizeOf120
  v46 := Tryz.zeroValue120
  t51 := Tryz.underlying329
  a51 := Tryz.isAgg329
  z51 := Tryz.sizeOf329
  v51 := Tryz.zeroValue329
  t53 := Tryz.underlying79
  a53 := Tryz.isAgg79
  z53 := Tryz.sizeOf79
  v53 := Tryz.zeroValue79 }
theorem Tryz.bits_Len (x : Int) (w : World) (h0 : 0 ≤ x) (h1 : x ≤ 18446744073709551615) :
    Calls Tryz.prog 273 #[.int .u64 x] w fun e w' => e = .returned (.int .i64 (Lib.bitLen x.toNat)) ∧ w' = w := Any.bits_Len Tryz.lays125 x w h0 h1
def Tryz.lays134_ren : Go.Shelf.Ren := ⟨fun | 134 => 291 | 129 => 281 | n => n, fun | 53 => 79 | 3 => 3 | 4 => 4 | 46 => 120 | 5 => 5 | 9 => 9 | n => n, fun | n => n⟩
theorem Tryz.lays134 : Go.Proofs.Lays.n134 Tryz.prog Tryz.lays134_ren := {
  mixed := by kernel_rfl
  f129 := Tryz.func281.trans (congrArg some (by kernel_rfl))
  f134 := Tryz.func291.trans (congrArg some (by kernel_rfl))
  t3 := Tryz.underlying3
  a3 := Tryz.isAgg3
  z3 := Tryz.sizeOf3
  v3 := Tryz.zeroValue3
  t4 := Tryz.underlying4
  a4 := Tryz.isAgg4
  z4 := Tryz.sizeOf4
  v4 := Tryz.zeroValue4
  t5 := Tryz.underlying5
  a5 := Tryz.isAgg5
  z5 := Tryz.sizeOf5
  v5 := Tryz.zeroValue5
  t9 := Tryz.underlying9
  a9 := Tryz.isAgg9
  z9 := Tryz.sizeOf9
  v9 := Tryz.zeroValue9
  t46 := Tryz.underlying120
  a46 := Tryz.isAgg120
  z46 := Tryz.sizeOf120
  v46 := Tryz.zeroValue120
  t53 := Tryz.underlying79
  a53 := Tryz.isAgg79
  z53 := Tryz.sizeOf79
  v53 := Tryz.zeroValue79 }
theorem Tryz.bits_LeadingZeros64 (x : Int) (w : World) (h0 : 0 ≤ x) (h1 : x ≤ 18446744073709551615) :
    Calls Tryz.prog 291 #[.int .u64 x] w fun e w' => e = .returned (.int .i64 (64 - (Lib.bitLen x.toNat : Int))) ∧ w' = w := Any.bits_LeadingZeros64 Tryz.lays134 x w h0 h1
def Tryz.lays130_ren : Go.Shelf.Ren := ⟨fun | 130 => 248 | 125 => 273 | 128 => 287 | 129 => 281 | n => n, fun | 46 => 120 | 3 => 3 | 51 => 329 | 53 => 79 | 4 => 4 | 5 => 5 | 9 => 9 | n => n, fun | n => n⟩
theorem Tryz.lays130 : Go.Proofs.Lays.n130 Tryz.prog Tryz.lays130_ren := {
  mixed := by kernel_rfl
  f125 := Tryz.func273.trans (congrArg some (by kernel_rfl))
  f128 := Tryz.func287.trans (congrArg some (by kernel_rfl))
  f129 := Tryz.func281.trans (congrArg some (by kernel_rfl))
  f130 := Tryz.func248.trans (congrArg some (by kernel_rfl))
  t3 := Tryz.underlying3
  a3 := Tryz.isAgg3
  z3 := Tryz.sizeOf3
  v3 := Tryz.zeroValue3
  t4 := Tryz.underlying4
  a4 := Tryz.isAgg4
  z4 := Tryz.sizeOf4
  v4 := Tryz.zeroValue4
  t5 := Tryz.underlying5
  a5 := Tryz.isAgg5
  z5 := Tryz.sizeOf5
  v5 := Tryz.zeroValue5
  t9 := Tryz.underlying9
  a9 := Tryz.isAgg9
  z9 := Tryz.sizeOf9
  v9 := Tryz.zeroValue9
  t46 := Tryz.underlying120
  a46 := Tryz.isAgg120
  z46 := Tryz.sizeOf120
  v46 := Tryz.zeroValue120
  t51 := Tryz.underlying329
  a51 := Tryz.isAgg329
  z51 := Tryz.sizeOf329
  v51 := Tryz.zeroValue329
  t53 := Tryz.underlying79
  a53 := Tryz.isAgg79
  z53 := Tryz.sizeOf79
  v53 := Tryz.zeroValue79 }
theorem Tryz.bits_LeadingZeros (x : Int) (w : World) (h0 : 0 ≤ x) (h1 : x ≤ 18446744073709551615) :
    Calls Tryz.prog 248 #[.int .u64 x] w fun e w' => e = .returned (.int .i64 (64 - (Lib.bitLen x.toNat : Int))) ∧ w' = w := Any.bits_LeadingZeros Tryz.lays130 x w h0 h1
def Tryz.laysM176_ren : Go.Shelf.Ren := ⟨fun | 176 => 192 | 249 => 214 | 288 => 238 | 283 => 253 | 284 => 254 | 285 => 255 | 286 => 256 | 129 => 281 | 317 => 280 | 318 => 282 | 319 => 283 | 320 => 242 | 337 => 271 | 338 => 272 | n => n, fun | 37 => 57 | 2 => 2 | 3 => 3 | 53 => 79 | 4 => 4 | 9 => 9 | 171 => 347 | 0 => 0 | 173 => 350 | 212 => 374 | 51 => 329 | 5 => 5 | 20 => 20 | 213 => 375 | 46 => 120 | 232 => 380 | 233 => 381 | n => n, fun | 17 => 18 | 18 => 20 | 19 => 21 | n => n⟩
theorem Tryz.laysM176 : Go.Proofs.LaysM.n176 Tryz.prog Tryz.laysM176_ren := {
  mixed := by kernel_rfl
  f129 := Tryz.func281.trans (congrArg some (by kernel_rfl))
  f176 := Tryz.func192.trans (congrArg some (by kernel_rfl))
  f249 := Tryz.func214.trans (congrArg some (by kernel_rfl))
  f283 := Tryz.func253.trans (congrArg some (by kernel_rfl))
  f284 := Tryz.func254.trans (congrArg some (by kernel_rfl))
  f285 := Tryz.func255.trans (congrArg some (by kernel_rfl))
  f286 := Tryz.func256.trans (congrArg some (by kernel_rfl))
  f288 := Tryz.func238.trans (congrArg some (by kernel_rfl))
  f317 := Tryz.func280.trans (congrArg some (by kernel_rfl))
  f318 := Tryz.func282.trans (congrArg some (by kernel_rfl))
  f319 := Tryz.func283.trans (congrArg some (by kernel_rfl))
  f320 := Tryz.func242.trans (congrArg some (by kernel_rfl))
  f337 := Tryz.func271.trans (congrArg some (by kernel_rfl))
  f338 := Tryz.func272.trans (congrArg some (by kernel_rfl))
  t0 := Tryz.underlying0
  a0 := Tryz.isAgg0
  z0 := Tryz.sizeOf0
  v0 := Tryz.zeroValue0
  t2 := Tryz.underlying2
  a2 := Tryz.isAgg2
  z2 := Tryz.sizeOf2
  v2 := Tryz.zeroValue2
  t3 := Tryz.underlying3
  a3 := Tryz.isAgg3
  z3 := Tryz.sizeOf3
  v3 := Tryz.zeroValue3
  t4 := Tryz.underlying4
  a4 := Tryz.isAgg4
  z4 := Tryz.sizeOf4
  v4 := Tryz.zeroValue4
  t5 := Tryz.underlying5
  a5 := Tryz.isAgg5
  z5 := Tryz.sizeOf5
  v5 := Tryz.zeroValue5
  t9 := Tryz.underlying9
  a9 := Tryz.isAgg9
  z9 := Tryz.sizeOf9
  v9 := Tryz.zeroValue9
  t20 := Tryz.underlying20
  a20 := Tryz.isAgg20
  z20 := Tryz.sizeOf20
  v20 := Tryz.zeroValue20
  t37 := Tryz.underlying57
  a37 := Tryz.isAgg57
  z37 := Tryz.sizeOf57
  v37 := Tryz.zeroValue57
  t46 := Tryz.underlying120
  a46 := Tryz.isAgg120
  z46 := Tryz.sizeOf120
  v46 := Tryz.zeroValue120
  t51 := Tryz.underlying329
  a51 := Tryz.isAgg329
  z51 := Tryz.sizeOf329
  v51 := Tryz.zeroValue329
  t53 := Tryz.underlying79
  a53 := Tryz.isAgg79
  z53 := Tryz.sizeOf79
  v53 := Tryz.zeroValue79
  t171 := Tryz.underlying347
  a171 := Tryz.isAgg347
  z171 := Tryz.sizeOf347
  v171 := Tryz.zeroValue347
  t173 := Tryz.underlying350
  a173 := Tryz.isAgg350
  z173 := Tryz.sizeOf350
  v173 := Tryz.zeroValue350
  t212 := Tryz.underlying374
  a212 := Tryz.isAgg374
  z212 := Tryz.sizeOf374
  v212 := Tryz.zeroValue374
  t213 := Tryz.underlying375
  a213 := Tryz.isAgg375
  z213 := Tryz.sizeOf375
  t232 := Tryz.underlying380
  a232 := Tryz.isAgg380
  z232 := Tryz.sizeOf380
  v232 := Tryz.zeroValue380
  t233 := Tryz.underlying381
  a233 := Tryz.isAgg381
  z233 := Tryz.sizeOf381
  v233 := Tryz.zeroValue381
  g17 := by kernel_rfl
  g18 := by kernel_rfl
  g19 := by kernel_rfl
  i0 := by kernel_rfl
  i2 := by kernel_rfl
  i3 := by kernel_rfl
  i4 := by kernel_rfl
  i5 := by kernel_rfl
  i9 := by kernel_rfl
  i20 := by kernel_rfl
  i37 := by kernel_rfl
  i46 := by kernel_rfl
  i51 := by kernel_rfl
  i53 := by kernel_rfl
  i171 := by kernel_rfl
  i173 := by kernel_rfl
  i212 := by kernel_rfl
  i232 := by kernel_rfl
  i233 := by kernel_rfl
  m17 := by kernel_rfl
  m18 := by kernel_rfl
  m19 := by kernel_rfl }
open Go.RowKit Go.Sort Go.Lib in
theorem Tryz.strconv_AppendInt_10 (B n : Nat) (i : Int) (h0 : -9223372036854775808 ≤ i) (h1 : i ≤ 9223372036854775807) (sv : Value) (xs : List Value) (w : World) (hown : w.ownsRow B 5 1 sv n xs) (hBw : B ≤ w.heap.size) (hlim : n + 21 ≤ 140737488355328) (htab : Lib.TabBelow Tryz.prog B w "internal/strconv.uint64pow10" .u64 Lib.pow10Tab) :
    Calls Tryz.prog 192 #[sv, .int .i64 i, .int .i64 10] w fun e w' => ∃ v', e = .returned v' ∧ w'.ownsRow B 5 1 v' (n + (Lib.itoa i).length) (xs ++ Lib.byteCells (Lib.itoa i)) ∧ Below B w w' ∧ Lib.OthersKept 5 none w w' := Any.strconv_AppendInt_10 Tryz.laysM176 B n i h0 h1 sv xs w hown hBw hlim htab
def Tryz.lays212_ren : Go.Shelf.Ren := ⟨fun | 212 => 200 | 263 => 228 | 264 => 229 | n => n, fun | 46 => 120 | 51 => 329 | 146 => 330 | 53 => 79 | 148 => 332 | n => n, fun | n => n⟩
theorem Tryz.lays212 : Go.Proofs.Lays.n212 Tryz.prog Tryz.lays212_ren := {
  mixed := by kernel_rfl
  f212 := Tryz.func200.trans (congrArg some (by kernel_rfl))
  f263 := Tryz.func228.trans (congrArg some (by kernel_rfl))
  f264 := Tryz.func229.trans (congrArg some (by kernel_rfl))
  t46 := Tryz.underlying120
  a46 := Tryz.isAgg120
  z46 := Tryz.sizeOf120
  v46 := Tryz.zeroValue120
  t51 := Tryz.underlying329
  a51 := Tryz.isAgg329
  z51 := Tryz.sizeOf329
  v51 := Tryz.zeroValue329
  t53 := Tryz.underlying79
  a53 := Tryz.isAgg79
  z53 := Tryz.sizeOf79
  v53 := Tryz.zeroValue79
  t146 := Tryz.underlying330
  a146 := Tryz.isAgg330
  z146 := Tryz.sizeOf330
  v146 := Tryz.zeroValue330
  t148 := Tryz.underlying332
  a148 := Tryz.isAgg332
  z148 := Tryz.sizeOf332
  v148 := Tryz.zeroValue332 }
open Go.RowKit Go.Lib in
theorem Tryz.bits_Mul (x y : Nat) (hx : x < 18446744073709551616) (hy : y < 18446744073709551616) (w : World) :
    Calls Tryz.prog 200 #[.int .u64 x, .int .u64 y] w fun e w' => e = .returned (.tuple #[.int .u64 ((x * y / 18446744073709551616 : Nat) : Int), .int .u64 ((x * y % 18446744073709551616 : Nat) : Int)]) ∧ w' = w := Any.bits_Mul Tryz.lays212 x y hx hy w
end Go.Proofs
