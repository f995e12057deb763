/-
  The shelf's contracts on math/bits that this seat uses, laid at this dump in plain words (lay-plain.mjs over lay-shelf.mjs).
-/
import Derived.Shelf.LaysM
import Derived.Shelf.Small.Bits
import Derived.Shelf.Bits.Mul64
import Derived.Test.YteokhhepnoelhaaGreatDoorProg
namespace Go.Proofs
open Go.Shelf
def Tryz.lays125_ren : Go.Shelf.Ren := ⟨fun | 125 => 188 | 128 => 222 | 129 => 223 | n => n, fun | 46 => 36 | 3 => 3 | 51 => 52 | 53 => 112 | 4 => 4 | 5 => 5 | 9 => 9 | n => n, fun | n => n⟩
theorem Tryz.lays125 : Go.Proofs.Lays.n125 Tryz.prog Tryz.lays125_ren := {
  mixed := by kernel_rfl
  f125 := Tryz.func188.trans (congrArg some (by kernel_rfl))
  f128 := Tryz.func222.trans (congrArg some (by kernel_rfl))
  f129 := Tryz.func223.trans (congrArg some (by kernel_rfl))
  t3 := Tryz.underlying3
  a3 := Tryz.isAgg3
  z3 := Tryz.sizeOf3
  v3 := Tryz.zeroValue3
  t4 := Tryz.underlying4
  a4 := Tryz.isAgg4
  z4 := Tryz.sizeOf4
  v4 := Tryz.zeroValue4
  t5 := Tryz.underlying5
  a5 := Tryz.isAgg5
  z5 := Tryz.sizeOf5
  v5 := Tryz.zeroValue5
  t9 := Tryz.underlying9
  a9 := Tryz.isAgg9
  z9 := Tryz.sizeOf9
  v9 := Tryz.zeroValue9
  t46 := Tryz.underlying36
  a46 := Tryz.isAgg36
  z46 := Tryz.sizeOf36
  v46 := Tryz.zeroValue36
  t51 := Tryz.underlying52
  a51 := Tryz.isAgg52
  z51 := Tryz.sizeOf52
  v51 := Tryz.zeroValue52
  t53 := Tryz.underlying112
  a53 := Tryz.isAgg112
  z53 := Tryz.sizeOf112
  v53 := Tryz.zeroValue112 }
theorem Tryz.bits_Len (x : Int) (w : World) (h0 : 0 ≤ x) (h1 : x ≤ 18446744073709551615) :
    Calls Tryz.prog 188 #[.int .u64 x] w fun e w' => e = .returned (.int .i64 (Lib.bitLen x.toNat)) ∧ w' = w := Any.bits_Len Tryz.lays125 x w h0 h1
def Tryz.lays130_ren : Go.Shelf.Ren := ⟨fun | 130 => 276 | 125 => 188 | 128 => 222 | 129 => 223 | n => n, fun | 46 => 36 | 3 => 3 | 51 => 52 | 53 => 112 | 4 => 4 | 5 => 5 | 9 => 9 | n => n, fun | n => n⟩
theorem Tryz.lays130 : Go.Proofs.Lays.n130 Tryz.prog Tryz.lays130_ren := {
  mixed := by kernel_rfl
  f125 := Tryz.func188.trans (congrArg some (by kernel_rfl))
  f128 := Tryz.func222.trans (congrArg some (by kernel_rfl))
  f129 := Tryz.func223.trans (congrArg some (by kernel_rfl))
  f130 := Tryz.func276.trans (congrArg some (by kernel_rfl))
  t3 := Tryz.underlying3
  a3 := Tryz.isAgg3
  z3 := Tryz.sizeOf3
  v3 := Tryz.zeroValue3
  t4 := Tryz.underlying4
  a4 := Tryz.isAgg4
  z4 := Tryz.sizeOf4
  v4 := Tryz.zeroValue4
  t5 := Tryz.underlying5
  a5 := Tryz.isAgg5
  z5 := Tryz.sizeOf5
  v5 := Tryz.zeroValue5
  t9 := Tryz.underlying9
  a9 := Tryz.isAgg9
  z9 := Tryz.sizeOf9
  v9 := Tryz.zeroValue9
  t46 := Tryz.underlying36
  a46 := Tryz.isAgg36
  z46 := Tryz.sizeOf36
  v46 := Tryz.zeroValue36
  t51 := Tryz.underlying52
  a51 := Tryz.isAgg52
  z51 := Tryz.sizeOf52
  v51 := Tryz.zeroValue52
  t53 := Tryz.underlying112
  a53 := Tryz.isAgg112
  z53 := Tryz.sizeOf112
  v53 := Tryz.zeroValue112 }
theorem Tryz.bits_LeadingZeros (x : Int) (w : World) (h0 : 0 ≤ x) (h1 : x ≤ 18446744073709551615) :
    Calls Tryz.prog 276 #[.int .u64 x] w fun e w' => e = .returned (.int .i64 (64 - (Lib.bitLen x.toNat : Int))) ∧ w' = w := Any.bits_LeadingZeros Tryz.lays130 x w h0 h1
def Tryz.lays264_ren : Go.Shelf.Ren := ⟨fun | 264 => 314 | n => n, fun | 53 => 112 | 46 => 36 | n => n, fun | n => n⟩
theorem Tryz.lays264 : Go.Proofs.Lays.n264 Tryz.prog Tryz.lays264_ren := {
  mixed := by kernel_rfl
  f264 := Tryz.func314.trans (congrArg some (by kernel_rfl))
  t46 := Tryz.underlying36
  a46 := Tryz.isAgg36
  z46 := Tryz.sizeOf36
  v46 := Tryz.zeroValue36
  t53 := Tryz.underlying112
  a53 := Tryz.isAgg112
  z53 := Tryz.sizeOf112
  v53 := Tryz.zeroValue112 }
open Go.RowKit Go.Lib in
theorem Tryz.bits_Mul64 (x y : Nat) (hx : x < 18446744073709551616) (hy : y < 18446744073709551616) (w : World) :
    Calls Tryz.prog 314 #[.int .u64 x, .int .u64 y] w fun e w' => e = .returned (.tuple #[.int .u64 ((x * y / 18446744073709551616 : Nat) : Int), .int .u64 ((x * y % 18446744073709551616 : Nat) : Int)]) ∧ w' = w := Any.bits_Mul64 Tryz.lays264 x y hx hy w
def Tryz.lays212_ren : Go.Shelf.Ren := ⟨fun | 212 => 292 | 263 => 313 | 264 => 314 | n => n, fun | 46 => 36 | 51 => 52 | 146 => 309 | 53 => 112 | 148 => 311 | n => n, fun | n => n⟩
theorem Tryz.lays212 : Go.Proofs.Lays.n212 Tryz.prog Tryz.lays212_ren := {
  mixed := by kernel_rfl
  f212 := Tryz.func292.trans (congrArg some (by kernel_rfl))
  f263 := Tryz.func313.trans (congrArg some (by kernel_rfl))
  f264 := Tryz.func314.trans (congrArg some (by kernel_rfl))
  t46 := Tryz.underlying36
  a46 := Tryz.isAgg36
  z46 := Tryz.sizeOf36
  v46 := Tryz.zeroValue36
  t51 := Tryz.underlying52
  a51 := Tryz.isAgg52
  z51 := Tryz.sizeOf52
  v51 := Tryz.zeroValue52
  t53 := Tryz.underlying112
  a53 := Tryz.isAgg112
  z53 := Tryz.sizeOf112
  v53 := Tryz.zeroValue112
  t146 := Tryz.underlying309
  a146 := Tryz.isAgg309
  z146 := Tryz.sizeOf309
  v146 := Tryz.zeroValue309
  t148 := Tryz.underlying311
  a148 := Tryz.isAgg311
  z148 := Tryz.sizeOf311
  v148 := Tryz.zeroValue311 }
open Go.RowKit Go.Lib in
theorem Tryz.bits_Mul (x y : Nat) (hx : x < 18446744073709551616) (hy : y < 18446744073709551616) (w : World) :
    Calls Tryz.prog 292 #[.int .u64 x, .int .u64 y] w fun e w' => e = .returned (.tuple #[.int .u64 ((x * y / 18446744073709551616 : Nat) : Int), .int .u64 ((x * y % 18446744073709551616 : Nat) : Int)]) ∧ w' = w := Any.bits_Mul Tryz.lays212 x y hx hy w
end Go.Proofs
