/-
  THE SHELF's CONTRACTS AT THIS DUMP, in plain words (written by the kit's own tools).
-/
import Derived.Shelf.Strings.Count
import Derived.Shelf.Strings.Prefix
import Derived.Test.Qxb6000491aProg
namespace Go.Proofs
open Go.Shelf
def Try.lays138_ren : Go.Shelf.Ren := ⟨fun | 138 => 32 | 195 => 34 | 218 => 35 | 143 => 36 | 219 => 37 | 217 => 38 | 225 => 39 | 224 => 40 | 267 => 41 | 266 => 42 | 314 => 43 | n => n, fun | 9 => 9 | 3 => 3 | 4 => 4 | 5 => 5 | 0 => 0 | 46 => 58 | 146 => 60 | 51 => 59 | n => n, fun | 1 => 0 | n => n⟩
theorem Try.lays138 : Go.Proofs.Lays.n138 Try.prog Try.lays138_ren := {
  mixed := by kernel_rfl
  f138 := Try.func32.trans (congrArg some (by kernel_rfl))
  f143 := Try.func36.trans (congrArg some (by kernel_rfl))
  f195 := Try.func34.trans (congrArg some (by kernel_rfl))
  f217 := Try.func38.trans (congrArg some (by kernel_rfl))
  f218 := Try.func35.trans (congrArg some (by kernel_rfl))
  f219 := Try.func37.trans (congrArg some (by kernel_rfl))
  f224 := Try.func40.trans (congrArg some (by kernel_rfl))
  f225 := Try.func39.trans (congrArg some (by kernel_rfl))
  f266 := Try.func42.trans (congrArg some (by kernel_rfl))
  f267 := Try.func41.trans (congrArg some (by kernel_rfl))
  f314 := Try.func43.trans (congrArg some (by kernel_rfl))
  t0 := Try.underlying0
  a0 := Try.isAgg0
  z0 := Try.sizeOf0
  v0 := Try.zeroValue0
  t3 := Try.underlying3
  a3 := Try.isAgg3
  z3 := Try.sizeOf3
  v3 := Try.zeroValue3
  t4 := Try.underlying4
  a4 := Try.isAgg4
  z4 := Try.sizeOf4
  v4 := Try.zeroValue4
  t5 := Try.underlying5
  a5 := Try.isAgg5
  z5 := Try.sizeOf5
  v5 := Try.zeroValue5
  t9 := Try.underlying9
  a9 := Try.isAgg9
  z9 := Try.sizeOf9
  v9 := Try.zeroValue9
  t46 := Try.underlying58
  a46 := Try.isAgg58
  z46 := Try.sizeOf58
  v46 := Try.zeroValue58
  t51 := Try.underlying59
  a51 := Try.isAgg59
  z51 := Try.sizeOf59
  v51 := Try.zeroValue59
  t146 := Try.underlying60
  a146 := Try.isAgg60
  z146 := Try.sizeOf60
  v146 := Try.zeroValue60
  g1 := by kernel_rfl }
open Go.RowKit Go.Lib in
theorem Try.strings_Count_one (s : ByteArray) (c : UInt8) (w : World) :
    Calls Try.prog 32 #[.string s, .string ⟨#[c]⟩] w fun e w' => e = .returned (.int .i64 (Lib.countByte s.data.toList c)) ∧ w' = w := Any.strings_Count_one Try.lays138 s c w
def Try.lays99_ren : Go.Shelf.Ren := ⟨fun | 99 => 31 | 206 => 33 | n => n, fun | 9 => 9 | 4 => 4 | 3 => 3 | n => n, fun | n => n⟩
theorem Try.lays99 : Go.Proofs.Lays.n99 Try.prog Try.lays99_ren := {
  mixed := by kernel_rfl
  f99 := Try.func31.trans (congrArg some (by kernel_rfl))
  f206 := Try.func33.trans (congrArg some (by kernel_rfl))
  t3 := Try.underlying3
  a3 := Try.isAgg3
  z3 := Try.sizeOf3
  v3 := Try.zeroValue3
  t4 := Try.underlying4
  a4 := Try.isAgg4
  z4 := Try.sizeOf4
  v4 := Try.zeroValue4
  t9 := Try.underlying9
  a9 := Try.isAgg9
  z9 := Try.sizeOf9
  v9 := Try.zeroValue9 }
open Go.RowKit Go.Lib in
theorem Try.strings_HasPrefix (s p : ByteArray) (w : World) :
    Calls Try.prog 31 #[.string s, .string p] w fun e w' => e = .returned (.bool (Lib.hasPrefix s.data.toList p.data.toList)) ∧ w' = w := Any.strings_HasPrefix Try.lays99 s p w
end Go.Proofs
