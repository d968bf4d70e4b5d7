import Derived.Shelf.Small.Strs
import Derived.Shelf.Small.Wraps
import Derived.Shelf.Strings.Search2
import Derived.Shelf.Strings.Prefix
import Derived.Test.Qxb6602852aProg
namespace Go.Proofs
open Go.Shelf
def Try.lays137_ren : Go.Shelf.Ren := ⟨fun | 137 => 31 | 217 => 34 | 266 => 36 | n => n, fun | 9 => 9 | 5 => 5 | 3 => 3 | n => n, fun | n => n⟩
theorem Try.lays137 : Go.Proofs.Lays.n137 Try.prog Try.lays137_ren := {
  mixed := by kernel_rfl
  f137 := Try.func31.trans (congrArg some (by kernel_rfl))
  f217 := Try.func34.trans (congrArg some (by kernel_rfl))
  f266 := Try.func36.trans (congrArg some (by kernel_rfl))
  t3 := Try.underlying3
  a3 := Try.isAgg3
  z3 := Try.sizeOf3
  v3 := Try.zeroValue3
  t5 := Try.underlying5
  a5 := Try.isAgg5
  z5 := Try.sizeOf5
  v5 := Try.zeroValue5
  t9 := Try.underlying9
  a9 := Try.isAgg9
  z9 := Try.sizeOf9
  v9 := Try.zeroValue9 }
open Go.RowKit in
theorem Try.strings_IndexByte (s : ByteArray) (c : Int) (w : World) :
    Calls Try.prog 31 #[.string s, .int .u8 c] w fun e w' => e = .returned (.int .i64 (Lib.indexByte s.data.toList c.toNat.toUInt8)) ∧ w' = w := Any.strings_IndexByte Try.lays137 s c w
def Try.lays103_ren : Go.Shelf.Ren := ⟨fun | 103 => 30 | 210 => 33 | 206 => 29 | n => n, fun | 9 => 9 | 4 => 4 | 24 => 53 | 3 => 3 | n => n, fun | n => n⟩
theorem Try.lays103 : Go.Proofs.Lays.n103 Try.prog Try.lays103_ren := {
  mixed := by kernel_rfl
  f103 := Try.func30.trans (congrArg some (by kernel_rfl))
  f206 := Try.func29.trans (congrArg some (by kernel_rfl))
  f210 := Try.func33.trans (congrArg some (by kernel_rfl))
  t3 := Try.underlying3
  a3 := Try.isAgg3
  z3 := Try.sizeOf3
  v3 := Try.zeroValue3
  t4 := Try.underlying4
  a4 := Try.isAgg4
  z4 := Try.sizeOf4
  v4 := Try.zeroValue4
  t9 := Try.underlying9
  a9 := Try.isAgg9
  z9 := Try.sizeOf9
  v9 := Try.zeroValue9
  t24 := Try.underlying53
  a24 := Try.isAgg53
  z24 := Try.sizeOf53
  v24 := Try.zeroValue53 }
open Go.RowKit in
theorem Try.strings_CutPrefix (s p : ByteArray) (w : World) :
    Calls Try.prog 30 #[.string s, .string p] w fun e w' => e = .returned (.tuple #[.string ⟨(Lib.trimPrefix s.data.toList p.data.toList).toArray⟩, .bool (Lib.hasPrefix s.data.toList p.data.toList)]) ∧ w' = w := Any.strings_CutPrefix Try.lays103 s p w
def Try.lays219_ren : Go.Shelf.Ren := ⟨fun | 219 => 35 | 217 => 34 | 225 => 37 | 224 => 38 | 267 => 39 | 266 => 36 | 314 => 40 | n => n, fun | 9 => 9 | 3 => 3 | 4 => 4 | 5 => 5 | 46 => 58 | 146 => 60 | 51 => 59 | n => n, fun | 1 => 0 | n => n⟩
theorem Try.lays219 : Go.Proofs.Lays.n219 Try.prog Try.lays219_ren := {
  mixed := by kernel_rfl
  f217 := Try.func34.trans (congrArg some (by kernel_rfl))
  f219 := Try.func35.trans (congrArg some (by kernel_rfl))
  f224 := Try.func38.trans (congrArg some (by kernel_rfl))
  f225 := Try.func37.trans (congrArg some (by kernel_rfl))
  f266 := Try.func36.trans (congrArg some (by kernel_rfl))
  f267 := Try.func39.trans (congrArg some (by kernel_rfl))
  f314 := Try.func40.trans (congrArg some (by kernel_rfl))
  t3 := Try.underlying3
  a3 := Try.isAgg3
  z3 := Try.sizeOf3
  v3 := Try.zeroValue3
  t4 := Try.underlying4
  a4 := Try.isAgg4
  z4 := Try.sizeOf4
  v4 := Try.zeroValue4
  t5 := Try.underlying5
  a5 := Try.isAgg5
  z5 := Try.sizeOf5
  v5 := Try.zeroValue5
  t9 := Try.underlying9
  a9 := Try.isAgg9
  z9 := Try.sizeOf9
  v9 := Try.zeroValue9
  t46 := Try.underlying58
  a46 := Try.isAgg58
  z46 := Try.sizeOf58
  v46 := Try.zeroValue58
  t51 := Try.underlying59
  a51 := Try.isAgg59
  z51 := Try.sizeOf59
  v51 := Try.zeroValue59
  t146 := Try.underlying60
  a146 := Try.isAgg60
  z146 := Try.sizeOf60
  v146 := Try.zeroValue60
  g1 := by kernel_rfl }
open Go.RowKit Go.Lib in
theorem Try.stringslite_Index_one (s : ByteArray) (c : UInt8) (w : World) :
    Calls Try.prog 35 #[.string s, .string ⟨#[c]⟩] w fun e w' => e = .returned (.int .i64 (Lib.indexByte s.data.toList c)) ∧ w' = w := Any.stringslite_Index_one Try.lays219 s c w
def Try.lays99_ren : Go.Shelf.Ren := ⟨fun | 99 => 25 | 206 => 29 | n => n, fun | 9 => 9 | 4 => 4 | 3 => 3 | n => n, fun | n => n⟩
theorem Try.lays99 : Go.Proofs.Lays.n99 Try.prog Try.lays99_ren := {
  mixed := by kernel_rfl
  f99 := Try.func25.trans (congrArg some (by kernel_rfl))
  f206 := Try.func29.trans (congrArg some (by kernel_rfl))
  t3 := Try.underlying3
  a3 := Try.isAgg3
  z3 := Try.sizeOf3
  v3 := Try.zeroValue3
  t4 := Try.underlying4
  a4 := Try.isAgg4
  z4 := Try.sizeOf4
  v4 := Try.zeroValue4
  t9 := Try.underlying9
  a9 := Try.isAgg9
  z9 := Try.sizeOf9
  v9 := Try.zeroValue9 }
open Go.RowKit Go.Lib in
theorem Try.strings_HasPrefix (s p : ByteArray) (w : World) :
    Calls Try.prog 25 #[.string s, .string p] w fun e w' => e = .returned (.bool (Lib.hasPrefix s.data.toList p.data.toList)) ∧ w' = w := Any.strings_HasPrefix Try.lays99 s p w
end Go.Proofs
