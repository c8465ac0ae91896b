import Derived.Shelf.Small.Wraps
import Derived.Shelf.Strings.Search2
import Derived.Test.Qxb6601397aProg
namespace Go.Proofs
open Go.Shelf
def Try.lays103_ren : Go.Shelf.Ren := ⟨fun | 103 => 15 | 210 => 19 | 206 => 21 | n => n, fun | 9 => 9 | 4 => 4 | 24 => 25 | 3 => 3 | n => n, fun | n => n⟩
theorem Try.lays103 : Go.Proofs.Lays.n103 Try.prog Try.lays103_ren := {
  mixed := by kernel_rfl
  f103 := Try.func15.trans (congrArg some (by kernel_rfl))
  f206 := Try.func21.trans (congrArg some (by kernel_rfl))
  f210 := Try.func19.trans (congrArg some (by kernel_rfl))
  t3 := Try.underlying3
  a3 := Try.isAgg3
  z3 := Try.sizeOf3
  v3 := Try.zeroValue3
  t4 := Try.underlying4
  a4 := Try.isAgg4
  z4 := Try.sizeOf4
  v4 := Try.zeroValue4
  t9 := Try.underlying9
  a9 := Try.isAgg9
  z9 := Try.sizeOf9
  v9 := Try.zeroValue9
  t24 := Try.underlying25
  a24 := Try.isAgg25
  z24 := Try.sizeOf25
  v24 := Try.zeroValue25 }
open Go.RowKit in
theorem Try.strings_CutPrefix (s p : ByteArray) (w : World) :
    Calls Try.prog 15 #[.string s, .string p] w fun e w' => e = .returned (.tuple #[.string ⟨(Lib.trimPrefix s.data.toList p.data.toList).toArray⟩, .bool (Lib.hasPrefix s.data.toList p.data.toList)]) ∧ w' = w := Any.strings_CutPrefix Try.lays103 s p w
def Try.lays219_ren : Go.Shelf.Ren := ⟨fun | 219 => 22 | 217 => 23 | 225 => 24 | 224 => 25 | 267 => 26 | 266 => 27 | 314 => 28 | n => n, fun | 9 => 9 | 3 => 3 | 4 => 4 | 5 => 5 | 46 => 34 | 146 => 36 | 51 => 35 | n => n, fun | 1 => 0 | n => n⟩
theorem Try.lays219 : Go.Proofs.Lays.n219 Try.prog Try.lays219_ren := {
  mixed := by kernel_rfl
  f217 := Try.func23.trans (congrArg some (by kernel_rfl))
  f219 := Try.func22.trans (congrArg some (by kernel_rfl))
  f224 := Try.func25.trans (congrArg some (by kernel_rfl))
  f225 := Try.func24.trans (congrArg some (by kernel_rfl))
  f266 := Try.func27.trans (congrArg some (by kernel_rfl))
  f267 := Try.func26.trans (congrArg some (by kernel_rfl))
  f314 := Try.func28.trans (congrArg some (by kernel_rfl))
  t3 := Try.underlying3
  a3 := Try.isAgg3
  z3 := Try.sizeOf3
  v3 := Try.zeroValue3
  t4 := Try.underlying4
  a4 := Try.isAgg4
  z4 := Try.sizeOf4
  v4 := Try.zeroValue4
  t5 := Try.underlying5
  a5 := Try.isAgg5
  z5 := Try.sizeOf5
  v5 := Try.zeroValue5
  t9 := Try.underlying9
  a9 := Try.isAgg9
  z9 := Try.sizeOf9
  v9 := Try.zeroValue9
  t46 := Try.underlying34
  a46 := Try.isAgg34
  z46 := Try.sizeOf34
  v46 := Try.zeroValue34
  t51 := Try.underlying35
  a51 := Try.isAgg35
  z51 := Try.sizeOf35
  v51 := Try.zeroValue35
  t146 := Try.underlying36
  a146 := Try.isAgg36
  z146 := Try.sizeOf36
  v146 := Try.zeroValue36
  g1 := by kernel_rfl }
open Go.RowKit Go.Lib in
theorem Try.stringslite_Index_one (s : ByteArray) (c : UInt8) (w : World) :
    Calls Try.prog 22 #[.string s, .string ⟨#[c]⟩] w fun e w' => e = .returned (.int .i64 (Lib.indexByte s.data.toList c)) ∧ w' = w := Any.stringslite_Index_one Try.lays219 s c w
end Go.Proofs
