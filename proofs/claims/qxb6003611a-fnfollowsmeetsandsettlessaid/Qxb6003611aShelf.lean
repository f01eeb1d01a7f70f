/- The library contract that the walks take, laid at this program (out of the kit's shelf). -/
import Derived.Shelf.Strings.Search1
import Derived.Shelf.Strings.Search2
import Derived.Test.Qxb6003611aProg
namespace Go.Proofs
open Go.Shelf
def Try.lays219_ren : Go.Shelf.Ren := ⟨fun | 219 => 31 | 217 => 32 | 225 => 33 | 224 => 34 | 267 => 35 | 266 => 36 | 314 => 37 | n => n, fun | 9 => 9 | 3 => 3 | 4 => 4 | 5 => 5 | 46 => 49 | 146 => 51 | 51 => 50 | n => n, fun | 1 => 0 | n => n⟩
theorem Try.lays219 : Go.Proofs.Lays.n219 Try.prog Try.lays219_ren := {
  mixed := by kernel_rfl
  f217 := Try.func32.trans (congrArg some (by kernel_rfl))
  f219 := Try.func31.trans (congrArg some (by kernel_rfl))
  f224 := Try.func34.trans (congrArg some (by kernel_rfl))
  f225 := Try.func33.trans (congrArg some (by kernel_rfl))
  f266 := Try.func36.trans (congrArg some (by kernel_rfl))
  f267 := Try.func35.trans (congrArg some (by kernel_rfl))
  f314 := Try.func37.trans (congrArg some (by kernel_rfl))
  t3 := Try.underlying3
  a3 := Try.isAgg3
  z3 := Try.sizeOf3
  v3 := Try.zeroValue3
  t4 := Try.underlying4
  a4 := Try.isAgg4
  z4 := Try.sizeOf4
  v4 := Try.zeroValue4
  t5 := Try.underlying5
  a5 := Try.isAgg5
  z5 := Try.sizeOf5
  v5 := Try.zeroValue5
  t9 := Try.underlying9
  a9 := Try.isAgg9
  z9 := Try.sizeOf9
  v9 := Try.zeroValue9
  t46 := Try.underlying49
  a46 := Try.isAgg49
  z46 := Try.sizeOf49
  v46 := Try.zeroValue49
  t51 := Try.underlying50
  a51 := Try.isAgg50
  z51 := Try.sizeOf50
  v51 := Try.zeroValue50
  t146 := Try.underlying51
  a146 := Try.isAgg51
  z146 := Try.sizeOf51
  v146 := Try.zeroValue51
  g1 := by kernel_rfl }
open Go.RowKit Go.Lib in
theorem Try.stringslite_Index_one (s : ByteArray) (c : UInt8) (w : World) :
    Calls Try.prog 31 #[.string s, .string ⟨#[c]⟩] w fun e w' => e = .returned (.int .i64 (Lib.indexByte s.data.toList c)) ∧ w' = w := Any.stringslite_Index_one Try.lays219 s c w
end Go.Proofs
