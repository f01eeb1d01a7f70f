/- The library contracts that the walks take, laid at this program (out of the kit's shelf). -/
import Derived.Shelf.Small.Strs
import Derived.Shelf.Strings.IndexAnyAll
import Derived.Test.Qxb6600183aProg
namespace Go.Proofs
open Go.Shelf
def Try.lays137_ren : Go.Shelf.Ren := ⟨fun | 137 => 40 | 217 => 44 | 266 => 51 | n => n, fun | 9 => 9 | 5 => 5 | 3 => 3 | n => n, fun | n => n⟩
theorem Try.lays137 : Go.Proofs.Lays.n137 Try.prog Try.lays137_ren := {
  mixed := by kernel_rfl
  f137 := Try.func40.trans (congrArg some (by kernel_rfl))
  f217 := Try.func44.trans (congrArg some (by kernel_rfl))
  f266 := Try.func51.trans (congrArg some (by kernel_rfl))
  t3 := Try.underlying3
  a3 := Try.isAgg3
  z3 := Try.sizeOf3
  v3 := Try.zeroValue3
  t5 := Try.underlying5
  a5 := Try.isAgg5
  z5 := Try.sizeOf5
  v5 := Try.zeroValue5
  t9 := Try.underlying9
  a9 := Try.isAgg9
  z9 := Try.sizeOf9
  v9 := Try.zeroValue9 }
open Go.RowKit in
theorem Try.strings_IndexByte (s : ByteArray) (c : Int) (w : World) :
    Calls Try.prog 40 #[.string s, .int .u8 c] w fun e w' => e = .returned (.int .i64 (Lib.indexByte s.data.toList c.toNat.toUInt8)) ∧ w' = w := Any.strings_IndexByte Try.lays137 s c w
def Try.lays153_ren : Go.Shelf.Ren := ⟨fun | 153 => 41 | 152 => 45 | 226 => 46 | 227 => 47 | 228 => 48 | 137 => 40 | 119 => 52 | 224 => 53 | 225 => 54 | 217 => 44 | 266 => 51 | n => n, fun | 9 => 9 | 3 => 3 | 4 => 4 | 5 => 5 | 21 => 21 | 117 => 61 | 116 => 60 | 0 => 0 | 46 => 68 | 124 => 69 | n => n, fun | n => n⟩
theorem Try.lays153 : Go.Proofs.Lays.n153 Try.prog Try.lays153_ren := {
  mixed := by kernel_rfl
  f119 := Try.func52.trans (congrArg some (by kernel_rfl))
  f137 := Try.func40.trans (congrArg some (by kernel_rfl))
  f152 := Try.func45.trans (congrArg some (by kernel_rfl))
  f153 := Try.func41.trans (congrArg some (by kernel_rfl))
  f217 := Try.func44.trans (congrArg some (by kernel_rfl))
  f224 := Try.func53.trans (congrArg some (by kernel_rfl))
  f225 := Try.func54.trans (congrArg some (by kernel_rfl))
  f226 := Try.func46.trans (congrArg some (by kernel_rfl))
  f227 := Try.func47.trans (congrArg some (by kernel_rfl))
  f228 := Try.func48.trans (congrArg some (by kernel_rfl))
  f266 := Try.func51.trans (congrArg some (by kernel_rfl))
  t0 := Try.underlying0
  a0 := Try.isAgg0
  z0 := Try.sizeOf0
  v0 := Try.zeroValue0
  t3 := Try.underlying3
  a3 := Try.isAgg3
  z3 := Try.sizeOf3
  v3 := Try.zeroValue3
  t4 := Try.underlying4
  a4 := Try.isAgg4
  z4 := Try.sizeOf4
  v4 := Try.zeroValue4
  t5 := Try.underlying5
  a5 := Try.isAgg5
  z5 := Try.sizeOf5
  v5 := Try.zeroValue5
  t9 := Try.underlying9
  a9 := Try.isAgg9
  z9 := Try.sizeOf9
  v9 := Try.zeroValue9
  t21 := Try.underlying21
  a21 := Try.isAgg21
  z21 := Try.sizeOf21
  v21 := Try.zeroValue21
  t46 := Try.underlying68
  a46 := Try.isAgg68
  z46 := Try.sizeOf68
  v46 := Try.zeroValue68
  t116 := Try.underlying60
  a116 := Try.isAgg60
  z116 := Try.sizeOf60
  t117 := Try.underlying61
  a117 := Try.isAgg61
  z117 := Try.sizeOf61
  v117 := Try.zeroValue61
  t124 := Try.underlying69
  a124 := Try.isAgg69
  z124 := Try.sizeOf69
  v124 := Try.zeroValue69 }
open Go.RowKit
theorem Try.rune_ascii (s : ByteArray) (r : Int) (w : World) (h0 : 0 ≤ r) (h1 : r < 128) :
    Calls Try.prog 45 #[.string s, .int .i32 r] w fun e w' => e = .returned (.int .i64 (Lib.indexByte s.data.toList r.toNat.toUInt8)) ∧ w' = w := Any.strings_IndexRune_ascii { Try.lays153 with } s r w h0 h1
theorem Try.use_set (n : Int) (w : World) :
    Calls Try.prog 46 #[.int .i64 n] w fun e w' => e = .returned (.bool (decide (8 < n))) ∧ w' = w := Any.strings_shouldUseASCIISet { Try.lays153 with } n w
theorem Try.info60 : (Try.prog.info? 60).map (fun i => (i.zero, i.size)) = some (some (.agg (Array.replicate 256 (.bool false))), 256) := by kernel_rfl
theorem Try.any_long (s chars : ByteArray) (w : World) (h2 : 2 ≤ chars.size) (h8 : 8 < s.size) (hs : s.size < 4294967281) (hcs : chars.size < 4294967281) (hascii : ∀ (j : Nat) b, chars.data.toList[j]? = some b → b.toNat < 128) :
    Calls Try.prog 41 #[.string s, .string chars] w fun e w' => e = .returned (.int .i64 (Lib.indexAny s.data.toList chars.data.toList)) ∧ w' = ((w.alloc (.cells (Lib.setCells chars.data.toList) 60)).alloc (.cells (Lib.setCells chars.data.toList) 60)) :=
  Any.strings_IndexAny_long Try.lays153 (zero_of_info Try.info60).1 (by kernel_rfl) s chars w h2 h8 hs hcs hascii
end Go.Proofs
