/-
  The contracts of the library at this program, laid by the kit's tool in plain words.
-/
import Derived.Shelf.Small.Strs
import Derived.Shelf.Strings.Search1
import Derived.Shelf.Strings.Search2
import Derived.Shelf.Strings.Search3
import Derived.Shelf.Strings.Cut
import Derived.Shelf.Strings.Prefix
import Derived.Test.Qxb6605488aProg
namespace Go.Proofs.Qxb6605488a
open Go.Shelf
def Try.lays137_ren : Go.Shelf.Ren := ⟨fun | 137 => 25 | 217 => 32 | 266 => 40 | n => n, fun | 9 => 9 | 5 => 5 | 3 => 3 | n => n, fun | n => n⟩
theorem Try.lays137 : Go.Proofs.Lays.n137 Try.prog Try.lays137_ren := {
  mixed := by kernel_rfl
  f137 := Try.func25.trans (congrArg some (by kernel_rfl))
  f217 := Try.func32.trans (congrArg some (by kernel_rfl))
  f266 := Try.func40.trans (congrArg some (by kernel_rfl))
  t3 := Try.underlying3
  a3 := Try.isAgg3
  z3 := Try.sizeOf3
  v3 := Try.zeroValue3
  t5 := Try.underlying5
  a5 := Try.isAgg5
  z5 := Try.sizeOf5
  v5 := Try.zeroValue5
  t9 := Try.underlying9
  a9 := Try.isAgg9
  z9 := Try.sizeOf9
  v9 := Try.zeroValue9 }
open Go.RowKit in
theorem Try.strings_IndexByte (s : ByteArray) (c : Int) (w : World) :
    Calls Try.prog 25 #[.string s, .int .u8 c] w fun e w' => e = .returned (.int .i64 (Lib.indexByte s.data.toList c.toNat.toUInt8)) ∧ w' = w := Any.strings_IndexByte Try.lays137 s c w
def Try.lays219_ren : Go.Shelf.Ren := ⟨fun | 219 => 41 | 217 => 32 | 225 => 44 | 224 => 45 | 267 => 46 | 266 => 40 | 314 => 49 | n => n, fun | 9 => 9 | 3 => 3 | 4 => 4 | 5 => 5 | 46 => 72 | 146 => 77 | 51 => 76 | n => n, fun | 1 => 0 | n => n⟩
theorem Try.lays219 : Go.Proofs.Lays.n219 Try.prog Try.lays219_ren := {
  mixed := by kernel_rfl
  f217 := Try.func32.trans (congrArg some (by kernel_rfl))
  f219 := Try.func41.trans (congrArg some (by kernel_rfl))
  f224 := Try.func45.trans (congrArg some (by kernel_rfl))
  f225 := Try.func44.trans (congrArg some (by kernel_rfl))
  f266 := Try.func40.trans (congrArg some (by kernel_rfl))
  f267 := Try.func46.trans (congrArg some (by kernel_rfl))
  f314 := Try.func49.trans (congrArg some (by kernel_rfl))
  t3 := Try.underlying3
  a3 := Try.isAgg3
  z3 := Try.sizeOf3
  v3 := Try.zeroValue3
  t4 := Try.underlying4
  a4 := Try.isAgg4
  z4 := Try.sizeOf4
  v4 := Try.zeroValue4
  t5 := Try.underlying5
  a5 := Try.isAgg5
  z5 := Try.sizeOf5
  v5 := Try.zeroValue5
  t9 := Try.underlying9
  a9 := Try.isAgg9
  z9 := Try.sizeOf9
  v9 := Try.zeroValue9
  t46 := Try.underlying72
  a46 := Try.isAgg72
  z46 := Try.sizeOf72
  v46 := Try.zeroValue72
  t51 := Try.underlying76
  a51 := Try.isAgg76
  z51 := Try.sizeOf76
  v51 := Try.zeroValue76
  t146 := Try.underlying77
  a146 := Try.isAgg77
  z146 := Try.sizeOf77
  v146 := Try.zeroValue77
  g1 := by kernel_rfl }
open Go.RowKit Go.Lib in
theorem Try.stringslite_Index_one (s : ByteArray) (c : UInt8) (w : World) :
    Calls Try.prog 41 #[.string s, .string ⟨#[c]⟩] w fun e w' => e = .returned (.int .i64 (Lib.indexByte s.data.toList c)) ∧ w' = w := Any.stringslite_Index_one Try.lays219 s c w
def Try.lays144_ren : Go.Shelf.Ren := ⟨fun | 144 => 28 | 143 => 35 | 219 => 41 | 217 => 32 | 225 => 44 | 224 => 45 | 267 => 46 | 266 => 40 | 314 => 49 | n => n, fun | 9 => 9 | 4 => 4 | 3 => 3 | 5 => 5 | 46 => 72 | 146 => 77 | 51 => 76 | n => n, fun | 1 => 0 | n => n⟩
theorem Try.lays144 : Go.Proofs.Lays.n144 Try.prog Try.lays144_ren := {
  mixed := by kernel_rfl
  f143 := Try.func35.trans (congrArg some (by kernel_rfl))
  f144 := Try.func28.trans (congrArg some (by kernel_rfl))
  f217 := Try.func32.trans (congrArg some (by kernel_rfl))
  f219 := Try.func41.trans (congrArg some (by kernel_rfl))
  f224 := Try.func45.trans (congrArg some (by kernel_rfl))
  f225 := Try.func44.trans (congrArg some (by kernel_rfl))
  f266 := Try.func40.trans (congrArg some (by kernel_rfl))
  f267 := Try.func46.trans (congrArg some (by kernel_rfl))
  f314 := Try.func49.trans (congrArg some (by kernel_rfl))
  t3 := Try.underlying3
  a3 := Try.isAgg3
  z3 := Try.sizeOf3
  v3 := Try.zeroValue3
  t4 := Try.underlying4
  a4 := Try.isAgg4
  z4 := Try.sizeOf4
  v4 := Try.zeroValue4
  t5 := Try.underlying5
  a5 := Try.isAgg5
  z5 := Try.sizeOf5
  v5 := Try.zeroValue5
  t9 := Try.underlying9
  a9 := Try.isAgg9
  z9 := Try.sizeOf9
  v9 := Try.zeroValue9
  t46 := Try.underlying72
  a46 := Try.isAgg72
  z46 := Try.sizeOf72
  v46 := Try.zeroValue72
  t51 := Try.underlying76
  a51 := Try.isAgg76
  z51 := Try.sizeOf76
  v51 := Try.zeroValue76
  t146 := Try.underlying77
  a146 := Try.isAgg77
  z146 := Try.sizeOf77
  v146 := Try.zeroValue77
  g1 := by kernel_rfl }
open Go.RowKit Go.Lib in
theorem Try.strings_Contains_one (s : ByteArray) (c : UInt8) (w : World) :
    Calls Try.prog 28 #[.string s, .string ⟨#[c]⟩] w fun e w' => e = .returned (.bool (decide (0 ≤ Lib.indexByte s.data.toList c))) ∧ w' = w := Any.strings_Contains_one Try.lays144 s c w
def Try.lays99_ren : Go.Shelf.Ren := ⟨fun | 99 => 26 | 206 => 33 | n => n, fun | 9 => 9 | 4 => 4 | 3 => 3 | n => n, fun | n => n⟩
theorem Try.lays99 : Go.Proofs.Lays.n99 Try.prog Try.lays99_ren := {
  mixed := by kernel_rfl
  f99 := Try.func26.trans (congrArg some (by kernel_rfl))
  f206 := Try.func33.trans (congrArg some (by kernel_rfl))
  t3 := Try.underlying3
  a3 := Try.isAgg3
  z3 := Try.sizeOf3
  v3 := Try.zeroValue3
  t4 := Try.underlying4
  a4 := Try.isAgg4
  z4 := Try.sizeOf4
  v4 := Try.zeroValue4
  t9 := Try.underlying9
  a9 := Try.isAgg9
  z9 := Try.sizeOf9
  v9 := Try.zeroValue9 }
open Go.RowKit Go.Lib in
theorem Try.strings_HasPrefix (s p : ByteArray) (w : World) :
    Calls Try.prog 26 #[.string s, .string p] w fun e w' => e = .returned (.bool (Lib.hasPrefix s.data.toList p.data.toList)) ∧ w' = w := Any.strings_HasPrefix Try.lays99 s p w
end Go.Proofs.Qxb6605488a
