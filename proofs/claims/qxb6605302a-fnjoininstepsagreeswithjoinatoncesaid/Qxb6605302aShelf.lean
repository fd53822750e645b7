/-
  The contracts of the library at this program, laid by the kit's tool in plain words.
-/
import Derived.Shelf.Strings.Builder1
import Derived.Shelf.Strings.Builder2
import Derived.Shelf.Strings.OnBuilder
import Derived.Shelf.Strings.Search1
import Derived.Shelf.Strings.Search2
import Derived.Shelf.Strings.Search3
import Derived.Shelf.LaysM
import Derived.Shelf.Strings.Shaped
import Derived.Shelf.Strings.Prefix
import Derived.Test.Qxb6605302aProg
namespace Go.Proofs.Qxb6605302a
open Go.Shelf
def Try.lays156_ren : Go.Shelf.Ren := ⟨fun | 156 => 26 | 165 => 21 | 166 => 31 | 169 => 23 | 240 => 27 | 241 => 28 | 276 => 32 | 277 => 33 | n => n, fun | 31 => 28 | 9 => 9 | 3 => 3 | 4 => 4 | 0 => 0 | 20 => 20 | 72 => 36 | 76 => 46 | 70 => 34 | 37 => 24 | 75 => 39 | 127 => 44 | 164 => 48 | 5 => 5 | 80 => 42 | n => n, fun | n => n⟩
theorem Try.lays156 : Go.Proofs.Lays.n156 Try.prog Try.lays156_ren := {
  mixed := by kernel_rfl
  f156 := Try.func26.trans (congrArg some (by kernel_rfl))
  f165 := Try.func21.trans (congrArg some (by kernel_rfl))
  f166 := Try.func31.trans (congrArg some (by kernel_rfl))
  f169 := Try.func23.trans (congrArg some (by kernel_rfl))
  f240 := Try.func27.trans (congrArg some (by kernel_rfl))
  f241 := Try.func28.trans (congrArg some (by kernel_rfl))
  f276 := Try.func32.trans (congrArg some (by kernel_rfl))
  f277 := Try.func33.trans (congrArg some (by kernel_rfl))
  t0 := Try.underlying0
  a0 := Try.isAgg0
  z0 := Try.sizeOf0
  v0 := Try.zeroValue0
  t3 := Try.underlying3
  a3 := Try.isAgg3
  z3 := Try.sizeOf3
  v3 := Try.zeroValue3
  t4 := Try.underlying4
  a4 := Try.isAgg4
  z4 := Try.sizeOf4
  v4 := Try.zeroValue4
  t9 := Try.underlying9
  a9 := Try.isAgg9
  z9 := Try.sizeOf9
  v9 := Try.zeroValue9
  t20 := Try.underlying20
  a20 := Try.isAgg20
  z20 := Try.sizeOf20
  v20 := Try.zeroValue20
  t31 := Try.underlying28
  a31 := Try.isAgg28
  z31 := Try.sizeOf28
  v31 := Try.zeroValue28
  t37 := Try.underlying24
  a37 := Try.isAgg24
  z37 := Try.sizeOf24
  v37 := Try.zeroValue24
  t70 := Try.underlying34
  a70 := Try.isAgg34
  z70 := Try.sizeOf34
  v70 := Try.zeroValue34
  t72 := Try.underlying36
  a72 := Try.isAgg36
  z72 := Try.sizeOf36
  v72 := Try.zeroValue36
  t75 := Try.underlying39
  a75 := Try.isAgg39
  z75 := Try.sizeOf39
  v75 := Try.zeroValue39
  t76 := Try.underlying46
  a76 := Try.isAgg46
  z76 := Try.sizeOf46
  v76 := Try.zeroValue46
  t127 := Try.underlying44
  a127 := Try.isAgg44
  z127 := Try.sizeOf44
  v127 := Try.zeroValue44
  t164 := Try.underlying48
  a164 := Try.isAgg48
  z164 := Try.sizeOf48
  v164 := Try.zeroValue48 }
theorem Try.Builder_Extra_156 : Builder.Extra Try.prog Try.lays156_ren := {
  sizeBuilder := by kernel_rfl
  liesBuilder := by kernel_rfl
  t5 := Try.underlying5
  a5 := Try.isAgg5
  z5 := Try.sizeOf5
  v5 := Try.zeroValue5
  infoByte := by kernel_rfl
  cellsByte := by kernel_rfl
  sizeByte := by kernel_rfl
  neB5 := by decide }
open Go.RowKit in
/-- strings.Join: "Join concatenates the elements of its first argument to create a single string. The separator string sep is placed between elements in the resulting string.": HOWEVER MANY ELEMENTS. Below the heap's end the world is as it was. (LAID: no walk: one application.) -/
theorem Try.strings_Join (bk o c : Nat) (xs : List ByteArray) (sep : ByteArray) (w : World) (hcells : ∀ (j : Nat) x, xs[j]? = some x → w.cell? ⟨bk, o + j, none⟩ = some (.string x)) (hbk : bk < w.heap.size) (hN : xs.length ≤ 140737488355328) (hcap : xs.length ≤ c) (hlen : (Lib.join (xs.map (·.data.toList)) sep.data.toList).length ≤ 140737488355328) :
    Calls Try.prog 26 #[.slice (some ⟨bk, o, none⟩) xs.length c, .string sep] w fun e w' => e = .returned (.string ⟨(Lib.join (xs.map (·.data.toList)) sep.data.toList).toArray⟩) ∧ Below w.heap.size w w' := Any.strings_Join Try.lays156 Try.Builder_Extra_156 bk o c xs sep w hcells hbk hN hcap hlen
def Try.lays144_ren : Go.Shelf.Ren := ⟨fun | 144 => 25 | 143 => 30 | 219 => 34 | 217 => 35 | 225 => 36 | 224 => 37 | 267 => 38 | 266 => 39 | 314 => 40 | n => n, fun | 9 => 9 | 4 => 4 | 3 => 3 | 5 => 5 | 46 => 41 | 146 => 54 | 51 => 53 | n => n, fun | 1 => 0 | n => n⟩
theorem Try.lays144 : Go.Proofs.Lays.n144 Try.prog Try.lays144_ren := {
  mixed := by kernel_rfl
  f143 := Try.func30.trans (congrArg some (by kernel_rfl))
  f144 := Try.func25.trans (congrArg some (by kernel_rfl))
  f217 := Try.func35.trans (congrArg some (by kernel_rfl))
  f219 := Try.func34.trans (congrArg some (by kernel_rfl))
  f224 := Try.func37.trans (congrArg some (by kernel_rfl))
  f225 := Try.func36.trans (congrArg some (by kernel_rfl))
  f266 := Try.func39.trans (congrArg some (by kernel_rfl))
  f267 := Try.func38.trans (congrArg some (by kernel_rfl))
  f314 := Try.func40.trans (congrArg some (by kernel_rfl))
  t3 := Try.underlying3
  a3 := Try.isAgg3
  z3 := Try.sizeOf3
  v3 := Try.zeroValue3
  t4 := Try.underlying4
  a4 := Try.isAgg4
  z4 := Try.sizeOf4
  v4 := Try.zeroValue4
  t5 := Try.underlying5
  a5 := Try.isAgg5
  z5 := Try.sizeOf5
  v5 := Try.zeroValue5
  t9 := Try.underlying9
  a9 := Try.isAgg9
  z9 := Try.sizeOf9
  v9 := Try.zeroValue9
  t46 := Try.underlying41
  a46 := Try.isAgg41
  z46 := Try.sizeOf41
  v46 := Try.zeroValue41
  t51 := Try.underlying53
  a51 := Try.isAgg53
  z51 := Try.sizeOf53
  v51 := Try.zeroValue53
  t146 := Try.underlying54
  a146 := Try.isAgg54
  z146 := Try.sizeOf54
  v146 := Try.zeroValue54
  g1 := by kernel_rfl }
open Go.RowKit Go.Lib in
/-- strings.Contains: "Contains reports whether substr is within s.": AT A substr OF ONE BYTE c: IT RETURNS 'decide (0 ≤ Lib.indexByte s c)'; the world is as it was. (LAID: no walk: one application.) -/
theorem Try.strings_Contains_one (s : ByteArray) (c : UInt8) (w : World) :
    Calls Try.prog 25 #[.string s, .string ⟨#[c]⟩] w fun e w' => e = .returned (.bool (decide (0 ≤ Lib.indexByte s.data.toList c))) ∧ w' = w := Any.strings_Contains_one Try.lays144 s c w
def Try.lays100_ren : Go.Shelf.Ren := ⟨fun | 100 => 24 | 207 => 29 | n => n, fun | 9 => 9 | 4 => 4 | 3 => 3 | n => n, fun | n => n⟩
theorem Try.lays100 : Go.Proofs.Lays.n100 Try.prog Try.lays100_ren := {
  mixed := by kernel_rfl
  f100 := Try.func24.trans (congrArg some (by kernel_rfl))
  f207 := Try.func29.trans (congrArg some (by kernel_rfl))
  t3 := Try.underlying3
  a3 := Try.isAgg3
  z3 := Try.sizeOf3
  v3 := Try.zeroValue3
  t4 := Try.underlying4
  a4 := Try.isAgg4
  z4 := Try.sizeOf4
  v4 := Try.zeroValue4
  t9 := Try.underlying9
  a9 := Try.isAgg9
  z9 := Try.sizeOf9
  v9 := Try.zeroValue9 }
open Go.RowKit Go.Lib in
/-- strings.HasSuffix: "HasSuffix reports whether the string s ends with suffix.": IT RETURNS 'Lib.hasSuffix s suffix'; the world is as it was. ('hs': no Go string is longer: a caller has it of every string that it was handed.) (LAID: no walk: one application.) -/
theorem Try.strings_HasSuffix (s p : ByteArray) (w : World) (hs : s.size ≤ 9223372036854775807) :
    Calls Try.prog 24 #[.string s, .string p] w fun e w' => e = .returned (.bool (Lib.hasSuffix s.data.toList p.data.toList)) ∧ w' = w := Any.strings_HasSuffix Try.lays100 s p w hs
end Go.Proofs.Qxb6605302a
