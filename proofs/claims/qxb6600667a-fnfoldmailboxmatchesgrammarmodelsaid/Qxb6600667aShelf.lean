/- The contracts of the library's functions at this seat's dump, in plain words: written by the kit's tools; those over the builder's writers laid by hand (two types that no body names). -/
import Derived.Shelf.Small.Strs
import Derived.Shelf.Strings.Search1
import Derived.Shelf.Strings.Search2
import Derived.Shelf.Strings.Search3
import Derived.Shelf.LaysM
import Derived.Shelf.Strings.Shaped
import Derived.Shelf.Strings.Prefix
import Derived.Test.Qxb6600667aProg
namespace Go.Proofs
open Go.Shelf
def Try.lays137_ren : Go.Shelf.Ren := ⟨fun | 137 => 29 | 217 => 33 | 266 => 35 | n => n, fun | 9 => 9 | 5 => 5 | 3 => 3 | n => n, fun | n => n⟩
theorem Try.lays137 : Go.Proofs.Lays.n137 Try.prog Try.lays137_ren := {
  mixed := by kernel_rfl
  f137 := Try.func29.trans (congrArg some (by kernel_rfl))
  f217 := Try.func33.trans (congrArg some (by kernel_rfl))
  f266 := Try.func35.trans (congrArg some (by kernel_rfl))
  t3 := Try.underlying3
  a3 := Try.isAgg3
  z3 := Try.sizeOf3
  v3 := Try.zeroValue3
  t5 := Try.underlying5
  a5 := Try.isAgg5
  z5 := Try.sizeOf5
  v5 := Try.zeroValue5
  t9 := Try.underlying9
  a9 := Try.isAgg9
  z9 := Try.sizeOf9
  v9 := Try.zeroValue9 }
open Go.RowKit in
theorem Try.strings_IndexByte (s : ByteArray) (c : Int) (w : World) :
    Calls Try.prog 29 #[.string s, .int .u8 c] w fun e w' => e = .returned (.int .i64 (Lib.indexByte s.data.toList c.toNat.toUInt8)) ∧ w' = w := Any.strings_IndexByte Try.lays137 s c w
def Try.lays144_ren : Go.Shelf.Ren := ⟨fun | 144 => 26 | 143 => 32 | 219 => 34 | 217 => 33 | 225 => 36 | 224 => 37 | 267 => 38 | 266 => 35 | 314 => 39 | n => n, fun | 9 => 9 | 4 => 4 | 3 => 3 | 5 => 5 | 46 => 46 | 146 => 48 | 51 => 47 | n => n, fun | 1 => 0 | n => n⟩
theorem Try.lays144 : Go.Proofs.Lays.n144 Try.prog Try.lays144_ren := {
  mixed := by kernel_rfl
  f143 := Try.func32.trans (congrArg some (by kernel_rfl))
  f144 := Try.func26.trans (congrArg some (by kernel_rfl))
  f217 := Try.func33.trans (congrArg some (by kernel_rfl))
  f219 := Try.func34.trans (congrArg some (by kernel_rfl))
  f224 := Try.func37.trans (congrArg some (by kernel_rfl))
  f225 := Try.func36.trans (congrArg some (by kernel_rfl))
  f266 := Try.func35.trans (congrArg some (by kernel_rfl))
  f267 := Try.func38.trans (congrArg some (by kernel_rfl))
  f314 := Try.func39.trans (congrArg some (by kernel_rfl))
  t3 := Try.underlying3
  a3 := Try.isAgg3
  z3 := Try.sizeOf3
  v3 := Try.zeroValue3
  t4 := Try.underlying4
  a4 := Try.isAgg4
  z4 := Try.sizeOf4
  v4 := Try.zeroValue4
  t5 := Try.underlying5
  a5 := Try.isAgg5
  z5 := Try.sizeOf5
  v5 := Try.zeroValue5
  t9 := Try.underlying9
  a9 := Try.isAgg9
  z9 := Try.sizeOf9
  v9 := Try.zeroValue9
  t46 := Try.underlying46
  a46 := Try.isAgg46
  z46 := Try.sizeOf46
  v46 := Try.zeroValue46
  t51 := Try.underlying47
  a51 := Try.isAgg47
  z51 := Try.sizeOf47
  v51 := Try.zeroValue47
  t146 := Try.underlying48
  a146 := Try.isAgg48
  z146 := Try.sizeOf48
  v146 := Try.zeroValue48
  g1 := by kernel_rfl }
open Go.RowKit Go.Lib in
theorem Try.strings_Contains (s sub : ByteArray) (m : Int) (w : World) (hs : s.size < 4294967281) (hm : w.cell? ⟨0, 0, none⟩ = some (.int .i64 m)) :
    Calls Try.prog 26 #[.string s, .string sub] w fun e w' => e = .returned (.bool (Lib.contains s.data.toList sub.data.toList)) ∧ w' = w := Any.strings_Contains Try.lays144 s sub m w hs hm
def Try.laysM144_ren : Go.Shelf.Ren := ⟨fun | 144 => 26 | 143 => 32 | 219 => 34 | 217 => 33 | 225 => 36 | 224 => 37 | 267 => 38 | 266 => 35 | 314 => 39 | n => n, fun | 9 => 9 | 4 => 4 | 3 => 3 | 5 => 5 | 46 => 46 | 146 => 48 | 51 => 47 | n => n, fun | 1 => 0 | n => n⟩
theorem Try.laysM144 : Go.Proofs.LaysM.n144 Try.prog Try.laysM144_ren := {
  mixed := by kernel_rfl
  f143 := Try.func32.trans (congrArg some (by kernel_rfl))
  f144 := Try.func26.trans (congrArg some (by kernel_rfl))
  f217 := Try.func33.trans (congrArg some (by kernel_rfl))
  f219 := Try.func34.trans (congrArg some (by kernel_rfl))
  f224 := Try.func37.trans (congrArg some (by kernel_rfl))
  f225 := Try.func36.trans (congrArg some (by kernel_rfl))
  f266 := Try.func35.trans (congrArg some (by kernel_rfl))
  f267 := Try.func38.trans (congrArg some (by kernel_rfl))
  f314 := Try.func39.trans (congrArg some (by kernel_rfl))
  t3 := Try.underlying3
  a3 := Try.isAgg3
  z3 := Try.sizeOf3
  v3 := Try.zeroValue3
  t4 := Try.underlying4
  a4 := Try.isAgg4
  z4 := Try.sizeOf4
  v4 := Try.zeroValue4
  t5 := Try.underlying5
  a5 := Try.isAgg5
  z5 := Try.sizeOf5
  v5 := Try.zeroValue5
  t9 := Try.underlying9
  a9 := Try.isAgg9
  z9 := Try.sizeOf9
  v9 := Try.zeroValue9
  t46 := Try.underlying46
  a46 := Try.isAgg46
  z46 := Try.sizeOf46
  v46 := Try.zeroValue46
  t51 := Try.underlying47
  a51 := Try.isAgg47
  z51 := Try.sizeOf47
  v51 := Try.zeroValue47
  t146 := Try.underlying48
  a146 := Try.isAgg48
  z146 := Try.sizeOf48
  v146 := Try.zeroValue48
  g1 := by kernel_rfl
  i3 := by kernel_rfl
  i4 := by kernel_rfl
  i5 := by kernel_rfl
  i9 := by kernel_rfl
  i46 := by kernel_rfl
  i51 := by kernel_rfl
  i146 := by kernel_rfl
  m1 := by kernel_rfl
  s1_3 := fun w h => Go.Proofs.cell_of_shapedOpen_int (zero := #[.int .i64 0]) (t := 3) h (of_decide_eq_true (by kernel_rfl)) (by kernel_rfl) rfl (by kernel_rfl) (by kernel_rfl) Try.underlying3 }
open Go.RowKit Go.Lib in
theorem Try.strings_Contains_shaped (s sub : ByteArray) (w : World) (h : w.ShapedOpen Try.prog) (hs : s.size < 4294967281) :
    Calls Try.prog 26 #[.string s, .string sub] w fun e w' => e = .returned (.bool (Lib.contains s.data.toList sub.data.toList)) ∧ w' = w := Any.strings_Contains_shaped Try.laysM144 s sub w h hs
def Try.lays99_ren : Go.Shelf.Ren := ⟨fun | 99 => 24 | 206 => 30 | n => n, fun | 9 => 9 | 4 => 4 | 3 => 3 | n => n, fun | n => n⟩
theorem Try.lays99 : Go.Proofs.Lays.n99 Try.prog Try.lays99_ren := {
  mixed := by kernel_rfl
  f99 := Try.func24.trans (congrArg some (by kernel_rfl))
  f206 := Try.func30.trans (congrArg some (by kernel_rfl))
  t3 := Try.underlying3
  a3 := Try.isAgg3
  z3 := Try.sizeOf3
  v3 := Try.zeroValue3
  t4 := Try.underlying4
  a4 := Try.isAgg4
  z4 := Try.sizeOf4
  v4 := Try.zeroValue4
  t9 := Try.underlying9
  a9 := Try.isAgg9
  z9 := Try.sizeOf9
  v9 := Try.zeroValue9 }
open Go.RowKit Go.Lib in
theorem Try.strings_HasPrefix (s p : ByteArray) (w : World) :
    Calls Try.prog 24 #[.string s, .string p] w fun e w' => e = .returned (.bool (Lib.hasPrefix s.data.toList p.data.toList)) ∧ w' = w := Any.strings_HasPrefix Try.lays99 s p w
def Try.lays100_ren : Go.Shelf.Ren := ⟨fun | 100 => 25 | 207 => 31 | n => n, fun | 9 => 9 | 4 => 4 | 3 => 3 | n => n, fun | n => n⟩
theorem Try.lays100 : Go.Proofs.Lays.n100 Try.prog Try.lays100_ren := {
  mixed := by kernel_rfl
  f100 := Try.func25.trans (congrArg some (by kernel_rfl))
  f207 := Try.func31.trans (congrArg some (by kernel_rfl))
  t3 := Try.underlying3
  a3 := Try.isAgg3
  z3 := Try.sizeOf3
  v3 := Try.zeroValue3
  t4 := Try.underlying4
  a4 := Try.isAgg4
  z4 := Try.sizeOf4
  v4 := Try.zeroValue4
  t9 := Try.underlying9
  a9 := Try.isAgg9
  z9 := Try.sizeOf9
  v9 := Try.zeroValue9 }
open Go.RowKit Go.Lib in
theorem Try.strings_HasSuffix (s p : ByteArray) (w : World) (hs : s.size ≤ 9223372036854775807) :
    Calls Try.prog 25 #[.string s, .string p] w fun e w' => e = .returned (.bool (Lib.hasSuffix s.data.toList p.data.toList)) ∧ w' = w := Any.strings_HasSuffix Try.lays100 s p w hs
end Go.Proofs
