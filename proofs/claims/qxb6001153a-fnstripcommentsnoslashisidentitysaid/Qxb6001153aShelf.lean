/- The contracts of the library's functions at this seat's dump, in plain words: written by the kit's tools; those over the builder's writers laid by hand (two types that no body names). -/
import Derived.Shelf.Strings.Builder1
import Derived.Shelf.Strings.BuilderF
import Derived.Shelf.Strings.BuilderK
import Derived.Shelf.Strings.Search1
import Derived.Shelf.Strings.Search2
import Derived.Shelf.Strings.Search3
import Derived.Shelf.LaysM
import Derived.Shelf.Strings.Shaped
import Derived.Shelf.Strings.Prefix
import Derived.Test.Qxb6001153aProg
namespace Go.Proofs
open Go.Shelf
def Try.lays169_ren : Go.Shelf.Ren := ⟨fun | 169 => 44 | n => n, fun | 70 => 60 | 9 => 9 | 0 => 0 | 72 => 63 | 37 => 61 | 127 => 71 | 3 => 3 | 5 => 5 | n => n, fun | n => n⟩
theorem Try.lays169 : Go.Proofs.Lays.n169 Try.prog Try.lays169_ren := {
  mixed := by kernel_rfl
  f169 := Try.func44.trans (congrArg some (by kernel_rfl))
  t0 := Try.underlying0
  a0 := Try.isAgg0
  z0 := Try.sizeOf0
  v0 := Try.zeroValue0
  t3 := Try.underlying3
  a3 := Try.isAgg3
  z3 := Try.sizeOf3
  v3 := Try.zeroValue3
  t9 := Try.underlying9
  a9 := Try.isAgg9
  z9 := Try.sizeOf9
  v9 := Try.zeroValue9
  t37 := Try.underlying61
  a37 := Try.isAgg61
  z37 := Try.sizeOf61
  v37 := Try.zeroValue61
  t70 := Try.underlying60
  a70 := Try.isAgg60
  z70 := Try.sizeOf60
  v70 := Try.zeroValue60
  t72 := Try.underlying63
  a72 := Try.isAgg63
  z72 := Try.sizeOf63
  v72 := Try.zeroValue63
  t127 := Try.underlying71
  a127 := Try.isAgg71
  z127 := Try.sizeOf71
  v127 := Try.zeroValue71 }
theorem Try.Builder_Extra_169 : Builder.Extra Try.prog Try.lays169_ren := {
  sizeBuilder := by kernel_rfl
  liesBuilder := by kernel_rfl
  t5 := Try.underlying5
  a5 := Try.isAgg5
  z5 := Try.sizeOf5
  v5 := Try.zeroValue5
  infoByte := by kernel_rfl
  cellsByte := by kernel_rfl
  sizeByte := by kernel_rfl
  neB5 := by decide }
open Go.RowKit in
theorem Try.Builder_String_any_k (B b : Nat) (l : List UInt8) (w : World) (h : Lib.IsBuilderF 63 5 B b (Lib.byteCells l) w) (hBw : B ≤ w.heap.size) :
    Calls Try.prog 44 #[.pointer (some ⟨b, 0, none⟩)] w fun e w' => e = .returned (.string ⟨l.toArray⟩) ∧ (Lib.IsBuilderF 63 5 B b (Lib.byteCells l) w' ∧ Below B w w' ∧ Lib.OthersKept 5 (some b) w w') := Any.Builder_String_any_k Try.lays169 Try.Builder_Extra_169 B b l w h hBw
def Try.lays143_ren : Go.Shelf.Ren := ⟨fun | 143 => 43 | 219 => 50 | 217 => 55 | 225 => 56 | 224 => 57 | 267 => 58 | 266 => 60 | 314 => 61 | n => n, fun | 9 => 9 | 3 => 3 | 4 => 4 | 5 => 5 | 46 => 76 | 146 => 80 | 51 => 79 | n => n, fun | 1 => 0 | n => n⟩
theorem Try.lays143 : Go.Proofs.Lays.n143 Try.prog Try.lays143_ren := {
  mixed := by kernel_rfl
  f143 := Try.func43.trans (congrArg some (by kernel_rfl))
  f217 := Try.func55.trans (congrArg some (by kernel_rfl))
  f219 := Try.func50.trans (congrArg some (by kernel_rfl))
  f224 := Try.func57.trans (congrArg some (by kernel_rfl))
  f225 := Try.func56.trans (congrArg some (by kernel_rfl))
  f266 := Try.func60.trans (congrArg some (by kernel_rfl))
  f267 := Try.func58.trans (congrArg some (by kernel_rfl))
  f314 := Try.func61.trans (congrArg some (by kernel_rfl))
  t3 := Try.underlying3
  a3 := Try.isAgg3
  z3 := Try.sizeOf3
  v3 := Try.zeroValue3
  t4 := Try.underlying4
  a4 := Try.isAgg4
  z4 := Try.sizeOf4
  v4 := Try.zeroValue4
  t5 := Try.underlying5
  a5 := Try.isAgg5
  z5 := Try.sizeOf5
  v5 := Try.zeroValue5
  t9 := Try.underlying9
  a9 := Try.isAgg9
  z9 := Try.sizeOf9
  v9 := Try.zeroValue9
  t46 := Try.underlying76
  a46 := Try.isAgg76
  z46 := Try.sizeOf76
  v46 := Try.zeroValue76
  t51 := Try.underlying79
  a51 := Try.isAgg79
  z51 := Try.sizeOf79
  v51 := Try.zeroValue79
  t146 := Try.underlying80
  a146 := Try.isAgg80
  z146 := Try.sizeOf80
  v146 := Try.zeroValue80
  g1 := by kernel_rfl }
open Go.RowKit Go.Lib in
theorem Try.strings_Index (s sub : ByteArray) (m : Int) (w : World) (hs : s.size < 4294967281) (hm : w.cell? ⟨0, 0, none⟩ = some (.int .i64 m)) :
    Calls Try.prog 43 #[.string s, .string sub] w fun e w' => e = .returned (.int .i64 (Lib.index s.data.toList sub.data.toList)) ∧ w' = w := Any.strings_Index Try.lays143 s sub m w hs hm
def Try.laysM143_ren : Go.Shelf.Ren := ⟨fun | 143 => 43 | 219 => 50 | 217 => 55 | 225 => 56 | 224 => 57 | 267 => 58 | 266 => 60 | 314 => 61 | n => n, fun | 9 => 9 | 3 => 3 | 4 => 4 | 5 => 5 | 46 => 76 | 146 => 80 | 51 => 79 | n => n, fun | 1 => 0 | n => n⟩
theorem Try.laysM143 : Go.Proofs.LaysM.n143 Try.prog Try.laysM143_ren := {
  mixed := by kernel_rfl
  f143 := Try.func43.trans (congrArg some (by kernel_rfl))
  f217 := Try.func55.trans (congrArg some (by kernel_rfl))
  f219 := Try.func50.trans (congrArg some (by kernel_rfl))
  f224 := Try.func57.trans (congrArg some (by kernel_rfl))
  f225 := Try.func56.trans (congrArg some (by kernel_rfl))
  f266 := Try.func60.trans (congrArg some (by kernel_rfl))
  f267 := Try.func58.trans (congrArg some (by kernel_rfl))
  f314 := Try.func61.trans (congrArg some (by kernel_rfl))
  t3 := Try.underlying3
  a3 := Try.isAgg3
  z3 := Try.sizeOf3
  v3 := Try.zeroValue3
  t4 := Try.underlying4
  a4 := Try.isAgg4
  z4 := Try.sizeOf4
  v4 := Try.zeroValue4
  t5 := Try.underlying5
  a5 := Try.isAgg5
  z5 := Try.sizeOf5
  v5 := Try.zeroValue5
  t9 := Try.underlying9
  a9 := Try.isAgg9
  z9 := Try.sizeOf9
  v9 := Try.zeroValue9
  t46 := Try.underlying76
  a46 := Try.isAgg76
  z46 := Try.sizeOf76
  v46 := Try.zeroValue76
  t51 := Try.underlying79
  a51 := Try.isAgg79
  z51 := Try.sizeOf79
  v51 := Try.zeroValue79
  t146 := Try.underlying80
  a146 := Try.isAgg80
  z146 := Try.sizeOf80
  v146 := Try.zeroValue80
  g1 := by kernel_rfl
  i3 := by kernel_rfl
  i4 := by kernel_rfl
  i5 := by kernel_rfl
  i9 := by kernel_rfl
  i46 := by kernel_rfl
  i51 := by kernel_rfl
  i146 := by kernel_rfl
  m1 := by kernel_rfl
  s1_3 := fun w h => Go.Proofs.cell_of_shapedOpen_int (zero := #[.int .i64 0]) (t := 3) h (of_decide_eq_true (by kernel_rfl)) (by kernel_rfl) rfl (by kernel_rfl) (by kernel_rfl) Try.underlying3 }
open Go.RowKit Go.Lib in
theorem Try.strings_Index_shaped (s sub : ByteArray) (w : World) (h : w.ShapedOpen Try.prog) (hs : s.size < 4294967281) :
    Calls Try.prog 43 #[.string s, .string sub] w fun e w' => e = .returned (.int .i64 (Lib.index s.data.toList sub.data.toList)) ∧ w' = w := Any.strings_Index_shaped Try.laysM143 s sub w h hs
def Try.lays99_ren : Go.Shelf.Ren := ⟨fun | 99 => 47 | 206 => 52 | n => n, fun | 9 => 9 | 4 => 4 | 3 => 3 | n => n, fun | n => n⟩
theorem Try.lays99 : Go.Proofs.Lays.n99 Try.prog Try.lays99_ren := {
  mixed := by kernel_rfl
  f99 := Try.func47.trans (congrArg some (by kernel_rfl))
  f206 := Try.func52.trans (congrArg some (by kernel_rfl))
  t3 := Try.underlying3
  a3 := Try.isAgg3
  z3 := Try.sizeOf3
  v3 := Try.zeroValue3
  t4 := Try.underlying4
  a4 := Try.isAgg4
  z4 := Try.sizeOf4
  v4 := Try.zeroValue4
  t9 := Try.underlying9
  a9 := Try.isAgg9
  z9 := Try.sizeOf9
  v9 := Try.zeroValue9 }
open Go.RowKit Go.Lib in
theorem Try.strings_HasPrefix (s p : ByteArray) (w : World) :
    Calls Try.prog 47 #[.string s, .string p] w fun e w' => e = .returned (.bool (Lib.hasPrefix s.data.toList p.data.toList)) ∧ w' = w := Any.strings_HasPrefix Try.lays99 s p w
def Try.lays166_ren : Go.Shelf.Ren := ⟨fun | 166 => 46 | 240 => 51 | 276 => 59 | n => n, fun | 70 => 60 | 0 => 0 | 72 => 63 | 37 => 61 | 4 => 4 | 164 => 77 | 9 => 9 | 20 => 20 | 5 => 5 | 3 => 3 | 75 => 67 | 80 => 65 | n => n, fun | n => n⟩
theorem Try.lays166 : Go.Proofs.Lays.n166 Try.prog Try.lays166_ren := {
  mixed := by kernel_rfl
  f166 := Try.func46.trans (congrArg some (by kernel_rfl))
  f240 := Try.func51.trans (congrArg some (by kernel_rfl))
  f276 := Try.func59.trans (congrArg some (by kernel_rfl))
  t0 := Try.underlying0
  a0 := Try.isAgg0
  z0 := Try.sizeOf0
  v0 := Try.zeroValue0
  t3 := Try.underlying3
  a3 := Try.isAgg3
  z3 := Try.sizeOf3
  v3 := Try.zeroValue3
  t4 := Try.underlying4
  a4 := Try.isAgg4
  z4 := Try.sizeOf4
  v4 := Try.zeroValue4
  t9 := Try.underlying9
  a9 := Try.isAgg9
  z9 := Try.sizeOf9
  v9 := Try.zeroValue9
  t20 := Try.underlying20
  a20 := Try.isAgg20
  z20 := Try.sizeOf20
  v20 := Try.zeroValue20
  t37 := Try.underlying61
  a37 := Try.isAgg61
  z37 := Try.sizeOf61
  v37 := Try.zeroValue61
  t70 := Try.underlying60
  a70 := Try.isAgg60
  z70 := Try.sizeOf60
  v70 := Try.zeroValue60
  t72 := Try.underlying63
  a72 := Try.isAgg63
  z72 := Try.sizeOf63
  v72 := Try.zeroValue63
  t75 := Try.underlying67
  a75 := Try.isAgg67
  z75 := Try.sizeOf67
  v75 := Try.zeroValue67
  t164 := Try.underlying77
  a164 := Try.isAgg77
  z164 := Try.sizeOf77
  v164 := Try.zeroValue77 }
theorem Try.Builder_Extra_166 : Builder.Extra Try.prog Try.lays166_ren := {
  sizeBuilder := by kernel_rfl
  liesBuilder := by kernel_rfl
  t5 := Try.underlying5
  a5 := Try.isAgg5
  z5 := Try.sizeOf5
  v5 := Try.zeroValue5
  infoByte := by kernel_rfl
  cellsByte := by kernel_rfl
  sizeByte := by kernel_rfl
  neB5 := by decide }
def Try.lays167_ren : Go.Shelf.Ren := ⟨fun | 167 => 45 | 240 => 51 | 276 => 59 | n => n, fun | 70 => 60 | 0 => 0 | 72 => 63 | 37 => 61 | 4 => 4 | 164 => 77 | 9 => 9 | 20 => 20 | 5 => 5 | 3 => 3 | 75 => 67 | 80 => 65 | n => n, fun | n => n⟩
theorem Try.lays167 : Go.Proofs.Lays.n167 Try.prog Try.lays167_ren := {
  mixed := by kernel_rfl
  f167 := Try.func45.trans (congrArg some (by kernel_rfl))
  f240 := Try.func51.trans (congrArg some (by kernel_rfl))
  f276 := Try.func59.trans (congrArg some (by kernel_rfl))
  t0 := Try.underlying0
  a0 := Try.isAgg0
  z0 := Try.sizeOf0
  v0 := Try.zeroValue0
  t4 := Try.underlying4
  a4 := Try.isAgg4
  z4 := Try.sizeOf4
  v4 := Try.zeroValue4
  t5 := Try.underlying5
  a5 := Try.isAgg5
  z5 := Try.sizeOf5
  v5 := Try.zeroValue5
  t9 := Try.underlying9
  a9 := Try.isAgg9
  z9 := Try.sizeOf9
  v9 := Try.zeroValue9
  t20 := Try.underlying20
  a20 := Try.isAgg20
  z20 := Try.sizeOf20
  v20 := Try.zeroValue20
  t37 := Try.underlying61
  a37 := Try.isAgg61
  z37 := Try.sizeOf61
  v37 := Try.zeroValue61
  t70 := Try.underlying60
  a70 := Try.isAgg60
  z70 := Try.sizeOf60
  v70 := Try.zeroValue60
  t72 := Try.underlying63
  a72 := Try.isAgg63
  z72 := Try.sizeOf63
  v72 := Try.zeroValue63
  t75 := Try.underlying67
  a75 := Try.isAgg67
  z75 := Try.sizeOf67
  v75 := Try.zeroValue67
  t164 := Try.underlying77
  a164 := Try.isAgg77
  z164 := Try.sizeOf77
  v164 := Try.zeroValue77 }
theorem Try.Builder_Extra_167 : Builder.Extra Try.prog Try.lays167_ren := {
  sizeBuilder := by kernel_rfl
  liesBuilder := by kernel_rfl
  t5 := Try.underlying5
  a5 := Try.isAgg5
  z5 := Try.sizeOf5
  v5 := Try.zeroValue5
  infoByte := by kernel_rfl
  cellsByte := by kernel_rfl
  sizeByte := by kernel_rfl
  neB5 := by decide }
open Go.RowKit in
theorem Try.Builder_WriteString_k (B b : Nat) (bs : List Value) (s : ByteArray) (w : World) (h : Lib.IsBuilderF 63 5 B b bs w) (hlen : bs.length + s.size ≤ 140737488355328) (hBw : B ≤ w.heap.size) :
    Calls Try.prog 46 #[.pointer (some ⟨b, 0, none⟩), .string s] w fun e w' => e = .returned (.tuple #[.int .i64 s.size, .nilIface]) ∧ (Lib.BuilderAtF 63 5 B b (.pointer (some ⟨b, 0, none⟩)) (bs ++ Lib.strCells s) w' ∧ Below B w w' ∧ Lib.OthersKept 5 (some b) w w') := Any.Builder_WriteString_k Try.lays166 Try.Builder_Extra_166 B b bs s w h hlen hBw
open Go.RowKit in
theorem Try.Builder_WriteByte_k (B b : Nat) (bs : List Value) (c : Int) (w : World) (h : Lib.IsBuilderF 63 5 B b bs w) (hlen : bs.length + 1 ≤ 140737488355328) (hBw : B ≤ w.heap.size) :
    Calls Try.prog 45 #[.pointer (some ⟨b, 0, none⟩), .int .u8 c] w fun e w' => e = .returned .nilIface ∧ (Lib.BuilderAtF 63 5 B b (.pointer (some ⟨b, 0, none⟩)) (bs ++ [.int .u8 c]) w' ∧ Below B w w' ∧ Lib.OthersKept 5 (some b) w w') := Any.Builder_WriteByte_k Try.lays167 Try.Builder_Extra_167 B b bs c w h hlen hBw
end Go.Proofs
