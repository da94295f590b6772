import Derived.Shelf.Strings.Builder1
import Derived.Shelf.Strings.Repeat
import Derived.Test.Qxb6605371aProg
namespace Go.Proofs.Qxb6605371a
open Go.Shelf

def Try.lays105_ren : Go.Shelf.Ren := ⟨fun | 105 => 23 | 212 => 29 | 99 => 27 | 165 => 30 | 166 => 22 | 170 => 31 | 169 => 26 | 263 => 34 | 264 => 35 | 206 => 32 | 240 => 28 | 241 => 36 | 276 => 33 | 277 => 37 | n => n, fun | 9 => 9 | 3 => 3 | 4 => 4 | 20 => 20 | 0 => 0 | 46 => 43 | 109 => 44 | 5 => 5 | 72 => 35 | 76 => 38 | 51 => 51 | 146 => 52 | 53 => 54 | 148 => 55 | 70 => 33 | 37 => 32 | 75 => 37 | 127 => 48 | 164 => 49 | 80 => 42 | n => n, fun | n => n⟩
theorem Try.lays105 : Go.Proofs.Lays.n105 Try.prog Try.lays105_ren := {
  mixed := by kernel_rfl
  f99 := Try.func27.trans (congrArg some (by kernel_rfl))
  f105 := Try.func23.trans (congrArg some (by kernel_rfl))
  f165 := Try.func30.trans (congrArg some (by kernel_rfl))
  f166 := Try.func22.trans (congrArg some (by kernel_rfl))
  f169 := Try.func26.trans (congrArg some (by kernel_rfl))
  f170 := Try.func31.trans (congrArg some (by kernel_rfl))
  f206 := Try.func32.trans (congrArg some (by kernel_rfl))
  f212 := Try.func29.trans (congrArg some (by kernel_rfl))
  f240 := Try.func28.trans (congrArg some (by kernel_rfl))
  f241 := Try.func36.trans (congrArg some (by kernel_rfl))
  f263 := Try.func34.trans (congrArg some (by kernel_rfl))
  f264 := Try.func35.trans (congrArg some (by kernel_rfl))
  f276 := Try.func33.trans (congrArg some (by kernel_rfl))
  f277 := Try.func37.trans (congrArg some (by kernel_rfl))
  t0 := Try.underlying0
  a0 := Try.isAgg0
  z0 := Try.sizeOf0
  v0 := Try.zeroValue0
  t3 := Try.underlying3
  a3 := Try.isAgg3
  z3 := Try.sizeOf3
  v3 := Try.zeroValue3
  t4 := Try.underlying4
  a4 := Try.isAgg4
  z4 := Try.sizeOf4
  v4 := Try.zeroValue4
  t5 := Try.underlying5
  a5 := Try.isAgg5
  z5 := Try.sizeOf5
  v5 := Try.zeroValue5
  t9 := Try.underlying9
  a9 := Try.isAgg9
  z9 := Try.sizeOf9
  v9 := Try.zeroValue9
  t20 := Try.underlying20
  a20 := Try.isAgg20
  z20 := Try.sizeOf20
  v20 := Try.zeroValue20
  t37 := Try.underlying32
  a37 := Try.isAgg32
  z37 := Try.sizeOf32
  v37 := Try.zeroValue32
  t46 := Try.underlying43
  a46 := Try.isAgg43
  z46 := Try.sizeOf43
  v46 := Try.zeroValue43
  t51 := Try.underlying51
  a51 := Try.isAgg51
  z51 := Try.sizeOf51
  v51 := Try.zeroValue51
  t53 := Try.underlying54
  a53 := Try.isAgg54
  z53 := Try.sizeOf54
  v53 := Try.zeroValue54
  t70 := Try.underlying33
  a70 := Try.isAgg33
  z70 := Try.sizeOf33
  v70 := Try.zeroValue33
  t72 := Try.underlying35
  a72 := Try.isAgg35
  z72 := Try.sizeOf35
  v72 := Try.zeroValue35
  t75 := Try.underlying37
  a75 := Try.isAgg37
  z75 := Try.sizeOf37
  v75 := Try.zeroValue37
  t76 := Try.underlying38
  a76 := Try.isAgg38
  z76 := Try.sizeOf38
  v76 := Try.zeroValue38
  t109 := Try.underlying44
  a109 := Try.isAgg44
  z109 := Try.sizeOf44
  v109 := Try.zeroValue44
  t127 := Try.underlying48
  a127 := Try.isAgg48
  z127 := Try.sizeOf48
  v127 := Try.zeroValue48
  t146 := Try.underlying52
  a146 := Try.isAgg52
  z146 := Try.sizeOf52
  v146 := Try.zeroValue52
  t148 := Try.underlying55
  a148 := Try.isAgg55
  z148 := Try.sizeOf55
  v148 := Try.zeroValue55
  t164 := Try.underlying49
  a164 := Try.isAgg49
  z164 := Try.sizeOf49
  v164 := Try.zeroValue49 }
theorem Try.Builder_Extra_105 : Builder.Extra Try.prog Try.lays105_ren := {
  sizeBuilder := by kernel_rfl
  liesBuilder := by kernel_rfl
  t5 := Try.underlying5
  a5 := Try.isAgg5
  z5 := Try.sizeOf5
  v5 := Try.zeroValue5
  infoByte := by kernel_rfl
  cellsByte := by kernel_rfl
  sizeByte := by kernel_rfl
  neB5 := by decide }
def Try.lays167_ren : Go.Shelf.Ren := ⟨fun | 105 => 23 | 167 => 25 | 212 => 29 | 99 => 27 | 165 => 30 | 166 => 22 | 170 => 31 | 169 => 26 | 263 => 34 | 264 => 35 | 206 => 32 | 240 => 28 | 241 => 36 | 276 => 33 | 277 => 37 | n => n, fun | 9 => 9 | 3 => 3 | 4 => 4 | 20 => 20 | 0 => 0 | 46 => 43 | 109 => 44 | 5 => 5 | 72 => 35 | 76 => 38 | 51 => 51 | 146 => 52 | 53 => 54 | 148 => 55 | 70 => 33 | 37 => 32 | 75 => 37 | 127 => 48 | 164 => 49 | 80 => 42 | n => n, fun | n => n⟩
theorem Try.lays167 : Go.Proofs.Lays.n167 Try.prog Try.lays167_ren := {
  mixed := by kernel_rfl
  f167 := Try.func25.trans (congrArg some (by kernel_rfl))
  f240 := Try.func28.trans (congrArg some (by kernel_rfl))
  f276 := Try.func33.trans (congrArg some (by kernel_rfl))
  t0 := Try.underlying0
  a0 := Try.isAgg0
  z0 := Try.sizeOf0
  v0 := Try.zeroValue0
  t4 := Try.underlying4
  a4 := Try.isAgg4
  z4 := Try.sizeOf4
  v4 := Try.zeroValue4
  t5 := Try.underlying5
  a5 := Try.isAgg5
  z5 := Try.sizeOf5
  v5 := Try.zeroValue5
  t9 := Try.underlying9
  a9 := Try.isAgg9
  z9 := Try.sizeOf9
  v9 := Try.zeroValue9
  t20 := Try.underlying20
  a20 := Try.isAgg20
  z20 := Try.sizeOf20
  v20 := Try.zeroValue20
  t37 := Try.underlying32
  a37 := Try.isAgg32
  z37 := Try.sizeOf32
  v37 := Try.zeroValue32
  t70 := Try.underlying33
  a70 := Try.isAgg33
  z70 := Try.sizeOf33
  v70 := Try.zeroValue33
  t72 := Try.underlying35
  a72 := Try.isAgg35
  z72 := Try.sizeOf35
  v72 := Try.zeroValue35
  t75 := Try.underlying37
  a75 := Try.isAgg37
  z75 := Try.sizeOf37
  v75 := Try.zeroValue37
  t164 := Try.underlying49
  a164 := Try.isAgg49
  z164 := Try.sizeOf49
  v164 := Try.zeroValue49 }
theorem Try.Builder_Extra_167 : Builder.Extra Try.prog Try.lays167_ren := {
  sizeBuilder := by kernel_rfl
  liesBuilder := by kernel_rfl
  t5 := Try.underlying5
  a5 := Try.isAgg5
  z5 := Try.sizeOf5
  v5 := Try.zeroValue5
  infoByte := by kernel_rfl
  cellsByte := by kernel_rfl
  sizeByte := by kernel_rfl
  neB5 := by decide }

open Go.RowKit Go.Lib in
theorem Try.strings_Repeat (s : ByteArray) (c : Nat) (w : World) (hc : c ≤ 9223372036854775807) (hlen : s.size * c ≤ 140737488355328) :
    Calls Try.prog 23 #[.string s, .int .i64 c] w fun e w' => e = .returned (.string ⟨(Lib.repeatL s.data.toList c).toArray⟩) ∧ Below w.heap.size w w' := Any.strings_Repeat Try.lays105 Try.Builder_Extra_105 s c w hc hlen

open Go.RowKit Go.Lib in
theorem Try.Builder_WriteString (B b : Nat) (bs : List Value) (s : ByteArray) (w : World) (h : Lib.IsBuilder 35 5 B b bs w) (hlen : bs.length + s.size ≤ 140737488355328) (hBw : B ≤ w.heap.size) :
    Calls Try.prog 22 #[.pointer (some ⟨b, 0, none⟩), .string s] w fun e w' => e = .returned (.tuple #[.int .i64 s.size, .nilIface]) ∧ (Lib.BuilderAt 35 5 B b (.pointer (some ⟨b, 0, none⟩)) (bs ++ Lib.strCells s) w' ∧ Below B w w') :=
  Any.Builder_WriteString { Try.lays105 with } Try.Builder_Extra_105 B b bs s w h hlen hBw

open Go.RowKit Go.Lib in
theorem Try.Builder_WriteByte (B b : Nat) (bs : List Value) (c : Int) (w : World) (h : Lib.IsBuilder 35 5 B b bs w) (hlen : bs.length + 1 ≤ 140737488355328) (hBw : B ≤ w.heap.size) :
    Calls Try.prog 25 #[.pointer (some ⟨b, 0, none⟩), .int .u8 c] w fun e w' => e = .returned .nilIface ∧ (Lib.BuilderAt 35 5 B b (.pointer (some ⟨b, 0, none⟩)) (bs ++ [.int .u8 c]) w' ∧ Below B w w') :=
  Any.Builder_WriteByte Try.lays167 Try.Builder_Extra_167 B b bs c w h hlen hBw

open Go.RowKit Go.Lib in
theorem Try.Builder_String_any (B b : Nat) (l : List UInt8) (w : World) (h : Lib.IsBuilder 35 5 B b (Lib.byteCells l) w) (hBw : B ≤ w.heap.size) :
    Calls Try.prog 26 #[.pointer (some ⟨b, 0, none⟩)] w fun e w' => e = .returned (.string ⟨l.toArray⟩) ∧ Below B w w' :=
  Any.Builder_String_any { Try.lays105 with } Try.Builder_Extra_105 B b l w h hBw

end Go.Proofs.Qxb6605371a
