/-
  The shelf's contracts for (*strings.Builder).String and strings.Fields, laid at this program by the kit's own tools (lay-shelf.mjs, lay-plain.mjs); the rest of what they print is left out.
-/
import Derived.Shelf.Strings.Builder1
import Derived.Shelf.Strings.Fields
import Derived.Test.YbulkdefyFmtProg
namespace Go.Proofs
open Go.Shelf
def Ybaf.lays169_ren : Go.Shelf.Ren := ⟨fun | 169 => 8 | n => n, fun | 70 => 31 | 9 => 9 | 0 => 0 | 72 => 33 | 37 => 28 | 127 => 61 | 3 => 3 | 5 => 5 | n => n, fun | n => n⟩
theorem Ybaf.lays169 : Go.Proofs.Lays.n169 Ybaf.prog Ybaf.lays169_ren := {
  mixed := by kernel_rfl
  f169 := Ybaf.func8.trans (congrArg some (by kernel_rfl))
  t0 := Ybaf.underlying0
  a0 := Ybaf.isAgg0
  z0 := Ybaf.sizeOf0
  v0 := Ybaf.zeroValue0
  t3 := Ybaf.underlying3
  a3 := Ybaf.isAgg3
  z3 := Ybaf.sizeOf3
  v3 := Ybaf.zeroValue3
  t9 := Ybaf.underlying9
  a9 := Ybaf.isAgg9
  z9 := Ybaf.sizeOf9
  v9 := Ybaf.zeroValue9
  t37 := Ybaf.underlying28
  a37 := Ybaf.isAgg28
  z37 := Ybaf.sizeOf28
  v37 := Ybaf.zeroValue28
  t70 := Ybaf.underlying31
  a70 := Ybaf.isAgg31
  z70 := Ybaf.sizeOf31
  v70 := Ybaf.zeroValue31
  t72 := Ybaf.underlying33
  a72 := Ybaf.isAgg33
  z72 := Ybaf.sizeOf33
  v72 := Ybaf.zeroValue33
  t127 := Ybaf.underlying61
  a127 := Ybaf.isAgg61
  z127 := Ybaf.sizeOf61
  v127 := Ybaf.zeroValue61 }
theorem Ybaf.Builder_Extra_169 : Builder.Extra Ybaf.prog Ybaf.lays169_ren := {
  sizeBuilder := by kernel_rfl
  liesBuilder := by kernel_rfl
  t5 := Ybaf.underlying5
  a5 := Ybaf.isAgg5
  z5 := Ybaf.sizeOf5
  v5 := Ybaf.zeroValue5
  infoByte := by kernel_rfl
  cellsByte := by kernel_rfl
  sizeByte := by kernel_rfl
  neB5 := by decide }
open Go.RowKit in
/-- (*strings.Builder).String, by the shelf. -/
theorem Ybaf.Builder_String (B b : Nat) (l : List UInt8) (w : World) (h : Lib.IsBuilder 33 5 B b (Lib.byteCells l) w) (h0 : l ≠ []) :
    Calls Ybaf.prog 8 #[.pointer (some ⟨b, 0, none⟩)] w fun e w' => e = .returned (.string ⟨l.toArray⟩) ∧ Below B w w' := Any.Builder_String Ybaf.lays169 Ybaf.Builder_Extra_169 B b l w h h0
open Go.RowKit in
/-- (*strings.Builder).String, by the shelf. -/
theorem Ybaf.Builder_String_empty (B b : Nat) (w : World) (h : Lib.IsBuilder 33 5 B b [] w) (hBw : B ≤ w.heap.size) :
    Calls Ybaf.prog 8 #[.pointer (some ⟨b, 0, none⟩)] w fun e w' => e = .returned (.string ⟨#[]⟩) ∧ Below B w w' := Any.Builder_String_empty Ybaf.lays169 Ybaf.Builder_Extra_169 B b w h hBw
open Go.RowKit in
/-- (*strings.Builder).String, by the shelf. -/
theorem Ybaf.Builder_String_any (B b : Nat) (l : List UInt8) (w : World) (h : Lib.IsBuilder 33 5 B b (Lib.byteCells l) w) (hBw : B ≤ w.heap.size) :
    Calls Ybaf.prog 8 #[.pointer (some ⟨b, 0, none⟩)] w fun e w' => e = .returned (.string ⟨l.toArray⟩) ∧ Below B w w' := Any.Builder_String_any Ybaf.lays169 Ybaf.Builder_Extra_169 B b l w h hBw
def Ybaf.lays157_ren : Go.Shelf.Ren := ⟨fun | 157 => 16 | 229 => 22 | 199 => 23 | 261 => 28 | 311 => 36 | 312 => 37 | n => n, fun | 9 => 9 | 31 => 27 | 3 => 3 | 5 => 5 | 4 => 4 | 119 => 67 | 0 => 0 | 40 => 69 | 152 => 71 | 21 => 21 | 154 => 73 | 51 => 29 | 141 => 75 | 196 => 82 | 193 => 79 | 198 => 85 | 49 => 83 | 194 => 80 | 201 => 88 | 226 => 93 | 46 => 26 | 227 => 94 | n => n, fun | 0 => 0 | 6 => 1 | n => n⟩
theorem Ybaf.lays157 : Go.Proofs.Lays.n157 Ybaf.prog Ybaf.lays157_ren := {
  mixed := by kernel_rfl
  f157 := Ybaf.func16.trans (congrArg some (by kernel_rfl))
  f199 := Ybaf.func23.trans (congrArg some (by kernel_rfl))
  f229 := Ybaf.func22.trans (congrArg some (by kernel_rfl))
  f261 := Ybaf.func28.trans (congrArg some (by kernel_rfl))
  f311 := Ybaf.func36.trans (congrArg some (by kernel_rfl))
  f312 := Ybaf.func37.trans (congrArg some (by kernel_rfl))
  t0 := Ybaf.underlying0
  a0 := Ybaf.isAgg0
  z0 := Ybaf.sizeOf0
  v0 := Ybaf.zeroValue0
  t3 := Ybaf.underlying3
  a3 := Ybaf.isAgg3
  z3 := Ybaf.sizeOf3
  v3 := Ybaf.zeroValue3
  t4 := Ybaf.underlying4
  a4 := Ybaf.isAgg4
  z4 := Ybaf.sizeOf4
  v4 := Ybaf.zeroValue4
  t5 := Ybaf.underlying5
  a5 := Ybaf.isAgg5
  z5 := Ybaf.sizeOf5
  v5 := Ybaf.zeroValue5
  t9 := Ybaf.underlying9
  a9 := Ybaf.isAgg9
  z9 := Ybaf.sizeOf9
  v9 := Ybaf.zeroValue9
  t21 := Ybaf.underlying21
  a21 := Ybaf.isAgg21
  z21 := Ybaf.sizeOf21
  v21 := Ybaf.zeroValue21
  t31 := Ybaf.underlying27
  a31 := Ybaf.isAgg27
  z31 := Ybaf.sizeOf27
  v31 := Ybaf.zeroValue27
  t40 := Ybaf.underlying69
  a40 := Ybaf.isAgg69
  z40 := Ybaf.sizeOf69
  v40 := Ybaf.zeroValue69
  t46 := Ybaf.underlying26
  a46 := Ybaf.isAgg26
  z46 := Ybaf.sizeOf26
  v46 := Ybaf.zeroValue26
  t49 := Ybaf.underlying83
  a49 := Ybaf.isAgg83
  z49 := Ybaf.sizeOf83
  v49 := Ybaf.zeroValue83
  t51 := Ybaf.underlying29
  a51 := Ybaf.isAgg29
  z51 := Ybaf.sizeOf29
  v51 := Ybaf.zeroValue29
  t119 := Ybaf.underlying67
  a119 := Ybaf.isAgg67
  z119 := Ybaf.sizeOf67
  t141 := Ybaf.underlying75
  a141 := Ybaf.isAgg75
  z141 := Ybaf.sizeOf75
  v141 := Ybaf.zeroValue75
  t152 := Ybaf.underlying71
  a152 := Ybaf.isAgg71
  z152 := Ybaf.sizeOf71
  v152 := Ybaf.zeroValue71
  t154 := Ybaf.underlying73
  a154 := Ybaf.isAgg73
  z154 := Ybaf.sizeOf73
  v154 := Ybaf.zeroValue73
  t193 := Ybaf.underlying79
  a193 := Ybaf.isAgg79
  z193 := Ybaf.sizeOf79
  v193 := Ybaf.zeroValue79
  t194 := Ybaf.underlying80
  a194 := Ybaf.isAgg80
  z194 := Ybaf.sizeOf80
  v194 := Ybaf.zeroValue80
  t196 := Ybaf.underlying82
  a196 := Ybaf.isAgg82
  z196 := Ybaf.sizeOf82
  v196 := Ybaf.zeroValue82
  t198 := Ybaf.underlying85
  a198 := Ybaf.isAgg85
  z198 := Ybaf.sizeOf85
  v198 := Ybaf.zeroValue85
  t201 := Ybaf.underlying88
  a201 := Ybaf.isAgg88
  z201 := Ybaf.sizeOf88
  v201 := Ybaf.zeroValue88
  t226 := Ybaf.underlying93
  a226 := Ybaf.isAgg93
  z226 := Ybaf.sizeOf93
  v226 := Ybaf.zeroValue93
  t227 := Ybaf.underlying94
  a227 := Ybaf.isAgg94
  z227 := Ybaf.sizeOf94
  v227 := Ybaf.zeroValue94
  g0 := by kernel_rfl
  g6 := by kernel_rfl }
open Go.RowKit Go.Lib in
/-- strings.Fields, the table by 'Lib.TabIs' (as strings.TrimSpace's contract). 'hg': the table's number, by its name: at a dump 'by kernel_rfl'. (LAID: no walk: one application.) -/
theorem Ybaf.strings_Fields (s : ByteArray) (w : World) (hs : s.size < 4294967281) (hascii : ∀ (j : Nat) b, s.data.toList[j]? = some b → b.toNat < 128) (htab : Lib.TabIs Ybaf.prog w "strings.asciiSpace" .u8 Lib.asciiSpaceTab) :
    Calls Ybaf.prog 16 #[.string s] w fun e w' =>
      e = .returned (.slice (some ⟨w.heap.size, 0, none⟩) (Lib.fields s.data.toList).length (Lib.fields s.data.toList).length) ∧ w' = w.alloc (.cells ((Lib.fields s.data.toList).map fun l => Value.string ⟨l.toArray⟩).toArray 9) := Any.strings_Fields Ybaf.lays157 (by kernel_rfl) (by kernel_rfl) s w hs hascii htab

end Go.Proofs
