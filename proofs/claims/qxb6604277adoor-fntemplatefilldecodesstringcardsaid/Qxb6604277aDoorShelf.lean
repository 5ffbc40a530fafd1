/-
  DERIVED: THE SHELF's CONTRACTS AT THIS DUMP, IN PLAIN WORDS (tools/lay-plain.mjs out of 'TrydShelf.lean', which tools/lay-shelf.mjs wrote): THE SAME DECLARATIONS UNDER THE SAME NAMES: 'import', 'namespace', 'open', 'def', 'theorem' AND NOTHING ELSE: no command of the shelf's: FOR A HAND-IN. Each laying: the table of numbers ('.._ren') and one theorem, a field a fact of the dump's own or the kernel's comparison; each contract: ONE APPLICATION.
-/
import Derived.Shelf.Strings.Builder1
import Derived.Shelf.Strings.Replace
import Derived.Test.Qxb6604277aDoorProg
namespace Go.Proofs
open Go.Shelf
def Tryd.lays169_ren : Go.Shelf.Ren := ⟨fun | 169 => 19 | n => n, fun | 70 => 42 | 9 => 9 | 0 => 0 | 72 => 44 | 37 => 30 | 127 => 51 | 3 => 3 | 5 => 5 | n => n, fun | n => n⟩
theorem Tryd.lays169 : Go.Proofs.Lays.n169 Tryd.prog Tryd.lays169_ren := {
  mixed := by kernel_rfl
  f169 := Tryd.func19.trans (congrArg some (by kernel_rfl))
  t0 := Tryd.underlying0
  a0 := Tryd.isAgg0
  z0 := Tryd.sizeOf0
  v0 := Tryd.zeroValue0
  t3 := Tryd.underlying3
  a3 := Tryd.isAgg3
  z3 := Tryd.sizeOf3
  v3 := Tryd.zeroValue3
  t9 := Tryd.underlying9
  a9 := Tryd.isAgg9
  z9 := Tryd.sizeOf9
  v9 := Tryd.zeroValue9
  t37 := Tryd.underlying30
  a37 := Tryd.isAgg30
  z37 := Tryd.sizeOf30
  v37 := Tryd.zeroValue30
  t70 := Tryd.underlying42
  a70 := Tryd.isAgg42
  z70 := Tryd.sizeOf42
  v70 := Tryd.zeroValue42
  t72 := Tryd.underlying44
  a72 := Tryd.isAgg44
  z72 := Tryd.sizeOf44
  v72 := Tryd.zeroValue44
  t127 := Tryd.underlying51
  a127 := Tryd.isAgg51
  z127 := Tryd.sizeOf51
  v127 := Tryd.zeroValue51 }
theorem Tryd.Builder_Extra_169 : Builder.Extra Tryd.prog Tryd.lays169_ren := {
  sizeBuilder := by kernel_rfl
  liesBuilder := by kernel_rfl
  t5 := Tryd.underlying5
  a5 := Tryd.isAgg5
  z5 := Tryd.sizeOf5
  v5 := Tryd.zeroValue5
  infoByte := by kernel_rfl
  cellsByte := by kernel_rfl
  sizeByte := by kernel_rfl
  neB5 := by decide }
open Go.RowKit in
/-- (*strings.Builder).String: "String returns the accumulated string.": WHATEVER THE BUILDER HOLDS. (LAID: no walk: one application.) -/
theorem Tryd.Builder_String_any (B b : Nat) (l : List UInt8) (w : World) (h : Lib.IsBuilder 44 5 B b (Lib.byteCells l) w) (hBw : B ≤ w.heap.size) :
    Calls Tryd.prog 19 #[.pointer (some ⟨b, 0, none⟩)] w fun e w' => e = .returned (.string ⟨l.toArray⟩) ∧ Below B w w' := Any.Builder_String_any Tryd.lays169 Tryd.Builder_Extra_169 B b l w h hBw
def Tryd.lays155_ren : Go.Shelf.Ren := ⟨fun | 155 => 18 | 154 => 22 | 138 => 26 | 165 => 27 | 143 => 28 | 166 => 17 | 197 => 29 | 169 => 19 | 195 => 30 | 218 => 31 | 240 => 21 | 241 => 32 | 219 => 33 | 260 => 34 | 276 => 25 | 277 => 35 | 217 => 36 | 225 => 37 | 224 => 38 | 267 => 39 | 266 => 40 | 314 => 41 | n => n, fun | 9 => 9 | 3 => 3 | 4 => 4 | 72 => 44 | 0 => 0 | 76 => 47 | 105 => 57 | 21 => 21 | 5 => 5 | 70 => 42 | 20 => 20 | 37 => 30 | 75 => 46 | 127 => 51 | 164 => 53 | 46 => 63 | 119 => 64 | 139 => 67 | 138 => 66 | 146 => 69 | 51 => 68 | 80 => 29 | n => n, fun | 1 => 0 | 3 => 1 | 4 => 2 | n => n⟩
theorem Tryd.lays155 : Go.Proofs.Lays.n155 Tryd.prog Tryd.lays155_ren := {
  mixed := by kernel_rfl
  f138 := Tryd.func26.trans (congrArg some (by kernel_rfl))
  f143 := Tryd.func28.trans (congrArg some (by kernel_rfl))
  f154 := Tryd.func22.trans (congrArg some (by kernel_rfl))
  f155 := Tryd.func18.trans (congrArg some (by kernel_rfl))
  f165 := Tryd.func27.trans (congrArg some (by kernel_rfl))
  f166 := Tryd.func17.trans (congrArg some (by kernel_rfl))
  f169 := Tryd.func19.trans (congrArg some (by kernel_rfl))
  f195 := Tryd.func30.trans (congrArg some (by kernel_rfl))
  f197 := Tryd.func29.trans (congrArg some (by kernel_rfl))
  f217 := Tryd.func36.trans (congrArg some (by kernel_rfl))
  f218 := Tryd.func31.trans (congrArg some (by kernel_rfl))
  f219 := Tryd.func33.trans (congrArg some (by kernel_rfl))
  f224 := Tryd.func38.trans (congrArg some (by kernel_rfl))
  f225 := Tryd.func37.trans (congrArg some (by kernel_rfl))
  f240 := Tryd.func21.trans (congrArg some (by kernel_rfl))
  f241 := Tryd.func32.trans (congrArg some (by kernel_rfl))
  f260 := Tryd.func34.trans (congrArg some (by kernel_rfl))
  f266 := Tryd.func40.trans (congrArg some (by kernel_rfl))
  f267 := Tryd.func39.trans (congrArg some (by kernel_rfl))
  f276 := Tryd.func25.trans (congrArg some (by kernel_rfl))
  f277 := Tryd.func35.trans (congrArg some (by kernel_rfl))
  f314 := Tryd.func41.trans (congrArg some (by kernel_rfl))
  t0 := Tryd.underlying0
  a0 := Tryd.isAgg0
  z0 := Tryd.sizeOf0
  v0 := Tryd.zeroValue0
  t3 := Tryd.underlying3
  a3 := Tryd.isAgg3
  z3 := Tryd.sizeOf3
  v3 := Tryd.zeroValue3
  t4 := Tryd.underlying4
  a4 := Tryd.isAgg4
  z4 := Tryd.sizeOf4
  v4 := Tryd.zeroValue4
  t5 := Tryd.underlying5
  a5 := Tryd.isAgg5
  z5 := Tryd.sizeOf5
  v5 := Tryd.zeroValue5
  t9 := Tryd.underlying9
  a9 := Tryd.isAgg9
  z9 := Tryd.sizeOf9
  v9 := Tryd.zeroValue9
  t20 := Tryd.underlying20
  a20 := Tryd.isAgg20
  z20 := Tryd.sizeOf20
  v20 := Tryd.zeroValue20
  t21 := Tryd.underlying21
  a21 := Tryd.isAgg21
  z21 := Tryd.sizeOf21
  v21 := Tryd.zeroValue21
  t37 := Tryd.underlying30
  a37 := Tryd.isAgg30
  z37 := Tryd.sizeOf30
  v37 := Tryd.zeroValue30
  t46 := Tryd.underlying63
  a46 := Tryd.isAgg63
  z46 := Tryd.sizeOf63
  v46 := Tryd.zeroValue63
  t51 := Tryd.underlying68
  a51 := Tryd.isAgg68
  z51 := Tryd.sizeOf68
  v51 := Tryd.zeroValue68
  t70 := Tryd.underlying42
  a70 := Tryd.isAgg42
  z70 := Tryd.sizeOf42
  v70 := Tryd.zeroValue42
  t72 := Tryd.underlying44
  a72 := Tryd.isAgg44
  z72 := Tryd.sizeOf44
  v72 := Tryd.zeroValue44
  t75 := Tryd.underlying46
  a75 := Tryd.isAgg46
  z75 := Tryd.sizeOf46
  v75 := Tryd.zeroValue46
  t76 := Tryd.underlying47
  a76 := Tryd.isAgg47
  z76 := Tryd.sizeOf47
  v76 := Tryd.zeroValue47
  t105 := Tryd.underlying57
  a105 := Tryd.isAgg57
  z105 := Tryd.sizeOf57
  v105 := Tryd.zeroValue57
  t119 := Tryd.underlying64
  a119 := Tryd.isAgg64
  z119 := Tryd.sizeOf64
  t127 := Tryd.underlying51
  a127 := Tryd.isAgg51
  z127 := Tryd.sizeOf51
  v127 := Tryd.zeroValue51
  t138 := Tryd.underlying66
  a138 := Tryd.isAgg66
  z138 := Tryd.sizeOf66
  v138 := Tryd.zeroValue66
  t139 := Tryd.underlying67
  a139 := Tryd.isAgg67
  z139 := Tryd.sizeOf67
  v139 := Tryd.zeroValue67
  t146 := Tryd.underlying69
  a146 := Tryd.isAgg69
  z146 := Tryd.sizeOf69
  v146 := Tryd.zeroValue69
  t164 := Tryd.underlying53
  a164 := Tryd.isAgg53
  z164 := Tryd.sizeOf53
  v164 := Tryd.zeroValue53
  g1 := by kernel_rfl
  g3 := by kernel_rfl
  g4 := by kernel_rfl }
theorem Tryd.Builder_Extra_155 : Builder.Extra Tryd.prog Tryd.lays155_ren := {
  sizeBuilder := by kernel_rfl
  liesBuilder := by kernel_rfl
  t5 := Tryd.underlying5
  a5 := Tryd.isAgg5
  z5 := Tryd.sizeOf5
  v5 := Tryd.zeroValue5
  infoByte := by kernel_rfl
  cellsByte := by kernel_rfl
  sizeByte := by kernel_rfl
  neB5 := by decide }
open Go.RowKit Go.Lib in
/-- strings.ReplaceAll: "ReplaceAll returns a copy of the string s with all non-overlapping instances of old replaced by new.": AT AN old THAT IS NOT EMPTY: 'Lib.replaceAll s old new'. (LAID: no walk: one application.) -/
theorem Tryd.strings_ReplaceAll (s old new : ByteArray) (m : Int) (w : World) (hs : s.size < 4294967281) (hm : w.cell? ⟨0, 0, none⟩ = some (.int .i64 m)) (h1 : 1 ≤ old.size) (hlen : s.size + Lib.countB s old * new.size ≤ 140737488355328) :
    Calls Tryd.prog 18 #[.string s, .string old, .string new] w fun e w' =>
      e = .returned (.string ⟨(Lib.replaceAll s.data.toList old.data.toList new.data.toList).toArray⟩) ∧ Below w.heap.size w w' := Any.strings_ReplaceAll Tryd.lays155 Tryd.Builder_Extra_155 s old new m w hs hm h1 hlen
open Go.RowKit in
/-- (*strings.Builder).WriteString, out of the closure of ReplaceAll. -/
theorem Tryd.Builder_WriteString (B b : Nat) (bs : List Value) (s : ByteArray) (w : World) (h : Lib.IsBuilder 44 5 B b bs w) (hlen : bs.length + s.size ≤ 140737488355328) (hBw : B ≤ w.heap.size) :
    Calls Tryd.prog 17 #[.pointer (some ⟨b, 0, none⟩), .string s] w fun e w' => e = .returned (.tuple #[.int .i64 s.size, .nilIface]) ∧ (Lib.BuilderAt 44 5 B b (.pointer (some ⟨b, 0, none⟩)) (bs ++ Lib.strCells s) w' ∧ Below B w w') := Any.Builder_WriteString { Tryd.lays155 with } Tryd.Builder_Extra_155 B b bs s w h hlen hBw
end Go.Proofs
