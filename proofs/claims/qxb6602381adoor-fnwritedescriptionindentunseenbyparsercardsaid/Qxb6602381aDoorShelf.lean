/-
  DERIVED: THE SHELF's CONTRACTS AT THIS DUMP, IN PLAIN WORDS (tools/lay-plain.mjs out of 'TrydShelf2.lean', which tools/lay-shelf.mjs wrote): THE SAME DECLARATIONS UNDER THE SAME NAMES: 'import', 'namespace', 'open', 'def', 'theorem' AND NOTHING ELSE: no command of the shelf's: FOR A HAND-IN. Each laying: the table of numbers ('.._ren') and one theorem, a field a fact of the dump's own or the kernel's comparison; each contract: ONE APPLICATION.
-/
import Derived.Shelf.Strings.Builder1
import Derived.Shelf.Strings.BuilderF
import Derived.Shelf.Strings.BuilderK
import Derived.Shelf.Strings.Search3
import Derived.Shelf.Strings.Prefix
import Derived.Shelf.Strings.Split
import Derived.Shelf.Strings.Replace
import Derived.Test.Qxb6602381aDoorProg
namespace Go.Proofs
open Go.Shelf
def Tryd.lays169_ren : Go.Shelf.Ren := ⟨fun | 169 => 14 | n => n, fun | 70 => 28 | 9 => 9 | 0 => 0 | 72 => 31 | 37 => 29 | 127 => 43 | 3 => 3 | 5 => 5 | n => n, fun | n => n⟩
theorem Tryd.lays169 : Go.Proofs.Lays.n169 Tryd.prog Tryd.lays169_ren := {
  mixed := by kernel_rfl
  f169 := Tryd.func14.trans (congrArg some (by kernel_rfl))
  t0 := Tryd.underlying0
  a0 := Tryd.isAgg0
  z0 := Tryd.sizeOf0
  v0 := Tryd.zeroValue0
  t3 := Tryd.underlying3
  a3 := Tryd.isAgg3
  z3 := Tryd.sizeOf3
  v3 := Tryd.zeroValue3
  t9 := Tryd.underlying9
  a9 := Tryd.isAgg9
  z9 := Tryd.sizeOf9
  v9 := Tryd.zeroValue9
  t37 := Tryd.underlying29
  a37 := Tryd.isAgg29
  z37 := Tryd.sizeOf29
  v37 := Tryd.zeroValue29
  t70 := Tryd.underlying28
  a70 := Tryd.isAgg28
  z70 := Tryd.sizeOf28
  v70 := Tryd.zeroValue28
  t72 := Tryd.underlying31
  a72 := Tryd.isAgg31
  z72 := Tryd.sizeOf31
  v72 := Tryd.zeroValue31
  t127 := Tryd.underlying43
  a127 := Tryd.isAgg43
  z127 := Tryd.sizeOf43
  v127 := Tryd.zeroValue43 }
theorem Tryd.Builder_Extra_169 : Builder.Extra Tryd.prog Tryd.lays169_ren := {
  sizeBuilder := by kernel_rfl
  liesBuilder := by kernel_rfl
  t5 := Tryd.underlying5
  a5 := Tryd.isAgg5
  z5 := Tryd.sizeOf5
  v5 := Tryd.zeroValue5
  infoByte := by kernel_rfl
  cellsByte := by kernel_rfl
  sizeByte := by kernel_rfl
  neB5 := by decide }
open Go.RowKit in
/-- (*strings.Builder).String: "String returns the accumulated string.": WHATEVER THE BUILDER HOLDS; THE FORM '_k': OVER 'Lib.IsBuilderF' (a builder that 'String()' may have read), AND WITH THE FRAME THAT REACHES ABOVE THE BUILDER: 'Lib.OthersKept': every block that is not b and is no row of uint8's stands as it stood: the iterator of a range among them. (LAID: no walk: one application.) -/
theorem Tryd.Builder_String_any_k (B b : Nat) (l : List UInt8) (w : World) (h : Lib.IsBuilderF 31 5 B b (Lib.byteCells l) w) (hBw : B ≤ w.heap.size) :
    Calls Tryd.prog 14 #[.pointer (some ⟨b, 0, none⟩)] w fun e w' => e = .returned (.string ⟨l.toArray⟩) ∧ (Lib.IsBuilderF 31 5 B b (Lib.byteCells l) w' ∧ Below B w w' ∧ Lib.OthersKept 5 (some b) w w') := Any.Builder_String_any_k Tryd.lays169 Tryd.Builder_Extra_169 B b l w h hBw
def Tryd.lays144_ren : Go.Shelf.Ren := ⟨fun | 144 => 20 | 143 => 26 | 219 => 32 | 217 => 38 | 225 => 39 | 224 => 40 | 267 => 41 | 266 => 43 | 314 => 44 | n => n, fun | 9 => 9 | 4 => 4 | 3 => 3 | 5 => 5 | 46 => 58 | 146 => 65 | 51 => 64 | n => n, fun | 1 => 0 | n => n⟩
theorem Tryd.lays144 : Go.Proofs.Lays.n144 Tryd.prog Tryd.lays144_ren := {
  mixed := by kernel_rfl
  f143 := Tryd.func26.trans (congrArg some (by kernel_rfl))
  f144 := Tryd.func20.trans (congrArg some (by kernel_rfl))
  f217 := Tryd.func38.trans (congrArg some (by kernel_rfl))
  f219 := Tryd.func32.trans (congrArg some (by kernel_rfl))
  f224 := Tryd.func40.trans (congrArg some (by kernel_rfl))
  f225 := Tryd.func39.trans (congrArg some (by kernel_rfl))
  f266 := Tryd.func43.trans (congrArg some (by kernel_rfl))
  f267 := Tryd.func41.trans (congrArg some (by kernel_rfl))
  f314 := Tryd.func44.trans (congrArg some (by kernel_rfl))
  t3 := Tryd.underlying3
  a3 := Tryd.isAgg3
  z3 := Tryd.sizeOf3
  v3 := Tryd.zeroValue3
  t4 := Tryd.underlying4
  a4 := Tryd.isAgg4
  z4 := Tryd.sizeOf4
  v4 := Tryd.zeroValue4
  t5 := Tryd.underlying5
  a5 := Tryd.isAgg5
  z5 := Tryd.sizeOf5
  v5 := Tryd.zeroValue5
  t9 := Tryd.underlying9
  a9 := Tryd.isAgg9
  z9 := Tryd.sizeOf9
  v9 := Tryd.zeroValue9
  t46 := Tryd.underlying58
  a46 := Tryd.isAgg58
  z46 := Tryd.sizeOf58
  v46 := Tryd.zeroValue58
  t51 := Tryd.underlying64
  a51 := Tryd.isAgg64
  z51 := Tryd.sizeOf64
  v51 := Tryd.zeroValue64
  t146 := Tryd.underlying65
  a146 := Tryd.isAgg65
  z146 := Tryd.sizeOf65
  v146 := Tryd.zeroValue65
  g1 := by kernel_rfl }
open Go.RowKit Go.Lib in
/-- strings.Contains: "Contains reports whether substr is within s.": AT A substr OF ONE BYTE c: IT RETURNS 'decide (0 ≤ Lib.indexByte s c)'; the world is as it was. (LAID: no walk: one application.) -/
theorem Tryd.strings_Contains_one (s : ByteArray) (c : UInt8) (w : World) :
    Calls Tryd.prog 20 #[.string s, .string ⟨#[c]⟩] w fun e w' => e = .returned (.bool (decide (0 ≤ Lib.indexByte s.data.toList c))) ∧ w' = w := Any.strings_Contains_one Tryd.lays144 s c w
def Tryd.lays100_ren : Go.Shelf.Ren := ⟨fun | 100 => 21 | 207 => 27 | n => n, fun | 9 => 9 | 4 => 4 | 3 => 3 | n => n, fun | n => n⟩
theorem Tryd.lays100 : Go.Proofs.Lays.n100 Tryd.prog Tryd.lays100_ren := {
  mixed := by kernel_rfl
  f100 := Tryd.func21.trans (congrArg some (by kernel_rfl))
  f207 := Tryd.func27.trans (congrArg some (by kernel_rfl))
  t3 := Tryd.underlying3
  a3 := Tryd.isAgg3
  z3 := Tryd.sizeOf3
  v3 := Tryd.zeroValue3
  t4 := Tryd.underlying4
  a4 := Tryd.isAgg4
  z4 := Tryd.sizeOf4
  v4 := Tryd.zeroValue4
  t9 := Tryd.underlying9
  a9 := Tryd.isAgg9
  z9 := Tryd.sizeOf9
  v9 := Tryd.zeroValue9 }
open Go.RowKit Go.Lib in
/-- strings.HasSuffix: "HasSuffix reports whether the string s ends with suffix.": IT RETURNS 'Lib.hasSuffix s suffix'; the world is as it was. ('hs': no Go string is longer: a caller has it of every string that it was handed.) (LAID: no walk: one application.) -/
theorem Tryd.strings_HasSuffix (s p : ByteArray) (w : World) (hs : s.size ≤ 9223372036854775807) :
    Calls Tryd.prog 21 #[.string s, .string p] w fun e w' => e = .returned (.bool (Lib.hasSuffix s.data.toList p.data.toList)) ∧ w' = w := Any.strings_HasSuffix Tryd.lays100 s p w hs
def Tryd.lays146_ren : Go.Shelf.Ren := ⟨fun | 146 => 22 | 221 => 28 | 268 => 33 | 138 => 29 | 143 => 26 | 195 => 34 | 197 => 31 | 218 => 35 | 219 => 32 | 260 => 37 | 217 => 38 | 225 => 39 | 224 => 40 | 267 => 41 | 266 => 43 | 314 => 44 | n => n, fun | 9 => 9 | 31 => 41 | 3 => 3 | 4 => 4 | 0 => 0 | 105 => 52 | 21 => 21 | 5 => 5 | 46 => 58 | 119 => 60 | 139 => 63 | 138 => 62 | 146 => 65 | 51 => 64 | n => n, fun | 1 => 0 | 3 => 1 | 4 => 2 | n => n⟩
theorem Tryd.lays146 : Go.Proofs.Lays.n146 Tryd.prog Tryd.lays146_ren := {
  mixed := by kernel_rfl
  f138 := Tryd.func29.trans (congrArg some (by kernel_rfl))
  f143 := Tryd.func26.trans (congrArg some (by kernel_rfl))
  f146 := Tryd.func22.trans (congrArg some (by kernel_rfl))
  f195 := Tryd.func34.trans (congrArg some (by kernel_rfl))
  f197 := Tryd.func31.trans (congrArg some (by kernel_rfl))
  f217 := Tryd.func38.trans (congrArg some (by kernel_rfl))
  f218 := Tryd.func35.trans (congrArg some (by kernel_rfl))
  f219 := Tryd.func32.trans (congrArg some (by kernel_rfl))
  f221 := Tryd.func28.trans (congrArg some (by kernel_rfl))
  f224 := Tryd.func40.trans (congrArg some (by kernel_rfl))
  f225 := Tryd.func39.trans (congrArg some (by kernel_rfl))
  f260 := Tryd.func37.trans (congrArg some (by kernel_rfl))
  f266 := Tryd.func43.trans (congrArg some (by kernel_rfl))
  f267 := Tryd.func41.trans (congrArg some (by kernel_rfl))
  f268 := Tryd.func33.trans (congrArg some (by kernel_rfl))
  f314 := Tryd.func44.trans (congrArg some (by kernel_rfl))
  t0 := Tryd.underlying0
  a0 := Tryd.isAgg0
  z0 := Tryd.sizeOf0
  v0 := Tryd.zeroValue0
  t3 := Tryd.underlying3
  a3 := Tryd.isAgg3
  z3 := Tryd.sizeOf3
  v3 := Tryd.zeroValue3
  t4 := Tryd.underlying4
  a4 := Tryd.isAgg4
  z4 := Tryd.sizeOf4
  v4 := Tryd.zeroValue4
  t5 := Tryd.underlying5
  a5 := Tryd.isAgg5
  z5 := Tryd.sizeOf5
  v5 := Tryd.zeroValue5
  t9 := Tryd.underlying9
  a9 := Tryd.isAgg9
  z9 := Tryd.sizeOf9
  v9 := Tryd.zeroValue9
  t21 := Tryd.underlying21
  a21 := Tryd.isAgg21
  z21 := Tryd.sizeOf21
  v21 := Tryd.zeroValue21
  t31 := Tryd.underlying41
  a31 := Tryd.isAgg41
  z31 := Tryd.sizeOf41
  v31 := Tryd.zeroValue41
  t46 := Tryd.underlying58
  a46 := Tryd.isAgg58
  z46 := Tryd.sizeOf58
  v46 := Tryd.zeroValue58
  t51 := Tryd.underlying64
  a51 := Tryd.isAgg64
  z51 := Tryd.sizeOf64
  v51 := Tryd.zeroValue64
  t105 := Tryd.underlying52
  a105 := Tryd.isAgg52
  z105 := Tryd.sizeOf52
  v105 := Tryd.zeroValue52
  t119 := Tryd.underlying60
  a119 := Tryd.isAgg60
  z119 := Tryd.sizeOf60
  t138 := Tryd.underlying62
  a138 := Tryd.isAgg62
  z138 := Tryd.sizeOf62
  v138 := Tryd.zeroValue62
  t139 := Tryd.underlying63
  a139 := Tryd.isAgg63
  z139 := Tryd.sizeOf63
  v139 := Tryd.zeroValue63
  t146 := Tryd.underlying65
  a146 := Tryd.isAgg65
  z146 := Tryd.sizeOf65
  v146 := Tryd.zeroValue65
  g1 := by kernel_rfl
  g3 := by kernel_rfl
  g4 := by kernel_rfl }
open Go.RowKit Go.Lib in
/-- strings.Split. (LAID: no walk: one application.) -/
theorem Tryd.strings_Split (s sep : ByteArray) (m : Int) (w : World) (hs : s.size < 4294967281) (hm : w.cell? ⟨0, 0, none⟩ = some (.int .i64 m)) (h1 : 1 ≤ sep.size) :
    Calls Tryd.prog 22 #[.string s, .string sep] w fun e w' =>
      e = .returned (.slice (some ⟨w.heap.size, 0, none⟩) (Lib.countB s sep + 1) (Lib.countB s sep + 1)) ∧ w' = w.alloc (.cells ((Lib.splitB sep 0 (Lib.countB s sep) s).map Value.string).toArray 9) := Any.strings_Split Tryd.lays146 (by kernel_rfl) s sep m w hs hm h1
def Tryd.lays155_ren : Go.Shelf.Ren := ⟨fun | 155 => 19 | 154 => 25 | 138 => 29 | 165 => 30 | 143 => 26 | 166 => 12 | 197 => 31 | 169 => 14 | 195 => 34 | 218 => 35 | 240 => 18 | 241 => 36 | 219 => 32 | 260 => 37 | 276 => 24 | 277 => 42 | 217 => 38 | 225 => 39 | 224 => 40 | 267 => 41 | 266 => 43 | 314 => 44 | n => n, fun | 9 => 9 | 3 => 3 | 4 => 4 | 72 => 31 | 0 => 0 | 76 => 34 | 105 => 52 | 21 => 21 | 5 => 5 | 70 => 28 | 20 => 20 | 37 => 29 | 75 => 33 | 127 => 43 | 164 => 46 | 46 => 58 | 119 => 60 | 139 => 63 | 138 => 62 | 146 => 65 | 51 => 64 | 80 => 37 | n => n, fun | 1 => 0 | 3 => 1 | 4 => 2 | n => n⟩
theorem Tryd.lays155 : Go.Proofs.Lays.n155 Tryd.prog Tryd.lays155_ren := {
  mixed := by kernel_rfl
  f138 := Tryd.func29.trans (congrArg some (by kernel_rfl))
  f143 := Tryd.func26.trans (congrArg some (by kernel_rfl))
  f154 := Tryd.func25.trans (congrArg some (by kernel_rfl))
  f155 := Tryd.func19.trans (congrArg some (by kernel_rfl))
  f165 := Tryd.func30.trans (congrArg some (by kernel_rfl))
  f166 := Tryd.func12.trans (congrArg some (by kernel_rfl))
  f169 := Tryd.func14.trans (congrArg some (by kernel_rfl))
  f195 := Tryd.func34.trans (congrArg some (by kernel_rfl))
  f197 := Tryd.func31.trans (congrArg some (by kernel_rfl))
  f217 := Tryd.func38.trans (congrArg some (by kernel_rfl))
  f218 := Tryd.func35.trans (congrArg some (by kernel_rfl))
  f219 := Tryd.func32.trans (congrArg some (by kernel_rfl))
  f224 := Tryd.func40.trans (congrArg some (by kernel_rfl))
  f225 := Tryd.func39.trans (congrArg some (by kernel_rfl))
  f240 := Tryd.func18.trans (congrArg some (by kernel_rfl))
  f241 := Tryd.func36.trans (congrArg some (by kernel_rfl))
  f260 := Tryd.func37.trans (congrArg some (by kernel_rfl))
  f266 := Tryd.func43.trans (congrArg some (by kernel_rfl))
  f267 := Tryd.func41.trans (congrArg some (by kernel_rfl))
  f276 := Tryd.func24.trans (congrArg some (by kernel_rfl))
  f277 := Tryd.func42.trans (congrArg some (by kernel_rfl))
  f314 := Tryd.func44.trans (congrArg some (by kernel_rfl))
  t0 := Tryd.underlying0
  a0 := Tryd.isAgg0
  z0 := Tryd.sizeOf0
  v0 := Tryd.zeroValue0
  t3 := Tryd.underlying3
  a3 := Tryd.isAgg3
  z3 := Tryd.sizeOf3
  v3 := Tryd.zeroValue3
  t4 := Tryd.underlying4
  a4 := Tryd.isAgg4
  z4 := Tryd.sizeOf4
  v4 := Tryd.zeroValue4
  t5 := Tryd.underlying5
  a5 := Tryd.isAgg5
  z5 := Tryd.sizeOf5
  v5 := Tryd.zeroValue5
  t9 := Tryd.underlying9
  a9 := Tryd.isAgg9
  z9 := Tryd.sizeOf9
  v9 := Tryd.zeroValue9
  t20 := Tryd.underlying20
  a20 := Tryd.isAgg20
  z20 := Tryd.sizeOf20
  v20 := Tryd.zeroValue20
  t21 := Tryd.underlying21
  a21 := Tryd.isAgg21
  z21 := Tryd.sizeOf21
  v21 := Tryd.zeroValue21
  t37 := Tryd.underlying29
  a37 := Tryd.isAgg29
  z37 := Tryd.sizeOf29
  v37 := Tryd.zeroValue29
  t46 := Tryd.underlying58
  a46 := Tryd.isAgg58
  z46 := Tryd.sizeOf58
  v46 := Tryd.zeroValue58
  t51 := Tryd.underlying64
  a51 := Tryd.isAgg64
  z51 := Tryd.sizeOf64
  v51 := Tryd.zeroValue64
  t70 := Tryd.underlying28
  a70 := Tryd.isAgg28
  z70 := Tryd.sizeOf28
  v70 := Tryd.zeroValue28
  t72 := Tryd.underlying31
  a72 := Tryd.isAgg31
  z72 := Tryd.sizeOf31
  v72 := Tryd.zeroValue31
  t75 := Tryd.underlying33
  a75 := Tryd.isAgg33
  z75 := Tryd.sizeOf33
  v75 := Tryd.zeroValue33
  t76 := Tryd.underlying34
  a76 := Tryd.isAgg34
  z76 := Tryd.sizeOf34
  v76 := Tryd.zeroValue34
  t105 := Tryd.underlying52
  a105 := Tryd.isAgg52
  z105 := Tryd.sizeOf52
  v105 := Tryd.zeroValue52
  t119 := Tryd.underlying60
  a119 := Tryd.isAgg60
  z119 := Tryd.sizeOf60
  t127 := Tryd.underlying43
  a127 := Tryd.isAgg43
  z127 := Tryd.sizeOf43
  v127 := Tryd.zeroValue43
  t138 := Tryd.underlying62
  a138 := Tryd.isAgg62
  z138 := Tryd.sizeOf62
  v138 := Tryd.zeroValue62
  t139 := Tryd.underlying63
  a139 := Tryd.isAgg63
  z139 := Tryd.sizeOf63
  v139 := Tryd.zeroValue63
  t146 := Tryd.underlying65
  a146 := Tryd.isAgg65
  z146 := Tryd.sizeOf65
  v146 := Tryd.zeroValue65
  t164 := Tryd.underlying46
  a164 := Tryd.isAgg46
  z164 := Tryd.sizeOf46
  v164 := Tryd.zeroValue46
  g1 := by kernel_rfl
  g3 := by kernel_rfl
  g4 := by kernel_rfl }
theorem Tryd.Builder_Extra_155 : Builder.Extra Tryd.prog Tryd.lays155_ren := {
  sizeBuilder := by kernel_rfl
  liesBuilder := by kernel_rfl
  t5 := Tryd.underlying5
  a5 := Tryd.isAgg5
  z5 := Tryd.sizeOf5
  v5 := Tryd.zeroValue5
  infoByte := by kernel_rfl
  cellsByte := by kernel_rfl
  sizeByte := by kernel_rfl
  neB5 := by decide }
open Go.RowKit Go.Lib in
/-- strings.ReplaceAll: "ReplaceAll returns a copy of the string s with all non-overlapping instances of old replaced by new.": AT AN old THAT IS NOT EMPTY: 'Lib.replaceAll s old new'. (LAID: no walk: one application.) -/
theorem Tryd.strings_ReplaceAll (s old new : ByteArray) (m : Int) (w : World) (hs : s.size < 4294967281) (hm : w.cell? ⟨0, 0, none⟩ = some (.int .i64 m)) (h1 : 1 ≤ old.size) (hlen : s.size + Lib.countB s old * new.size ≤ 140737488355328) :
    Calls Tryd.prog 19 #[.string s, .string old, .string new] w fun e w' =>
      e = .returned (.string ⟨(Lib.replaceAll s.data.toList old.data.toList new.data.toList).toArray⟩) ∧ Below w.heap.size w w' := Any.strings_ReplaceAll Tryd.lays155 Tryd.Builder_Extra_155 s old new m w hs hm h1 hlen
open Go.RowKit in
theorem Tryd.Builder_WriteString_k (B b : Nat) (bs : List Value) (s : ByteArray) (w : World) (h : Lib.IsBuilderF 31 5 B b bs w) (hlen : bs.length + s.size ≤ 140737488355328) (hBw : B ≤ w.heap.size) :
    Calls Tryd.prog 12 #[.pointer (some ⟨b, 0, none⟩), .string s] w fun e w' => e = .returned (.tuple #[.int .i64 s.size, .nilIface]) ∧ (Lib.BuilderAtF 31 5 B b (.pointer (some ⟨b, 0, none⟩)) (bs ++ Lib.strCells s) w' ∧ Below B w w' ∧ Lib.OthersKept 5 (some b) w w') := Any.Builder_WriteString_k { Tryd.lays155 with } Tryd.Builder_Extra_155 B b bs s w h hlen hBw
end Go.Proofs
