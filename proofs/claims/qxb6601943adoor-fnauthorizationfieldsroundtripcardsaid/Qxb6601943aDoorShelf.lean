/-
  DERIVED: THE SHELF's CONTRACTS AT THIS DUMP, IN PLAIN WORDS (tools/lay-plain.mjs out of 'TrydShelf2.lean', which tools/lay-shelf.mjs wrote): THE SAME DECLARATIONS UNDER THE SAME NAMES: 'import', 'namespace', 'open', 'def', 'theorem' AND NOTHING ELSE: no command of the shelf's: FOR A HAND-IN. Each laying: the table of numbers ('.._ren') and one theorem, a field a fact of the dump's own or the kernel's comparison; each contract: ONE APPLICATION.
-/
import Derived.Shelf.Strings.Builder1
import Derived.Shelf.Strings.Builder2
import Derived.Shelf.Strings.OnBuilder
import Derived.Shelf.Strings.Trim
import Derived.Shelf.Strings.SlTrimAscii
import Derived.Shelf.Strings.Search3
import Derived.Shelf.Strings.Cut
import Derived.Shelf.Strings.Count
import Derived.Shelf.Strings.Split
import Derived.Test.Qxb6601943aDoorProg
namespace Go.Proofs
open Go.Shelf
def Tryd.lays156_ren : Go.Shelf.Ren := ⟨fun | 156 => 23 | 165 => 31 | 166 => 32 | 169 => 33 | 240 => 46 | 241 => 47 | 276 => 56 | 277 => 57 | n => n, fun | 31 => 38 | 9 => 9 | 3 => 3 | 4 => 4 | 0 => 0 | 20 => 20 | 72 => 51 | 76 => 55 | 70 => 48 | 37 => 49 | 75 => 54 | 127 => 68 | 164 => 73 | 5 => 5 | 80 => 57 | n => n, fun | n => n⟩
theorem Tryd.lays156 : Go.Proofs.Lays.n156 Tryd.prog Tryd.lays156_ren := {
  mixed := by kernel_rfl
  f156 := Tryd.func23.trans (congrArg some (by kernel_rfl))
  f165 := Tryd.func31.trans (congrArg some (by kernel_rfl))
  f166 := Tryd.func32.trans (congrArg some (by kernel_rfl))
  f169 := Tryd.func33.trans (congrArg some (by kernel_rfl))
  f240 := Tryd.func46.trans (congrArg some (by kernel_rfl))
  f241 := Tryd.func47.trans (congrArg some (by kernel_rfl))
  f276 := Tryd.func56.trans (congrArg some (by kernel_rfl))
  f277 := Tryd.func57.trans (congrArg some (by kernel_rfl))
  t0 := Tryd.underlying0
  a0 := Tryd.isAgg0
  z0 := Tryd.sizeOf0
  v0 := Tryd.zeroValue0
  t3 := Tryd.underlying3
  a3 := Tryd.isAgg3
  z3 := Tryd.sizeOf3
  v3 := Tryd.zeroValue3
  t4 := Tryd.underlying4
  a4 := Tryd.isAgg4
  z4 := Tryd.sizeOf4
  v4 := Tryd.zeroValue4
  t9 := Tryd.underlying9
  a9 := Tryd.isAgg9
  z9 := Tryd.sizeOf9
  v9 := Tryd.zeroValue9
  t20 := Tryd.underlying20
  a20 := Tryd.isAgg20
  z20 := Tryd.sizeOf20
  v20 := Tryd.zeroValue20
  t31 := Tryd.underlying38
  a31 := Tryd.isAgg38
  z31 := Tryd.sizeOf38
  v31 := Tryd.zeroValue38
  t37 := Tryd.underlying49
  a37 := Tryd.isAgg49
  z37 := Tryd.sizeOf49
  v37 := Tryd.zeroValue49
  t70 := Tryd.underlying48
  a70 := Tryd.isAgg48
  z70 := Tryd.sizeOf48
  v70 := Tryd.zeroValue48
  t72 := Tryd.underlying51
  a72 := Tryd.isAgg51
  z72 := Tryd.sizeOf51
  v72 := Tryd.zeroValue51
  t75 := Tryd.underlying54
  a75 := Tryd.isAgg54
  z75 := Tryd.sizeOf54
  v75 := Tryd.zeroValue54
  t76 := Tryd.underlying55
  a76 := Tryd.isAgg55
  z76 := Tryd.sizeOf55
  v76 := Tryd.zeroValue55
  t127 := Tryd.underlying68
  a127 := Tryd.isAgg68
  z127 := Tryd.sizeOf68
  v127 := Tryd.zeroValue68
  t164 := Tryd.underlying73
  a164 := Tryd.isAgg73
  z164 := Tryd.sizeOf73
  v164 := Tryd.zeroValue73 }
theorem Tryd.Builder_Extra_156 : Builder.Extra Tryd.prog Tryd.lays156_ren := {
  sizeBuilder := by kernel_rfl
  liesBuilder := by kernel_rfl
  t5 := Tryd.underlying5
  a5 := Tryd.isAgg5
  z5 := Tryd.sizeOf5
  v5 := Tryd.zeroValue5
  infoByte := by kernel_rfl
  cellsByte := by kernel_rfl
  sizeByte := by kernel_rfl
  neB5 := by decide }
open Go.RowKit in
/-- No element: the empty string; the world is as it was. (Whatever the slice's address and capacity: a nil slice too.) (LAID: no walk: one application.) -/
theorem Tryd.strings_Join_none (a : Option Addr) (c : Nat) (sep : ByteArray) (w : World) :
    Calls Tryd.prog 23 #[.slice a 0 c, .string sep] w fun e w' => e = .returned (.string ⟨#[]⟩) ∧ w' = w := Any.strings_Join_none Tryd.lays156 Tryd.Builder_Extra_156 a c sep w
open Go.RowKit in
/-- strings.Join: "Join concatenates the elements of its first argument to create a single string. The separator string sep is placed between elements in the resulting string.": HOWEVER MANY ELEMENTS. Below the heap's end the world is as it was. (LAID: no walk: one application.) -/
theorem Tryd.strings_Join (bk o c : Nat) (xs : List ByteArray) (sep : ByteArray) (w : World) (hcells : ∀ (j : Nat) x, xs[j]? = some x → w.cell? ⟨bk, o + j, none⟩ = some (.string x)) (hbk : bk < w.heap.size) (hN : xs.length ≤ 140737488355328) (hcap : xs.length ≤ c) (hlen : (Lib.join (xs.map (·.data.toList)) sep.data.toList).length ≤ 140737488355328) :
    Calls Tryd.prog 23 #[.slice (some ⟨bk, o, none⟩) xs.length c, .string sep] w fun e w' => e = .returned (.string ⟨(Lib.join (xs.map (·.data.toList)) sep.data.toList).toArray⟩) ∧ Below w.heap.size w w' := Any.strings_Join Tryd.lays156 Tryd.Builder_Extra_156 bk o c xs sep w hcells hbk hN hcap hlen
def Tryd.lays160_ren : Go.Shelf.Ren := ⟨fun | 160 => 25 | 232 => 36 | 231 => 35 | 227 => 37 | 234 => 39 | 233 => 38 | 236 => 41 | 235 => 40 | 228 => 48 | 271 => 50 | 151 => 49 | 197 => 44 | 120 => 59 | 152 => 58 | 260 => 55 | 137 => 62 | 119 => 63 | 224 => 53 | 225 => 52 | 217 => 51 | 266 => 60 | n => n, fun | 9 => 9 | 4 => 4 | 3 => 3 | 5 => 5 | 117 => 61 | 116 => 60 | 0 => 0 | 124 => 64 | 21 => 21 | 105 => 65 | 46 => 72 | 119 => 80 | 139 => 83 | 138 => 82 | n => n, fun | 3 => 1 | 4 => 2 | n => n⟩
theorem Tryd.lays160 : Go.Proofs.Lays.n160 Tryd.prog Tryd.lays160_ren := {
  mixed := by kernel_rfl
  f119 := Tryd.func63.trans (congrArg some (by kernel_rfl))
  f120 := Tryd.func59.trans (congrArg some (by kernel_rfl))
  f137 := Tryd.func62.trans (congrArg some (by kernel_rfl))
  f151 := Tryd.func49.trans (congrArg some (by kernel_rfl))
  f152 := Tryd.func58.trans (congrArg some (by kernel_rfl))
  f160 := Tryd.func25.trans (congrArg some (by kernel_rfl))
  f197 := Tryd.func44.trans (congrArg some (by kernel_rfl))
  f217 := Tryd.func51.trans (congrArg some (by kernel_rfl))
  f224 := Tryd.func53.trans (congrArg some (by kernel_rfl))
  f225 := Tryd.func52.trans (congrArg some (by kernel_rfl))
  f227 := Tryd.func37.trans (congrArg some (by kernel_rfl))
  f228 := Tryd.func48.trans (congrArg some (by kernel_rfl))
  f231 := Tryd.func35.trans (congrArg some (by kernel_rfl))
  f232 := Tryd.func36.trans (congrArg some (by kernel_rfl))
  f233 := Tryd.func38.trans (congrArg some (by kernel_rfl))
  f234 := Tryd.func39.trans (congrArg some (by kernel_rfl))
  f235 := Tryd.func40.trans (congrArg some (by kernel_rfl))
  f236 := Tryd.func41.trans (congrArg some (by kernel_rfl))
  f260 := Tryd.func55.trans (congrArg some (by kernel_rfl))
  f266 := Tryd.func60.trans (congrArg some (by kernel_rfl))
  f271 := Tryd.func50.trans (congrArg some (by kernel_rfl))
  t0 := Tryd.underlying0
  a0 := Tryd.isAgg0
  z0 := Tryd.sizeOf0
  v0 := Tryd.zeroValue0
  t3 := Tryd.underlying3
  a3 := Tryd.isAgg3
  z3 := Tryd.sizeOf3
  v3 := Tryd.zeroValue3
  t4 := Tryd.underlying4
  a4 := Tryd.isAgg4
  z4 := Tryd.sizeOf4
  v4 := Tryd.zeroValue4
  t5 := Tryd.underlying5
  a5 := Tryd.isAgg5
  z5 := Tryd.sizeOf5
  v5 := Tryd.zeroValue5
  t9 := Tryd.underlying9
  a9 := Tryd.isAgg9
  z9 := Tryd.sizeOf9
  v9 := Tryd.zeroValue9
  t21 := Tryd.underlying21
  a21 := Tryd.isAgg21
  z21 := Tryd.sizeOf21
  v21 := Tryd.zeroValue21
  t46 := Tryd.underlying72
  a46 := Tryd.isAgg72
  z46 := Tryd.sizeOf72
  v46 := Tryd.zeroValue72
  t105 := Tryd.underlying65
  a105 := Tryd.isAgg65
  z105 := Tryd.sizeOf65
  v105 := Tryd.zeroValue65
  t116 := Tryd.underlying60
  a116 := Tryd.isAgg60
  z116 := Tryd.sizeOf60
  t117 := Tryd.underlying61
  a117 := Tryd.isAgg61
  z117 := Tryd.sizeOf61
  v117 := Tryd.zeroValue61
  t119 := Tryd.underlying80
  a119 := Tryd.isAgg80
  z119 := Tryd.sizeOf80
  t124 := Tryd.underlying64
  a124 := Tryd.isAgg64
  z124 := Tryd.sizeOf64
  v124 := Tryd.zeroValue64
  t138 := Tryd.underlying82
  a138 := Tryd.isAgg82
  z138 := Tryd.sizeOf82
  v138 := Tryd.zeroValue82
  t139 := Tryd.underlying83
  a139 := Tryd.isAgg83
  z139 := Tryd.sizeOf83
  v139 := Tryd.zeroValue83
  g3 := by kernel_rfl
  g4 := by kernel_rfl }
open Go.RowKit in
/-- strings.Trim: "Trim returns a slice of the string s with all leading and trailing Unicode code points contained in cutset removed.": AT A cutset OF ONE ASCII BYTE. THE WORLD BEHIND IT: as it was, or (where s is not empty) with ONE DRAW MORE off the tape: the statement 'return trimLeftByte(trimRightByte(s, c), c)' draws its order of evaluation. (LAID: no walk: one application.) -/
theorem Tryd.strings_Trim_one (s : ByteArray) (c : UInt8) (hc : c.toNat < 128) (w : World) (hs : s.size ≤ 9223372036854775807) :
    Calls Tryd.prog 25 #[.string s, .string ⟨#[c]⟩] w fun e w' => e = .returned (.string ⟨(Lib.trimB s.data.toList c).toArray⟩) ∧ (w' = w ∨ w' = w.drew) := Any.strings_Trim_one Tryd.lays160 s c hc w hs
def Tryd.lays143_ren : Go.Shelf.Ren := ⟨fun | 143 => 28 | 219 => 42 | 217 => 51 | 225 => 52 | 224 => 53 | 267 => 54 | 266 => 60 | 314 => 61 | n => n, fun | 9 => 9 | 3 => 3 | 4 => 4 | 5 => 5 | 46 => 72 | 146 => 78 | 51 => 77 | n => n, fun | 1 => 0 | n => n⟩
theorem Tryd.lays143 : Go.Proofs.Lays.n143 Tryd.prog Tryd.lays143_ren := {
  mixed := by kernel_rfl
  f143 := Tryd.func28.trans (congrArg some (by kernel_rfl))
  f217 := Tryd.func51.trans (congrArg some (by kernel_rfl))
  f219 := Tryd.func42.trans (congrArg some (by kernel_rfl))
  f224 := Tryd.func53.trans (congrArg some (by kernel_rfl))
  f225 := Tryd.func52.trans (congrArg some (by kernel_rfl))
  f266 := Tryd.func60.trans (congrArg some (by kernel_rfl))
  f267 := Tryd.func54.trans (congrArg some (by kernel_rfl))
  f314 := Tryd.func61.trans (congrArg some (by kernel_rfl))
  t3 := Tryd.underlying3
  a3 := Tryd.isAgg3
  z3 := Tryd.sizeOf3
  v3 := Tryd.zeroValue3
  t4 := Tryd.underlying4
  a4 := Tryd.isAgg4
  z4 := Tryd.sizeOf4
  v4 := Tryd.zeroValue4
  t5 := Tryd.underlying5
  a5 := Tryd.isAgg5
  z5 := Tryd.sizeOf5
  v5 := Tryd.zeroValue5
  t9 := Tryd.underlying9
  a9 := Tryd.isAgg9
  z9 := Tryd.sizeOf9
  v9 := Tryd.zeroValue9
  t46 := Tryd.underlying72
  a46 := Tryd.isAgg72
  z46 := Tryd.sizeOf72
  v46 := Tryd.zeroValue72
  t51 := Tryd.underlying77
  a51 := Tryd.isAgg77
  z51 := Tryd.sizeOf77
  v51 := Tryd.zeroValue77
  t146 := Tryd.underlying78
  a146 := Tryd.isAgg78
  z146 := Tryd.sizeOf78
  v146 := Tryd.zeroValue78
  g1 := by kernel_rfl }
open Go.RowKit Go.Lib in
/-- strings.Index: "Index returns the index of the first instance of substr in s, or -1 if substr is not present in s.": AT A substr OF ONE BYTE c: IT RETURNS 'Lib.indexByte s c'; the world is as it was. (LAID: no walk: one application.) -/
theorem Tryd.strings_Index_one (s : ByteArray) (c : UInt8) (w : World) :
    Calls Tryd.prog 28 #[.string s, .string ⟨#[c]⟩] w fun e w' => e = .returned (.int .i64 (Lib.indexByte s.data.toList c)) ∧ w' = w := Any.strings_Index_one Tryd.lays143 s c w
def Tryd.lays145_ren : Go.Shelf.Ren := ⟨fun | 145 => 24 | 220 => 34 | 219 => 42 | 217 => 51 | 225 => 52 | 224 => 53 | 267 => 54 | 266 => 60 | 314 => 61 | n => n, fun | 9 => 9 | 4 => 4 | 59 => 41 | 3 => 3 | 5 => 5 | 46 => 72 | 146 => 78 | 51 => 77 | n => n, fun | 1 => 0 | n => n⟩
theorem Tryd.lays145 : Go.Proofs.Lays.n145 Tryd.prog Tryd.lays145_ren := {
  mixed := by kernel_rfl
  f145 := Tryd.func24.trans (congrArg some (by kernel_rfl))
  f217 := Tryd.func51.trans (congrArg some (by kernel_rfl))
  f219 := Tryd.func42.trans (congrArg some (by kernel_rfl))
  f220 := Tryd.func34.trans (congrArg some (by kernel_rfl))
  f224 := Tryd.func53.trans (congrArg some (by kernel_rfl))
  f225 := Tryd.func52.trans (congrArg some (by kernel_rfl))
  f266 := Tryd.func60.trans (congrArg some (by kernel_rfl))
  f267 := Tryd.func54.trans (congrArg some (by kernel_rfl))
  f314 := Tryd.func61.trans (congrArg some (by kernel_rfl))
  t3 := Tryd.underlying3
  a3 := Tryd.isAgg3
  z3 := Tryd.sizeOf3
  v3 := Tryd.zeroValue3
  t4 := Tryd.underlying4
  a4 := Tryd.isAgg4
  z4 := Tryd.sizeOf4
  v4 := Tryd.zeroValue4
  t5 := Tryd.underlying5
  a5 := Tryd.isAgg5
  z5 := Tryd.sizeOf5
  v5 := Tryd.zeroValue5
  t9 := Tryd.underlying9
  a9 := Tryd.isAgg9
  z9 := Tryd.sizeOf9
  v9 := Tryd.zeroValue9
  t46 := Tryd.underlying72
  a46 := Tryd.isAgg72
  z46 := Tryd.sizeOf72
  v46 := Tryd.zeroValue72
  t51 := Tryd.underlying77
  a51 := Tryd.isAgg77
  z51 := Tryd.sizeOf77
  v51 := Tryd.zeroValue77
  t59 := Tryd.underlying41
  a59 := Tryd.isAgg41
  z59 := Tryd.sizeOf41
  v59 := Tryd.zeroValue41
  t146 := Tryd.underlying78
  a146 := Tryd.isAgg78
  z146 := Tryd.sizeOf78
  v146 := Tryd.zeroValue78
  g1 := by kernel_rfl }
open Go.RowKit Go.Lib in
/-- strings.Cut: "Cut slices s around the first instance of sep, returning the text before and after sep. The found result reports whether sep appears in s. If sep does not appear in s, cut returns s, "", false.": IT RETURNS 'Lib.cut s sep'; the world is as it was but for the count of draws. (LAID: no walk: one application.) -/
theorem Tryd.strings_Cut (s sep : ByteArray) (m : Int) (w : World) (hs : s.size < 4294967281) (hm : w.cell? ⟨0, 0, none⟩ = some (.int .i64 m)) :
    Calls Tryd.prog 24 #[.string s, .string sep] w fun e w' => e = .returned (.tuple #[.string ⟨(Lib.cut s.data.toList sep.data.toList).1.toArray⟩, .string ⟨(Lib.cut s.data.toList sep.data.toList).2.1.toArray⟩, .bool (Lib.cut s.data.toList sep.data.toList).2.2]) ∧ ∃ n, w' = w.drewN n := Any.strings_Cut Tryd.lays145 s sep m w hs hm
def Tryd.lays138_ren : Go.Shelf.Ren := ⟨fun | 138 => 20 | 195 => 26 | 218 => 27 | 143 => 28 | 219 => 42 | 217 => 51 | 225 => 52 | 224 => 53 | 267 => 54 | 266 => 60 | 314 => 61 | n => n, fun | 9 => 9 | 3 => 3 | 4 => 4 | 5 => 5 | 0 => 0 | 46 => 72 | 146 => 78 | 51 => 77 | n => n, fun | 1 => 0 | n => n⟩
theorem Tryd.lays138 : Go.Proofs.Lays.n138 Tryd.prog Tryd.lays138_ren := {
  mixed := by kernel_rfl
  f138 := Tryd.func20.trans (congrArg some (by kernel_rfl))
  f143 := Tryd.func28.trans (congrArg some (by kernel_rfl))
  f195 := Tryd.func26.trans (congrArg some (by kernel_rfl))
  f217 := Tryd.func51.trans (congrArg some (by kernel_rfl))
  f218 := Tryd.func27.trans (congrArg some (by kernel_rfl))
  f219 := Tryd.func42.trans (congrArg some (by kernel_rfl))
  f224 := Tryd.func53.trans (congrArg some (by kernel_rfl))
  f225 := Tryd.func52.trans (congrArg some (by kernel_rfl))
  f266 := Tryd.func60.trans (congrArg some (by kernel_rfl))
  f267 := Tryd.func54.trans (congrArg some (by kernel_rfl))
  f314 := Tryd.func61.trans (congrArg some (by kernel_rfl))
  t0 := Tryd.underlying0
  a0 := Tryd.isAgg0
  z0 := Tryd.sizeOf0
  v0 := Tryd.zeroValue0
  t3 := Tryd.underlying3
  a3 := Tryd.isAgg3
  z3 := Tryd.sizeOf3
  v3 := Tryd.zeroValue3
  t4 := Tryd.underlying4
  a4 := Tryd.isAgg4
  z4 := Tryd.sizeOf4
  v4 := Tryd.zeroValue4
  t5 := Tryd.underlying5
  a5 := Tryd.isAgg5
  z5 := Tryd.sizeOf5
  v5 := Tryd.zeroValue5
  t9 := Tryd.underlying9
  a9 := Tryd.isAgg9
  z9 := Tryd.sizeOf9
  v9 := Tryd.zeroValue9
  t46 := Tryd.underlying72
  a46 := Tryd.isAgg72
  z46 := Tryd.sizeOf72
  v46 := Tryd.zeroValue72
  t51 := Tryd.underlying77
  a51 := Tryd.isAgg77
  z51 := Tryd.sizeOf77
  v51 := Tryd.zeroValue77
  t146 := Tryd.underlying78
  a146 := Tryd.isAgg78
  z146 := Tryd.sizeOf78
  v146 := Tryd.zeroValue78
  g1 := by kernel_rfl }
open Go.RowKit Go.Lib in
/-- strings.Count AT A substr OF ONE BYTE ('hp'): "Count counts the number of non-overlapping instances of substr in s.": IT RETURNS 'Lib.countByte s (that byte)'; the world is as it was. ✋ NO CONTRACT HERE YET at an empty substr (utf8.RuneCountInString) or at a longer one (a loop over strings.Index). (LAID: no walk: one application.) -/
theorem Tryd.strings_Count_one (s : ByteArray) (c : UInt8) (w : World) :
    Calls Tryd.prog 20 #[.string s, .string ⟨#[c]⟩] w fun e w' => e = .returned (.int .i64 (Lib.countByte s.data.toList c)) ∧ w' = w := Any.strings_Count_one Tryd.lays138 s c w
def Tryd.lays146_ren : Go.Shelf.Ren := ⟨fun | 146 => 22 | 221 => 30 | 268 => 45 | 138 => 20 | 143 => 28 | 195 => 26 | 197 => 44 | 218 => 27 | 219 => 42 | 260 => 55 | 217 => 51 | 225 => 52 | 224 => 53 | 267 => 54 | 266 => 60 | 314 => 61 | n => n, fun | 9 => 9 | 31 => 38 | 3 => 3 | 4 => 4 | 0 => 0 | 105 => 65 | 21 => 21 | 5 => 5 | 46 => 72 | 119 => 80 | 139 => 83 | 138 => 82 | 146 => 78 | 51 => 77 | n => n, fun | 1 => 0 | 3 => 1 | 4 => 2 | n => n⟩
theorem Tryd.lays146 : Go.Proofs.Lays.n146 Tryd.prog Tryd.lays146_ren := {
  mixed := by kernel_rfl
  f138 := Tryd.func20.trans (congrArg some (by kernel_rfl))
  f143 := Tryd.func28.trans (congrArg some (by kernel_rfl))
  f146 := Tryd.func22.trans (congrArg some (by kernel_rfl))
  f195 := Tryd.func26.trans (congrArg some (by kernel_rfl))
  f197 := Tryd.func44.trans (congrArg some (by kernel_rfl))
  f217 := Tryd.func51.trans (congrArg some (by kernel_rfl))
  f218 := Tryd.func27.trans (congrArg some (by kernel_rfl))
  f219 := Tryd.func42.trans (congrArg some (by kernel_rfl))
  f221 := Tryd.func30.trans (congrArg some (by kernel_rfl))
  f224 := Tryd.func53.trans (congrArg some (by kernel_rfl))
  f225 := Tryd.func52.trans (congrArg some (by kernel_rfl))
  f260 := Tryd.func55.trans (congrArg some (by kernel_rfl))
  f266 := Tryd.func60.trans (congrArg some (by kernel_rfl))
  f267 := Tryd.func54.trans (congrArg some (by kernel_rfl))
  f268 := Tryd.func45.trans (congrArg some (by kernel_rfl))
  f314 := Tryd.func61.trans (congrArg some (by kernel_rfl))
  t0 := Tryd.underlying0
  a0 := Tryd.isAgg0
  z0 := Tryd.sizeOf0
  v0 := Tryd.zeroValue0
  t3 := Tryd.underlying3
  a3 := Tryd.isAgg3
  z3 := Tryd.sizeOf3
  v3 := Tryd.zeroValue3
  t4 := Tryd.underlying4
  a4 := Tryd.isAgg4
  z4 := Tryd.sizeOf4
  v4 := Tryd.zeroValue4
  t5 := Tryd.underlying5
  a5 := Tryd.isAgg5
  z5 := Tryd.sizeOf5
  v5 := Tryd.zeroValue5
  t9 := Tryd.underlying9
  a9 := Tryd.isAgg9
  z9 := Tryd.sizeOf9
  v9 := Tryd.zeroValue9
  t21 := Tryd.underlying21
  a21 := Tryd.isAgg21
  z21 := Tryd.sizeOf21
  v21 := Tryd.zeroValue21
  t31 := Tryd.underlying38
  a31 := Tryd.isAgg38
  z31 := Tryd.sizeOf38
  v31 := Tryd.zeroValue38
  t46 := Tryd.underlying72
  a46 := Tryd.isAgg72
  z46 := Tryd.sizeOf72
  v46 := Tryd.zeroValue72
  t51 := Tryd.underlying77
  a51 := Tryd.isAgg77
  z51 := Tryd.sizeOf77
  v51 := Tryd.zeroValue77
  t105 := Tryd.underlying65
  a105 := Tryd.isAgg65
  z105 := Tryd.sizeOf65
  v105 := Tryd.zeroValue65
  t119 := Tryd.underlying80
  a119 := Tryd.isAgg80
  z119 := Tryd.sizeOf80
  t138 := Tryd.underlying82
  a138 := Tryd.isAgg82
  z138 := Tryd.sizeOf82
  v138 := Tryd.zeroValue82
  t139 := Tryd.underlying83
  a139 := Tryd.isAgg83
  z139 := Tryd.sizeOf83
  v139 := Tryd.zeroValue83
  t146 := Tryd.underlying78
  a146 := Tryd.isAgg78
  z146 := Tryd.sizeOf78
  v146 := Tryd.zeroValue78
  g1 := by kernel_rfl
  g3 := by kernel_rfl
  g4 := by kernel_rfl }
open Go.RowKit Go.Lib in
/-- strings.Split. (LAID: no walk: one application.) -/
theorem Tryd.strings_Split (s sep : ByteArray) (m : Int) (w : World) (hs : s.size < 4294967281) (hm : w.cell? ⟨0, 0, none⟩ = some (.int .i64 m)) (h1 : 1 ≤ sep.size) :
    Calls Tryd.prog 22 #[.string s, .string sep] w fun e w' =>
      e = .returned (.slice (some ⟨w.heap.size, 0, none⟩) (Lib.countB s sep + 1) (Lib.countB s sep + 1)) ∧ w' = w.alloc (.cells ((Lib.splitB sep 0 (Lib.countB s sep) s).map Value.string).toArray 9) := Any.strings_Split Tryd.lays146 (by kernel_rfl) s sep m w hs hm h1
open Go.RowKit Go.Lib in
theorem Tryd.strings_Trim_laid (s cutset : ByteArray) (w : World) (hs : s.size ≤ 9223372036854775807) (hcs : cutset.size < 4294967281) (hascii : ∀ (j : Nat) b, cutset.data.toList[j]? = some b → b.toNat < 128) :
    Calls Tryd.prog 25 #[.string s, .string cutset] w fun e w' => e = .returned (.string ⟨(Lib.trimS s.data.toList cutset.data.toList).toArray⟩) ∧ Below w.heap.size w w' := Any.strings_Trim_laid Tryd.lays160 (by kernel_rfl) s cutset w hs hcs hascii
end Go.Proofs
