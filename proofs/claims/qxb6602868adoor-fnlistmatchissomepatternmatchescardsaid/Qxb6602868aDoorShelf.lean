/-
  DERIVED: THE SHELF's CONTRACTS AT THIS DUMP, IN PLAIN WORDS (tools/lay-plain.mjs out of 'TrydShelf2.lean', which tools/lay-shelf.mjs wrote): THE SAME DECLARATIONS UNDER THE SAME NAMES: 'import', 'namespace', 'open', 'def', 'theorem' AND NOTHING ELSE: no command of the shelf's: FOR A HAND-IN. Each laying: the table of numbers ('.._ren') and one theorem, a field a fact of the dump's own or the kernel's comparison; each contract: ONE APPLICATION.
-/
import Derived.Shelf.Strings.Split
import Derived.Test.Qxb6602868aDoorProg
namespace Go.Proofs
open Go.Shelf
def Tryd.lays146_ren : Go.Shelf.Ren := ⟨fun | 146 => 27 | 221 => 32 | 268 => 38 | 138 => 39 | 143 => 40 | 195 => 43 | 197 => 44 | 218 => 45 | 219 => 46 | 260 => 47 | 217 => 48 | 225 => 49 | 224 => 50 | 267 => 51 | 266 => 52 | 314 => 53 | n => n, fun | 9 => 9 | 31 => 30 | 3 => 3 | 4 => 4 | 0 => 0 | 105 => 64 | 21 => 21 | 5 => 5 | 46 => 68 | 119 => 69 | 139 => 72 | 138 => 71 | 146 => 74 | 51 => 73 | n => n, fun | 1 => 0 | 3 => 1 | 4 => 2 | n => n⟩
theorem Tryd.lays146 : Go.Proofs.Lays.n146 Tryd.prog Tryd.lays146_ren := {
  mixed := by kernel_rfl
  f138 := Tryd.func39.trans (congrArg some (by kernel_rfl))
  f143 := Tryd.func40.trans (congrArg some (by kernel_rfl))
  f146 := Tryd.func27.trans (congrArg some (by kernel_rfl))
  f195 := Tryd.func43.trans (congrArg some (by kernel_rfl))
  f197 := Tryd.func44.trans (congrArg some (by kernel_rfl))
  f217 := Tryd.func48.trans (congrArg some (by kernel_rfl))
  f218 := Tryd.func45.trans (congrArg some (by kernel_rfl))
  f219 := Tryd.func46.trans (congrArg some (by kernel_rfl))
  f221 := Tryd.func32.trans (congrArg some (by kernel_rfl))
  f224 := Tryd.func50.trans (congrArg some (by kernel_rfl))
  f225 := Tryd.func49.trans (congrArg some (by kernel_rfl))
  f260 := Tryd.func47.trans (congrArg some (by kernel_rfl))
  f266 := Tryd.func52.trans (congrArg some (by kernel_rfl))
  f267 := Tryd.func51.trans (congrArg some (by kernel_rfl))
  f268 := Tryd.func38.trans (congrArg some (by kernel_rfl))
  f314 := Tryd.func53.trans (congrArg some (by kernel_rfl))
  t0 := Tryd.underlying0
  a0 := Tryd.isAgg0
  z0 := Tryd.sizeOf0
  v0 := Tryd.zeroValue0
  t3 := Tryd.underlying3
  a3 := Tryd.isAgg3
  z3 := Tryd.sizeOf3
  v3 := Tryd.zeroValue3
  t4 := Tryd.underlying4
  a4 := Tryd.isAgg4
  z4 := Tryd.sizeOf4
  v4 := Tryd.zeroValue4
  t5 := Tryd.underlying5
  a5 := Tryd.isAgg5
  z5 := Tryd.sizeOf5
  v5 := Tryd.zeroValue5
  t9 := Tryd.underlying9
  a9 := Tryd.isAgg9
  z9 := Tryd.sizeOf9
  v9 := Tryd.zeroValue9
  t21 := Tryd.underlying21
  a21 := Tryd.isAgg21
  z21 := Tryd.sizeOf21
  v21 := Tryd.zeroValue21
  t31 := Tryd.underlying30
  a31 := Tryd.isAgg30
  z31 := Tryd.sizeOf30
  v31 := Tryd.zeroValue30
  t46 := Tryd.underlying68
  a46 := Tryd.isAgg68
  z46 := Tryd.sizeOf68
  v46 := Tryd.zeroValue68
  t51 := Tryd.underlying73
  a51 := Tryd.isAgg73
  z51 := Tryd.sizeOf73
  v51 := Tryd.zeroValue73
  t105 := Tryd.underlying64
  a105 := Tryd.isAgg64
  z105 := Tryd.sizeOf64
  v105 := Tryd.zeroValue64
  t119 := Tryd.underlying69
  a119 := Tryd.isAgg69
  z119 := Tryd.sizeOf69
  t138 := Tryd.underlying71
  a138 := Tryd.isAgg71
  z138 := Tryd.sizeOf71
  v138 := Tryd.zeroValue71
  t139 := Tryd.underlying72
  a139 := Tryd.isAgg72
  z139 := Tryd.sizeOf72
  v139 := Tryd.zeroValue72
  t146 := Tryd.underlying74
  a146 := Tryd.isAgg74
  z146 := Tryd.sizeOf74
  v146 := Tryd.zeroValue74
  g1 := by kernel_rfl
  g3 := by kernel_rfl
  g4 := by kernel_rfl }
open Go.RowKit Go.Lib in
/-- strings.Split. (LAID: no walk: one application.) -/
theorem Tryd.strings_Split (s sep : ByteArray) (m : Int) (w : World) (hs : s.size < 4294967281) (hm : w.cell? ⟨0, 0, none⟩ = some (.int .i64 m)) (h1 : 1 ≤ sep.size) :
    Calls Tryd.prog 27 #[.string s, .string sep] w fun e w' =>
      e = .returned (.slice (some ⟨w.heap.size, 0, none⟩) (Lib.countB s sep + 1) (Lib.countB s sep + 1)) ∧ w' = w.alloc (.cells ((Lib.splitB sep 0 (Lib.countB s sep) s).map Value.string).toArray 9) := Any.strings_Split Tryd.lays146 (by kernel_rfl) s sep m w hs hm h1
end Go.Proofs
