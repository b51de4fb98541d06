/-
  strings.SplitSeq(s, sep) at a sep of one byte c: THE ITERATOR's CONTRACT: round k is handed piece k of s cut at every c.
-/
import Derived.Test.Qxb6601943aDoorRange
import Derived.Test.Qxb6601943aDoorShelf
import Derived.Test.Qxb6601943aDoorSegs
import Derived.Shelf.Abstract
import Derived.Shelf.RegionOpen
import Derived.WalkKit
import Derived.OwnWalkIn
import Derived.TacticsInMore
import Derived.LoopNIn
import Derived.LoopIn
import Derived.Outline
namespace Go.Proofs.Qxb6601943aDoor
open Go Go.RowKit Go.Shelf
attribute [local go_sem] Oper.semAt_some

/-- The pieces of s cut at every c. -/
def pcs (c : UInt8) (s : ByteArray) : List ByteArray := Lib.splitB ⟨#[c]⟩ 0 (Lib.countB s ⟨#[c]⟩) s
theorem pcs_len (c : UInt8) (s : ByteArray) : (pcs c s).length = Lib.countB s ⟨#[c]⟩ + 1 := Lib.splitB_all ⟨#[c]⟩ (Nat.le_refl 1) 0 _ _ rfl
theorem pcs_segs (c : UInt8) (s : ByteArray) : (pcs c s).map (·.data.toList) = Pl.segs c s.data.toList := by
  unfold pcs
  rw [Lib.splitB_data]
  exact Pl.split_segs c s.data.toList
theorem pcs_miss (c : UInt8) (s : ByteArray) (h : Lib.indexByte s.data.toList c = -1) : pcs c s = [s] := by
  have h' : Lib.indexB s ⟨#[c]⟩ = -1 := by rw [← h]; exact Lib.index_one _ _
  unfold pcs; rw [Lib.splitB_miss _ _ _ _ h']
theorem pcs_hit (c : UInt8) (s : ByteArray) (i : Nat) (h : Lib.indexByte s.data.toList c = i) : i < s.size ∧ pcs c s = s.extract 0 i :: pcs c (s.extract (i + 1) s.size) := by
  have h' : Lib.indexB s ⟨#[c]⟩ = i := by rw [← h]; exact Lib.index_one _ _
  refine ⟨?_, ?_⟩
  · rcases Lib.indexB_cases s ⟨#[c]⟩ with e | ⟨j, e, hj⟩
    · rw [h'] at e; omega
    · rw [h'] at e
      have : (⟨#[c]⟩ : ByteArray).size = 1 := rfl
      omega
  · unfold pcs
    rw [Lib.countB_hit s ⟨#[c]⟩ i (Nat.le_refl 1) h', Nat.add_comm 1, Lib.splitB_hit _ _ _ _ i h']
    rfl

/-- The length of the text in the iterator's cell. -/
def stSize (b : Nat) (w : World) : Nat := match w.cell? ⟨b, 0, none⟩ with
  | some (.string r) => r.size
  | _ => 0
theorem stSize_of {b : Nat} {w : World} {r : ByteArray} (h : w.cell? ⟨b, 0, none⟩ = some (.string r)) : stSize b w = r.size := by unfold stSize; rw [h]

/-- What the iterator does between two rounds: it stores a text into its own cell. -/
def Stp (b : Nat) (A B : World) : Prop := ∃ r : ByteArray, B = A.setCell ⟨b, 0, none⟩ (.string r)
/-- What a round must keep for it: its three cells. -/
structure Kp (b : Nat) (A B : World) : Prop where
  cell : ∀ j, b ≤ j → j < b + 3 → B.cell? ⟨j, 0, none⟩ = A.cell? ⟨j, 0, none⟩
  frozen : ∀ j, b ≤ j → j < b + 3 → B.frozen? ⟨j, 0, none⟩ = A.frozen? ⟨j, 0, none⟩

set_option maxHeartbeats 1000000 in
theorem iter_in (n : Nat) (c : UInt8) (s : ByteArray) (b : Nat) (w : World) (hsz : s.size ≤ 100000000)
    (hs : w.cell? ⟨b, 0, none⟩ = some (.string s)) (hsf : w.frozen? ⟨b, 0, none⟩ = false)
    (hc : w.cell? ⟨b + 1, 0, none⟩ = some (.string ⟨#[c]⟩)) (hz : w.cell? ⟨b + 2, 0, none⟩ = some (.int .i64 0)) :
    Rg.Seqs n Tryd.prog 43 #[.pointer (some ⟨b + 1, 0, none⟩), .pointer (some ⟨b, 0, none⟩), .pointer (some ⟨b + 2, 0, none⟩)] (fun k => .string ((pcs c s).getD k ⟨#[]⟩)) (pcs c s).length (Stp b) (Kp b) w := by
  intro l J Jx W hW hJ hJx hY h0
  have hs' : W.cell? ⟨b, 0, none⟩ = some (.string s) := (hW.cell b (by omega) (by omega)).trans hs
  have hsf' : W.frozen? ⟨b, 0, none⟩ = false := (hW.frozen b (by omega) (by omega)).trans hsf
  have hc' : W.cell? ⟨b + 1, 0, none⟩ = some (.string ⟨#[c]⟩) := (hW.cell _ (by omega) (by omega)).trans hc
  have hz' : W.cell? ⟨b + 2, 0, none⟩ = some (.int .i64 0) := (hW.cell _ (by omega) (by omega)).trans hz
  clear hs hsf hc hz hW
  have HY : Hid (∀ k W1, k < (pcs c s).length → J k W1 → YieldAt Fence.wide (n - 1) Tryd.prog l #[.string ((pcs c s).getD k ⟨#[]⟩)] W1 fun e W' =>
      (e = .returned (.bool true) ∧ J (k + 1) W' ∧ Kp b W1 W') ∨ (e = .returned (.bool false) ∧ Jx (k + 1) W')) := hY
  clear hY
  refine callsIn_of_wp Tryd.func43 rfl trivial ?_ rfl
  simp only [Tryd.ntmps43, List.size_toArray, List.length_cons, List.length_nil, Nat.reduceAdd, Nat.reduceSub, Array.replicate_succ, Array.replicate_zero, List.push_toArray, List.append_toArray, List.nil_append, List.cons_append]
  gi_wp2
  gi_loopw [7] (fun _ wr => ∃ (k : Nat) (r : ByteArray), (pcs c s).drop k = pcs c r ∧ r.size ≤ s.size ∧ J k wr ∧ wr.cell? ⟨b, 0, none⟩ = some (.string r) ∧ wr.frozen? ⟨b, 0, none⟩ = false ∧ wr.cell? ⟨b + 1, 0, none⟩ = some (.string ⟨#[c]⟩) ∧ wr.cell? ⟨b + 2, 0, none⟩ = some (.int .i64 0)) (fun _ wr => stSize b wr)
  case atStart => exact ⟨0, s, rfl, Nat.le_refl _, h0, hs', hsf', hc', hz'⟩
  case round =>
    obtain ⟨k, r, hdr, hrs, hJk, gs, gf, gc, gz⟩ := hrel
    clear hs' hsf' hc' hz'
    have HD : Hid ((pcs c s).drop k = pcs c r) := hdr
    clear hdr
    have hst := stSize_of gs
    by_cases hneg : Lib.indexByte r.data.toList c < 0
    · have hge := Lib.indexByte_ge r.data.toList c
      have hp1 : pcs c r = [r] := pcs_miss c r (by omega)
      have hk1 : (pcs c s).length = k + 1 := by
        have := congrArg List.length HD.out
        rw [hp1, List.length_drop] at this
        simp at this; omega
      have hk2 : (pcs c s).getD k ⟨#[]⟩ = r := by
        have := congrArg (·[0]?) HD.out
        rw [hp1] at this
        simp at this
        rw [List.getD_eq_getElem?_getD, this]; rfl
      obtain ⟨fn, tmps, assign, body, hy, hR⟩ := HY.out k wr (by omega) hJk
      rw [hk2] at hy
      clear hp1 hk2
      have HK : Hid ((pcs c s).length = k + 1) := hk1
      clear hk1
      gi_wp2_with fail
      refine ⟨trivial, fun h => Rg.wide_depth h _, ?_⟩
      refine (callsIn_wide.2 (Tryd.strings_Index_one r c _)).mono ?_
      rintro e w' ⟨rfl, rfl⟩
      gi_wp2_with fail
      refine ⟨fun h => Rg.wide_depth h _, ?_⟩
      refine hR.mono ?_
      rintro e W3 (⟨rfl, hJ3, _⟩ | ⟨rfl, hJx3⟩)
      · gi_wp2
        go_end0
        exact ⟨⟨_, rfl⟩, .inl (by rw [HK.out]; exact hJ3)⟩
      · gi_wp2
        go_end0
        exact ⟨⟨_, rfl⟩, .inr ⟨k, by rw [HK.out]; omega, hJx3⟩⟩
    · obtain ⟨i, hi⟩ : ∃ i : Nat, Lib.indexByte r.data.toList c = i := ⟨(Lib.indexByte r.data.toList c).toNat, by omega⟩
      clear hneg
      obtain ⟨hir, hp1⟩ := pcs_hit c r i hi
      have hkl : k < (pcs c s).length := by
        have := congrArg List.length HD.out
        rw [hp1, List.length_drop] at this
        simp at this; omega
      have hk2 : (pcs c s).getD k ⟨#[]⟩ = r.extract 0 i := by
        have := congrArg (·[0]?) HD.out
        rw [hp1] at this
        simp at this
        rw [List.getD_eq_getElem?_getD, this]; rfl
      have HD2 : Hid ((pcs c s).drop (k + 1) = pcs c (r.extract (i + 1) r.size)) := by
        have := congrArg List.tail HD.out
        rw [hp1, List.tail_drop] at this
        exact this
      obtain ⟨fn, tmps, assign, body, hy, hR⟩ := HY.out k wr hkl hJk
      rw [hk2] at hy
      have hix : Calls Tryd.prog 28 #[.string r, .string ⟨#[c]⟩] wr fun e w' => e = .returned (.int .i64 i) ∧ w' = wr := by
        have := Tryd.strings_Index_one r c wr
        rw [hi] at this
        exact this
      have HX : Hid (Calls Tryd.prog 28 #[.string r, .string ⟨#[c]⟩] wr fun e w' => e = .returned (.int .i64 i) ∧ w' = wr) := hix
      clear hp1 hk2 hi hix
      gi_wp2_with fail
      refine ⟨trivial, fun h => Rg.wide_depth h _, ?_⟩
      refine (callsIn_wide.2 HX.out).mono ?_
      rintro e w' ⟨rfl, rfl⟩
      gi_wp2_with fail
      refine ⟨fun h => Rg.wide_depth h _, ?_⟩
      refine hR.mono ?_
      rintro e W3 (⟨rfl, hJ3, hK3⟩ | ⟨rfl, hJx3⟩)
      · have gs3 := (hK3.cell b (by omega) (by omega)).trans gs
        have gf3 := (hK3.frozen b (by omega) (by omega)).trans gf
        have gc3 := (hK3.cell (b + 1) (by omega) (by omega)).trans gc
        have gz3 := (hK3.cell (b + 2) (by omega) (by omega)).trans gz
        gi_wp2
        go_roundw
        case rel =>
          have e1 : (W3.setCell ⟨b, 0, none⟩ (.string (r.extract (i + 1) r.size))).cell? ⟨b, 0, none⟩ = some (.string (r.extract (i + 1) r.size)) := World.cell?_setCell_same _ _ _ gs3
          refine ⟨k + 1, r.extract (i + 1) r.size, HD2.out, ?_, hJ _ _ _ hJ3 ⟨_, rfl⟩, e1, ?_, ?_, ?_⟩
          · rw [ByteArray.size_extract]; omega
          · rw [World.frozen?_setCell]; exact gf3
          · rw [World.cell?_setCell_other _ _ _ _ (by simp)]; exact gc3
          · rw [World.cell?_setCell_other _ _ _ _ (by simp)]; exact gz3
        case measure =>
          have e1 : (W3.setCell ⟨b, 0, none⟩ (.string (r.extract (i + 1) r.size))).cell? ⟨b, 0, none⟩ = some (.string (r.extract (i + 1) r.size)) := World.cell?_setCell_same _ _ _ gs3
          have e2 := stSize_of e1
          rw [ByteArray.size_extract] at e2
          rw [hst]
          refine Nat.lt_of_le_of_lt (Nat.le_of_eq e2) ?_
          omega
      · gi_wp2
        refine bodyPost_ret (results_none rfl _ _ _) rfl ?_
        exact ⟨⟨_, rfl⟩, .inr ⟨k, hkl, hJx3⟩⟩
end Go.Proofs.Qxb6601943aDoor
