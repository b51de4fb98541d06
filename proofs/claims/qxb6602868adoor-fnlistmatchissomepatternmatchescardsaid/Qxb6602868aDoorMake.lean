/-
  ZZNewPatternB1 and zzMakeList, walked.
-/
import Derived.Test.Qxb6602868aDoorCloneF
import Derived.Test.Qxb6602868aDoorUnm
import Derived.Deep.RegionHeldLaw
import Derived.Deep.AppendLies
namespace Go.Proofs.Qxb6602868aDoor
open Go Go.RowKit Go.PlainAid Go.WideShapes

set_option maxHeartbeats 400000 in
theorem newPattern (tx og : ByteArray) (A : Option Addr) (n C : Nat) (w : World) :
    Calls Tryd.prog 25 #[.string tx, .string og, .slice A n C] w fun e w' => e = .returned (.agg #[.string tx, .string og, .slice A n C]) ∧ Below w.heap.size w w' := by
  have hB : Below w.heap.size w (w.alloc (.cells #[.string tx, .string og, .slice A n C] 45)) := (Below.refl _ _).alloc (Nat.le_refl _) _
  go_enter Tryd.func25, Tryd.ntmps25
  go_wp2
  refine bodyPost_ret (v := .agg #[.string tx, .string og, .slice A n C]) (by simp [results, Tryd.results25, go_sem]) rfl ⟨rfl, hB⟩

def cellsOf (qs : List Pat) : List Value := qs.flatMap fun q => [.string q.tx, .string q.og, .slice q.A q.l.length q.C]
theorem cellsOf_snoc (qs : List Pat) (q : Pat) : cellsOf (qs ++ [q]) = cellsOf qs ++ [.string q.tx, .string q.og, .slice q.A q.l.length q.C] := by simp [cellsOf]
theorem cellsOf_at : ∀ (qs : List Pat) (j : Nat) (p : Pat), qs[j]? = some p → (cellsOf qs)[j * 3]? = some (.string p.tx) ∧ (cellsOf qs)[j * 3 + 1]? = some (.string p.og) ∧ (cellsOf qs)[j * 3 + 2]? = some (.slice p.A p.l.length p.C)
  | [], _, _, h => by cases h
  | q :: qs, 0, p, h => by
    cases h
    exact ⟨rfl, rfl, rfl⟩
  | q :: qs, j + 1, p, h => by
    have ih := cellsOf_at qs j p (by simpa using h)
    have e : cellsOf (q :: qs) = .string q.tx :: .string q.og :: .slice q.A q.l.length q.C :: cellsOf qs := rfl
    rw [e, show (j + 1) * 3 = j * 3 + 1 + 1 + 1 by omega, show j * 3 + 1 + 1 + 1 + 1 = (j * 3 + 1) + 1 + 1 + 1 by omega, show j * 3 + 1 + 1 + 1 + 2 = (j * 3 + 2) + 1 + 1 + 1 by omega]
    simp only [List.getElem?_cons_succ]
    exact ih

set_option maxRecDepth 10000 in
set_option maxHeartbeats 2000000 in
theorem makeList (qs : List Pat) (g C : Nat) (w : World) (hL : ListAt w (some ⟨g, 0, none⟩) qs) (_hg : g < w.heap.size) (hl : qs.length ≤ 1048576) :
    Calls Tryd.prog 11 #[.slice (some ⟨g, 0, none⟩) qs.length C] w fun e w' => ∃ g2 C2, e = .returned (.slice (some ⟨g2, 0, none⟩) qs.length C2) ∧ ListAt w' (some ⟨g2, 0, none⟩) qs ∧ Below w.heap.size w w' := by
  have he : ∀ w : World, (binOp .eql 22 (.slice (some ⟨g, 0, none⟩) qs.length C) (.slice none 0 0)).run Tryd.prog w = .ok (.bool false) w := fun _ => rfl
  obtain ⟨i0, hi0, hz0, hz1, hz2⟩ := info_parts info45
  have hmk := run_make (P := Tryd.prog) w 28 45 i0 _ Tryd.underlying28 hi0 hz0 .i64 .i64 0 qs.length (by omega) (by omega) (by rw [hz2]; omega) (by omega)
  simp only [Int.toNat_natCast, hz1] at hmk
  go_enter Tryd.func11, Tryd.ntmps11
  have HL : Hid (ListAt w (some ⟨g, 0, none⟩) qs) := hL
  have hrow0 := World.ownsRow_made (base := w.heap.size) (e := 45) (size := 3) w (madeCells (Value.agg #[.string ⟨#[]⟩, .string ⟨#[]⟩, .slice none 0 0]).cells (qs.length * 3)) qs.length (Nat.le_refl _) (by unfold maxLen; omega) (size_madeCells _ _)
  have hB0 : Below w.heap.size w (w.alloc (.cells (madeCells (Value.agg #[.string ⟨#[]⟩, .string ⟨#[]⟩, .slice none 0 0]).cells (qs.length * 3)) 45)) := (Below.refl _ _).alloc (Nat.le_refl _) _
  go_wp2
  clear hmk
  go_loopw [3, 4] (fun v i wr => ∃ (k : Nat), k ≤ qs.length ∧ i = .int .i64 k ∧ wr.ownsRow w.heap.size 45 3 v k (cellsOf (qs.take k)) ∧ (∃ g2 c2, v = .slice (some ⟨g2, 0, none⟩) k c2) ∧ Below w.heap.size w wr ∧ w.heap.size ≤ wr.heap.size) (fun _ i _ => qs.length - (RowKit.intOf i).toNat)
  case atStart => exact ⟨0, Nat.zero_le _, rfl, hrow0, ⟨_, _, rfl⟩, hB0, hB0.size⟩
  case round =>
    obtain ⟨k, hk, rfl, hR, ⟨g2, c2, rfl⟩, hBx, hzx⟩ := hrel
    by_cases hlt : k < qs.length
    · obtain ⟨p, hp⟩ : ∃ p, qs[k]? = some p := ⟨_, List.getElem?_eq_getElem hlt⟩
      obtain ⟨g', hg', hgl, h0, h1, h2, _⟩ := HL.out k p hp
      cases hg'
      have HS : Hid (∀ wx, Below w.heap.size w wx → (wx.cell? ⟨g, k * 3, none⟩ = some (.string p.tx) ∧ wx.cell? ⟨g, k * 3 + 1, none⟩ = some (.string p.og) ∧ wx.cell? ⟨g, k * 3 + 2, none⟩ = some (.slice p.A p.l.length p.C))) := by
        show ∀ wx, _
        intro wx hB
        exact ⟨(hB.cell (p := ⟨g, k * 3, none⟩) hgl).trans h0, (hB.cell (p := ⟨g, k * 3 + 1, none⟩) hgl).trans h1, (hB.cell (p := ⟨g, k * 3 + 2, none⟩) hgl).trans h2⟩
      have hkn : (k : Int) < qs.length := by omega
      have hBd : Below w.heap.size w wr.drew := hBx.drew
      have HNX : Hid (cellsOf (qs.take (k + 1)) = cellsOf (qs.take k) ++ [.string p.tx, .string p.og, .slice p.A p.l.length p.C]) := by
        show _ = _
        rw [List.take_add_one, hp]
        exact cellsOf_snoc _ _
      have hlo := (hR.lt g2 rfl).1
      clear h0 h1 h2 hL hrow0 hB0
      go_wp2
      go_region_held_law (fun w' => w'.cell? ⟨g, k * 3, none⟩ = some (.string p.tx) ∧ w'.cell? ⟨g, k * 3 + 1, none⟩ = some (.string p.og) ∧ w'.cell? ⟨g, k * 3 + 2, none⟩ = some (.slice p.A p.l.length p.C)) (first | exact HS.out _ hBd | exact HS.out _ hBf | exact HS.out _ (hBw.alloc hzw _) | exact HS.out _ hBw)
        (first
          | (refine step_append_lies _ rfl (.tmp 16) (.tmp 33) 28 rfl w.heap.size 45 i0 (.agg #[.string ⟨#[]⟩, .string ⟨#[]⟩, .slice none 0 0]) 3 56 Tryd.underlying28 hi0 hz0 hz1 hz2 rfl (by decide) (.slice (some ⟨g2, 0, none⟩) k c2) k (cellsOf (qs.take k)) (by simp [Act.eval]) (hR2.alloc _) ⟨w2.heap.size, 0, none⟩ 1 1 [.string p.tx, .string p.og, .slice p.A p.l.length p.C] (by simp [Act.eval]) rfl (cells_new _ _ _) (by simp [Value.oneCell']) (by decide) (by unfold maxLen; omega) (by omega) (by simp; omega) _ rfl ?_; intro g5 c5 w6 hown hgrow hat hlt6; have hBf : Below w.heap.size w w6 := (hBw.alloc hzw _).grown hgrow (by simp; omega) (fun j e => by cases e; exact hlo))
          | (go_at_call 25; refine (newPattern p.tx p.og p.A p.l.length p.C _).mono ?_; rintro e w2 ⟨rfl, hB2⟩; have hBw : Below w.heap.size w w2 := hBd.trans (hB2.mono hBd.size); have hzw : w.heap.size ≤ w2.heap.size := hBw.size; have hR2 : w2.ownsRow w.heap.size 45 3 (.slice (some ⟨g2, 0, none⟩) k c2) k (cellsOf (qs.take k)) := hR.kept (w' := w2) (row := none) ⟨hB2.os, hB2.tape, hB2.output, hB2.size, fun j hj _ => hB2.block j hj⟩ (.inr (by simp [Value.ownBlock]))))
      have HR : Hid (w6.ownsRow w.heap.size 45 3 (.slice (some ⟨g5, 0, none⟩) (k + 1) c5) (k + 1) (cellsOf (qs.take (k + 1)))) := by
        show World.ownsRow _ _ _ _ _ _ _
        rw [HNX.out]; exact hown
      clear hown hgrow hR2 hB2
      go_wp2
      go_roundw
      case rel => exact ⟨k + 1, by omega, by go_num, HR.out, ⟨_, _, rfl⟩, hBf, hBf.size⟩
      case measure => simp [RowKit.intOf]; omega
    · have hkn : k = qs.length := by omega
      have hfull : qs.take k = qs := List.take_of_length_le (by omega)
      rw [hfull] at hR
      have HF : Hid (ListAt wr (some ⟨g2, 0, none⟩) qs) := by
        show ListAt _ _ _
        intro j p hj
        obtain ⟨g', _, _, _, _, _, h6, h7⟩ := (HL.out.later hBx rfl) j p hj
        have hjl := (List.getElem?_eq_some_iff.1 hj).1
        obtain ⟨a0, a1, a2⟩ := cellsOf_at qs j p hj
        exact ⟨g2, rfl, (hR.lt g2 rfl).2, (hR.cellAt _ (by omega)).trans a0, (hR.cellAt _ (by omega)).trans a1, (hR.cellAt _ (by omega)).trans a2, h6, h7⟩
      have HK : Hid (k = qs.length) := hkn
      clear hfull hR hkn
      go_wp2
      go_ret
      exact ⟨g2, c2, by rw [← HK.out]; rfl, HF.out, hBx⟩
end Go.Proofs.Qxb6602868aDoor
