/-
  zzCloneFields, walked.
-/
import Derived.Test.Qxb6602868aDoorClone
import Derived.Deep.RegionHeld
namespace Go.Proofs.Qxb6602868aDoor
open Go Go.RowKit Go.PlainAid Go.WideShapes

theorem info34 : (Tryd.prog.info? 34).map (fun i => (i.zero, i.size, i.bytes)) = some (some (.agg #[.string ⟨#[]⟩, .string ⟨#[]⟩, .slice none 0 0]), 3, 56) := by kernel_rfl
def SmallQ (p : Pat) : Prop := p.l.length ≤ 1048576 ∧ (∀ s ∈ p.l, s.size ≤ 1048576) ∧ (p.A = none → p.l = [] ∧ p.C = 0)

/-- No clone lies in block b. -/
def Off (b : Nat) (qs : List Pat) : Prop := ∀ q ∈ qs, ∀ a, q.A = some a → a.block ≠ b
theorem StrsAt.set {w : World} {A : Option Addr} {l : List ByteArray} {b i : Nat} (h : StrsAt w A l) (hb : ∀ a, A = some a → a.block ≠ b) (u : Value) : StrsAt (w.setCell ⟨b, i, none⟩ u) A l := by
  intro j s hj
  obtain ⟨a, h1, h2, h3⟩ := h j s hj
  refine ⟨a, h1, by simpa using h2, ?_⟩
  rw [World.cell?_setCell_other]
  · exact h3
  · intro e
    have := congrArg Addr.block e
    rw [addr_block] at this
    exact hb a h1 this.symm
theorem ListAt.set {w : World} {b i : Nat} {qs : List Pat} (h : ListAt w (some ⟨b, 0, none⟩) qs) (ho : Off b qs) (hi : qs.length * 3 ≤ i) (u : Value) : ListAt (w.setCell ⟨b, i, none⟩ u) (some ⟨b, 0, none⟩) qs := by
  intro j p hj
  obtain ⟨g, h1, h2, h3, h4, h5, h6, h7⟩ := h j p hj
  cases h1
  have hjl := (List.getElem?_eq_some_iff.1 hj).1
  have hc : ∀ x, x < i → (w.setCell ⟨b, i, none⟩ u).cell? ⟨b, x, none⟩ = w.cell? ⟨b, x, none⟩ := fun x hx => World.cell?_setCell_other _ _ _ _ (by
    intro e
    have := congrArg Addr.off e
    simp at this
    omega)
  exact ⟨b, rfl, by simpa using h2, (hc _ (by omega)).trans h3, (hc _ (by omega)).trans h4, (hc _ (by omega)).trans h5, h6.set (ho p (List.mem_of_getElem? hj)) u, h7⟩
theorem ListAt.push {w : World} {b k : Nat} {qs : List Pat} {q : Pat} (h : ListAt w (some ⟨b, 0, none⟩) qs) (hk : qs.length = k) (hb : b < w.heap.size) (h0 : w.cell? ⟨b, k * 3, none⟩ = some (.string q.tx)) (h1 : w.cell? ⟨b, k * 3 + 1, none⟩ = some (.string q.og))
    (h2 : w.cell? ⟨b, k * 3 + 2, none⟩ = some (.slice q.A q.l.length q.C)) (h3 : StrsAt w q.A q.l) (h4 : ∀ s ∈ q.l, s.size ≤ 1048576) (h5 : q.l.length ≤ 1048576) : ListAt w (some ⟨b, 0, none⟩) (qs ++ [q]) := by
  intro j p hj
  by_cases hjk : j < k
  · rw [List.getElem?_append_left (by omega)] at hj
    exact h j p hj
  · rw [List.getElem?_append_right (by omega), hk] at hj
    have hjk' : j = k := by
      have := (List.getElem?_eq_some_iff.1 hj).1
      simp at this
      omega
    subst hjk'
    rw [Nat.sub_self] at hj
    cases hj
    exact ⟨b, rfl, hb, h0, h1, h2, h3, h4, h5⟩
theorem row_set {w : World} {b i n : Nat} {u : Value} (h : ∃ c : Array Value, w.heap[b]? = some (.cells c 34 (0, 0)) ∧ c.size = n) : ∃ c : Array Value, (w.setCell ⟨b, i, none⟩ u).heap[b]? = some (.cells c 34 (0, 0)) ∧ c.size = n := by
  obtain ⟨c, h1, h2⟩ := h
  exact ⟨c.setIfInBounds i u, heap_setCell_same w b i c 34 u h1, by simpa using h2⟩

set_option maxRecDepth 10000 in
set_option maxHeartbeats 2000000 in
theorem cloneFields (ps : List Pat) (a : Addr) (C : Nat) (w : World) (hA : SrcAt w (some a) ps) (hq : ∀ p ∈ ps, SmallQ p) (hl : ps.length ≤ 1048576) :
    Calls Tryd.prog 10 #[.slice (some a) ps.length C] w fun e w' => ∃ g C2 qs, e = .returned (.slice (some ⟨g, 0, none⟩) ps.length C2) ∧ qs.length = ps.length ∧ ListAt w' (some ⟨g, 0, none⟩) qs ∧ g < w'.heap.size ∧ Below w.heap.size w w' := by
  have he : ∀ w : World, (binOp .eql 22 (.slice (some a) ps.length C) (.slice none 0 0)).run Tryd.prog w = .ok (.bool false) w := fun _ => rfl
  obtain ⟨i0, hi0, hz0, hz1, hz2⟩ := info_parts info34
  have hmk := run_make (P := Tryd.prog) w 22 34 i0 _ Tryd.underlying22 hi0 hz0 .i64 .i64 ps.length ps.length (by omega) (Int.le_refl _) (by rw [hz2]; omega) (by omega)
  simp only [Int.toNat_natCast, hz1] at hmk
  have HA : Hid (SrcAt w (some a) ps) := hA
  have HQ : Hid (∀ p ∈ ps, SmallQ p) := hq
  clear hA hq
  obtain ⟨W0, hW0⟩ : ∃ W0, w.alloc (.cells (madeCells (Value.agg #[.string ⟨#[]⟩, .string ⟨#[]⟩, .slice none 0 0]).cells (ps.length * 3)) 34) = W0 := ⟨_, rfl⟩
  rw [hW0] at hmk
  have hb0 : ∃ c : Array Value, W0.heap[w.heap.size]? = some (.cells c 34 (0, 0)) ∧ c.size = ps.length * 3 := ⟨_, by rw [← hW0]; exact heap_alloc_new w _, size_madeCells _ _⟩
  have hB0 : Below w.heap.size w W0 := by rw [← hW0]; exact (Below.refl _ _).alloc (Nat.le_refl _) _
  clear hW0 hi0 hz0 hz1 hz2
  go_enter Tryd.func10, Tryd.ntmps10
  go_wp2
  clear hmk
  go_loopw [4] (fun i wr => ∃ (k : Nat) (qs : List Pat), k ≤ ps.length ∧ i = .int .i64 k ∧ qs.length = k ∧ ListAt wr (some ⟨w.heap.size, 0, none⟩) qs ∧ Off w.heap.size qs ∧ (∃ c : Array Value, wr.heap[w.heap.size]? = some (.cells c 34 (0, 0)) ∧ c.size = ps.length * 3) ∧ Below w.heap.size w wr) (fun i _ => ps.length - (RowKit.intOf i).toNat)
  case atStart => exact ⟨0, [], Nat.zero_le _, rfl, rfl, (fun j p h => by cases h), (fun q h => by cases h), hb0, hB0⟩
  case round =>
    obtain ⟨k, qs, hk, rfl, hqk, hL, hO, ⟨c, hc, hcs⟩, hBx⟩ := hrel
    clear hb0 hB0
    by_cases hlt : k < ps.length
    · obtain ⟨p, hp⟩ : ∃ p, ps[k]? = some p := ⟨_, List.getElem?_eq_getElem hlt⟩
      obtain ⟨a', ha', hab, h0, h1, h2, hst, _, _, _, _⟩ := HA.out k p hp
      cases ha'
      have hblk : ∀ x, x < w.heap.size → wr.heap[x]? = w.heap[x]? := hBx.block
      have e0 : wr.cell? (a.add (k * 3)) = some (.string p.tx) := (hBx.cell (p := a.add (k * 3)) (by rw [addr_block]; exact hab)).trans h0
      have e1 : wr.cell? ⟨(a.add (k * 3)).block, (a.add (k * 3)).off + 1, none⟩ = some (.string p.og) := (hBx.cell (p := ⟨(a.add (k * 3)).block, (a.add (k * 3)).off + 1, none⟩) (by show (a.add (k * 3)).block < _; rw [addr_block]; exact hab)).trans h1
      have e2 : wr.cell? ⟨(a.add (k * 3)).block, (a.add (k * 3)).off + 2, none⟩ = some (.slice p.A p.l.length p.C) := (hBx.cell (p := ⟨(a.add (k * 3)).block, (a.add (k * 3)).off + 2, none⟩) (by show (a.add (k * 3)).block < _; rw [addr_block]; exact hab)).trans h2
      have hkn : (k : Int) < ps.length := by omega
      obtain ⟨q1, q2, q3⟩ := HQ.out p (List.mem_of_getElem? hp)
      have hcl := fun wx (hB : Below w.heap.size w wx) => cloneStrings p.l p.A p.C wx (hst.later hB rfl) q3 q1
      have HCL : Hid (∀ wx, Below w.heap.size w wx → Calls Tryd.prog 19 #[.slice p.A p.l.length p.C] wx fun e w' => ∃ A2 C2, e = .returned (.slice A2 p.l.length C2) ∧ StrsAt w' A2 p.l ∧ (∀ a, A2 = some a → wx.heap.size ≤ a.block) ∧ Below wx.heap.size wx w') := hcl
      have hS : ∀ wx, Below w.heap.size w wx → (wx.cell? (a.add (k * 3)) = some (.string p.tx) ∧ wx.cell? ⟨(a.add (k * 3)).block, (a.add (k * 3)).off + 1, none⟩ = some (.string p.og) ∧ wx.cell? ⟨(a.add (k * 3)).block, (a.add (k * 3)).off + 2, none⟩ = some (.slice p.A p.l.length p.C)) := by
        intro wx hB
        exact ⟨(hB.cell (p := a.add (k * 3)) (by rw [addr_block]; exact hab)).trans h0, (hB.cell (p := ⟨(a.add (k * 3)).block, (a.add (k * 3)).off + 1, none⟩) (by show (a.add (k * 3)).block < _; rw [addr_block]; exact hab)).trans h1,
          (hB.cell (p := ⟨(a.add (k * 3)).block, (a.add (k * 3)).off + 2, none⟩) (by show (a.add (k * 3)).block < _; rw [addr_block]; exact hab)).trans h2⟩
      have HS : Hid (∀ wx, Below w.heap.size w wx → (wx.cell? (a.add (k * 3)) = some (.string p.tx) ∧ wx.cell? ⟨(a.add (k * 3)).block, (a.add (k * 3)).off + 1, none⟩ = some (.string p.og) ∧ wx.cell? ⟨(a.add (k * 3)).block, (a.add (k * 3)).off + 2, none⟩ = some (.slice p.A p.l.length p.C))) := hS
      have hBd : Below w.heap.size w wr.drew := hBx.drew
      have HD : Hid (∀ w2, Below wr.heap.size wr w2 → ∃ v0 v1 v2, w2.cell? ⟨w.heap.size, k * 3, none⟩ = some v0 ∧ w2.cell? ⟨w.heap.size, k * 3 + 1, none⟩ = some v1 ∧ w2.cell? ⟨w.heap.size, k * 3 + 2, none⟩ = some v2 ∧ w2.frozen? ⟨w.heap.size, k * 3, none⟩ = false ∧ w2.frozen? ⟨w.heap.size, k * 3 + 1, none⟩ = false ∧ w2.frozen? ⟨w.heap.size, k * 3 + 2, none⟩ = false) := by
        show ∀ w2, _
        intro w2 hB2
        have hlt2 := (Array.getElem?_eq_some_iff.1 hc).1
        have h2 : w2.heap[w.heap.size]? = some (.cells c 34 (0, 0)) := (hB2.block _ hlt2).trans hc
        refine ⟨c[k * 3]'(by omega), c[k * 3 + 1]'(by omega), c[k * 3 + 2]'(by omega), ?_, ?_, ?_, ?_, ?_, ?_⟩
        · rw [cell_of_row w2 _ _ c 34 (0, 0) h2]; exact Array.getElem?_eq_getElem _
        · rw [cell_of_row w2 _ _ c 34 (0, 0) h2]; exact Array.getElem?_eq_getElem _
        · rw [cell_of_row w2 _ _ c 34 (0, 0) h2]; exact Array.getElem?_eq_getElem _
        · exact frozen_of_row w2 _ _ c 34 h2
        · exact frozen_of_row w2 _ _ c 34 h2
        · exact frozen_of_row w2 _ _ c 34 h2
      clear hS hcl hst h0 h1 h2 hblk e0 e1 e2
      go_wp2
      go_region_held (fun w' => w'.cell? (a.add (k * 3)) = some (.string p.tx) ∧ w'.cell? ⟨(a.add (k * 3)).block, (a.add (k * 3)).off + 1, none⟩ = some (.string p.og) ∧ w'.cell? ⟨(a.add (k * 3)).block, (a.add (k * 3)).off + 2, none⟩ = some (.slice p.A p.l.length p.C)) (first | exact HS.out _ hBd | exact HS.out _ (by assumption) | exact HS.out _ (((hBw.setCell (Nat.le_refl _) _).setCell (Nat.le_refl _) _).setCell (Nat.le_refl _) _)) ((go_at_call 19; refine (HCL.out _ hBd).mono ?_; rintro e w2 ⟨A2, C2, rfl, hst2, hof2, hB2⟩; have hBw : Below w.heap.size w w2 := hBd.trans (hB2.mono hBd.size); obtain ⟨v0, v1, v2, g0, g1, g2, f0, f1, f2⟩ := HD.out w2 ⟨hB2.os, hB2.tape, hB2.output, hB2.size, hB2.block⟩))
      have hB2' : Below wr.heap.size wr w2 := ⟨hB2.os, hB2.tape, hB2.output, hB2.size, hB2.block⟩
      have hlt2 := (Array.getElem?_eq_some_iff.1 hc).1
      have hof3 : ∀ a, A2 = some a → a.block ≠ w.heap.size := fun a h => by
        have h1 : wr.heap.size ≤ a.block := hof2 a h
        omega
      have hL2 := hL.later hB2' rfl
      have hrow2 : ∃ c : Array Value, w2.heap[w.heap.size]? = some (.cells c 34 (0, 0)) ∧ c.size = ps.length * 3 := ⟨c, (hB2'.block _ hlt2).trans hc, hcs⟩
      have hrow3 := row_set (u := .slice A2 p.l.length C2) (i := k * 3 + 2) (row_set (u := .string p.og) (i := k * 3 + 1) (row_set (u := .string p.tx) (i := k * 3) hrow2))
      have hL3 := ((hL2.set hO (i := k * 3) (by omega) (.string p.tx)).set hO (i := k * 3 + 1) (by omega) (.string p.og)).set hO (i := k * 3 + 2) (by omega) (.slice A2 p.l.length C2)
      have hst3 := ((hst2.set hof3 (i := k * 3) (.string p.tx)).set hof3 (i := k * 3 + 1) (.string p.og)).set hof3 (i := k * 3 + 2) (.slice A2 p.l.length C2)
      have hBw3 := ((hBw.setCell (p := ⟨w.heap.size, k * 3, none⟩) (Nat.le_refl _) (.string p.tx)).setCell (p := ⟨w.heap.size, k * 3 + 1, none⟩) (Nat.le_refl _) (.string p.og)).setCell (p := ⟨w.heap.size, k * 3 + 2, none⟩) (Nat.le_refl _) (.slice A2 p.l.length C2)
      have a0 : (((w2.setCell ⟨w.heap.size, k * 3, none⟩ (.string p.tx)).setCell ⟨w.heap.size, k * 3 + 1, none⟩ (.string p.og)).setCell ⟨w.heap.size, k * 3 + 2, none⟩ (.slice A2 p.l.length C2)).cell? ⟨w.heap.size, k * 3, none⟩ = some (.string p.tx) := by
        rw [World.cell?_setCell_other _ _ _ _ (by simp), World.cell?_setCell_other _ _ _ _ (by simp)]
        exact World.cell?_setCell_same _ _ _ g0
      have a1 : (((w2.setCell ⟨w.heap.size, k * 3, none⟩ (.string p.tx)).setCell ⟨w.heap.size, k * 3 + 1, none⟩ (.string p.og)).setCell ⟨w.heap.size, k * 3 + 2, none⟩ (.slice A2 p.l.length C2)).cell? ⟨w.heap.size, k * 3 + 1, none⟩ = some (.string p.og) := by
        rw [World.cell?_setCell_other _ _ _ _ (by simp)]
        refine World.cell?_setCell_same _ _ _ (u := v1) ?_
        rw [World.cell?_setCell_other _ _ _ _ (by simp)]; exact g1
      have a2 : (((w2.setCell ⟨w.heap.size, k * 3, none⟩ (.string p.tx)).setCell ⟨w.heap.size, k * 3 + 1, none⟩ (.string p.og)).setCell ⟨w.heap.size, k * 3 + 2, none⟩ (.slice A2 p.l.length C2)).cell? ⟨w.heap.size, k * 3 + 2, none⟩ = some (.slice A2 p.l.length C2) := by
        refine World.cell?_setCell_same _ _ _ (u := v2) ?_
        rw [World.cell?_setCell_other _ _ _ _ (by simp), World.cell?_setCell_other _ _ _ _ (by simp)]; exact g2
      obtain ⟨W3, hW3⟩ : ∃ W3, (((w2.setCell ⟨w.heap.size, k * 3, none⟩ (.string p.tx)).setCell ⟨w.heap.size, k * 3 + 1, none⟩ (.string p.og)).setCell ⟨w.heap.size, k * 3 + 2, none⟩ (.slice A2 p.l.length C2)) = W3 := ⟨_, rfl⟩
      rw [hW3] at hrow3 hL3 hst3 hBw3 a0 a1 a2 ⊢
      have hb3 : w.heap.size < W3.heap.size := (Array.getElem?_eq_some_iff.1 hrow3.choose_spec.1).1
      have HF : Hid (ListAt W3 (some ⟨w.heap.size, 0, none⟩) (qs ++ [⟨p.tx, p.og, A2, C2, p.l⟩])) := hL3.push (q := ⟨p.tx, p.og, A2, C2, p.l⟩) hqk hb3 a0 a1 a2 hst3 q2 q1
      have HO3 : Hid (Off w.heap.size (qs ++ [⟨p.tx, p.og, A2, C2, p.l⟩])) := fun q hq => by
        rcases List.mem_append.1 hq with h | h
        · exact hO q h
        · cases List.mem_singleton.1 h; exact hof3
      have HRW : Hid (∃ c : Array Value, W3.heap[w.heap.size]? = some (.cells c 34 (0, 0)) ∧ c.size = ps.length * 3) := hrow3
      clear hrow3 hL3 hst3 a0 a1 a2 hW3 hL2 hrow2 hst2 hof2 hof3 g0 g1 g2 f0 f1 f2 hB2 hB2' hBw hL hc
      go_wp2
      go_roundw
      case rel => exact ⟨k + 1, _, by omega, by go_num, by simp [hqk], HF.out, HO3.out, HRW.out, hBw3⟩
      case measure => simp [RowKit.intOf]; omega
    · go_wp2
      go_ret
      exact ⟨w.heap.size, ps.length, qs, rfl, by omega, hL, (Array.getElem?_eq_some_iff.1 hc).1, hBx⟩
end Go.Proofs.Qxb6602868aDoor
