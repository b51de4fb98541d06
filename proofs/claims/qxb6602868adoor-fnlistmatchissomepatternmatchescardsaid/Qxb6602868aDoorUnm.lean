/-
  slices.IndexFunc, ContainsFunc at one element, and List.Unmatched at one name, walked.
-/
import Derived.Test.Qxb6602868aDoorList
import Derived.LoopN
import Derived.Maps.AppendAt
import Derived.Deep.OwnRows
import Derived.Laws.OwnMore
namespace Go.Proofs.Qxb6602868aDoor
open Go Go.RowKit Go.PlainAid Go.WideShapes

set_option maxHeartbeats 1000000 in
theorem indexFunc (f : Value) (pat : Value) (A' : Option Addr) (n C' gs : Nat) (q : Bool) (w : World) (hf : f = .func (.func 28) #[pat] #[]) (hg : w.cell? ⟨gs, 0, none⟩ = some (.slice A' n C'))
    (hm : ∀ wx, Below w.heap.size w wx → Calls Tryd.prog 28 #[pat, .slice A' n C'] wx fun e w' => e = .returned (.bool q) ∧ Below wx.heap.size wx w') :
    Calls Tryd.prog 37 #[.slice (some ⟨gs, 0, none⟩) 1 1, f] w fun e w' => e = .returned (.int .i64 (if q then 0 else -1)) ∧ Below w.heap.size w w' := by
  subst hf
  have hm0 := hm w (Below.refl _ _)
  clear hm
  go_enter Tryd.func37, Tryd.ntmps37
  go_wp2
  refine wp_loop_rounds 2 ?_
  rw [rounds_succ]
  cases q with
  | true =>
    go_wp2_with (go_at_call 28; refine hm0.mono ?_; rintro e w2 ⟨rfl, hB2⟩)
    go_ret
    exact ⟨rfl, hB2⟩
  | false =>
    go_wp2_with (go_at_call 28; refine hm0.mono ?_; rintro e w2 ⟨rfl, hB2⟩)
    rw [rounds_succ]
    go_wp2
    go_ret
    exact ⟨rfl, hB2⟩
set_option maxHeartbeats 1000000 in
theorem containsFunc (f : Value) (pat : Value) (A' : Option Addr) (n C' gs : Nat) (q : Bool) (w : World) (hf : f = .func (.func 28) #[pat] #[]) (hg : w.cell? ⟨gs, 0, none⟩ = some (.slice A' n C'))
    (hm : ∀ wx, Below w.heap.size w wx → Calls Tryd.prog 28 #[pat, .slice A' n C'] wx fun e w' => e = .returned (.bool q) ∧ Below wx.heap.size wx w') :
    Calls Tryd.prog 29 #[.slice (some ⟨gs, 0, none⟩) 1 1, f] w fun e w' => e = .returned (.bool q) ∧ Below w.heap.size w w' := by
  have hi := indexFunc f pat A' n C' gs q w hf hg hm
  clear hm hg
  subst hf
  go_enter Tryd.func29, Tryd.ntmps29
  go_wp2_with fail
  refine hi.mono ?_
  rintro e w2 ⟨rfl, hB2⟩
  clear hi
  cases q with
  | true =>
    go_wp2
    go_ret
    exact ⟨rfl, hB2⟩
  | false =>
    go_wp2
    go_ret
    exact ⟨rfl, hB2⟩

theorem info45 : (Tryd.prog.info? 45).map (fun i => (i.zero, i.size, i.bytes)) = some (some (.agg #[.string ⟨#[]⟩, .string ⟨#[]⟩, .slice none 0 0]), 3, 56) := by kernel_rfl
theorem cells_new (w : World) (l : List Value) (t : TypeId) : ∀ (j : Nat) u, l[j]? = some u → (w.alloc (.cells l.toArray t)).cell? ((⟨w.heap.size, 0, none⟩ : Addr).add j) = some u := by
  intro j u hj
  rw [add_plain, Nat.zero_add, World.cell?_alloc_new]
  simpa using hj
theorem info30 : (Tryd.prog.info? 30).map (fun i => (i.zero, i.size, i.bytes)) = some (some (.slice none 0 0), 1, 24) := by kernel_rfl
theorem make_one (w : World) : (Instr.makeSlice 40 (.int .i64 1) (.int .i64 1)).run Tryd.prog w = .ok (.slice (some ⟨w.heap.size, 0, none⟩) 1 1) (w.alloc (.cells #[.slice none 0 0] 30)) := by
  have h := run_make_row' (P := Tryd.prog) 40 30 (.slice none 0 0) 24 Tryd.underlying40 info30 rfl .i64 .i64 1 (by decide) (by decide) w
  have e : madeCells #[Value.slice none 0 0] 1 = #[Value.slice none 0 0] := Array.toList_inj.1 (by rw [toList_madeCells_one]; rfl)
  rw [e] at h
  exact h

set_option maxRecDepth 10000 in
set_option maxHeartbeats 2000000 in
theorem unmatched (ps : List Pat) (A : Option Addr) (C gn : Nat) (name : ByteArray) (m : Int) (w : World) (hL : ListAt w A ps) (hm : w.cell? ⟨0, 0, none⟩ = some (.int .i64 m)) (h00 : 0 < w.heap.size) (hn : name.size ≤ 1048576)
    (hgn : gn < w.heap.size) (hcn : w.cell? ⟨gn, 0, none⟩ = some (.string name))
    (hpl : ∀ s ∈ pcs name, s.size ≤ 1048576) (hpn : (pcs name).length ≤ 1048577) (hps : ps.length ≤ 1048576) :
    Calls Tryd.prog 16 #[.slice A ps.length C, .slice (some ⟨gn, 0, none⟩) 1 1] w fun e w' => ∃ A2 C2, e = .returned (.slice A2 (ps.countP fun p => !matchF p.l (pcs name)) C2) ∧ Below w.heap.size w w' := by
  obtain ⟨W1, hW1⟩ : ∃ W1, w.alloc (.cells #[.slice none 0 0] 30) = W1 := ⟨_, rfl⟩
  have hB1 : Below w.heap.size w W1 := by rw [← hW1]; exact (Below.refl _ _).alloc (Nat.le_refl _) _
  have hsp := split_at name m W1 (by omega) ((hB1.cell (p := ⟨0, 0, none⟩) h00).trans hm)
  have hcn1 : W1.cell? ⟨gn, 0, none⟩ = some (.string name) := (hB1.cell (p := ⟨gn, 0, none⟩) hgn).trans hcn
  have hmk := make_one
  go_enter Tryd.func16, Tryd.ntmps16
  go_wp2
  refine wp_loop_rounds 2 ?_
  rw [rounds_succ]
  have hW1s : W1.heap.size = w.heap.size + 1 := by rw [← hW1]; simp
  have hW1c : W1.cell? ⟨w.heap.size, 0, none⟩ = some (.slice none 0 0) := by rw [← hW1, World.cell?_alloc_new]; rfl
  have hW1f : W1.frozen? ⟨w.heap.size, 0, none⟩ = false := by rw [← hW1, World.frozen?_alloc_new]
  obtain ⟨W2, hW2⟩ : ∃ W2, W1.alloc (.cells ((pcs name).map Value.string).toArray 9) = W2 := ⟨_, rfl⟩
  have hW2s : W2.heap.size = w.heap.size + 2 := by rw [← hW2, World.size_alloc, hW1s]
  have hW2c : W2.cell? ⟨w.heap.size, 0, none⟩ = some (.slice none 0 0) := by rw [← hW2, World.cell?_alloc_past _ _ _ (by omega)]; exact hW1c
  have hW2f : W2.frozen? ⟨w.heap.size, 0, none⟩ = false := by rw [← hW2, World.frozen?_alloc_past _ _ _ (by omega)]; exact hW1f
  have hB2 : Below w.heap.size w W2 := by rw [← hW2]; exact hB1.alloc (by omega) _
  have hcomp : StrsAt W2 (some ⟨w.heap.size + 1, 0, none⟩) (pcs name) := by
    intro j s hj
    refine ⟨_, rfl, by show w.heap.size + 1 < _; omega, ?_⟩
    rw [← hW2, add_plain, Nat.zero_add, World.cell?_alloc_at _ _ _ _ hW1s.symm]
    simp [hj]
  obtain ⟨W3, hW3⟩ : ∃ W3, W2.setCell ⟨w.heap.size, 0, none⟩ (.slice (some ⟨w.heap.size + 1, 0, none⟩) (pcs name).length (pcs name).length) = W3 := ⟨_, rfl⟩
  have hW3c : W3.cell? ⟨w.heap.size, 0, none⟩ = some (.slice (some ⟨w.heap.size + 1, 0, none⟩) (pcs name).length (pcs name).length) := by rw [← hW3]; exact World.cell?_setCell_same _ _ _ hW2c
  have hB3 : Below w.heap.size w W3 := by rw [← hW3]; exact hB2.setCell (Nat.le_refl _) _
  have hW3s : W3.heap.size = w.heap.size + 2 := by rw [← hW3]; simp [hW2s]
  have hcomp3 : StrsAt W3 (some ⟨w.heap.size + 1, 0, none⟩) (pcs name) := by
    intro j s hj
    obtain ⟨a, h1, h2, h3⟩ := hcomp j s hj
    refine ⟨a, h1, by omega, ?_⟩
    rw [← hW3, World.cell?_setCell_other]
    · exact h3
    · cases h1
      rw [add_plain]
      intro e
      have := congrArg Addr.block e
      simp at this
  have hL3 := hL.later hB3 rfl
  go_wp2_with fail
  refine hsp.mono ?_
  rintro e wx ⟨rfl, hwx⟩
  rw [hwx, hW1s, hW2]; clear hwx wx hsp
  obtain ⟨i0, hi0, hz0, hz1, hz2⟩ := info_parts info45
  obtain ⟨B3, hBB⟩ : ∃ B3, W3.heap.size = B3 := ⟨_, rfl⟩
  have hwB : w.heap.size + 2 = B3 := by omega
  have HBB : Hid (W3.heap.size = B3) := hBB
  have HWB : Hid (w.heap.size + 2 = B3) := hwB
  have hwB' : w.heap.size ≤ B3 := by omega
  have hzB : B3 ≤ W3.heap.size := by omega
  have HL : Hid (ListAt W3 A ps) := hL3
  have HC : Hid (StrsAt W3 (some ⟨w.heap.size + 1, 0, none⟩) (pcs name)) := hcomp3
  have HW3C : Hid (W3.cell? ⟨w.heap.size, 0, none⟩ = some (.slice (some ⟨w.heap.size + 1, 0, none⟩) (pcs name).length (pcs name).length)) := hW3c
  clear hL hL3 hcomp hcomp3 hm hmk hcn hcn1 hW1c hW1f hW1s hW2s hW3s hBB hwB hW3c hB1 hB2
  go_wp2
  rw [rounds_succ]
  go_wp2
  clear hW2c hW2f
  go_loopw [8, 29] (fun v i wr => ∃ (k n : Nat) (xs : List Value), k ≤ ps.length ∧ i = .int .i64 k ∧ n = (ps.take k).countP (fun p => !matchF p.l (pcs name)) ∧ n ≤ k ∧ wr.ownsRow B3 45 3 v n xs ∧ Below B3 W3 wr ∧ B3 ≤ wr.heap.size) (fun _ i _ => ps.length - (RowKit.intOf i).toNat)
  case atStart => exact ⟨0, 0, [], Nat.zero_le _, rfl, rfl, Nat.le_refl _, World.ownsRow_nil _ _ _ _, Below.refl _ _, hzB⟩
  case round =>
    obtain ⟨k, n, xs, hk, rfl, hcn, hnk, hRo, hBx, hzx⟩ := hrel
    have HCN : Hid (n = (ps.take k).countP (fun p => !matchF p.l (pcs name))) := hcn
    clear hcn
    by_cases hlt : k < ps.length
    · obtain ⟨p, hp⟩ : ∃ p, ps[k]? = some p := ⟨_, List.getElem?_eq_getElem hlt⟩
      obtain ⟨a, rfl, h2, h3, h4, h5, h6, h7, h8⟩ := (HL.out.later hBx HBB.out.symm) k p hp
      have hnx : (ps.take (k + 1)).countP (fun p => !matchF p.l (pcs name)) = n + (if matchF p.l (pcs name) then 0 else 1) := by
        rw [List.take_add_one, hp, List.countP_append, ← HCN.out]
        cases h : matchF p.l (pcs name) <;> simp [h]
      obtain ⟨Wa, hWa⟩ : ∃ Wa, wr.alloc (.cells #[.string p.tx, .string p.og, .slice p.A p.l.length p.C] 45) = Wa := ⟨_, rfl⟩
      have hBr : Below wr.heap.size wr Wa := by rw [← hWa]; exact (Below.refl _ wr).alloc (Nat.le_refl _) _
      have hBa : Below B3 W3 Wa := by rw [← hWa]; exact hBx.alloc hzx _
      have hWas : Wa.heap.size = wr.heap.size + 1 := by rw [← hWa]; simp
      have hc0 : Wa.cell? ⟨wr.heap.size, 0, none⟩ = some (.string p.tx) := by rw [← hWa, World.cell?_alloc_new]; rfl
      have hc1 : Wa.cell? ⟨wr.heap.size, 1, none⟩ = some (.string p.og) := by rw [← hWa, World.cell?_alloc_new]; rfl
      have hc2 : Wa.cell? ⟨wr.heap.size, 2, none⟩ = some (.slice p.A p.l.length p.C) := by rw [← hWa, World.cell?_alloc_new]; rfl
      have hRa : Wa.ownsRow B3 45 3 u8 n xs := by rw [← hWa]; exact hRo.alloc _
      have hcf := containsFunc (.func (.func 28) #[.agg #[.string p.tx, .string p.og, .slice p.A p.l.length p.C]] #[]) (.agg #[.string p.tx, .string p.og, .slice p.A p.l.length p.C]) (some ⟨w.heap.size + 1, 0, none⟩) (pcs name).length (pcs name).length w.heap.size (matchF p.l (pcs name)) Wa rfl
        ((hBa.cell (p := ⟨w.heap.size, 0, none⟩) (by show w.heap.size < B3; have := HWB.out; omega)).trans HW3C.out)
        (fun wx hBy => match_any p.tx p.og p.l (pcs name) p.A (some ⟨w.heap.size + 1, 0, none⟩) p.C (pcs name).length wx ((h6.later hBr rfl).later hBy rfl) ((HC.out.later hBa HBB.out.symm).later hBy rfl) h7 hpl (by omega) (by omega))
      have HNX : Hid ((ps.take (k + 1)).countP (fun p => !matchF p.l (pcs name)) = n + (if matchF p.l (pcs name) then 0 else 1)) := hnx
      clear hnx hp h2 h6 h7
      generalize matchF p.l (pcs name) = q at hcf HNX
      go_wp2_with fail
      refine hcf.mono ?_
      rintro e w2 ⟨rfl, hBq⟩
      clear hcf
      have hB2' : Below B3 W3 w2 := hBa.trans (hBq.mono (by omega))
      have d0 : w2.cell? ⟨wr.heap.size, 0, none⟩ = some (.string p.tx) := (hBq.cell (p := ⟨wr.heap.size, 0, none⟩) (by show wr.heap.size < Wa.heap.size; omega)).trans hc0
      have d1 : w2.cell? ⟨wr.heap.size, 1, none⟩ = some (.string p.og) := (hBq.cell (p := ⟨wr.heap.size, 1, none⟩) (by show wr.heap.size < Wa.heap.size; omega)).trans hc1
      have d2 : w2.cell? ⟨wr.heap.size, 2, none⟩ = some (.slice p.A p.l.length p.C) := (hBq.cell (p := ⟨wr.heap.size, 2, none⟩) (by show wr.heap.size < Wa.heap.size; omega)).trans hc2
      have hz2' : B3 ≤ w2.heap.size := by have := hBq.size; omega
      have hR2 : w2.ownsRow B3 45 3 u8 n xs := hRa.kept (w' := w2) (row := none) ⟨hBq.os, hBq.tape, hBq.output, hBq.size, fun j hj _ => hBq.block j hj⟩ (by cases h : u8.ownBlock <;> simp)
      clear hc0 hc1 hc2 hRa hRo hBq hBa hBr hWas
      cases q with
      | true =>
        go_wp2
        go_roundw
        case rel => exact ⟨k + 1, n, xs, by omega, by go_num, by rw [HNX.out]; rfl, by omega, hR2, hB2', hz2'⟩
        case measure => simp [RowKit.intOf]; omega
      | false =>
        go_wp2_with (at_builtin; refine wpList_append_own _ rfl (.tmp 38) (.tmp 40) 28 rfl B3 45 i0 (.agg #[.string ⟨#[]⟩, .string ⟨#[]⟩, .slice none 0 0]) 3 56 Tryd.underlying28 hi0 hz0 hz1 hz2 rfl (by decide) _ _ _ rfl (hR2.alloc _) ⟨w2.heap.size, 0, none⟩ 1 1 [.string p.tx, .string p.og, .slice p.A p.l.length p.C] rfl rfl (cells_new _ _ _) (by simp [Value.oneCell']) (by unfold maxLen; omega) (by omega) (by simp; omega) ?_; intro v5 w6 hown hgrow _)
        have hB6 : Below B3 W3 w6 := (hB2'.alloc hz2' _).grown hgrow (by simp; omega) (fun j e => (hR2.lt j e).1)
        have hz6 : B3 ≤ w6.heap.size := by have := hgrow.size; rw [World.size_alloc] at this; omega
        go_roundw
        case rel => exact ⟨k + 1, n + 1, _, by omega, by go_num, by rw [HNX.out]; rfl, by omega, hown, hB6, hz6⟩
        case measure => simp [RowKit.intOf]; omega
    · have hfull : ps.take k = ps := List.take_of_length_le (by omega)
      have HE : Hid (n = ps.countP (fun p => !matchF p.l (pcs name))) := by
        show _ = _
        rw [HCN.out, hfull]
      clear hfull
      have hsh : ∃ A2 C2, u8 = .slice A2 n C2 := by
        rcases hRo.2 with ⟨h1, h2⟩ | ⟨g, cap, cur, h1, _⟩
        · exact ⟨none, 0, by rw [h1, h2]⟩
        · exact ⟨_, _, h1⟩
      obtain ⟨A2, C2, rfl⟩ := hsh
      go_wp2
      go_ret
      exact ⟨A2, C2, by rw [← HE.out]; rfl, hB3.trans (hBx.mono hwB')⟩
end Go.Proofs.Qxb6602868aDoor
