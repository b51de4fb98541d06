/-
  The argument '[]struct{ Text, Origin string; Parts []string }' opened.
-/
import Derived.Test.Qxb6602868aDoorBytes
import Derived.Deep.Strs
namespace Go.Proofs.Qxb6602868aDoor
open Go Go.RowKit Go.PlainAid Go.WideShapes Go.ChangeShapes Go.Deep

theorem cells34 : Tryd.prog.cellsOf 34 = 3 := by kernel_rfl
theorem cells9 : Tryd.prog.cellsOf 9 = 1 := by kernel_rfl
theorem cells30 : Tryd.prog.cellsOf 30 = 1 := by kernel_rfl
theorem cell_lt {w : World} {a : Addr} {v : Value} (h : w.cell? a = some v) : a.block < w.heap.size := by
  rcases Nat.lt_or_ge a.block w.heap.size with h1 | h1
  · exact h1
  · rw [World.cell?, Array.getElem?_eq_none h1] at h
    cases h
theorem add_succ (b : Addr) (i : Nat) : b.add (i + 1) = ⟨b.block, b.off + (i + 1), none⟩ := by
  unfold Addr.add; rw [if_neg (by omega)]
/-- A slice of strings, its one form. -/
theorem open_parts {H : Type} {enc : TypeId × Value → H} {W : World} {fuel : Nat} {u : Value} {x : DataW H × List MemPlace} (h : DataW.trod enc Tryd.prog W 0 (fun _ => true) true fuel 30 [u] = some x) :
    ∃ A C l, u = .slice A (List.length l) C ∧ StrsAt W A l ∧ (A = none → l = [] ∧ C = 0) ∧ l.length ≤ maxLen ∧ ∀ s ∈ l, s.size ≤ maxLen := by
  rcases open_strs Tryd.underlying30 Tryd.underlying9 cells9 h with ⟨h1, _⟩ | ⟨a, len, cap, m, Sx, h1, _, hl, hm, hmm, _, hc⟩
  · cases h1
    exact ⟨none, 0, [], rfl, (fun _ _ h => by cases h), (fun _ => ⟨rfl, rfl⟩), Nat.zero_le _, fun _ h => by cases h⟩
  · cases h1
    simp only [if_true] at hmm
    have hmm2 := hmm.symm
    subst hmm2
    refine ⟨some a, cap, (List.range len).map Sx, by simp, ?_, (fun h => by cases h), by simp; omega, ?_⟩
    · intro j s hj
      have hjl : j < len := by
        have := (List.getElem?_eq_some_iff.1 hj).1
        simpa using this
      have hs : Sx j = s := by simpa [hjl] using hj
      have := (hc j (by omega)).1
      rw [hs] at this
      exact ⟨a, rfl, by have := cell_lt this; rw [addr_block] at this; exact this, this⟩
    · intro s hs
      obtain ⟨j, hj, rfl⟩ := List.mem_map.1 hs
      exact (hc j (by have := List.mem_range.1 hj; omega)).2

/-- The argument, opened. -/
theorem open_src {H : Type} {enc : TypeId × Value → H} {W : World} {fuel : Nat} {A : Option Addr} {len cap : Nat} {x : DataW H × List MemPlace} (h : DataW.trod enc Tryd.prog W 0 (fun _ => true) true fuel 22 [.slice A len cap] = some x) :
    ∃ ps : List Pat, ps.length = len ∧ SrcAt W A ps ∧ (A = none → ps = [] ∧ cap = 0) ∧ (∀ p ∈ ps, p.A = none → p.l = [] ∧ p.C = 0) ∧ len ≤ 9223372036854775807 := by
  rcases open_slice Tryd.underlying22 h with ⟨h1, _⟩ | ⟨a, len', cap', m, n, D, Pl, h1, _, hl, hm, hmm, _, hx⟩
  · cases h1
    exact ⟨[], rfl, (fun _ _ h => by cases h), (fun _ => ⟨rfl, rfl⟩), (fun _ h => by cases h), by omega⟩
  · cases h1
    simp only [if_true] at hmm
    rw [cells34] at hx
    have each : ∀ i, i < len → ∃ p : Pat, W.cell? (a.add (i * 3)) = some (.string p.tx) ∧ W.cell? ⟨(a.add (i * 3)).block, (a.add (i * 3)).off + 1, none⟩ = some (.string p.og) ∧
        W.cell? ⟨(a.add (i * 3)).block, (a.add (i * 3)).off + 2, none⟩ = some (.slice p.A p.l.length p.C) ∧ StrsAt W p.A p.l ∧ p.tx.size ≤ maxLen ∧ p.og.size ≤ maxLen ∧ p.l.length ≤ maxLen ∧ (∀ s ∈ p.l, s.size ≤ maxLen) ∧ (p.A = none → p.l = [] ∧ p.C = 0) := by
      intro i hi
      obtain ⟨cs', g1, g2⟩ := hx i (by omega)
      obtain ⟨_, hlen, hcell⟩ := World.cells?_some g1
      obtain ⟨y0, y1, y2, n', _, _, f0, f1, f2⟩ := trod_struct3 Tryd.underlying34 g2
      match cs', hlen with
      | [u0, u1, u2], _ =>
        simp only [cells9, cells30, List.drop_zero, List.drop_succ_cons, List.take_succ_cons, List.take_zero] at f0 f1 f2
        obtain ⟨t0, e0, _, z0⟩ := DataW.trod_string Tryd.underlying9 f0
        obtain ⟨t1, e1, _, z1⟩ := DataW.trod_string Tryd.underlying9 f1
        obtain ⟨A2, C2, l2, e2, st2, nn2, ll2, ss2⟩ := open_parts f2
        have c0 := hcell 0 (by omega)
        have c1 := hcell 1 (by omega)
        have c2 := hcell 2 (by omega)
        rw [show (a.add (i * 3)).add 0 = a.add (i * 3) from rfl] at c0
        rw [show (1 : Nat) = 0 + 1 from rfl, add_succ] at c1
        rw [show (2 : Nat) = 1 + 1 from rfl, add_succ] at c2
        cases e0; cases e1; cases e2
        exact ⟨⟨t0, t1, A2, C2, l2⟩, c0, c1, c2, st2, z0, z1, ll2, ss2, nn2⟩
    haveI : Inhabited Pat := ⟨⟨⟨#[]⟩, ⟨#[]⟩, none, 0, []⟩⟩
    obtain ⟨f, hf⟩ := choose_lt each
    have hML : maxLen = 9223372036854775807 := rfl
    refine ⟨(List.range len).map f, by simp, ?_, (fun h => by cases h), ?_, by omega⟩
    · intro j p hj
      have hjl : j < len := by
        have := (List.getElem?_eq_some_iff.1 hj).1
        simpa using this
      have hs : f j = p := by simpa [hjl] using hj
      obtain ⟨q0, q1, q2, q3, q4, q5, q6, q7, _⟩ := hf j hjl
      rw [hs] at q0 q1 q2 q3 q4 q5 q6 q7
      exact ⟨a, rfl, by have := cell_lt q0; rw [addr_block] at this; exact this, q0, q1, q2, q3, by omega, by omega, by omega, fun s hs => by have := q7 s hs; omega⟩
    · intro p hp
      obtain ⟨j, hj, rfl⟩ := List.mem_map.1 hp
      exact (hf j (List.mem_range.1 hj)).2.2.2.2.2.2.2.2
end Go.Proofs.Qxb6602868aDoor
