/-
  THE PLAIN LAYER of the tables: whether the pattern from i on matches the subject from j on, and the table's row, filled from its end.
-/
import Derived.Test.Qxb6602868aDoorWildPl
import Derived.Deep.OwnRows
namespace Go.Proofs.Qxb6602868aDoor.Pl
open Go

section
variable (n m : Nat) (star : Nat → Bool) (same : Nat → Nat → Bool)
open Classical in
/-- Does the pattern from i on match the subject from j on? -/
noncomputable def tb (i j : Nat) : Bool := decide (Mt n m star same i j)
variable {n m star same}
open Classical in
theorem tb_end (j : Nat) : tb n m star same n j = decide (j = m) := by
  unfold tb
  by_cases h : j = m
  · rw [decide_eq_true (Mt.end_iff.2 h), decide_eq_true h]
  · rw [decide_eq_false (fun hm => h (Mt.end_iff.1 hm)), decide_eq_false h]
open Classical in
theorem tb_iff {i j : Nat} : tb n m star same i j = true ↔ Mt n m star same i j := by
  unfold tb; exact decide_eq_true_iff
theorem tb_star {i j : Nat} (hi : i < n) (hs : star i = true) (hj : j ≤ m) : tb n m star same i j = (tb n m star same (i + 1) j || (decide (j < m) && tb n m star same i (j + 1))) := by
  rw [Bool.eq_iff_iff]
  simp only [Bool.or_eq_true, Bool.and_eq_true, decide_eq_true_iff, tb_iff]
  constructor
  · intro h
    obtain ⟨k, h1, h2, h3⟩ := (Mt.star_iff hi hs hj).1 h
    by_cases e : k = j
    · subst e; exact .inl h3
    · exact .inr ⟨by omega, (Mt.star_iff hi hs (by omega)).2 ⟨k, by omega, h2, h3⟩⟩
  · rintro (h | ⟨h1, h2⟩)
    · exact .skip hi hs h
    · exact .take hi hs h1 h2
theorem tb_lit {i j : Nat} (hi : i < n) (hs : star i = false) : tb n m star same i j = (decide (j < m) && same i j && tb n m star same (i + 1) (j + 1)) := by
  rw [Bool.eq_iff_iff]
  simp only [Bool.and_eq_true, decide_eq_true_iff, tb_iff]
  rw [Mt.lit_iff hi hs]
  exact ⟨fun ⟨a, b, c⟩ => ⟨⟨a, b⟩, c⟩, fun ⟨⟨a, b⟩, c⟩ => ⟨a, b, c⟩⟩
theorem tb_zero : tb n m star same 0 0 = wild n m star same := rfl
end

/-- The table: block b, N cells, filled from cell K on; a row is W cells long. -/
def Tab (w : World) (b N W K : Nat) (F : Nat → Nat → Bool) : Prop := w.rowIs b 4 N (fun x => .bool (decide (K ≤ x) && F (x / W) (x % W)))
section
variable {w : World} {b N W K : Nat} {F : Nat → Nat → Bool}
theorem Tab.start (h : w.rowIs b 4 N (fun _ => .bool false)) : Tab w b N W N F := h.congr (fun i hi => by rw [decide_eq_false (by omega), Bool.false_and])
theorem idx_div {i j W : Nat} (hj : j < W) : (i * W + j) / W = i := by
  rw [Nat.add_comm, Nat.add_mul_div_right _ _ (by omega), Nat.div_eq_of_lt hj, Nat.zero_add]
theorem idx_mod {i j W : Nat} (hj : j < W) : (i * W + j) % W = j := by
  rw [Nat.add_comm, Nat.add_mul_mod_self_right, Nat.mod_eq_of_lt hj]
theorem Tab.read (h : Tab w b N W K F) {i j x : Nat} (hj : j < W) (e : i * W + j = x) (hk : K ≤ x) (hx : x < N) : w.cell? ⟨b, x, none⟩ = some (.bool (F i j)) := by
  rw [h.cell hx, decide_eq_true hk, Bool.true_and]
  subst e
  rw [idx_div hj, idx_mod hj]
theorem Tab.write (h : Tab w b N W K F) {i j x : Nat} (hj : j < W) (e : i * W + j = x) (hk : K = x + 1) : Tab (w.setCell ⟨b, x, none⟩ (.bool (F i j))) b N W x F := by
  refine (h.set x (.bool (F i j))).congr fun y hy => ?_
  show (if y = x then _ else _) = _
  subst hk
  subst e
  by_cases c : y = i * W + j
  · subst c
    rw [if_pos rfl, decide_eq_true (Nat.le_refl _), Bool.true_and, idx_div hj, idx_mod hj]
  · rw [if_neg c]
    by_cases c2 : i * W + j + 1 ≤ y
    · rw [decide_eq_true c2, decide_eq_true (show i * W + j ≤ y by omega)]
    · rw [decide_eq_false c2, decide_eq_false (show ¬ i * W + j ≤ y by omega)]
end
end Go.Proofs.Qxb6602868aDoor.Pl
