/-
  THE PLAIN LAYER: a text cut at a byte: no Go in sight.
-/
import Derived.Lib.SplitLaws
namespace Go.Proofs.Qxb6601943aDoor.Pl
open Go.Lib

/-- A text cut at every c. -/
def segs (c : UInt8) : List UInt8 → List (List UInt8)
  | [] => [[]]
  | b :: l => if b = c then [] :: segs c l else
    match segs c l with
    | [] => [[b]]
    | h :: t => (b :: h) :: t

theorem segs_ne (c : UInt8) : ∀ l, segs c l ≠ []
  | [] => by simp [segs]
  | b :: l => by
    unfold segs
    split
    · simp
    · cases h : segs c l with
      | nil => exact absurd h (segs_ne c l)
      | cons a t => simp

theorem segs_cons_ne {c b : UInt8} {l h : List UInt8} {t : List (List UInt8)} (hb : b ≠ c) (e : segs c l = h :: t) : segs c (b :: l) = (b :: h) :: t := by
  rw [segs, if_neg hb, e]

/-- Behind a stretch without c, a c: the stretch is the first piece. -/
theorem segs_append (c : UInt8) : ∀ (p r : List UInt8), c ∉ p → segs c (p ++ c :: r) = p :: segs c r
  | [], r, _ => by simp [segs]
  | b :: p, r, h => by
    have hb : b ≠ c := fun e => h (by simp [e])
    have := segs_append c p r (fun e => h (List.mem_cons_of_mem _ e))
    rw [List.cons_append, segs_cons_ne hb this]

theorem segs_plain (c : UInt8) : ∀ (p : List UInt8), c ∉ p → segs c p = [p]
  | [], _ => rfl
  | b :: p, h => by
    have hb : b ≠ c := fun e => h (by simp [e])
    rw [segs_cons_ne hb (segs_plain c p (fun e => h (List.mem_cons_of_mem _ e)))]

theorem occ_one (s : List UInt8) (c : UInt8) (i : Nat) : occAt s [c] i = (s[i]? == some c) := by
  unfold occAt
  cases h : s.drop i with
  | nil =>
    have : s[i]? = none := List.getElem?_eq_none (by simpa using List.drop_eq_nil_iff.1 h)
    rw [this]; rfl
  | cons a t =>
    have : s[i]? = some a := by
      have := congrArg (·[0]?) h
      simpa using this
    rw [this]
    show (c == a && true) = (some a == some c)
    rw [Bool.eq_iff_iff]
    simp only [Bool.and_true, beq_iff_eq, Option.some.injEq]
    exact ⟨Eq.symm, Eq.symm⟩

/-- The shelf's cut at all instances of one byte is 'segs'. -/
theorem splitK_segs (c : UInt8) : ∀ (k : Nat) (s : List UInt8), count s [c] = k → splitK [c] 0 k s = segs c s
  | 0, s, hk => by
    rw [count_one] at hk
    rw [splitK, segs_plain c s (fun h => by have := List.count_pos_iff.2 h; omega)]
  | k + 1, s, hk => by
    rcases index_spec s [c] with ⟨h1, _⟩ | ⟨i, h1, h2, h3, h4⟩
    · rw [count_miss h1] at hk; omega
    · have hne : (index s [c] == -1) = false := by rw [h1, beq_eq_false_iff_ne]; omega
      rw [splitK, hne, h1]
      simp only [Bool.false_eq_true, if_false, Int.toNat_natCast, Nat.add_zero, List.length_cons, List.length_nil, Nat.zero_add]
      have hc := count_hit (by simp) h1
      simp only [List.length_cons, List.length_nil, Nat.zero_add] at hc
      rw [splitK_segs c k _ (by omega)]
      rw [occ_one] at h3
      have hi : s[i]? = some c := by simpa using h3
      have hlt : i < s.length := (List.getElem?_eq_some_iff.1 hi).1
      have hs : s = s.take i ++ c :: s.drop (i + 1) := by
        have e1 : s.drop i = c :: s.drop (i + 1) := by
          rw [List.drop_eq_getElem_cons hlt]
          congr 1
          exact (List.getElem?_eq_some_iff.1 hi).2
        rw [← e1, List.take_append_drop]
      have hno : c ∉ s.take i := by
        intro hm
        obtain ⟨j, hj⟩ := List.mem_iff_getElem?.1 hm
        have hj' : j < i := by
          have := (List.getElem?_eq_some_iff.1 hj).1
          simp at this; omega
        have := h4 j hj'
        rw [occ_one] at this
        rw [List.getElem?_take_of_lt hj'] at hj
        rw [hj] at this
        simp at this
      have hfin := segs_append c _ (s.drop (i + 1)) hno
      rw [← hs] at hfin
      exact hfin.symm

theorem split_segs (c : UInt8) (s : List UInt8) : splitK [c] 0 (count s [c]) s = segs c s := splitK_segs c _ s rfl

end Go.Proofs.Qxb6601943aDoor.Pl
