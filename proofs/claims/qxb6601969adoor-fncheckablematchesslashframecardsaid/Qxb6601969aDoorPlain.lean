/-
  THE PLAIN LAW of FnCheckableMatchesSlashFrame: no Go in sight. A text cut at every byte c; a piece q (without c) is among the pieces just where c q c occurs in c text c.
-/
import Derived.Lib.SplitLaws
namespace Go.Proofs.Qxb6601969aDoor.Pl
open Go.Lib

/-- A text cut at every c. -/
def segs (c : UInt8) : List UInt8 → List (List UInt8)
  | [] => [[]]
  | b :: l => if b = c then [] :: segs c l else
    match segs c l with
    | [] => [[b]]
    | h :: t => (b :: h) :: t

theorem segs_ne (c : UInt8) : ∀ l, segs c l ≠ []
  | [] => by simp [segs]
  | b :: l => by
    unfold segs
    split
    · simp
    · cases h : segs c l with
      | nil => exact absurd h (segs_ne c l)
      | cons a t => simp

theorem segs_cons_ne {c b : UInt8} {l h : List UInt8} {t : List (List UInt8)} (hb : b ≠ c) (e : segs c l = h :: t) : segs c (b :: l) = (b :: h) :: t := by
  rw [segs, if_neg hb, e]

/-- Behind a stretch without c, a c: the stretch is the first piece. -/
theorem segs_append (c : UInt8) : ∀ (p r : List UInt8), c ∉ p → segs c (p ++ c :: r) = p :: segs c r
  | [], r, _ => by simp [segs]
  | b :: p, r, h => by
    have hb : b ≠ c := fun e => h (by simp [e])
    have := segs_append c p r (fun e => h (List.mem_cons_of_mem _ e))
    rw [List.cons_append, segs_cons_ne hb this]

theorem segs_plain (c : UInt8) : ∀ (p : List UInt8), c ∉ p → segs c p = [p]
  | [], _ => rfl
  | b :: p, h => by
    have hb : b ≠ c := fun e => h (by simp [e])
    rw [segs_cons_ne hb (segs_plain c p (fun e => h (List.mem_cons_of_mem _ e)))]

theorem occ_one (s : List UInt8) (c : UInt8) (i : Nat) : occAt s [c] i = (s[i]? == some c) := by
  unfold occAt
  cases h : s.drop i with
  | nil =>
    have : s[i]? = none := List.getElem?_eq_none (by simpa using List.drop_eq_nil_iff.1 h)
    rw [this]; rfl
  | cons a t =>
    have : s[i]? = some a := by
      have := congrArg (·[0]?) h
      simpa using this
    rw [this]
    show (c == a && true) = (some a == some c)
    rw [Bool.eq_iff_iff]
    simp only [Bool.and_true, beq_iff_eq, Option.some.injEq]
    exact ⟨Eq.symm, Eq.symm⟩

/-- The shelf's cut at all instances of one byte is 'segs'. -/
theorem splitK_segs (c : UInt8) : ∀ (k : Nat) (s : List UInt8), count s [c] = k → splitK [c] 0 k s = segs c s
  | 0, s, hk => by
    rw [count_one] at hk
    rw [splitK, segs_plain c s (fun h => by have := List.count_pos_iff.2 h; omega)]
  | k + 1, s, hk => by
    rcases index_spec s [c] with ⟨h1, _⟩ | ⟨i, h1, h2, h3, h4⟩
    · rw [count_miss h1] at hk; omega
    · have hne : (index s [c] == -1) = false := by rw [h1, beq_eq_false_iff_ne]; omega
      rw [splitK, hne, h1]
      simp only [Bool.false_eq_true, if_false, Int.toNat_natCast, Nat.add_zero, List.length_cons, List.length_nil, Nat.zero_add]
      have hc := count_hit (by simp) h1
      simp only [List.length_cons, List.length_nil, Nat.zero_add] at hc
      rw [splitK_segs c k _ (by omega)]
      rw [occ_one] at h3
      have hi : s[i]? = some c := by simpa using h3
      have hlt : i < s.length := (List.getElem?_eq_some_iff.1 hi).1
      have hs : s = s.take i ++ c :: s.drop (i + 1) := by
        have e1 : s.drop i = c :: s.drop (i + 1) := by
          rw [List.drop_eq_getElem_cons hlt]
          congr 1
          exact (List.getElem?_eq_some_iff.1 hi).2
        rw [← e1, List.take_append_drop]
      have hno : c ∉ s.take i := by
        intro hm
        obtain ⟨j, hj⟩ := List.mem_iff_getElem?.1 hm
        have hj' : j < i := by
          have := (List.getElem?_eq_some_iff.1 hj).1
          simp at this; omega
        have := h4 j hj'
        rw [occ_one] at this
        rw [List.getElem?_take_of_lt hj'] at hj
        rw [hj] at this
        simp at this
      have hfin := segs_append c _ (s.drop (i + 1)) hno
      rw [← hs] at hfin
      exact hfin.symm

theorem split_segs (c : UInt8) (s : List UInt8) : splitK [c] 0 (count s [c]) s = segs c s := splitK_segs c _ s rfl

/-! ### A piece q among the pieces: c q c occurs in c text c -/
theorem head_iff (c : UInt8) : ∀ (l q : List UInt8), c ∉ q → ((q ++ [c]) <+: (l ++ [c]) ↔ (segs c l).head? = some q)
  | [], q, hq => by
    cases q with
    | nil => simp [segs]
    | cons a q => simp [segs]
  | b :: l, q, hq => by
    by_cases hb : b = c
    · subst hb
      cases q with
      | nil => simp [segs]
      | cons a q =>
        have ha : a ≠ b := fun e => hq (by simp [e])
        simp [segs, ha]
    · obtain ⟨h, t, e⟩ : ∃ h t, segs c l = h :: t := by
        cases e : segs c l with
        | nil => exact absurd e (segs_ne c l)
        | cons h t => exact ⟨h, t, rfl⟩
      rw [segs_cons_ne hb e]
      cases q with
      | nil => simp [Ne.symm hb]
      | cons a q =>
        have ih := head_iff c l q (fun h => hq (List.mem_cons_of_mem _ h))
        rw [e] at ih
        simp only [List.cons_append, List.cons_prefix_cons, List.head?_cons, Option.some.injEq, List.cons.injEq] at ih ⊢
        rw [ih]
        constructor
        · rintro ⟨rfl, rfl⟩; exact ⟨rfl, rfl⟩
        · rintro ⟨rfl, rfl⟩; exact ⟨rfl, rfl⟩

theorem tail_iff (c : UInt8) : ∀ (l q : List UInt8), c ∉ q → ((c :: (q ++ [c])) <:+: (l ++ [c]) ↔ q ∈ (segs c l).tail)
  | [], q, hq => by
    simp [segs]
    intro h
    have := h.length_le
    simp at this
  | b :: l, q, hq => by
    have ih := tail_iff c l q hq
    have ihh := head_iff c l q hq
    obtain ⟨h, t, e⟩ : ∃ h t, segs c l = h :: t := by
      cases e : segs c l with
      | nil => exact absurd e (segs_ne c l)
      | cons h t => exact ⟨h, t, rfl⟩
    rw [e] at ih ihh
    rw [List.cons_append, List.infix_cons_iff, ih]
    by_cases hb : b = c
    · subst hb
      have e2 : segs b (b :: l) = [] :: segs b l := by simp [segs]
      rw [e2, e]
      simp only [List.cons_prefix_cons, List.mem_cons, true_and, ihh, List.head?_cons, Option.some.injEq, List.tail_cons]
      constructor
      · rintro (rfl | h)
        · exact .inl rfl
        · exact .inr h
      · rintro (rfl | h)
        · exact .inl rfl
        · exact .inr h
    · rw [segs_cons_ne hb e]
      simp only [List.cons_prefix_cons, List.tail_cons]
      constructor
      · rintro (⟨h1, _⟩ | h)
        · exact absurd h1.symm hb
        · exact h
      · exact .inr

theorem mem_iff (c : UInt8) (l q : List UInt8) (hq : c ∉ q) : (c :: (q ++ [c])) <:+: (c :: (l ++ [c])) ↔ q ∈ segs c l := by
  have h1 := tail_iff c (c :: l) q hq
  have e2 : segs c (c :: l) = [] :: segs c l := by simp [segs]
  rw [e2, List.tail_cons] at h1
  exact h1

theorem contains_iff (s sub : List UInt8) : contains s sub = true ↔ sub <:+: s := by
  unfold contains
  rw [decide_eq_true_iff]
  constructor
  · intro h
    rcases index_spec s sub with ⟨h1, _⟩ | ⟨i, h1, h2, h3, _⟩
    · omega
    · unfold occAt at h3
      exact (List.isPrefixOf_iff_prefix.1 h3).isInfix.trans (List.drop_suffix i s).isInfix
  · intro h
    rcases index_spec s sub with ⟨_, h2⟩ | ⟨i, h1, _⟩
    · obtain ⟨a, b, rfl⟩ := h
      have := h2 a.length (by simp)
      unfold occAt at this
      rw [List.append_assoc, List.drop_left] at this
      have hp : sub.isPrefixOf (sub ++ b) = true := List.isPrefixOf_iff_prefix.2 (List.prefix_append _ _)
      rw [hp] at this; cases this
    · omega

/-- No piece is empty, "." or "..". -/
def okSeg (p : List UInt8) : Bool := !(p == [] || p == [46] || p == [46, 46])
def chk (l : List UInt8) : Bool := (segs 47 l).all okSeg
def want (l : List UInt8) : Bool :=
  !contains (47 :: (l ++ [47])) [47, 47] && !contains (47 :: (l ++ [47])) [47, 46, 47] && !contains (47 :: (l ++ [47])) [47, 46, 46, 47]

theorem okSeg_iff (p : List UInt8) : okSeg p = true ↔ p ≠ [] ∧ p ≠ [46] ∧ p ≠ [46, 46] := by
  unfold okSeg
  rw [Bool.not_eq_true', Bool.or_eq_false_iff, Bool.or_eq_false_iff, beq_eq_false_iff_ne, beq_eq_false_iff_ne, beq_eq_false_iff_ne, and_assoc]

theorem plain (l : List UInt8) : chk l = want l := by
  have h0 : contains (47 :: (l ++ [47])) [47, 47] = true ↔ [] ∈ segs 47 l := (contains_iff _ _).trans (mem_iff 47 l [] (by simp))
  have h1 : contains (47 :: (l ++ [47])) [47, 46, 47] = true ↔ [46] ∈ segs 47 l := (contains_iff _ _).trans (mem_iff 47 l [46] (by decide))
  have h2 : contains (47 :: (l ++ [47])) [47, 46, 46, 47] = true ↔ [46, 46] ∈ segs 47 l := (contains_iff _ _).trans (mem_iff 47 l [46, 46] (by decide))
  rw [Bool.eq_iff_iff]
  unfold chk want
  simp only [List.all_eq_true, okSeg_iff, Bool.not_eq_true', Bool.and_eq_true, Bool.eq_false_iff, ne_eq, h0, h1, h2]
  constructor
  · intro h
    exact ⟨⟨fun e => (h _ e).1 rfl, fun e => (h _ e).2.1 rfl⟩, fun e => (h _ e).2.2 rfl⟩
  · rintro ⟨⟨a, b⟩, c⟩ p hp
    exact ⟨fun e => a (e ▸ hp), fun e => b (e ▸ hp), fun e => c (e ▸ hp)⟩

end Go.Proofs.Qxb6601969aDoor.Pl
