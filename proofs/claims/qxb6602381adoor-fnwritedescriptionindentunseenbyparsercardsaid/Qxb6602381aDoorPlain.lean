/-
  THE PLAIN LAYER of writeDescription: no Go in sight.
-/
import Derived.Lib.SplitLaws
import Derived.Lib.Replace
import Derived.Lib.Strings
namespace Go.Proofs.Qxb6602381aDoor.Pl
open Go.Lib

/-- A text cut at every c. -/
def segs (c : UInt8) : List UInt8 → List (List UInt8)
  | [] => [[]]
  | b :: l => if b = c then [] :: segs c l else
    match segs c l with
    | [] => [[b]]
    | h :: t => (b :: h) :: t

theorem segs_ne (c : UInt8) : ∀ l, segs c l ≠ []
  | [] => by simp [segs]
  | b :: l => by
    unfold segs
    split
    · simp
    · cases h : segs c l with
      | nil => exact absurd h (segs_ne c l)
      | cons a t => simp

theorem segs_cons_ne {c b : UInt8} {l h : List UInt8} {t : List (List UInt8)} (hb : b ≠ c) (e : segs c l = h :: t) : segs c (b :: l) = (b :: h) :: t := by
  rw [segs, if_neg hb, e]

/-- Behind a stretch without c, a c: the stretch is the first piece. -/
theorem segs_append (c : UInt8) : ∀ (p r : List UInt8), c ∉ p → segs c (p ++ c :: r) = p :: segs c r
  | [], r, _ => by simp [segs]
  | b :: p, r, h => by
    have hb : b ≠ c := fun e => h (by simp [e])
    have := segs_append c p r (fun e => h (List.mem_cons_of_mem _ e))
    rw [List.cons_append, segs_cons_ne hb this]

theorem segs_plain (c : UInt8) : ∀ (p : List UInt8), c ∉ p → segs c p = [p]
  | [], _ => rfl
  | b :: p, h => by
    have hb : b ≠ c := fun e => h (by simp [e])
    rw [segs_cons_ne hb (segs_plain c p (fun e => h (List.mem_cons_of_mem _ e)))]

theorem occ_one (s : List UInt8) (c : UInt8) (i : Nat) : occAt s [c] i = (s[i]? == some c) := by
  unfold occAt
  cases h : s.drop i with
  | nil =>
    have : s[i]? = none := List.getElem?_eq_none (by simpa using List.drop_eq_nil_iff.1 h)
    rw [this]; rfl
  | cons a t =>
    have : s[i]? = some a := by
      have := congrArg (·[0]?) h
      simpa using this
    rw [this]
    show (c == a && true) = (some a == some c)
    rw [Bool.eq_iff_iff]
    simp only [Bool.and_true, beq_iff_eq, Option.some.injEq]
    exact ⟨Eq.symm, Eq.symm⟩

/-- The shelf's cut at all instances of one byte is 'segs'. -/
theorem splitK_segs (c : UInt8) : ∀ (k : Nat) (s : List UInt8), count s [c] = k → splitK [c] 0 k s = segs c s
  | 0, s, hk => by
    rw [count_one] at hk
    rw [splitK, segs_plain c s (fun h => by have := List.count_pos_iff.2 h; omega)]
  | k + 1, s, hk => by
    rcases index_spec s [c] with ⟨h1, _⟩ | ⟨i, h1, h2, h3, h4⟩
    · rw [count_miss h1] at hk; omega
    · have hne : (index s [c] == -1) = false := by rw [h1, beq_eq_false_iff_ne]; omega
      rw [splitK, hne, h1]
      simp only [Bool.false_eq_true, if_false, Int.toNat_natCast, Nat.add_zero, List.length_cons, List.length_nil, Nat.zero_add]
      have hc := count_hit (by simp) h1
      simp only [List.length_cons, List.length_nil, Nat.zero_add] at hc
      rw [splitK_segs c k _ (by omega)]
      rw [occ_one] at h3
      have hi : s[i]? = some c := by simpa using h3
      have hlt : i < s.length := (List.getElem?_eq_some_iff.1 hi).1
      have hs : s = s.take i ++ c :: s.drop (i + 1) := by
        have e1 : s.drop i = c :: s.drop (i + 1) := by
          rw [List.drop_eq_getElem_cons hlt]
          congr 1
          exact (List.getElem?_eq_some_iff.1 hi).2
        rw [← e1, List.take_append_drop]
      have hno : c ∉ s.take i := by
        intro hm
        obtain ⟨j, hj⟩ := List.mem_iff_getElem?.1 hm
        have hj' : j < i := by
          have := (List.getElem?_eq_some_iff.1 hj).1
          simp at this; omega
        have := h4 j hj'
        rw [occ_one] at this
        rw [List.getElem?_take_of_lt hj'] at hj
        rw [hj] at this
        simp at this
      have hfin := segs_append c _ (s.drop (i + 1)) hno
      rw [← hs] at hfin
      exact hfin.symm

theorem split_segs (c : UInt8) (s : List UInt8) : splitK [c] 0 (count s [c]) s = segs c s := splitK_segs c _ s rfl


/-! ### The escape -/
/-- A backslash before every triple quote, left to right. -/
def esc : List UInt8 → List UInt8
  | 34 :: 34 :: 34 :: l => 92 :: 34 :: 34 :: 34 :: esc l
  | b :: l => b :: esc l
  | [] => []

def q3 : List UInt8 := [34, 34, 34]
theorem esc_hit (l : List UInt8) : esc (34 :: 34 :: 34 :: l) = 92 :: 34 :: 34 :: 34 :: esc l := by rw [esc]
theorem esc_miss {b : UInt8} {l : List UInt8} (h : q3.isPrefixOf (b :: l) = false) : esc (b :: l) = b :: esc l := by
  rw [esc]
  intro l' hb hl
  subst hb hl
  simp [q3] at h

/-- Behind a stretch in which no triple quote begins. -/
theorem esc_at : ∀ (i : Nat) (s : List UInt8), occAt s q3 i = true → (∀ j, j < i → occAt s q3 j = false) → esc s = s.take i ++ [92, 34, 34, 34] ++ esc (s.drop (i + 3))
  | 0, s, h, _ => by
    unfold occAt at h
    rw [List.drop_zero] at h
    obtain ⟨r, rfl⟩ := List.isPrefixOf_iff_prefix.1 h
    show esc (34 :: 34 :: 34 :: r) = _
    rw [esc_hit]; rfl
  | i + 1, s, h, hn => by
    cases s with
    | nil => simp [occAt, q3] at h
    | cons b l =>
      have h0 := hn 0 (Nat.succ_pos i)
      unfold occAt at h0
      rw [List.drop_zero] at h0
      rw [esc_miss h0, esc_at i l (by simpa [occAt] using h) (fun j hj => by simpa [occAt] using hn (j + 1) (Nat.succ_lt_succ hj))]
      simp
theorem esc_none : ∀ (s : List UInt8), (∀ j, j ≤ s.length → occAt s q3 j = false) → esc s = s
  | [], _ => rfl
  | b :: l, hn => by
    have h0 := hn 0 (Nat.zero_le _)
    unfold occAt at h0
    rw [List.drop_zero] at h0
    rw [esc_miss h0, esc_none l (fun j hj => by simpa [occAt] using hn (j + 1) (Nat.succ_le_succ hj))]

theorem replaceK_esc : ∀ (k : Nat) (s : List UInt8), count s q3 = k → replaceK q3 [92, 34, 34, 34] k s = esc s
  | 0, s, hk => by
    rcases index_spec s q3 with ⟨_, h2⟩ | ⟨i, h1, _⟩
    · rw [esc_none s h2]; rfl
    · rw [count_hit (by decide) h1] at hk; omega
  | k + 1, s, hk => by
    rcases index_spec s q3 with ⟨h1, _⟩ | ⟨i, h1, _, h3, h4⟩
    · rw [count_miss h1] at hk; omega
    · rw [replaceK_hit _ _ _ _ i h1, esc_at i s h3 h4]
      have hc := count_hit (by decide) h1
      rw [replaceK_esc k _ (by rw [show q3.length = 3 from rfl] at hc ⊢; omega)]
      rfl
theorem replaceAll_esc (s : List UInt8) : replaceAll s q3 [92, 34, 34, 34] = esc s := by
  unfold replaceAll replace
  rw [if_neg (by decide)]
  have : replaceNum s q3 (-1) = count s q3 := by unfold replaceNum; rw [if_pos (.inl (by decide))]
  rw [this]
  exact replaceK_esc _ s rfl

/-- An induction along the escape. -/
theorem esc_ind {P : List UInt8 → Prop} (h0 : P []) (h1 : ∀ l, P l → P (34 :: 34 :: 34 :: l)) (h2 : ∀ b l, q3.isPrefixOf (b :: l) = false → P l → P (b :: l)) : ∀ (n : Nat) (s : List UInt8), s.length ≤ n → P s
  | _, [], _ => h0
  | 0, _ :: _, hn => by simp at hn
  | n + 1, b :: l, hn => by
    cases hp : q3.isPrefixOf (b :: l) with
    | false => exact h2 b l hp (esc_ind h0 h1 h2 n l (by simpa using hn))
    | true =>
      obtain ⟨r, hr⟩ := List.isPrefixOf_iff_prefix.1 hp
      have e : b :: l = 34 :: 34 :: 34 :: r := hr.symm
      rw [e] at hn ⊢
      exact h1 r (esc_ind h0 h1 h2 n r (by simp at hn; omega))
theorem esc_induct {P : List UInt8 → Prop} (h0 : P []) (h1 : ∀ l, P l → P (34 :: 34 :: 34 :: l)) (h2 : ∀ b l, q3.isPrefixOf (b :: l) = false → P l → P (b :: l)) (s : List UInt8) : P s := esc_ind h0 h1 h2 _ s (Nat.le_refl _)

theorem esc_len (s : List UInt8) : s.length ≤ (esc s).length ∧ (esc s).length ≤ 2 * s.length := by
  refine esc_induct (P := fun s => s.length ≤ (esc s).length ∧ (esc s).length ≤ 2 * s.length) ⟨Nat.le_refl _, Nat.le_refl _⟩ ?_ ?_ s
  · intro l h; rw [esc_hit]; simp only [List.length_cons]; omega
  · intro b l hb h; rw [esc_miss hb]; simp only [List.length_cons]; omega
theorem esc_nl (s : List UInt8) : (esc s).contains 10 = s.contains 10 := by
  refine esc_induct (P := fun s => (esc s).contains 10 = s.contains 10) rfl ?_ ?_ s
  · intro l h
    rw [esc_hit]
    simp only [List.contains_cons] at h ⊢
    rw [h]; rfl
  · intro b l hb h
    rw [esc_miss hb]
    simp only [List.contains_cons] at h ⊢
    rw [h]
theorem esc_ne {s : List UInt8} (h : s ≠ []) : esc s ≠ [] := by
  intro e
  have := (esc_len s).1
  rw [e] at this
  exact h (List.eq_nil_of_length_eq_zero (by simpa using this))
theorem esc_last (s : List UInt8) : (esc s).getLast? = s.getLast? := by
  refine esc_induct (P := fun s => (esc s).getLast? = s.getLast?) rfl ?_ ?_ s
  · intro l h
    rw [esc_hit]
    cases l with
    | nil => rfl
    | cons a l =>
      have := esc_ne (s := a :: l) (by simp)
      cases he : esc (a :: l) with
      | nil => exact absurd he this
      | cons c r =>
        rw [he] at h
        simp only [List.getLast?_cons_cons] at h ⊢
        exact h
  · intro b l hb h
    rw [esc_miss hb]
    cases l with
    | nil => rfl
    | cons a l =>
      have := esc_ne (s := a :: l) (by simp)
      cases he : esc (a :: l) with
      | nil => exact absurd he this
      | cons c r =>
        rw [he] at h
        simp only [List.getLast?_cons_cons] at h ⊢
        exact h

/-! ### The text that is written -/
/-- Does the text stand on one line? -/
def oneLine (t : List UInt8) : Bool := !t.contains 10 && (t.getLast? != some 34 && t.getLast? != some 92)
/-- One line of the block. -/
def lineOut (ind line : List UInt8) : List UInt8 := (if line = [] then [] else ind ++ line) ++ [10]
def linesOut (ind : List UInt8) (ls : List (List UInt8)) : List UInt8 := (ls.map (lineOut ind)).flatten
/-- What is written behind what the builder holds. -/
def wd (t ind : List UInt8) : List UInt8 :=
  if t = [] then [] else if oneLine t then ind ++ q3 ++ esc t ++ q3 ++ [10]
  else ind ++ q3 ++ [10] ++ linesOut ind (segs 10 (esc t)) ++ ind ++ q3 ++ [10]

/-- The streaming model: 'at' says that a line begins. -/
def stream (ind : List UInt8) : Bool → List UInt8 → List UInt8
  | _, [] => []
  | at', b :: l => if b = 10 then 10 :: stream ind true l else (if at' then ind else []) ++ b :: stream ind false l

theorem linesOut_cons (ind h : List UInt8) (t : List (List UInt8)) : linesOut ind (h :: t) = lineOut ind h ++ linesOut ind t := rfl
theorem stream_lines (ind : List UInt8) : ∀ (l h : List UInt8) (t : List (List UInt8)), segs 10 l = h :: t →
    stream ind true l ++ [10] = lineOut ind h ++ linesOut ind t ∧ stream ind false l ++ [10] = h ++ [10] ++ linesOut ind t
  | [], h, t, e => by
    simp only [segs, List.cons.injEq] at e
    obtain ⟨rfl, rfl⟩ := e
    exact ⟨rfl, rfl⟩
  | b :: l, h, t, e => by
    obtain ⟨h', t', e'⟩ : ∃ h' t', segs 10 l = h' :: t' := by
      cases e' : segs 10 l with
      | nil => exact absurd e' (segs_ne 10 l)
      | cons h' t' => exact ⟨h', t', rfl⟩
    obtain ⟨ih1, ih2⟩ := stream_lines ind l h' t' e'
    by_cases hb : b = 10
    · subst hb
      have e2 : segs 10 (10 :: l) = [] :: segs 10 l := by simp [segs]
      rw [e2, e'] at e
      simp only [List.cons.injEq] at e
      obtain ⟨rfl, rfl⟩ := e
      simp only [stream, if_true, List.cons_append, ih1, linesOut_cons]
      simp [lineOut]
    · rw [segs_cons_ne hb e'] at e
      simp only [List.cons.injEq] at e
      obtain ⟨rfl, rfl⟩ := e
      simp only [stream, if_neg hb, if_true, Bool.false_eq_true, if_false, List.append_assoc, List.cons_append, ih2]
      constructor
      · simp [lineOut]
      · simp
theorem stream_body (ind l : List UInt8) : stream ind true l ++ [10] = linesOut ind (segs 10 l) := by
  cases e : segs 10 l with
  | nil => exact absurd e (segs_ne 10 l)
  | cons h t => exact (stream_lines ind l h t e).1

theorem stream_snoc (ind : List UInt8) (b : UInt8) : ∀ (l : List UInt8) (a : Bool), stream ind a (l ++ [b]) = stream ind a l ++ (if b = 10 then [10] else (if (if l = [] then a else l.getLast? == some 10) then ind else []) ++ [b])
  | [], a => by simp [stream]
  | c :: l, a => by
    have hl : ∀ a', (if l = [] then a' else l.getLast? == some 10) = (if l = [] then a' else (c :: l).getLast? == some 10) := fun a' => by
      cases l with
      | nil => simp
      | cons d l => simp
    rw [List.cons_append]
    by_cases hc : c = 10
    · subst hc
      simp only [stream, if_true, List.cons_append]
      rw [stream_snoc ind b l true]
      cases l with
      | nil => simp
      | cons d l => simp
    · simp only [stream, if_neg hc]
      rw [stream_snoc ind b l false]
      cases l with
      | nil => simp [hc]
      | cons d l => simp

theorem stream_len (ind : List UInt8) : ∀ (l : List UInt8) (a : Bool), (stream ind a l).length ≤ l.length * (1 + ind.length)
  | [], _ => Nat.zero_le _
  | b :: l, a => by
    have h1 := stream_len ind l true
    have h2 := stream_len ind l false
    unfold stream
    rw [List.length_cons, Nat.succ_mul]
    split
    · simp only [List.length_cons]; omega
    · split
      · simp only [List.length_append, List.length_cons]; omega
      · simp only [List.nil_append, List.length_cons]; omega

end Go.Proofs.Qxb6602381aDoor.Pl
