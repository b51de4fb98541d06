/-
  THE PLAIN LAYER of the wildcard walk: what it means that a pattern of n items matches a subject of m items, and the invariant of the walk that goes back to the last star alone. No Go in sight.
-/
import Derived.Handy
namespace Go.Proofs.Qxb6602868aDoor.Pl

/-- The pattern from item i on matches the subject from item j on. -/
inductive Mt (n m : Nat) (star : Nat → Bool) (same : Nat → Nat → Bool) : Nat → Nat → Prop
  | done : Mt n m star same n m
  | skip {i j : Nat} : i < n → star i = true → Mt n m star same (i + 1) j → Mt n m star same i j
  | take {i j : Nat} : i < n → star i = true → j < m → Mt n m star same i (j + 1) → Mt n m star same i j
  | lit {i j : Nat} : i < n → star i = false → j < m → same i j = true → Mt n m star same (i + 1) (j + 1) → Mt n m star same i j

section
variable {n m : Nat} {star : Nat → Bool} {same : Nat → Nat → Bool}

theorem Mt.le {i j : Nat} (h : Mt n m star same i j) : i ≤ n ∧ j ≤ m := by
  induction h with
  | done => exact ⟨Nat.le_refl _, Nat.le_refl _⟩
  | skip h1 _ _ ih => exact ⟨by omega, ih.2⟩
  | take h1 _ h3 _ ih => exact ⟨by omega, by omega⟩
  | lit h1 _ h3 _ _ ih => exact ⟨by omega, by omega⟩
theorem Mt.end_iff {j : Nat} : Mt n m star same n j ↔ j = m := by
  constructor
  · intro h
    cases h with
    | done => rfl
    | skip h1 => omega
    | take h1 => omega
    | lit h1 => omega
  · rintro rfl; exact .done
theorem Mt.star_iff {i j : Nat} (hi : i < n) (hs : star i = true) (hj : j ≤ m) : Mt n m star same i j ↔ ∃ k, j ≤ k ∧ k ≤ m ∧ Mt n m star same (i + 1) k := by
  constructor
  · intro h
    generalize hx : i = i' at h
    induction h with
    | done => omega
    | @skip i' j' _ _ h3 _ =>
      subst hx
      exact ⟨j', Nat.le_refl _, h3.le.2, h3⟩
    | take _ _ h3 _ ih =>
      subst hx
      obtain ⟨k, h5, h6, h7⟩ := ih (by omega) rfl
      exact ⟨k, by omega, h6, h7⟩
    | lit _ h2 =>
      subst hx
      rw [hs] at h2; cases h2
  · rintro ⟨k, h1, h2, h3⟩
    have : ∀ d, ∀ j, j + d = k → Mt n m star same i j := by
      intro d
      induction d with
      | zero => intro j e; rw [Nat.add_zero] at e; subst e; exact .skip hi hs h3
      | succ d ih => intro j e; exact .take hi hs (by omega) (ih (j + 1) (by omega))
    exact this (k - j) j (by omega)
theorem Mt.lit_iff {i j : Nat} (hi : i < n) (hs : star i = false) : Mt n m star same i j ↔ (j < m ∧ same i j = true ∧ Mt n m star same (i + 1) (j + 1)) := by
  constructor
  · intro h
    cases h with
    | done => omega
    | skip _ h2 => rw [hs] at h2; cases h2
    | take _ h2 => rw [hs] at h2; cases h2
    | lit _ _ h3 h4 h5 => exact ⟨h3, h4, h5⟩
  · rintro ⟨h3, h4, h5⟩
    exact .lit hi hs h3 h4 h5
/-- Over items that are no stars each takes one. -/
theorem Mt.run {a : Nat} : ∀ (d k : Nat), (∀ x, a ≤ x → x < a + d → star x = false) → a + d ≤ n → Mt n m star same a k → Mt n m star same (a + d) (k + d)
  | 0, k, _, _, h => h
  | d + 1, k, hs, hn, h => by
    have h1 := Mt.run d k (fun x h1 h2 => hs x h1 (by omega)) (by omega) h
    have h2 := (Mt.lit_iff (by omega) (hs (a + d) (by omega) (by omega))).1 h1
    exact h2.2.2

/-- The walk's state: no star passed yet, or the last one at 'back', tried from 'bj' on. -/
inductive St (n m : Nat) (star : Nat → Bool) (same : Nat → Nat → Bool) : Nat → Nat → Int → Nat → Prop
  | fresh {i j : Nat} : i ≤ n → j ≤ m → (Mt n m star same 0 0 ↔ Mt n m star same i j) → St n m star same i j (-1) 0
  | back {i j b bj : Nat} : i ≤ n → j ≤ m → b < n → b + 1 ≤ i → i + bj = j + (b + 1) → (∀ x, b + 1 ≤ x → x < i → star x = false) →
      (Mt n m star same 0 0 ↔ (Mt n m star same i j ∨ ∃ k, bj < k ∧ k ≤ m ∧ Mt n m star same (b + 1) k)) → St n m star same i j (b : Int) bj

theorem St.start : St n m star same 0 0 (-1) 0 := .fresh (Nat.zero_le _) (Nat.zero_le _) Iff.rfl
theorem St.le {i j bj : Nat} {back : Int} (h : St n m star same i j back bj) : i ≤ n ∧ j ≤ m ∧ -1 ≤ back ∧ back < n ∧ bj ≤ j := by
  cases h with
  | fresh h1 h2 _ => exact ⟨h1, h2, by omega, by omega, by omega⟩
  | back h1 h2 h3 h4 h5 _ _ => exact ⟨h1, h2, by omega, by omega, by omega⟩
theorem St.onStar {i j bj : Nat} {back : Int} (h : St n m star same i j back bj) (hi : i < n) (hs : star i = true) : St n m star same (i + 1) j (i : Int) j := by
  have hj := h.le.2.1
  have key : Mt n m star same i j ↔ (Mt n m star same (i + 1) j ∨ ∃ k, j < k ∧ k ≤ m ∧ Mt n m star same (i + 1) k) := by
    rw [Mt.star_iff hi hs hj]
    constructor
    · rintro ⟨k, h1, h2, h3⟩
      by_cases e : k = j
      · subst e; exact .inl h3
      · exact .inr ⟨k, by omega, h2, h3⟩
    · rintro (h1 | ⟨k, h1, h2, h3⟩)
      · exact ⟨j, Nat.le_refl _, hj, h1⟩
      · exact ⟨k, by omega, h2, h3⟩
  refine .back (by omega) hj hi (Nat.le_refl _) (by omega) (fun x h1 h2 => by omega) ?_
  cases h with
  | fresh _ _ h3 => exact h3.trans key
  | back _h1 _h2 h3 h4 h5 h6 h7 =>
    rename_i b
    refine h7.trans ⟨?_, fun h => .inl (key.2 h)⟩
    rintro (h8 | ⟨k, h8, h9, h10⟩)
    · exact key.1 h8
    · apply key.1
      have hd : b + 1 + (i - (b + 1)) = i := by omega
      have h11 := Mt.run (i - (b + 1)) k (fun x h1 h2 => h6 x h1 (by omega)) (by omega) h10
      rw [hd] at h11
      obtain ⟨k', h12, h13, h14⟩ := (Mt.star_iff hi hs h11.le.2).1 h11
      exact (Mt.star_iff hi hs hj).2 ⟨k', by omega, h13, h14⟩
theorem St.onSame {i j bj : Nat} {back : Int} (h : St n m star same i j back bj) (hi : i < n) (hs : star i = false) (hj : j < m) (he : same i j = true) : St n m star same (i + 1) (j + 1) back bj := by
  have key : Mt n m star same i j ↔ Mt n m star same (i + 1) (j + 1) := by
    rw [Mt.lit_iff hi hs]
    exact ⟨fun h => h.2.2, fun h => ⟨hj, he, h⟩⟩
  cases h with
  | fresh _ _ h3 => exact .fresh (by omega) (by omega) (h3.trans key)
  | back _ _ h3 h4 h5 h6 h7 =>
    refine .back (by omega) (by omega) h3 (by omega) (by omega) (fun x h1 h2 => ?_) ?_
    · by_cases e : x = i
      · subst e; exact hs
      · exact h6 x h1 (by omega)
    · rw [h7, key]
theorem St.onBack {i j bj b : Nat} (h : St n m star same i j (b : Int) bj) (hj : j < m) (hno : ¬ Mt n m star same i j) : St n m star same (b + 1) (bj + 1) (b : Int) (bj + 1) := by
  generalize hb : (b : Int) = bb at h
  cases h with
  | fresh => omega
  | back _h1 _h2 h3 h4 h5 h6 h7 =>
    rename_i b'
    have : b = b' := by omega
    subst this
    refine .back (by omega) (by omega) h3 (Nat.le_refl _) (by omega) (fun x h1 h2 => by omega) ?_
    rw [h7]
    constructor
    · rintro (h8 | ⟨k, h8, h9, h10⟩)
      · exact absurd h8 hno
      · by_cases e : k = bj + 1
        · subst e; exact .inl h10
        · exact .inr ⟨k, by omega, h9, h10⟩
    · rintro (h8 | ⟨k, h8, h9, h10⟩)
      · exact .inr ⟨bj + 1, by omega, h8.le.2, h8⟩
      · exact .inr ⟨k, by omega, h9, h10⟩
theorem St.onFail {i j bj : Nat} {back : Int} (h : St n m star same i j back bj) (hb : back < 0) (hno : ¬ Mt n m star same i j) : ¬ Mt n m star same 0 0 := by
  cases h with
  | fresh _ _ h3 => rw [h3]; exact hno
  | back => omega
theorem St.onEnd {i bj : Nat} {back : Int} (h : St n m star same i m back bj) : Mt n m star same 0 0 ↔ Mt n m star same i m := by
  cases h with
  | fresh _ _ h3 => exact h3
  | back h1 _h2 h3 h4 h5 h6 h7 =>
    rename_i b
    rw [h7]
    refine ⟨?_, .inl⟩
    rintro (h8 | ⟨k, h8, h9, h10⟩)
    · exact h8
    · have hd : b + 1 + (i - (b + 1)) = i := by omega
      have h11 := Mt.run (i - (b + 1)) k (fun x h1 h2 => h6 x h1 (by omega)) (by omega) h10
      rw [hd] at h11
      have := h11.le.2
      omega
theorem Mt.no_lit {i j : Nat} (hi : i < n) (hs : star i = false) (he : same i j = false) : ¬ Mt n m star same i j := by
  rw [Mt.lit_iff hi hs]
  rintro ⟨_, h, _⟩
  rw [he] at h; cases h
theorem Mt.no_end {j : Nat} (hj : j < m) : ¬ Mt n m star same n j := by
  rw [Mt.end_iff]; omega
theorem Mt.tail_star {i : Nat} (hi : i < n) (hs : star i = true) : Mt n m star same i m ↔ Mt n m star same (i + 1) m := by
  rw [Mt.star_iff hi hs (Nat.le_refl _)]
  constructor
  · rintro ⟨k, h1, h2, h3⟩
    rw [show m = k by omega]
    rw [show k = m by omega] at h3 ⊢
    exact h3
  · intro h; exact ⟨m, Nat.le_refl _, Nat.le_refl _, h⟩
theorem Mt.tail_lit {i : Nat} (hi : i < n) (hs : star i = false) : ¬ Mt n m star same i m := by
  rw [Mt.lit_iff hi hs]
  rintro ⟨h, _⟩; omega

/-- What is left of the walk. -/
def left (n m i j : Nat) (back : Int) (bj : Nat) : Nat := ((n - (back + 1).toNat) * (m + 1) + (m - bj)) * (n + m + 2) + ((n - i) + (m - j))
theorem left_star {i j bj : Nat} {back : Int} (h : St n m star same i j back bj) (hi : i < n) : left n m (i + 1) j (i : Int) j < left n m i j back bj := by
  have hle : (back + 1).toNat ≤ i := by
    cases h with
    | fresh => simp
    | back _ _ h3 h4 => omega
  have hbj := h.le
  unfold left
  have h1 : ((i : Int) + 1).toNat = i + 1 := by omega
  rw [h1]
  have h2 : (n - (i + 1)) * (m + 1) + (m - j) + 1 ≤ (n - (back + 1).toNat) * (m + 1) + (m - bj) := by
    have h3 : (n - (i + 1)) + 1 ≤ n - (back + 1).toNat := by omega
    have h4 := Nat.mul_le_mul_right (m + 1) h3
    rw [Nat.add_mul, Nat.one_mul] at h4
    omega
  have h5 := Nat.mul_le_mul_right (n + m + 2) h2
  rw [Nat.add_mul, Nat.one_mul] at h5
  omega
theorem left_same {i j bj : Nat} {back : Int} (hi : i < n) (hj : j < m) : left n m (i + 1) (j + 1) back bj < left n m i j back bj := by
  unfold left; omega
theorem left_back {i j bj b : Nat} (hb : bj < m) : left n m (b + 1) (bj + 1) (b : Int) (bj + 1) < left n m i j (b : Int) bj := by
  unfold left
  have h2 : (n - ((b : Int) + 1).toNat) * (m + 1) + (m - (bj + 1)) + 1 ≤ (n - ((b : Int) + 1).toNat) * (m + 1) + (m - bj) := by omega
  have h5 := Nat.mul_le_mul_right (n + m + 2) h2
  rw [Nat.add_mul, Nat.one_mul] at h5
  omega
end

open Classical in
/-- Does the pattern match? -/
noncomputable def wild (n m : Nat) (star : Nat → Bool) (same : Nat → Nat → Bool) : Bool := decide (Mt n m star same 0 0)
open Classical in
theorem wild_true {n m : Nat} {star : Nat → Bool} {same : Nat → Nat → Bool} (h : Mt n m star same 0 0) : wild n m star same = true := by
  unfold wild; exact decide_eq_true h
open Classical in
theorem wild_false {n m : Nat} {star : Nat → Bool} {same : Nat → Nat → Bool} (h : ¬ Mt n m star same 0 0) : wild n m star same = false := by
  unfold wild; exact decide_eq_false h
end Go.Proofs.Qxb6602868aDoor.Pl
