/-
  THE PLAIN LAYER of the block-string reader: no Go in sight. The reader gives back the text (behind its lines' indents), and the value of the block does not see the indent.
-/
import Derived.Test.Qxb6602381aDoorPlain
namespace Go.Proofs.Qxb6602381aDoor.Pl

/-- The reader behind the opening quotes: what it gathers, and what is left where it closes. -/
def rd : List UInt8 → Option (List UInt8 × List UInt8)
  | [] => none
  | b :: l =>
    if q3.isPrefixOf (b :: l) then some ([], b :: l)
    else if [92, 34, 34, 34].isPrefixOf (b :: l) then (rd (l.drop 3)).map fun x => ([34, 34, 34] ++ x.1, x.2)
    else (rd l).map fun x => (b :: x.1, x.2)
termination_by l => l.length
decreasing_by all_goals (simp; try omega)

theorem pf_ne {a b : UInt8} {x y : List UInt8} (h : a ≠ b) : (a :: x).isPrefixOf (b :: y) = false := by
  show (a == b && x.isPrefixOf y) = false
  rw [beq_eq_false_iff_ne.2 h]; rfl
theorem pf_eq (a : UInt8) (x y : List UInt8) : (a :: x).isPrefixOf (a :: y) = x.isPrefixOf y := by
  show (a == a && x.isPrefixOf y) = _
  rw [beq_self_eq_true]; rfl

/-- Put a stretch before what was read. -/
def pre (a : List UInt8) (o : Option (List UInt8 × List UInt8)) : Option (List UInt8 × List UInt8) := o.map fun x => (a ++ x.1, x.2)
theorem pre_pre (a b : List UInt8) (o) : pre a (pre b o) = pre (a ++ b) o := by cases o <;> simp [pre]
theorem rd_esc (l : List UInt8) : rd (92 :: 34 :: 34 :: 34 :: l) = pre [34, 34, 34] (rd l) := by
  rw [rd, if_neg (by simp [q3]), if_pos (by simp)]; rfl
theorem rd_step {b : UInt8} {l : List UInt8} (h1 : q3.isPrefixOf (b :: l) = false) (h2 : [92, 34, 34, 34].isPrefixOf (b :: l) = false) : rd (b :: l) = pre [b] (rd l) := by
  rw [rd, if_neg (by rw [h1]; simp), if_neg (by rw [h2]; simp)]; rfl
theorem rd_plain {b : UInt8} {l : List UInt8} (h1 : b ≠ 34) (h2 : b ≠ 92) : rd (b :: l) = pre [b] (rd l) := by
  refine rd_step ?_ ?_
  · exact pf_ne (Ne.symm h1)
  · exact pf_ne (Ne.symm h2)
theorem rd_ws (l : List UInt8) : ∀ i : List UInt8, (∀ b ∈ i, b = 32 ∨ b = 9) → rd (i ++ l) = pre i (rd l)
  | [], _ => by cases h : rd l <;> simp [pre, h]
  | b :: i, h => by
    have hb := h b (by simp)
    rw [List.cons_append, rd_plain (by rcases hb with rfl | rfl <;> decide) (by rcases hb with rfl | rfl <;> decide), rd_ws l i (fun c hc => h c (by simp [hc])), pre_pre]; rfl
theorem rd_close (l : List UInt8) : rd (q3 ++ l) = some ([], q3 ++ l) := by
  show rd (34 :: 34 :: 34 :: l) = _
  rw [rd, if_pos (by simp [q3])]; rfl

/-- No run of k quotes begins. -/
theorem no_run (ind tail : List UInt8) : ∀ (k : Nat) (u : List UInt8), 0 < k → ((List.replicate k 34).isPrefixOf u = false ∨ q3.isPrefixOf u = true) →
    ((u = [] ∨ u.getLast? = some 34) → ∃ r, tail = 10 :: r) → (List.replicate k 34).isPrefixOf (stream ind false (esc u) ++ tail) = false
  | 0, _, h, _, _ => absurd h (Nat.lt_irrefl 0)
  | k + 1, [], _, _, ht => by
    obtain ⟨r, rfl⟩ := ht (.inl rfl)
    show (34 :: List.replicate k 34 : List UInt8).isPrefixOf (10 :: r) = false
    exact pf_ne (by decide)
  | k + 1, d :: u, _, hn, ht => by
    cases hq : q3.isPrefixOf (d :: u) with
    | true =>
      obtain ⟨r, hr⟩ := List.isPrefixOf_iff_prefix.1 hq
      rw [← hr]
      show (34 :: List.replicate k 34 : List UInt8).isPrefixOf (stream ind false (esc (34 :: 34 :: 34 :: r)) ++ tail) = false
      rw [esc_hit]
      have e : stream ind false (92 :: 34 :: 34 :: 34 :: esc r) = 92 :: 34 :: 34 :: 34 :: stream ind false (esc r) := by simp [stream]
      rw [e]
      exact pf_ne (by decide)
    | false =>
      rw [hq] at hn
      have hn' : (34 :: List.replicate k 34 : List UInt8).isPrefixOf (d :: u) = false := by
        rcases hn with h | h
        · exact h
        · cases h
      rw [esc_miss hq]
      show (34 :: List.replicate k 34 : List UInt8).isPrefixOf _ = false
      by_cases hd : d = 34
      · subst hd
        have h1 : stream ind false (34 :: esc u) = 34 :: stream ind false (esc u) := by simp [stream]
        rw [h1]
        have h2 : (List.replicate k 34).isPrefixOf u = false := by rw [pf_eq] at hn'; exact hn'
        cases k with
        | zero => simp at h2
        | succ k =>
          have := no_run ind tail (k + 1) u (Nat.succ_pos k) (.inl h2) (fun h => ht (.inr (by
            rcases h with rfl | h
            · rfl
            · rw [List.getLast?_cons, h]; rfl)))
          rw [List.cons_append, pf_eq]; exact this
      · by_cases h10 : d = 10
        · subst h10
          rw [show stream ind false (10 :: esc u) = 10 :: stream ind true (esc u) by simp [stream], List.cons_append]
          exact pf_ne (by decide)
        · rw [show stream ind false (d :: esc u) = d :: stream ind false (esc u) by simp [stream, h10], List.cons_append]
          exact pf_ne (Ne.symm hd)

/-- The reader undoes the escape, line by line. -/
theorem rd_stream (ind tail : List UInt8) (hi : ∀ b ∈ ind, b = 32 ∨ b = 9) (t : List UInt8) : ∀ a : Bool,
    ((t.getLast? = some 34 ∨ t.getLast? = some 92) → ∃ r, tail = 10 :: r) → rd (stream ind a (esc t) ++ tail) = pre (stream ind a t) (rd tail) := by
  refine esc_induct (P := fun t => ∀ a : Bool, ((t.getLast? = some 34 ∨ t.getLast? = some 92) → ∃ r, tail = 10 :: r) → rd (stream ind a (esc t) ++ tail) = pre (stream ind a t) (rd tail)) ?_ ?_ ?_ t
  · intro a _
    show rd tail = pre [] (rd tail)
    cases h : rd tail <;> simp [pre]
  · intro l ih a ht
    have h1 : stream ind a (esc (34 :: 34 :: 34 :: l)) ++ tail = (if a then ind else []) ++ (92 :: 34 :: 34 :: 34 :: (stream ind false (esc l) ++ tail)) := by
      rw [esc_hit]; simp [stream]
    have h2 : stream ind a (34 :: 34 :: 34 :: l) = (if a then ind else []) ++ ([34, 34, 34] ++ stream ind false l) := by simp [stream]
    rw [h1, h2, rd_ws _ _ (by cases a <;> simp_all), rd_esc, ih false (fun h => ht (by
      cases l with
      | nil => simp at h
      | cons c l => simpa [List.getLast?_cons] using h)), pre_pre, pre_pre]
    simp
  · intro b l hb ih a ht
    have hl : (l.getLast? = some 34 ∨ l.getLast? = some 92) → ∃ r, tail = 10 :: r := fun h => ht (by
      rcases h with h | h
      · exact .inl (by rw [List.getLast?_cons, h]; rfl)
      · exact .inr (by rw [List.getLast?_cons, h]; rfl))
    rw [esc_miss hb]
    by_cases h10 : b = 10
    · subst h10
      have h1 : stream ind a (10 :: esc l) ++ tail = 10 :: (stream ind true (esc l) ++ tail) := by simp [stream]
      have h2 : stream ind a (10 :: l) = [10] ++ stream ind true l := by simp [stream]
      rw [h1, h2, rd_plain (by decide) (by decide), ih true hl, pre_pre]
    · have h1 : stream ind a (b :: esc l) ++ tail = (if a then ind else []) ++ (b :: (stream ind false (esc l) ++ tail)) := by simp [stream, h10]
      have h2 : stream ind a (b :: l) = (if a then ind else []) ++ ([b] ++ stream ind false l) := by simp [stream, h10]
      rw [h1, h2, rd_ws _ _ (by cases a <;> simp_all), rd_step ?_ ?_, ih false hl, pre_pre, pre_pre]
      · simp
      · by_cases h34 : b = 34
        · subst h34
          have h3 : (List.replicate 2 34).isPrefixOf l = false := by
            unfold q3 at hb
            rw [pf_eq] at hb
            exact hb
          have := no_run ind tail 2 l (by decide) (.inl h3) (fun h => ht (.inl (by
            rcases h with rfl | h
            · rfl
            · rw [List.getLast?_cons, h]; rfl)))
          unfold q3
          rw [pf_eq]
          exact this
        · exact pf_ne (Ne.symm h34)
      · by_cases h92 : b = 92
        · subst h92
          have h3 : (List.replicate 3 34).isPrefixOf l = false ∨ q3.isPrefixOf l = true := by
            have : (List.replicate 3 34 : List UInt8) = q3 := rfl
            rw [this]
            cases q3.isPrefixOf l <;> simp
          have := no_run ind tail 3 l (by decide) h3 (fun h => by
            rcases h with rfl | h
            · exact ht (.inr rfl)
            · exact hl (.inl h))
          rw [pf_eq]
          exact this
        · exact pf_ne (Ne.symm h92)

theorem stream_nil : ∀ (l : List UInt8) (a : Bool), stream [] a l = l
  | [], _ => rfl
  | b :: l, a => by
    unfold stream
    rw [stream_nil l true, stream_nil l false]
    split <;> simp_all

/-- What is read of the text that is written. -/
def rawOf (t ind : List UInt8) : List UInt8 := if oneLine t then t else [10] ++ stream ind true t ++ [10] ++ ind
/-- What stands behind the opening quotes. -/
def behind (t ind : List UInt8) : List UInt8 := if oneLine t then esc t ++ (q3 ++ [10]) else [10] ++ stream ind true (esc t) ++ [10] ++ ind ++ (q3 ++ [10])
theorem wd_behind {t : List UInt8} (ind : List UInt8) (ht : t ≠ []) : wd t ind = ind ++ q3 ++ behind t ind := by
  unfold wd behind
  rw [if_neg ht]
  split
  · simp
  · rw [← stream_body]; simp
theorem rd_behind (t ind : List UInt8) (hi : ∀ b ∈ ind, b = 32 ∨ b = 9) : rd (behind t ind) = some (rawOf t ind, q3 ++ [10]) := by
  unfold behind rawOf
  cases h : oneLine t with
  | true =>
    rw [if_pos rfl, if_pos rfl]
    unfold oneLine at h
    have := rd_stream [] (q3 ++ [10]) (by simp) t true (by
      intro h'
      rcases h' with h' | h' <;> rw [h'] at h <;> simp at h)
    rw [stream_nil, stream_nil, rd_close] at this
    rw [this]; simp [pre]
  | false =>
    rw [if_neg (by simp), if_neg (by simp)]
    have e : [10] ++ stream ind true (esc t) ++ [10] ++ ind ++ (q3 ++ [10]) = 10 :: (stream ind true (esc t) ++ (10 :: (ind ++ (q3 ++ [10])))) := by simp
    rw [e, rd_plain (by decide) (by decide), rd_stream ind _ hi t true (fun _ => ⟨_, rfl⟩), rd_plain (by decide) (by decide), rd_ws _ _ hi, rd_close]
    simp [pre]
end Go.Proofs.Qxb6602381aDoor.Pl
