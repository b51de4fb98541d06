/-
  THE PLAIN LAYER of the block's value: lines, their common indent, blank lines struck off both ends. The value does not see the indent that was written.
-/
import Derived.Test.Qxb6602381aDoorReadPl
namespace Go.Proofs.Qxb6602381aDoor.Pl

def ws (b : UInt8) : Bool := b == 32 || b == 9
/-- How many blanks and tabs lead the line. -/
def lead : List UInt8 → Nat
  | [] => 0
  | b :: l => if ws b then lead l + 1 else 0
def blank (l : List UInt8) : Bool := lead l == l.length
theorem lead_le : ∀ l, lead l ≤ l.length
  | [] => Nat.le_refl _
  | b :: l => by
    unfold lead
    have := lead_le l
    split
    · rw [List.length_cons]; omega
    · exact Nat.zero_le _
theorem lead_app : ∀ (i l : List UInt8), (∀ b ∈ i, ws b = true) → lead (i ++ l) = i.length + lead l
  | [], l, _ => by simp
  | b :: i, l, h => by
    rw [List.cons_append, lead, if_pos (h b (by simp)), lead_app i l (fun c hc => h c (by simp [hc])), List.length_cons]; omega
theorem lead_all (i : List UInt8) (h : ∀ b ∈ i, ws b = true) : lead i = i.length := by
  have := lead_app i [] h
  simpa [lead] using this

/-- One step of the common indent. -/
def stepc (o : Option Nat) (l : List UInt8) : Option Nat := if lead l < l.length ∧ (∀ c, o = some c → lead l < c) then some (lead l) else o
def common (ls : List (List UInt8)) : Option Nat := ls.foldl stepc none
def cutl (o : Option Nat) (l : List UInt8) : List UInt8 := l.drop (o.getD 0)
def loF : List (List UInt8) → Nat
  | [] => 0
  | l :: ls => if blank l then loF ls + 1 else 0
def hF (ls : List (List UInt8)) (lo : Nat) : Nat → Nat
  | 0 => 0
  | k + 1 => if lo ≤ k ∧ blank (ls.getD k []) = true then hF ls lo k else k + 1
def jn : List (List UInt8) → List UInt8
  | [] => []
  | x :: xs => x ++ (xs.map (10 :: ·)).flatten
theorem jn_snoc (xs : List (List UInt8)) (x : List UInt8) : jn (xs ++ [x]) = jn xs ++ (if xs = [] then [] else [10]) ++ x := by
  cases xs with
  | nil => simp [jn]
  | cons a xs => simp [jn]
/-- The lines behind the cut. -/
def cutLines (ls : List (List UInt8)) : List (List UInt8) := ls.take 1 ++ (ls.drop 1).map (cutl (common (ls.drop 1)))
def joinLines (ls : List (List UInt8)) : List UInt8 := jn ((ls.take (hF ls (loF ls) ls.length)).drop (loF ls))
/-- The value of the block. -/
def bv (raw : List UInt8) : List UInt8 := joinLines (cutLines (segs 10 raw))

theorem segs_mem (c : UInt8) : ∀ (t l : List UInt8), l ∈ segs c t → c ∉ l
  | [], l, h => by
    simp [segs] at h
    subst h; simp
  | b :: t, l, h => by
    by_cases hb : b = c
    · subst hb
      rw [segs, if_pos rfl] at h
      rcases List.mem_cons.1 h with rfl | h
      · simp
      · exact segs_mem b t l h
    · cases e : segs c t with
      | nil => exact absurd e (segs_ne c t)
      | cons x r =>
        rw [segs_cons_ne hb e] at h
        rcases List.mem_cons.1 h with rfl | h
        · have := segs_mem c t x (by rw [e]; simp)
          simp only [List.mem_cons, not_or]
          exact ⟨Ne.symm hb, this⟩
        · exact segs_mem c t l (by rw [e]; simp [h])
def dent (ind l : List UInt8) : List UInt8 := if l = [] then [] else ind ++ l
theorem segs_lines (ind r : List UInt8) (hi : 10 ∉ ind) : ∀ L : List (List UInt8), (∀ l ∈ L, 10 ∉ l) → segs 10 (linesOut ind L ++ r) = L.map (dent ind) ++ segs 10 r
  | [], _ => by simp [linesOut]
  | l :: L, h => by
    have h1 : 10 ∉ dent ind l := by
      unfold dent
      split
      · simp
      · rw [List.mem_append, not_or]; exact ⟨hi, h l (by simp)⟩
    have e : linesOut ind (l :: L) ++ r = dent ind l ++ 10 :: (linesOut ind L ++ r) := by
      simp [linesOut, lineOut, dent]
    rw [e, segs_append 10 _ _ h1, segs_lines ind r hi L (fun x hx => h x (by simp [hx]))]; rfl
theorem segs_raw (ind t : List UInt8) (hi : 10 ∉ ind) : segs 10 ([10] ++ stream ind true t ++ [10] ++ ind) = [] :: ((segs 10 t).map (dent ind) ++ [ind]) := by
  have e : [10] ++ stream ind true t ++ [10] ++ ind = 10 :: (linesOut ind (segs 10 t) ++ ind) := by rw [← stream_body]; simp
  rw [e, segs, if_pos rfl, segs_lines ind ind hi _ (segs_mem 10 t), segs_plain 10 ind hi]

theorem stepc_dent (ind : List UInt8) (hi : ∀ b ∈ ind, ws b = true) (o : Option Nat) (l : List UInt8) : stepc (o.map (ind.length + ·)) (dent ind l) = (stepc o l).map (ind.length + ·) := by
  by_cases hl : l = []
  · subst hl
    simp [stepc, dent]
  · have e : dent ind l = ind ++ l := by unfold dent; rw [if_neg hl]
    unfold stepc
    rw [e, lead_app _ _ hi, List.length_append]
    cases o with
    | none =>
      simp only [Option.map_none, reduceCtorEq, false_implies, implies_true, and_true, Nat.add_lt_add_iff_left]
      split <;> simp
    | some c =>
      simp only [Option.map_some, Option.some.injEq, forall_eq', Nat.add_lt_add_iff_left]
      split <;> simp
theorem fold_dent (ind : List UInt8) (hi : ∀ b ∈ ind, ws b = true) : ∀ (L : List (List UInt8)) (o : Option Nat), (L.map (dent ind)).foldl stepc (o.map (ind.length + ·)) = (L.foldl stepc o).map (ind.length + ·)
  | [], _ => rfl
  | l :: L, o => by
    rw [List.map_cons, List.foldl_cons, stepc_dent ind hi, fold_dent ind hi L, List.foldl_cons]
theorem stepc_blank (o : Option Nat) (l : List UInt8) (h : lead l = l.length) : stepc o l = o := by
  unfold stepc; rw [if_neg]; omega
theorem common_dent (ind : List UInt8) (hi : ∀ b ∈ ind, ws b = true) (L : List (List UInt8)) : common (L.map (dent ind) ++ [ind]) = (common (L ++ [[]])).map (ind.length + ·) := by
  unfold common
  rw [List.foldl_append, List.foldl_append, List.foldl_cons, List.foldl_nil, List.foldl_cons, List.foldl_nil, stepc_blank _ ind (lead_all ind hi), stepc_blank _ [] rfl]
  exact fold_dent ind hi L none
theorem fold_some : ∀ (L : List (List UInt8)) (c : Nat), L.foldl stepc (some c) ≠ none
  | [], _ => by simp
  | l :: L, c => by
    rw [List.foldl_cons]
    unfold stepc
    split
    · exact fold_some L _
    · exact fold_some L c
theorem common_none : ∀ (L : List (List UInt8)), common L = none → ∀ l ∈ L, blank l = true
  | [], _, l, h => by simp at h
  | x :: L, hc, l, h => by
    unfold common at hc
    rw [List.foldl_cons] at hc
    by_cases hx : lead x < x.length
    · unfold stepc at hc
      rw [if_pos ⟨hx, fun c h => by cases h⟩] at hc
      exact absurd hc (fold_some L _)
    · have hx' : lead x = x.length := by have := lead_le x; omega
      rw [stepc_blank _ _ hx'] at hc
      rcases List.mem_cons.1 h with rfl | h
      · unfold blank; rw [hx']; simp
      · exact common_none L hc l h
theorem loF_all : ∀ ls : List (List UInt8), (∀ l ∈ ls, blank l = true) → loF ls = ls.length
  | [], _ => rfl
  | l :: ls, h => by
    rw [loF, if_pos (h l (by simp)), loF_all ls (fun x hx => h x (by simp [hx])), List.length_cons]
theorem join_blank (ls : List (List UInt8)) (h : ∀ l ∈ ls, blank l = true) : joinLines ls = [] := by
  unfold joinLines
  rw [loF_all ls h, List.drop_of_length_le (by rw [List.length_take]; omega)]; rfl

theorem cutl_none (L : List (List UInt8)) : L.map (cutl none) = L := by
  conv => rhs; rw [← List.map_id L]
  congr 1
/-- The value does not see the indent. -/
theorem bv_dent (t ind : List UInt8) (hi : ∀ b ∈ ind, b = 32 ∨ b = 9) : bv (rawOf t ind) = bv (rawOf t []) := by
  unfold rawOf
  cases h : oneLine t with
  | true => rfl
  | false =>
    rw [if_neg (by simp), if_neg (by simp)]
    have hw : ∀ b ∈ ind, ws b = true := fun b hb => by rcases hi b hb with rfl | rfl <;> rfl
    have h10 : (10 : UInt8) ∉ ind := fun hb => by rcases hi 10 hb with h | h <;> cases h
    unfold bv
    rw [segs_raw ind t h10, segs_raw [] t (by simp)]
    have e0 : (segs 10 t).map (dent []) = segs 10 t := by
      conv => rhs; rw [← List.map_id (segs 10 t)]
      congr 1
      funext l
      unfold dent; split <;> simp_all
    rw [e0]
    unfold cutLines
    simp only [List.take_succ_cons, List.take_zero, List.drop_succ_cons, List.drop_zero]
    rw [common_dent ind hw]
    cases hc : common (segs 10 t ++ [[]]) with
    | none =>
      have hb := common_none _ hc
      rw [join_blank, join_blank]
      · intro l hl
        rw [cutl_none] at hl
        simp only [List.cons_append, List.nil_append, List.mem_cons] at hl
        rcases hl with rfl | hl
        · rfl
        · exact hb l hl
      · intro l hl
        rw [Option.map_none, cutl_none] at hl
        simp only [List.cons_append, List.nil_append, List.mem_cons, List.mem_append, List.mem_map, List.not_mem_nil, or_false] at hl
        rcases hl with rfl | ⟨x, hx, rfl⟩ | rfl
        · rfl
        · have := hb x (by simp [hx])
          unfold dent
          split
          · rfl
          · unfold blank at this ⊢
            rw [lead_app _ _ hw, List.length_append]
            simpa using this
        · unfold blank; rw [lead_all _ hw]; simp
    | some c =>
      congr 2
      rw [List.map_append, List.map_append, List.map_map]
      congr 1
      · apply List.map_congr_left
        intro l _
        show (dent ind l).drop (ind.length + c) = l.drop c
        unfold dent
        split
        · rename_i h; rw [h]; simp
        · rw [List.drop_append]; simp
      · simp [cutl]
end Go.Proofs.Qxb6602381aDoor.Pl
