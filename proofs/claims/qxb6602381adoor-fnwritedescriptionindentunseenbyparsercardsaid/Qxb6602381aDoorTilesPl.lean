/-
  THE PLAIN LAYER of the block's value, by starts and ends.
-/
import Derived.Test.Qxb6602381aDoorBlockPl
namespace Go.Proofs.Qxb6602381aDoor.Pl

/-- Where lines begin behind a newline, and where newlines stand. -/
def sts (off : Nat) : List UInt8 → List Nat
  | [] => []
  | b :: l => if b = 10 then (off + 1) :: sts (off + 1) l else sts (off + 1) l
def ens (off : Nat) : List UInt8 → List Nat
  | [] => []
  | b :: l => if b = 10 then off :: ens (off + 1) l else ens (off + 1) l
theorem sts_snoc (b : UInt8) : ∀ (l : List UInt8) (off : Nat), sts off (l ++ [b]) = sts off l ++ (if b = 10 then [off + l.length + 1] else [])
  | [], off => by simp [sts]
  | c :: l, off => by
    rw [List.cons_append, sts, sts_snoc b l (off + 1), sts, List.length_cons]
    have : off + 1 + l.length + 1 = off + (l.length + 1) + 1 := by omega
    rw [this]
    split <;> simp
theorem ens_snoc (b : UInt8) : ∀ (l : List UInt8) (off : Nat), ens off (l ++ [b]) = ens off l ++ (if b = 10 then [off + l.length] else [])
  | [], off => by simp [ens]
  | c :: l, off => by
    rw [List.cons_append, ens, ens_snoc b l (off + 1), ens, List.length_cons]
    have : off + 1 + l.length = off + (l.length + 1) := by omega
    rw [this]
    split <;> simp
theorem sts_len : ∀ (l : List UInt8) (off : Nat), (sts off l).length ≤ l.length
  | [], _ => Nat.le_refl _
  | b :: l, off => by
    have := sts_len l (off + 1)
    unfold sts
    split
    · simp only [List.length_cons]; omega
    · simp only [List.length_cons]; omega
theorem ens_len : ∀ (l : List UInt8) (off : Nat), (ens off l).length = (sts off l).length
  | [], _ => rfl
  | b :: l, off => by
    unfold sts ens
    split
    · rw [List.length_cons, List.length_cons, ens_len]
    · exact ens_len l _

/-- The stretch from s to e of the bytes is l. -/
def Piece (raw : List UInt8) (s e : Nat) (l : List UInt8) : Prop := s + l.length = e ∧ e ≤ raw.length ∧ (raw.drop s).take l.length = l
inductive Tiles (raw : List UInt8) : List Nat → List Nat → List (List UInt8) → Prop
  | nil : Tiles raw [] [] []
  | cons {s e : Nat} {l : List UInt8} {S E : List Nat} {L : List (List UInt8)} : Piece raw s e l → Tiles raw S E L → Tiles raw (s :: S) (e :: E) (l :: L)
theorem Tiles.lens {raw : List UInt8} {S E : List Nat} {L : List (List UInt8)} (h : Tiles raw S E L) : S.length = L.length ∧ E.length = L.length := by
  induction h with
  | nil => exact ⟨rfl, rfl⟩
  | cons _ _ ih => simp only [List.length_cons]; omega
theorem Tiles.at {raw : List UInt8} {S E : List Nat} {L : List (List UInt8)} (h : Tiles raw S E L) : ∀ {i : Nat}, i < L.length → ∃ s e l, S[i]? = some s ∧ E[i]? = some e ∧ L[i]? = some l ∧ Piece raw s e l := by
  induction h with
  | nil => intro i hi; simp at hi
  | cons hp _ ih =>
    intro i hi
    cases i with
    | zero => exact ⟨_, _, _, rfl, rfl, rfl, hp⟩
    | succ i =>
      obtain ⟨s, e, l, h1, h2, h3, h4⟩ := ih (i := i) (by simpa using hi)
      exact ⟨s, e, l, by simpa using h1, by simpa using h2, by simpa using h3, h4⟩
theorem Tiles.put {raw : List UInt8} {S E : List Nat} {L : List (List UInt8)} (h : Tiles raw S E L) : ∀ {i s e : Nat} {l : List UInt8}, E[i]? = some e → Piece raw s e l → Tiles raw (S.set i s) E (L.set i l) := by
  induction h with
  | nil => intro i s e l he; simp at he
  | cons hp hr ih =>
    intro i s e l he hq
    cases i with
    | zero =>
      simp at he
      subst he
      exact .cons hq hr
    | succ i =>
      simp at he
      exact .cons hp (ih he hq)
theorem tiles_segs (raw : List UInt8) : ∀ (l p : List UInt8), p ++ l = raw → Tiles raw (p.length :: sts p.length l) (ens p.length l ++ [raw.length]) (segs 10 l)
  | [], p, h => by
    rw [List.append_nil] at h
    subst h
    exact .cons ⟨rfl, Nat.le_refl _, by simp⟩ .nil
  | b :: l, p, h => by
    have h' : (p ++ [b]) ++ l = raw := by rw [← h]; simp
    have ih := tiles_segs raw l (p ++ [b]) h'
    rw [List.length_append, List.length_cons, List.length_nil, Nat.zero_add] at ih
    by_cases hb : b = 10
    · subst hb
      rw [sts, if_pos rfl, ens, if_pos rfl, segs, if_pos rfl]
      refine .cons ⟨rfl, ?_, by simp⟩ ih
      have := congrArg List.length h
      simp only [List.length_append, List.length_cons] at this
      omega
    · rw [sts, if_neg hb, ens, if_neg hb]
      cases e : segs 10 l with
      | nil => exact absurd e (segs_ne 10 l)
      | cons x t =>
        rw [segs_cons_ne hb e]
        rw [e] at ih
        cases hE : ens (p.length + 1) l ++ [raw.length] with
        | nil => simp at hE
        | cons e0 E0 =>
          rw [hE] at ih
          cases ih with
          | cons hp hr =>
            refine .cons ?_ hr
            obtain ⟨q1, q2, q3⟩ := hp
            refine ⟨by rw [List.length_cons]; omega, q2, ?_⟩
            have hd : raw.drop p.length = b :: raw.drop (p.length + 1) := by
              rw [← h, List.drop_left]
              have : (p ++ b :: l) = (p ++ [b]) ++ l := by simp
              rw [this, show p.length + 1 = (p ++ [b]).length by simp, List.drop_left]
            rw [hd, List.length_cons, List.take_succ_cons, q3]
theorem tiles_raw (raw : List UInt8) : Tiles raw (0 :: sts 0 raw) (ens 0 raw ++ [raw.length]) (segs 10 raw) := tiles_segs raw raw [] rfl
theorem piece_cut {raw : List UInt8} {s e : Nat} {l : List UInt8} (h : Piece raw s e l) (c : Nat) : Piece raw (s + min c l.length) e (l.drop c) := by
  obtain ⟨h1, h2, h3⟩ := h
  refine ⟨by rw [List.length_drop]; omega, h2, ?_⟩
  rw [← List.drop_drop, List.length_drop]
  have e1 : (raw.drop s).take l.length = (l.take (min c l.length)) ++ l.drop (min c l.length) := by rw [List.take_append_drop, h3]
  have e2 : ((raw.drop s).take l.length).drop (min c l.length) = l.drop (min c l.length) := by rw [h3]
  rw [List.drop_take] at e2
  have e3 : l.length - min c l.length = l.length - c := by omega
  rw [e3] at e2
  rw [e2]
  by_cases hc : c ≤ l.length
  · rw [Nat.min_eq_left hc]
  · rw [List.drop_of_length_le (by omega), List.drop_of_length_le (by omega)]
theorem cutLines_len (ls : List (List UInt8)) : (cutLines ls).length = ls.length := by
  unfold cutLines
  rw [List.length_append, List.length_map, List.length_take, List.length_drop]; omega
theorem cutLines_zero (ls : List (List UInt8)) : (cutLines ls)[0]? = ls[0]? := by
  unfold cutLines
  cases ls <;> simp
theorem cutLines_at (ls : List (List UInt8)) (j : Nat) (hj : 0 < j) : (cutLines ls)[j]? = (ls[j]?).map (cutl (common (ls.drop 1))) := by
  obtain ⟨i, rfl⟩ : ∃ i, j = i + 1 := ⟨j - 1, by omega⟩
  unfold cutLines
  cases ls <;> simp
theorem cutLines_id {ls : List (List UInt8)} (h : (common (ls.drop 1)).getD 0 = 0) : cutLines ls = ls := by
  unfold cutLines cutl
  rw [h]
  cases ls <;> simp
theorem loF_le : ∀ ls : List (List UInt8), loF ls ≤ ls.length
  | [] => Nat.le_refl _
  | l :: ls => by
    have := loF_le ls
    unfold loF
    split
    · rw [List.length_cons]; omega
    · exact Nat.zero_le _
theorem hF_le (ls : List (List UInt8)) (lo : Nat) : ∀ k, hF ls lo k ≤ k
  | 0 => Nat.le_refl _
  | k + 1 => by
    have := hF_le ls lo k
    unfold hF
    split <;> omega
/-- The lines' lengths, each with its newline. -/
def tot (L : List (List UInt8)) : Nat := (L.map (fun l => l.length + 1)).sum
theorem tot_cons (l : List UInt8) (L : List (List UInt8)) : tot (l :: L) = l.length + 1 + tot L := by simp [tot]
theorem tot_app (a b : List (List UInt8)) : tot (a ++ b) = tot a + tot b := by simp [tot]
theorem tot_segs (c : UInt8) : ∀ t : List UInt8, tot (segs c t) = t.length + 1
  | [] => rfl
  | b :: t => by
    have ih := tot_segs c t
    by_cases hb : b = c
    · rw [segs, if_pos hb, tot_cons, ih, List.length_cons, List.length_nil]; omega
    · cases e : segs c t with
      | nil => exact absurd e (segs_ne c t)
      | cons x r =>
        rw [e, tot_cons] at ih
        rw [segs_cons_ne hb e, tot_cons, List.length_cons, List.length_cons]; omega
theorem tot_cut (o : Option Nat) : ∀ L : List (List UInt8), tot (L.map (cutl o)) ≤ tot L
  | [] => Nat.le_refl _
  | l :: L => by
    have := tot_cut o L
    rw [List.map_cons, tot_cons, tot_cons]
    unfold cutl at this ⊢
    rw [List.length_drop]; omega
theorem tot_cutLines (ls : List (List UInt8)) : tot (cutLines ls) ≤ tot ls := by
  unfold cutLines
  rw [tot_app]
  have h1 := tot_cut (common (ls.drop 1)) (ls.drop 1)
  have h2 := tot_app (ls.take 1) (ls.drop 1)
  rw [List.take_append_drop] at h2
  omega
theorem tot_mid (L : List (List UInt8)) (q lo : Nat) : tot ((L.take q).drop lo) ≤ tot L := by
  have h1 := tot_app ((L.take q).take lo) ((L.take q).drop lo)
  rw [List.take_append_drop] at h1
  have h2 := tot_app (L.take q) (L.drop q)
  rw [List.take_append_drop] at h2
  omega
theorem jn_len (L : List (List UInt8)) : (jn L).length ≤ tot L := by
  cases L with
  | nil => exact Nat.le_refl _
  | cons x xs =>
    rw [jn, List.length_append, tot_cons]
    have : ((xs.map (10 :: ·)).flatten).length = tot xs := by
      unfold tot
      rw [List.length_flatten, List.map_map]
      congr 1
    omega
theorem jn_mid_len (raw : List UInt8) (q lo : Nat) : (jn (((cutLines (segs 10 raw)).take q).drop lo)).length ≤ raw.length + 1 := by
  have h1 := jn_len (((cutLines (segs 10 raw)).take q).drop lo)
  have h2 := tot_mid (cutLines (segs 10 raw)) q lo
  have h3 := tot_cutLines (segs 10 raw)
  rw [tot_segs] at h3
  omega
theorem mid_next {M : List (List UInt8)} {q lo : Nat} {l : List UInt8} (hl : M[q]? = some l) (hq : lo ≤ q) : (M.take (q + 1)).drop lo = (M.take q).drop lo ++ [l] := by
  have hlt := (List.getElem?_eq_some_iff.1 hl).1
  rw [List.take_add_one, hl, List.drop_append_of_le_length (by rw [List.length_take]; omega)]; rfl
theorem mid_nil {M : List (List UInt8)} {q lo : Nat} (hq : q ≤ M.length) (hl : lo ≤ q) : ((M.take q).drop lo = []) ↔ q = lo := by
  rw [List.drop_eq_nil_iff, List.length_take]
  omega
end Go.Proofs.Qxb6602381aDoor.Pl
