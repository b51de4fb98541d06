/-
  THE PLAIN LAW of FnAuthorizationFieldsRoundTrip: how the text built of a scheme and three parts is cut again.
-/
import Derived.Test.Qxb6601943aDoorSegs
import Derived.Lib.SlTrimSet
import Derived.Lib.CutLaws
namespace Go.Proofs.Qxb6601943aDoor.Pl
open Go.Lib

theorem dropWhile_head {p : UInt8 → Bool} {a : UInt8} {l : List UInt8} (h : p a = false) : (a :: l).dropWhile p = a :: l := by
  simp [List.dropWhile, h]
/-- Nothing is trimmed of a text whose first and last bytes are not in the set. -/
theorem trimS_id (a z : UInt8) (l m : List UInt8) (cs : List UInt8) (e : a :: l = m ++ [z]) (ha : cs.contains a = false) (hz : cs.contains z = false) : trimS (a :: l) cs = a :: l := by
  have h1 : trimRightS (a :: l) cs = a :: l := by
    unfold trimRightS
    rw [e, List.reverse_append, List.reverse_singleton, List.singleton_append, dropWhile_head (p := (cs.contains ·)) hz, List.reverse_cons, List.reverse_reverse]
  unfold trimS
  rw [h1]
  exact dropWhile_head (p := (cs.contains ·)) ha
/-- One leading blank is. -/
theorem trimB_blank (a z : UInt8) (l m : List UInt8) (c : UInt8) (e : a :: l = m ++ [z]) (ha : a ≠ c) (hz : z ≠ c) : trimB (c :: a :: l) c = a :: l ∧ trimB (a :: l) c = a :: l := by
  have hr : ∀ p : List UInt8, trimRightB (p ++ (m ++ [z])) c = p ++ (m ++ [z]) := fun p => by
    unfold trimRightB
    rw [← List.append_assoc, List.reverse_append, List.reverse_singleton, List.singleton_append, dropWhile_head (p := (· == c)) (by simpa using hz), List.reverse_cons, List.reverse_reverse]
  have h0 := hr []
  have h1 := hr [c]
  simp only [List.nil_append] at h0
  rw [List.singleton_append] at h1
  unfold trimB
  rw [e, h0, h1]
  rw [← e]
  unfold trimLeftB
  constructor
  · rw [List.dropWhile_cons_of_pos (by simp), dropWhile_head (p := (· == c)) (by simpa using ha)]
  · exact dropWhile_head (p := (· == c)) (by simpa using ha)

/-- Cut at the first c. -/
theorem cut_first (c : UInt8) (p r : List UInt8) (h : c ∉ p) : cut (p ++ c :: r) [c] = (p, r, true) := by
  have hi : index (p ++ c :: r) [c] = (p.length : Int) := by
    refine index_first (by simp) ?_ ?_
    · rw [occ_one]; simp
    · intro j hj
      rw [occ_one, List.getElem?_append_left hj]
      cases hb : (p[j]? == some c) with
      | false => rfl
      | true =>
        rw [beq_iff_eq] at hb
        exact absurd (List.mem_of_getElem? hb) h
  unfold cut
  rw [hi]
  simp

/-- The last byte of "key=value", where the value ends in no blank or tab. -/
theorem last_kv (k v : List UInt8) : ∃ m z, k ++ 61 :: v = m ++ [z] ∧ (v = [] ∧ z = 61 ∨ ∃ m', v = m' ++ [z]) := by
  rcases List.eq_nil_or_concat v with rfl | ⟨m', z, rfl⟩
  · exact ⟨k, 61, rfl, .inl ⟨rfl, rfl⟩⟩
  · refine ⟨k ++ 61 :: m', z, by simp, .inr ⟨m', by simp⟩⟩

/-- A value that can stand: no comma; it ends in neither a blank nor a tab. -/
def plainV (v : List UInt8) : Bool := !v.contains 44 && (v.getLast? != some 32 && v.getLast? != some 9)

theorem plainV_last {v m' : List UInt8} {z : UInt8} (h : plainV v = true) (e : v = m' ++ [z]) : z ≠ 32 ∧ z ≠ 9 := by
  subst e
  unfold plainV at h
  simp only [List.getLast?_append, List.getLast?_singleton, Option.some_or, Bool.and_eq_true, bne_iff_ne, ne_eq, Option.some.injEq] at h
  exact h.2
theorem plainV_comma {v : List UInt8} (h : plainV v = true) : 44 ∉ v := by
  unfold plainV at h
  rw [Bool.and_eq_true] at h
  simpa using h.1

/-- A key: not empty; it begins with no blank or tab; no '=' and no comma in it. -/
structure KeyOk (k : List UInt8) : Prop where
  head : ∃ a l, k = a :: l ∧ a ≠ 32 ∧ a ≠ 9
  eq : 61 ∉ k
  comma : 44 ∉ k

theorem part_ok {k v : List UInt8} (hk : KeyOk k) (hv : plainV v = true) :
    trimB (32 :: (k ++ 61 :: v)) 32 = k ++ 61 :: v ∧ trimB (k ++ 61 :: v) 32 = k ++ 61 :: v ∧ cut (k ++ 61 :: v) [61] = (k, v, true) ∧ 44 ∉ (k ++ 61 :: v) := by
  obtain ⟨a, l, rfl, ha, _⟩ := hk.head
  obtain ⟨m, z, e, hz⟩ := last_kv (a :: l) v
  have hz' : z ≠ 32 := by
    rcases hz with ⟨_, rfl⟩ | ⟨m', e'⟩
    · decide
    · exact (plainV_last hv e').1
  have ht := trimB_blank a z (l ++ 61 :: v) m 32 e ha hz'
  refine ⟨ht.1, ht.2, cut_first 61 _ _ hk.eq, ?_⟩
  intro hm
  rcases List.mem_append.1 hm with h | h
  · exact hk.comma h
  · rcases List.mem_cons.1 h with h | h
    · cases h
    · exact plainV_comma hv h

/-- The whole text. -/
def whole (sc k0 v0 k1 v1 k2 v2 : List UInt8) : List UInt8 :=
  sc ++ 32 :: (k0 ++ 61 :: v0 ++ 44 :: (32 :: (k1 ++ 61 :: v1) ++ 44 :: (32 :: (k2 ++ 61 :: v2))))
def rest (k0 v0 k1 v1 k2 v2 : List UInt8) : List UInt8 := k0 ++ 61 :: v0 ++ 44 :: (32 :: (k1 ++ 61 :: v1) ++ 44 :: (32 :: (k2 ++ 61 :: v2)))

theorem whole_cut {sc k0 v0 k1 v1 k2 v2 : List UInt8} (h : 32 ∉ sc) : cut (whole sc k0 v0 k1 v1 k2 v2) [32] = (sc, rest k0 v0 k1 v1 k2 v2, true) := cut_first 32 _ _ h

theorem whole_trim {a : UInt8} {l k0 v0 k1 v1 k2 v2 : List UInt8} (h1 : a ≠ 32) (h2 : a ≠ 9) (hv : plainV v2 = true) :
    trimS (whole (a :: l) k0 v0 k1 v1 k2 v2) [32, 9] = whole (a :: l) k0 v0 k1 v1 k2 v2 := by
  obtain ⟨m, z, e, hz⟩ := last_kv k2 v2
  have hz' : z ≠ 32 ∧ z ≠ 9 := by
    rcases hz with ⟨_, rfl⟩ | ⟨m', e'⟩
    · decide
    · exact plainV_last hv e'
  unfold whole
  rw [e]
  have hl : (a :: l) ++ 32 :: (k0 ++ 61 :: v0 ++ 44 :: (32 :: (k1 ++ 61 :: v1) ++ 44 :: (32 :: (m ++ [z])))) = a :: (l ++ 32 :: (k0 ++ 61 :: v0 ++ 44 :: (32 :: (k1 ++ 61 :: v1) ++ 44 :: (32 :: (m ++ [z]))))) := rfl
  rw [hl]
  refine trimS_id a z _ (a :: (l ++ 32 :: (k0 ++ 61 :: v0 ++ 44 :: (32 :: (k1 ++ 61 :: v1) ++ 44 :: (32 :: m))))) _ (by simp) ?_ ?_
  · simp [h1, h2]
  · simp [hz'.1, hz'.2]

theorem rest_segs {k0 v0 k1 v1 k2 v2 : List UInt8} (h0 : 44 ∉ (k0 ++ 61 :: v0)) (h1 : 44 ∉ (k1 ++ 61 :: v1)) (h2 : 44 ∉ (k2 ++ 61 :: v2)) :
    segs 44 (rest k0 v0 k1 v1 k2 v2) = [k0 ++ 61 :: v0, 32 :: (k1 ++ 61 :: v1), 32 :: (k2 ++ 61 :: v2)] := by
  unfold rest
  rw [segs_append 44 _ _ h0, segs_append 44 _ _ (by simpa using h1), segs_plain 44 _ (by simpa using h2)]

end Go.Proofs.Qxb6601943aDoor.Pl
