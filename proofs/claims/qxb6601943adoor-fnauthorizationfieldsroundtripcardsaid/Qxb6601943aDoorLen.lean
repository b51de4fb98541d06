/-
  THE PLAIN LAW of FnNormalizePathNoLonger: lengths of what normalizePath keeps.
-/
import Derived.Test.Qxb6601943aDoorSeq
import Derived.Lib.Join
namespace Go.Proofs.Qxb6601943aDoor
open Go

/-- Each piece counted with one byte more. -/
def tot (l : List ByteArray) : Nat := (l.map fun b => b.size + 1).sum
theorem tot_nil : tot [] = 0 := rfl
theorem tot_cons (x : ByteArray) (l : List ByteArray) : tot (x :: l) = x.size + 1 + tot l := by simp [tot]
theorem tot_snoc (l : List ByteArray) (x : ByteArray) : tot (l ++ [x]) = tot l + (x.size + 1) := by simp [tot]
theorem tot_take_succ {l : List ByteArray} {k : Nat} {x : ByteArray} (h : l[k]? = some x) : tot (l.take (k + 1)) = tot (l.take k) + (x.size + 1) := by
  rw [List.take_add_one, h]; exact tot_snoc _ _

theorem tot_pcs (c : UInt8) : ∀ (n : Nat) (s : ByteArray), s.size ≤ n → tot (pcs c s) = s.size + 1
  | n, s, hn => by
    have hge := Lib.indexByte_ge s.data.toList c
    by_cases hneg : Lib.indexByte s.data.toList c < 0
    · rw [pcs_miss c s (by omega)]; simp [tot]
    · obtain ⟨i, hi⟩ : ∃ i : Nat, Lib.indexByte s.data.toList c = i := ⟨(Lib.indexByte s.data.toList c).toNat, by omega⟩
      obtain ⟨hir, hp⟩ := pcs_hit c s i hi
      match n, hn with
      | 0, hn => omega
      | n + 1, hn =>
        have e1 : (s.extract (i + 1) s.size).size = s.size - (i + 1) := by rw [ByteArray.size_extract]; omega
        have e2 : (s.extract 0 i).size = i := by rw [ByteArray.size_extract]; omega
        have ih := tot_pcs c n (s.extract (i + 1) s.size) (by omega)
        rw [hp, tot_cons, ih, e1, e2]
        omega

theorem lens_tot : ∀ l : List ByteArray, Lib.lens (l.map (·.data.toList)) + l.length = tot l
  | [] => rfl
  | x :: l => by
    have ih := lens_tot l
    have e : x.data.toList.length = x.size := (Lib.size_eq x).symm
    simp only [List.map_cons, Lib.lens, List.sum_cons, List.length_cons, tot_cons] at ih ⊢
    omega

theorem join_tot {l : List ByteArray} (h : l ≠ []) : (Lib.join (l.map (·.data.toList)) [47]).length + 1 = tot l := by
  cases l with
  | nil => exact absurd rfl h
  | cons x l =>
    have := lens_tot (x :: l)
    simp only [List.map_cons] at this ⊢
    rw [Lib.join_length]
    simp only [List.length_cons, List.length_nil, List.length_map] at this ⊢
    omega

/-- Empty, "." or "..". -/
def spc (b : ByteArray) : Bool := b.data.toList == [] || b.data.toList == [46] || b.data.toList == [46, 46]

/-- k pieces are over; kl is kept. -/
structure Inv (sg : List ByteArray) (k : Nat) (kl : List ByteArray) : Prop where
  le : k ≤ sg.length
  len : kl.length ≤ k
  tot : tot kl ≤ tot (sg.take k)
  sp : ∀ x j, k = j + 1 → sg[j]? = some x → spc x = true → Qxb6601943aDoor.tot kl + 1 ≤ Qxb6601943aDoor.tot (sg.take k)
theorem Inv.zero (sg : List ByteArray) : Inv sg 0 [] := ⟨Nat.zero_le _, Nat.le_refl _, Nat.zero_le _, fun _ _ h => by omega⟩
theorem Inv.skip {sg : List ByteArray} {k : Nat} {kl : List ByteArray} {x : ByteArray} (h : Inv sg k kl) (hx : sg[k]? = some x) : Inv sg (k + 1) kl := by
  have e := tot_take_succ hx
  have ht := h.tot
  exact ⟨(List.getElem?_eq_some_iff.1 hx).1, Nat.le_succ_of_le h.len, by omega, fun _ _ _ _ _ => by omega⟩
theorem Inv.pop {sg : List ByteArray} {k : Nat} {kl : List ByteArray} {x y : ByteArray} (h : Inv sg k (kl ++ [y])) (hx : sg[k]? = some x) : Inv sg (k + 1) kl := by
  have e := tot_take_succ hx
  have ht := h.tot
  have e2 := tot_snoc kl y
  have hl := h.len
  simp at hl
  exact ⟨(List.getElem?_eq_some_iff.1 hx).1, by omega, by omega, fun _ _ _ _ _ => by omega⟩
theorem Inv.keep {sg : List ByteArray} {k : Nat} {kl : List ByteArray} {x : ByteArray} (h : Inv sg k kl) (hx : sg[k]? = some x) (hn : spc x = false) : Inv sg (k + 1) (kl ++ [x]) := by
  have e := tot_take_succ hx
  have ht := h.tot
  have hl := h.len
  refine ⟨(List.getElem?_eq_some_iff.1 hx).1, by simp; omega, by rw [tot_snoc]; omega, fun z j hj hz hs => ?_⟩
  obtain rfl : j = k := by omega
  rw [hx] at hz
  cases hz
  rw [hn] at hs; cases hs

/-- A path that begins with a slash: its slashes are as many as the pieces behind it. -/
theorem count_pcs (p : ByteArray) (h : p.data.toList[0]? = some 47) : Lib.countByte p.data.toList 47 = (pcs 47 (p.extract 1 p.size)).length := by
  rw [pcs_len]
  show p.data.toList.count 47 = Lib.count (p.extract 1 p.size).data.toList [47] + 1
  rw [Lib.count_one, Lib.extract_to_end]
  cases hp : p.data.toList with
  | nil => rw [hp] at h; cases h
  | cons a l =>
    rw [hp] at h
    simp at h
    subst h
    simp

end Go.Proofs.Qxb6601943aDoor
