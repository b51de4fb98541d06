/-
  authorizationFields, walked at a text built of a scheme and three parts.
-/
import Derived.Test.Qxb6601943aDoorNorm
import Derived.Test.Qxb6601943aDoorMaps
import Derived.Test.Qxb6601943aDoorAuthPl
namespace Go.Proofs.Qxb6601943aDoor
open Go Go.RowKit Go.Shelf Go.PlainAid Go.Maps
attribute [local go_sem] Oper.semAt_some

/-- The three keys, the three parameters, the scheme's parameter. -/
def keyS : Nat → ByteArray
  | 0 => ⟨#[67, 114, 101, 100, 101, 110, 116, 105, 97, 108]⟩
  | 1 => ⟨#[83, 105, 103, 110, 101, 100, 72, 101, 97, 100, 101, 114, 115]⟩
  | _ => ⟨#[83, 105, 103, 110, 97, 116, 117, 114, 101]⟩
def parS : Nat → ByteArray
  | 0 => ⟨#[88, 45, 65, 109, 122, 45, 67, 114, 101, 100, 101, 110, 116, 105, 97, 108]⟩
  | 1 => ⟨#[88, 45, 65, 109, 122, 45, 83, 105, 103, 110, 101, 100, 72, 101, 97, 100, 101, 114, 115]⟩
  | _ => ⟨#[88, 45, 65, 109, 122, 45, 83, 105, 103, 110, 97, 116, 117, 114, 101]⟩
def algS : ByteArray := ⟨#[88, 45, 65, 109, 122, 45, 65, 108, 103, 111, 114, 105, 116, 104, 109]⟩
abbrev sL (s : ByteArray) : Lit := .string s.data.toList
abbrev sD (s : ByteArray) : DataW Unit := .lit (.string s.data.toList)
/-- The map 'names'. -/
def DN : DataW Unit := (((DataW.map []).put (sL (keyS 0)) (sD (parS 0))).put (sL (keyS 1)) (sD (parS 1))).put (sL (keyS 2)) (sD (parS 2))
/-- The map 'fields' behind k rounds: round j brings the parameter of o j with the value V j. -/
def DF (sc : ByteArray) (o : Nat → Nat) (V : Nat → ByteArray) : Nat → DataW Unit
  | 0 => (DataW.map []).put (sL algS) (sD sc)
  | k + 1 => (DF sc o V k).put (sL (parS (o k))) (sD (V k))

theorem DN_at (i : Nat) : DN.atKey (sL (keyS i)) (.lit (.string [])) = sD (parS i) := by
  match i with
  | 0 => rfl
  | 1 => rfl
  | _ + 2 => rfl
theorem keyS_size (i : Nat) : (keyS i).size ≤ 100 := by
  match i with
  | 0 => decide
  | 1 => decide
  | _ + 2 => exact (by decide : (keyS 2).size ≤ 100)
theorem parS_size (i : Nat) : (parS i).size ≤ 100 := by
  match i with
  | 0 => decide
  | 1 => decide
  | _ + 2 => exact (by decide : (parS 2).size ≤ 100)
theorem parS_ne (i : Nat) : (parS i).toList.isEmpty = false := by
  match i with
  | 0 => rw [Lib.toList_data]; rfl
  | 1 => rw [Lib.toList_data]; rfl
  | _ + 2 => rw [Lib.toList_data]; rfl
theorem keyS_ok (i : Nat) : Pl.KeyOk (keyS i).data.toList := by
  match i with
  | 0 => exact ⟨⟨67, _, rfl, by decide, by decide⟩, by decide, by decide⟩
  | 1 => exact ⟨⟨83, _, rfl, by decide, by decide⟩, by decide, by decide⟩
  | _ + 2 => exact ⟨⟨83, _, rfl, by decide, by decide⟩, by show 61 ∉ (keyS 2).data.toList; decide, by show 44 ∉ (keyS 2).data.toList; decide⟩
/-- The six orders. -/
def Perm (o : Nat → Nat) : Prop :=
  (o 0 = 0 ∧ o 1 = 1 ∧ o 2 = 2) ∨ (o 0 = 0 ∧ o 1 = 2 ∧ o 2 = 1) ∨ (o 0 = 1 ∧ o 1 = 0 ∧ o 2 = 2) ∨ (o 0 = 1 ∧ o 1 = 2 ∧ o 2 = 0) ∨ (o 0 = 2 ∧ o 1 = 0 ∧ o 2 = 1) ∨ (o 0 = 2 ∧ o 1 = 1 ∧ o 2 = 0)

theorem DF_absent {o : Nat → Nat} (h : Perm o) (sc : ByteArray) (V : Nat → ByteArray) : ∀ k, k < 3 →
    (DF sc o V k).atKey (sL (parS (o k))) (.lit (.string [])) = .lit (.string []) ∧ Maps.has (DF sc o V k) (sL (parS (o k))) = false := by
  intro k hk
  rcases h with ⟨e0, e1, e2⟩ | ⟨e0, e1, e2⟩ | ⟨e0, e1, e2⟩ | ⟨e0, e1, e2⟩ | ⟨e0, e1, e2⟩ | ⟨e0, e1, e2⟩
  all_goals
    match k, hk with
    | 0, _ => simp only [DF, e0]; exact ⟨rfl, rfl⟩
    | 1, _ => simp only [DF, e0, e1]; exact ⟨rfl, rfl⟩
    | 2, _ => simp only [DF, e0, e1, e2]; exact ⟨rfl, rfl⟩

theorem DF_full {o : Nat → Nat} (h : Perm o) (sc : ByteArray) (V : Nat → ByteArray) :
    Maps.size (DF sc o V 3) = 4 ∧ (DF sc o V 3).atKey (sL algS) (.lit (.string [])) = sD sc ∧ Maps.has (DF sc o V 3) (sL algS) = true ∧
    (∀ k, k < 3 → (DF sc o V 3).atKey (sL (parS (o k))) (.lit (.string [])) = sD (V k) ∧ Maps.has (DF sc o V 3) (sL (parS (o k))) = true) := by
  rcases h with ⟨e0, e1, e2⟩ | ⟨e0, e1, e2⟩ | ⟨e0, e1, e2⟩ | ⟨e0, e1, e2⟩ | ⟨e0, e1, e2⟩ | ⟨e0, e1, e2⟩
  all_goals
    refine ⟨?_, ?_, ?_, ?_⟩
    · simp only [DF, e0, e1, e2]; rfl
    · simp only [DF, e0, e1, e2]; rfl
    · simp only [DF, e0, e1, e2]; rfl
    · intro k hk
      match k, hk with
      | 0, _ => simp only [DF, e0, e1, e2]; exact ⟨rfl, rfl⟩
      | 1, _ => simp only [DF, e0, e1, e2]; exact ⟨rfl, rfl⟩
      | 2, _ => simp only [DF, e0, e1, e2]; exact ⟨rfl, rfl⟩
end Go.Proofs.Qxb6601943aDoor
