/-
  FnAuthorizationFieldsRoundTrip: the law's walk.
-/
import Derived.Test.Qxb6601943aDoorSmall5
namespace Go.Proofs.Qxb6601943aDoor
open Go Go.RowKit Go.PlainAid Go.Maps

/-- The order of the parts. -/
def ordO (n : Int) : Nat → Nat := if n = 0 then (fun | 0 => 0 | 1 => 1 | _ => 2) else if n = 1 then (fun | 0 => 0 | 1 => 2 | _ => 1) else if n = 2 then (fun | 0 => 1 | 1 => 0 | _ => 2)
  else if n = 3 then (fun | 0 => 1 | 1 => 2 | _ => 0) else if n = 4 then (fun | 0 => 2 | 1 => 0 | _ => 1) else (fun | 0 => 2 | 1 => 1 | _ => 0)
theorem ordO_perm (n : Int) : Perm (ordO n) := by
  unfold ordO Perm
  split
  · exact .inl ⟨rfl, rfl, rfl⟩
  · split
    · exact .inr (.inl ⟨rfl, rfl, rfl⟩)
    · split
      · exact .inr (.inr (.inl ⟨rfl, rfl, rfl⟩))
      · split
        · exact .inr (.inr (.inr (.inl ⟨rfl, rfl, rfl⟩)))
        · split
          · exact .inr (.inr (.inr (.inr (.inl ⟨rfl, rfl, rfl⟩))))
          · exact .inr (.inr (.inr (.inr (.inr ⟨rfl, rfl, rfl⟩))))
theorem Perm.lt {o : Nat → Nat} (h : Perm o) : o 0 < 3 ∧ o 1 < 3 ∧ o 2 < 3 := by
  rcases h with ⟨a, b, c⟩ | ⟨a, b, c⟩ | ⟨a, b, c⟩ | ⟨a, b, c⟩ | ⟨a, b, c⟩ | ⟨a, b, c⟩ <;> (rw [a, b, c]; decide)
theorem Perm.onto {o : Nat → Nat} (h : Perm o) : ∀ j, j < 3 → ∃ k, k < 3 ∧ o k = j := by
  intro j hj
  rcases h with ⟨a, b, c⟩ | ⟨a, b, c⟩ | ⟨a, b, c⟩ | ⟨a, b, c⟩ | ⟨a, b, c⟩ | ⟨a, b, c⟩
  all_goals
    by_cases e0 : j = o 0
    · exact ⟨0, by omega, e0.symm⟩
    · by_cases e1 : j = o 1
      · exact ⟨1, by omega, e1.symm⟩
      · exact ⟨2, by omega, by omega⟩

theorem perm5 (n : Int) (w : World) (h0 : 0 ≤ n) (h5 : n ≤ 5) :
    Calls Tryd.prog 13 #[.int .i64 n] w fun e w' => e = .returned (.tuple #[.int .i64 (ordO n 0 : Nat), .int .i64 (ordO n 1 : Nat), .int .i64 (ordO n 2 : Nat)]) ∧ w' = w := by
  have hc : n = 0 ∨ n = 1 ∨ n = 2 ∨ n = 3 ∨ n = 4 ∨ n = 5 := by omega
  rcases hc with rfl | rfl | rfl | rfl | rfl | rfl
  all_goals
    go_enter Tryd.func13, Tryd.ntmps13
    go_wp2
    go_ret3
    exact ⟨rfl, rfl⟩

theorem key5 (i : Nat) (w : World) (h : i < 3) : Calls Tryd.prog 14 #[.int .i64 (i : Int)] w fun e w' => e = .returned (.string (keyS i)) ∧ w' = w := by
  match i, h with
  | 0, _ =>
    go_enter Tryd.func14, Tryd.ntmps14
    go_wp2
    go_ret
    exact ⟨rfl, rfl⟩
  | 1, _ =>
    go_enter Tryd.func14, Tryd.ntmps14
    go_wp2
    go_ret
    exact ⟨rfl, rfl⟩
  | 2, _ =>
    go_enter Tryd.func14, Tryd.ntmps14
    go_wp2
    go_ret
    exact ⟨rfl, rfl⟩
theorem par5 (i : Nat) (w : World) (h : i < 3) : Calls Tryd.prog 16 #[.int .i64 (i : Int)] w fun e w' => e = .returned (.string (parS i)) ∧ w' = w := by
  match i, h with
  | 0, _ =>
    go_enter Tryd.func16, Tryd.ntmps16
    go_wp2
    go_ret
    exact ⟨rfl, rfl⟩
  | 1, _ =>
    go_enter Tryd.func16, Tryd.ntmps16
    go_wp2
    go_ret
    exact ⟨rfl, rfl⟩
  | 2, _ =>
    go_enter Tryd.func16, Tryd.ntmps16
    go_wp2
    go_ret
    exact ⟨rfl, rfl⟩

theorem zzAuth (x sc rs : ByteArray) (o : Nat → Nat) (V : Nat → ByteArray) (m : Int) (w : World) (hsz : x.size ≤ 10000000) (hm : w.cell? ⟨0, 0, none⟩ = some (.int .i64 m))
    (ho : Perm o) (F : Fx x sc rs o V) :
    Calls Tryd.prog 15 #[.string x] w fun e w' => ∃ M, e = .returned (.map (some M)) ∧ MapIs w' M 4 (DF sc o V 3) ∧ Below w.heap.size w w' := by
  have ha := auth_any x sc rs o V m w hsz hm ho F
  go_enter Tryd.func15, Tryd.ntmps15
  go_wp2_with (go_at_call 19; refine ha.mono ?_; rintro e w' ⟨M, rfl, h1, h2⟩)
  go_ret
  exact ⟨M, rfl, h1, h2⟩
end Go.Proofs.Qxb6601943aDoor
