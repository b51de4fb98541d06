/-
  FnAuthorizationFieldsRoundTrip: the law's walk.
-/
import Derived.Test.Qxb6601943aDoorLaw5
namespace Go.Proofs.Qxb6601943aDoor
open Go Go.RowKit Go.PlainAid Go.Maps

def valV (c0 c1 c2 : ByteArray) : Nat → ByteArray
  | 0 => c0
  | 1 => c1
  | _ => c2

set_option maxRecDepth 10000 in
set_option maxHeartbeats 2000000 in
theorem law5_early (sc c0 c1 c2 : ByteArray) (n : Int) (w : World)
    (h : 1048576 < sc.size + c0.size + c1.size + c2.size ∨ n < 0 ∨ 5 < n ∨ sc.size = 0 ∨ bt sc 0 = 9 ∨ hasL sc.data.toList 32 = true) :
    Calls Tryd.prog 5 #[.string sc, .string c0, .string c1, .string c2, .int .i64 n] w fun e w' => e = .returned (.bool true) ∧ Below w.heap.size w w' := by
  by_cases hs : 1048576 < sc.size + c0.size + c1.size + c2.size
  · go_enter Tryd.func5, Tryd.ntmps5
    go_wp2_with (go_at_call 10; refine (bytes5_no _ _ _ _ _ _ hs).mono ?_; rintro e w' ⟨rfl, rfl⟩)
    go_ret
    exact ⟨rfl, Below.refl _ _⟩
  · have hs' : sc.size + c0.size + c1.size + c2.size ≤ 1048576 := by omega
    have h' : n < 0 ∨ 5 < n ∨ sc.size = 0 ∨ bt sc 0 = 9 ∨ hasL sc.data.toList 32 = true := by
      rcases h with h | h
      · exact absurd h hs
      · exact h
    clear h hs
    by_cases n0 : n < 0
    · clear h'
      go_enter Tryd.func5, Tryd.ntmps5
      go_wp2_with (go_at_call 10; refine (bytes5 _ _ _ _ _ _ hs').mono ?_; rintro e w' ⟨rfl, rfl⟩)
      go_ret
      exact ⟨rfl, Below.refl _ _⟩
    · by_cases n5 : 5 < n
      · clear h'
        go_enter Tryd.func5, Tryd.ntmps5
        go_wp2_with (go_at_call 10; refine (bytes5 _ _ _ _ _ _ hs').mono ?_; rintro e w' ⟨rfl, rfl⟩)
        go_ret
        exact ⟨rfl, Below.refl _ _⟩
      · by_cases z0 : sc.size = 0
        · have z0' : ((sc.size : Int) == 0) = true := by rw [z0]; rfl
          clear h' z0
          go_enter Tryd.func5, Tryd.ntmps5
          go_wp2_with (go_at_call 10; refine (bytes5 _ _ _ _ _ _ hs').mono ?_; rintro e w' ⟨rfl, rfl⟩)
          go_ret
          exact ⟨rfl, Below.refl _ _⟩
        · have z0' : ((sc.size : Int) == 0) = false := beq_eq_false_iff_ne.2 (by omega)
          have z1 : (0 : Int) < sc.size := by omega
          have hb := get_bt sc
          by_cases t9 : bt sc 0 = 9
          · have t9' : (bt sc 0 == 9) = true := by rw [t9]; rfl
            clear h' z0 t9
            go_enter Tryd.func5, Tryd.ntmps5
            go_wp2_with (go_at_call 10; refine (bytes5 _ _ _ _ _ _ hs').mono ?_; rintro e w' ⟨rfl, rfl⟩)
            go_ret
            exact ⟨rfl, Below.refl _ _⟩
          · have t9' : (bt sc 0 == 9) = false := beq_eq_false_iff_ne.2 t9
            have hh : hasL sc.data.toList 32 = true := by
              rcases h' with h | h | h | h | h
              · exact absurd h n0
              · exact absurd h n5
              · exact absurd h z0
              · exact absurd h t9
              · exact h
            have h11 := hasByte sc 32 w (by omega)
            rw [hh] at h11
            clear h' z0 t9 hh
            go_enter Tryd.func5, Tryd.ntmps5
            go_wp2_with fail
            refine (bytes5 _ _ _ _ _ _ hs').mono ?_
            rintro e w' ⟨rfl, rfl⟩
            go_wp2_with fail
            refine h11.mono ?_
            rintro e w' ⟨rfl, rfl⟩
            go_wp2
            go_ret
            exact ⟨rfl, Below.refl _ _⟩
end Go.Proofs.Qxb6601943aDoor
