/-
  FnAuthorizationFieldsRoundTrip: the small functions, then the law's walk.
-/
import Derived.Test.Qxb6601943aDoorAuth
import Derived.Deep.QuietTactic
import Derived.BigQuiet
namespace Go.Proofs.Qxb6601943aDoor
open Go Go.RowKit Go.PlainAid Go.Maps

theorem ret_bool {a b : Bool} (h : a = b) : Ending.returned (.bool a) = .returned (.bool b) := by rw [h]

set_option maxHeartbeats 1000000 in
theorem bytes5 (a b c d : ByteArray) (n : Int) (w : World) (hs : a.size + b.size + c.size + d.size ≤ 1048576) :
    Calls Tryd.prog 10 #[.string a, .string b, .string c, .string d, .int .i64 n] w fun e w' => e = .returned (.bool true) ∧ w' = w := by
  go_enter Tryd.func10, Tryd.ntmps10
  go_wp2
  go_ret
  exact ⟨rfl, rfl⟩
set_option maxHeartbeats 1000000 in
theorem bytes5_no (a b c d : ByteArray) (n : Int) (w : World) (hs : 1048576 < a.size + b.size + c.size + d.size) :
    Calls Tryd.prog 10 #[.string a, .string b, .string c, .string d, .int .i64 n] w fun e w' => e = .returned (.bool false) ∧ w' = w := by
  go_enter Tryd.func10, Tryd.ntmps10
  go_wp2
  all_goals (go_ret; exact ⟨rfl, rfl⟩)

/-- Does the text hold the byte? -/
def hasL (l : List UInt8) (c : UInt8) : Bool := l.contains c
set_option maxHeartbeats 400000 in
theorem hasByte (s : ByteArray) (c : UInt8) (w : World) (hs : s.size ≤ 1048576) :
    Calls Tryd.prog 11 #[.string s, .int .u8 (c.toNat : Int)] w fun e w' => e = .returned (.bool (hasL s.data.toList c)) ∧ w' = w := by
  have hb := get_bt s
  go_enter Tryd.func11, Tryd.ntmps11
  go_wp2
  go_loop [5] (fun i => ∃ k : Nat, k ≤ s.size ∧ i = .int .i64 k ∧ (∀ j, j < k → s.data.toList[j]? ≠ some c)) (fun i => s.size - (RowKit.intOf i).toNat)
  case atStart => exact ⟨0, Nat.zero_le _, rfl, fun j h => absurd h (Nat.not_lt_zero _)⟩
  case round =>
    obtain ⟨k, hk, rfl, hno⟩ := hrel
    have HN : Hid (∀ j, j < k → s.data.toList[j]? ≠ some c) := hno
    clear hno
    by_cases hlt : k < s.size
    · have hat : s.data.toList[k]? = some s[k] := by rw [List.getElem?_eq_getElem (by rw [← Lib.size_eq]; exact hlt)]; rfl
      have hbt : bt s k = (s[k].toNat : Int) := by unfold bt; rw [dif_pos hlt]
      by_cases hc : s[k] = c
      · have hd : (bt s k == (c.toNat : Int)) = true := by rw [hbt, hc]; simp
        have hcon : hasL s.data.toList c = true := by
          unfold hasL
          rw [List.contains_iff_mem]
          exact List.mem_of_getElem? (hat.trans (by rw [hc]))
        have HC : Hid (hasL s.data.toList c = true) := hcon
        clear hcon hc hat hbt
        go_wp2
        go_ret
        exact ⟨ret_bool HC.out.symm, rfl⟩
      · have hd : (bt s k == (c.toNat : Int)) = false := by
          rw [hbt, beq_eq_false_iff_ne]
          intro e
          exact hc (UInt8.toNat_inj.1 (by omega))
        have HA : Hid (s.data.toList[k]? ≠ some c) := by
          show s.data.toList[k]? ≠ some c
          rw [hat]
          intro e
          exact hc (Option.some.inj e)
        clear hc hat hbt
        go_wp2
        go_round
        case rel =>
          refine ⟨k + 1, by omega, by go_num, fun j hj => ?_⟩
          by_cases e : j = k
          · subst e; exact HA.out
          · exact HN.out j (by omega)
        case measure => simp [RowKit.intOf]; omega
    · go_wp2
      go_ret
      refine ⟨ret_bool ?_, rfl⟩
      rw [eq_comm, Bool.eq_false_iff]
      intro h
      unfold hasL at h
      rw [List.contains_iff_mem] at h
      obtain ⟨j, hj⟩ := List.mem_iff_getElem?.1 h
      have hjl := (List.getElem?_eq_some_iff.1 hj).1
      rw [← Lib.size_eq] at hjl
      exact HN.out j (by omega) hj

set_option maxHeartbeats 400000 in
theorem plainValue (s : ByteArray) (w : World) (hs : s.size ≤ 1048576) :
    Calls Tryd.prog 12 #[.string s] w fun e w' => e = .returned (.bool (Pl.plainV s.data.toList)) ∧ w' = w := by
  have hb := get_bt s
  have h11 := hasByte s 44 w hs
  cases hc : hasL s.data.toList 44 with
  | true =>
    rw [hc] at h11
    have HR : Hid (Pl.plainV s.data.toList = false) := by
      show Pl.plainV s.data.toList = false
      unfold hasL at hc; unfold Pl.plainV; rw [hc]; rfl
    clear hc
    go_enter Tryd.func12, Tryd.ntmps12
    go_wp2_with (go_at_call 11; refine h11.mono ?_; rintro e w' ⟨rfl, rfl⟩)
    go_ret
    exact ⟨ret_bool HR.out.symm, rfl⟩
  | false =>
    rw [hc] at h11
    by_cases h0 : s.size = 0
    · have hl : s.data.toList = [] := List.eq_nil_of_length_eq_zero (by rw [← Lib.size_eq]; exact h0)
      have HR : Hid (Pl.plainV s.data.toList = true) := by
        show Pl.plainV s.data.toList = true
        rw [hl]; rfl
      have h0' : ((s.size : Int) == 0) = true := by rw [h0]; rfl
      clear hc hl h0
      go_enter Tryd.func12, Tryd.ntmps12
      go_wp2_with (go_at_call 11; refine h11.mono ?_; rintro e w' ⟨rfl, rfl⟩)
      go_ret
      exact ⟨ret_bool HR.out.symm, rfl⟩
    · have h0' : ((s.size : Int) == 0) = false := beq_eq_false_iff_ne.2 (by omega)
      have i0 : (0 : Int) ≤ (s.size : Int) - 1 := by omega
      have i1 : (s.size : Int) - 1 < s.size := by omega
      have i2 : ((s.size : Int) - 1).toNat = s.size - 1 := by omega
      have hlt : s.size - 1 < s.size := by omega
      have hat : s.data.toList.getLast? = some s[s.size - 1] := by
        rw [List.getLast?_eq_getElem?, ← Lib.size_eq, List.getElem?_eq_getElem (by rw [← Lib.size_eq]; exact hlt)]; rfl
      have hbt : bt s (s.size - 1) = (s[s.size - 1].toNat : Int) := by unfold bt; rw [dif_pos hlt]
      have hpv : Pl.plainV s.data.toList = ((bt s (s.size - 1) != 32) && (bt s (s.size - 1) != 9)) := by
        unfold hasL at hc
        unfold Pl.plainV
        rw [hc, hat, hbt]
        generalize s[s.size - 1] = z
        have e1 : ∀ n : UInt8, (some z != some n) = ((z.toNat : Int) != (n.toNat : Int)) := fun n => by
          rw [Bool.eq_iff_iff]
          simp only [bne_iff_ne, ne_eq, Option.some.injEq]
          constructor
          · intro h e; exact h (UInt8.toNat_inj.1 (by omega))
          · intro h e; exact h (by rw [e])
        rw [e1 32, e1 9]
        rfl
      have HP : Hid (Pl.plainV s.data.toList = ((bt s (s.size - 1) != 32) && (bt s (s.size - 1) != 9))) := hpv
      clear hpv hc hat hbt h0
      cases g1 : (bt s (s.size - 1) != 32) with
      | false =>
        go_enter Tryd.func12, Tryd.ntmps12
        go_wp2_with (go_at_call 11; refine h11.mono ?_; rintro e w' ⟨rfl, rfl⟩)
        go_ret
        exact ⟨ret_bool (by rw [HP.out, g1]; rfl), rfl⟩
      | true =>
        cases g2 : (bt s (s.size - 1) != 9) with
        | false =>
          go_enter Tryd.func12, Tryd.ntmps12
          go_wp2_with (go_at_call 11; refine h11.mono ?_; rintro e w' ⟨rfl, rfl⟩)
          go_ret
          exact ⟨ret_bool (by rw [HP.out, g1, g2]; rfl), rfl⟩
        | true =>
          go_enter Tryd.func12, Tryd.ntmps12
          go_wp2_with (go_at_call 11; refine h11.mono ?_; rintro e w' ⟨rfl, rfl⟩)
          go_ret
          exact ⟨ret_bool (by rw [HP.out, g1, g2]; rfl), rfl⟩
end Go.Proofs.Qxb6601943aDoor
