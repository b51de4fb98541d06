import Derived.Test.Qxb6601969aDoorProg
import Derived.Test.Qxb6601969aDoorPlain
import Derived.WalkKit
import Derived.WalkLawsBesides
import Derived.Deep.QuietTactic
import Derived.BigQuiet
import Derived.Deep.Draws
import Derived.Handy
import Derived.Outline
import Derived.PlainAid
namespace Go.Proofs.Qxb6601969aDoor
open Go.RowKit Go.Lib Go.PlainAid

set_option maxHeartbeats 400000 in
theorem bytes_any (s : ByteArray) (w : World) (hs : s.size ≤ 1048576) :
    Calls Tryd.prog 5 #[.string s] w fun e w' => e = .returned (.bool true) ∧ w' = w := by
  go_enter Tryd.func5, Tryd.ntmps5
  go_wp2
  go_ret
  exact ⟨rfl, rfl⟩

set_option maxHeartbeats 400000 in
theorem bytes_no (s : ByteArray) (w : World) (hs : 1048576 < s.size) :
    Calls Tryd.prog 5 #[.string s] w fun e w' => e = .returned (.bool false) ∧ w' = w := by
  go_enter Tryd.func5, Tryd.ntmps5
  go_wp2
  go_ret
  exact ⟨rfl, rfl⟩

theorem bt_at (s : ByteArray) (k : Nat) (h : k < s.size) : ∃ c, s.data.toList[k]? = some c ∧ bt s k = (c.toNat : Int) := by
  refine ⟨s[k], ?_, ?_⟩
  · rw [List.getElem?_eq_getElem (by simpa using h)]; rfl
  · unfold bt; rw [dif_pos h]

theorem occ_iff {s sub : List UInt8} {k : Nat} (hk : k + sub.length ≤ s.length) : occAt s sub k = true ↔ ∀ i, i < sub.length → s[k + i]? = sub[i]? := by
  rw [occAt_iff_take s sub k hk, beq_iff_eq]
  constructor
  · intro h i hi
    rw [← h, List.getElem?_take_of_lt hi, List.getElem?_drop]
  · intro h
    apply List.ext_getElem?
    intro i
    by_cases hi : i < sub.length
    · rw [List.getElem?_take_of_lt hi, List.getElem?_drop, h i hi]
    · rw [List.getElem?_eq_none (by simp; omega), List.getElem?_eq_none (by omega)]

theorem sz (s : ByteArray) : s.data.toList.length = s.size := (size_eq s).symm
theorem ret_bool {a b : Bool} (h : a = b) : Ending.returned (.bool a) = .returned (.bool b) := by rw [h]

set_option maxHeartbeats 400000 in
theorem has_any (s sub : ByteArray) (w : World) (hs : s.size ≤ 2000000) (hsub : sub.size ≤ 100) :
    Calls Tryd.prog 6 #[.string s, .string sub] w fun e w' => e = .returned (.bool (contains s.data.toList sub.data.toList)) ∧ ∃ n, w' = w.drewN n := by
  go_enter Tryd.func6, Tryd.ntmps6
  go_wp2
  go_loopw [5] (fun i wr => ∃ k n : Nat, k ≤ s.size + 1 ∧ i = .int .i64 k ∧ (∀ j, j < k → occAt s.data.toList sub.data.toList j = false) ∧ wr = w.drewN n) (fun i _ => s.size + 2 - (intOf i).toNat)
  case atStart => exact ⟨0, 0, Nat.zero_le _, rfl, fun j h => absurd h (Nat.not_lt_zero _), rfl⟩
  case round =>
    obtain ⟨k, n, hk, rfl, hno, rfl⟩ := hrel
    have HN : Hid (∀ j, j < k → occAt s.data.toList sub.data.toList j = false) := hno
    clear hno
    by_cases hlt : k + sub.size ≤ s.size
    · go_wp2
      go_loopw [6] (fun j wr => ∃ m n : Nat, m ≤ sub.size ∧ j = .int .i64 m ∧ (∀ i, i < m → s.data.toList[k + i]? = sub.data.toList[i]?) ∧ wr = w.drewN n) (fun j _ => sub.size - (intOf j).toNat)
      case atStart => exact ⟨0, n, Nat.zero_le _, rfl, fun j h => absurd h (Nat.not_lt_zero _), rfl⟩
      case round =>
        obtain ⟨m, n2, hm, rfl, heq, rfl⟩ := hrel
        have HE : Hid (∀ i, i < m → s.data.toList[k + i]? = sub.data.toList[i]?) := heq
        clear heq
        by_cases hlm : m < sub.size
        · have h1 : (k : Int) + m < s.size := by omega
          have h2 : (m : Int) < sub.size := by omega
          have h0 : (0 : Int) ≤ (k : Int) + (m : Int) := by omega
          have htn : ((k : Int) + (m : Int)).toNat = k + m := by omega
          have hb1 := get_bt s
          have hb2 := get_bt sub
          have hwr : IntKind.i64.wrap ((k : Int) + (m : Int)) = (k : Int) + (m : Int) := IntWalk.i64_in _ ⟨by omega, by omega⟩
          by_cases hc : bt s (k + m) = bt sub m
          · have hd : (bt s (k + m) == bt sub m) = true := by simp [hc]
            have HC : Hid (bt s (k + m) = bt sub m) := hc
            clear hc
            go_wp2
            go_quiet (fail)
            go_wp2
            go_roundw
            case rel =>
              refine ⟨m + 1, n2 + nq, by omega, by go_num, ?_, by simp⟩
              intro i hi
              by_cases e : i = m
              · subst e
                obtain ⟨c, hc1, hc2⟩ := bt_at s (k + i) (by omega)
                obtain ⟨d, hd1, hd2⟩ := bt_at sub i (by omega)
                rw [hc1, hd1]
                have := HC.out
                rw [hc2, hd2] at this
                rw [UInt8.toNat_inj.1 (by omega : c.toNat = d.toNat)]
              · exact HE.out i (by omega)
            case measure => simp [intOf]; omega
          · have hd : (bt s (k + m) == bt sub m) = false := by simp [hc]
            have hno : occAt s.data.toList sub.data.toList k = false := by
              rw [Bool.eq_false_iff]
              intro h
              rw [occ_iff (by rw [sz, sz]; exact hlt)] at h
              have := h m (by rw [sz]; exact hlm)
              obtain ⟨c, hc1, hc2⟩ := bt_at s (k + m) (by omega)
              obtain ⟨d, hd1, hd2⟩ := bt_at sub m (by omega)
              rw [hc1, hd1] at this
              simp only [Option.some.injEq] at this
              apply hc
              rw [hc2, hd2, this]
            have HO : Hid (occAt s.data.toList sub.data.toList k = false) := hno
            clear hc hno
            have hm2 : ((m : Int) == (sub.size : Int)) = false := by simp; omega
            go_wp2
            go_quiet (fail)
            go_wp2
            go_roundw
            case rel =>
              refine ⟨k + 1, n2 + nq, by omega, by go_num, ?_, by simp⟩
              intro i hi
              by_cases e : i = k
              · subst e; exact HO.out
              · exact HN.out i (by omega)
            case measure => simp [intOf]; omega
        · have h2 : decide ((m : Int) < sub.size) = false := by simp; omega
          have e : m = sub.size := by omega
          have hocc : occAt s.data.toList sub.data.toList k = true := (occ_iff (by rw [sz, sz]; exact hlt)).2 (fun i hi => HE.out i (by rw [sz] at hi; omega))
          have hcon : contains s.data.toList sub.data.toList = true := by
            unfold contains
            rw [decide_eq_true_iff]
            rcases index_spec s.data.toList sub.data.toList with ⟨_, h⟩ | ⟨i, h, _⟩
            · have := h k (by rw [sz]; omega)
              rw [hocc] at this; cases this
            · omega
          have HC : Hid (contains s.data.toList sub.data.toList = true) := hcon
          clear hcon hocc
          subst e
          go_wp2
          go_quiet (fail)
          go_wp2
          go_ret
          exact ⟨ret_bool HC.out.symm, n2 + nq, by simp⟩
    · go_wp2
      go_ret
      refine ⟨?_, _, rfl⟩
      have hcon : contains s.data.toList sub.data.toList = false := by
        unfold contains
        rw [decide_eq_false_iff_not]
        rcases index_spec s.data.toList sub.data.toList with ⟨h, _⟩ | ⟨i, _, h2, h3, _⟩
        · omega
        · by_cases hi : i < k
          · rw [HN.out i hi] at h3; cases h3
          · rcases occAt_room h3 with h | h
            · rw [sz, sz] at h; omega
            · have : sub.size = 0 := by rw [← sz, h]; rfl
              rw [sz] at h2
              omega
      exact ret_bool hcon.symm
end Go.Proofs.Qxb6601969aDoor
