/-
  wildcard, walked: once with match's closures, once with matchComponent's. It answers whether the pattern matches.
-/
import Derived.Test.Qxb6602868aDoorProg
import Derived.Test.Qxb6602868aDoorWildPl
import Derived.WalkKit
import Derived.WalkLawsBesides
import Derived.Deep.QuietTactic
import Derived.BigQuiet
import Derived.Deep.Draws
import Derived.Handy
import Derived.Outline
import Derived.PlainAid
namespace Go.Proofs.Qxb6602868aDoor
open Go Go.RowKit Go.PlainAid

set_option maxHeartbeats 2000000 in
theorem wildA (n m : Nat) (star : Nat → Bool) (same : Nat → Nat → Bool) (w : World) (B : Nat) (P1 P2 : Addr) (hn : n ≤ 1099511627776) (hm : m ≤ 1099511627776)
    (hstar : ∀ (i : Nat) wx, i < n → Below B w wx → Calls Tryd.prog 34 #[.int .i64 i, .pointer (some P1)] wx fun e w' => e = .returned (.bool (star i)) ∧ Below B w w')
    (hsame : ∀ (i j : Nat) wx, i < n → j < m → Below B w wx → Calls Tryd.prog 35 #[.int .i64 i, .int .i64 j, .pointer (some P1), .pointer (some P2)] wx fun e w' => e = .returned (.bool (same i j)) ∧ Below B w w') :
    Calls Tryd.prog 33 #[.int .i64 n, .int .i64 m, .func (.func 34) #[] #[.pointer (some P1)], .func (.func 35) #[] #[.pointer (some P1), .pointer (some P2)]] w fun e w' => e = .returned (.bool (Pl.wild n m star same)) ∧ Below B w w' := by
  have HST : Hid (∀ (i : Nat) wx, i < n → Below B w wx → Calls Tryd.prog 34 #[.int .i64 i, .pointer (some P1)] wx fun e w' => e = .returned (.bool (star i)) ∧ Below B w w') := hstar
  have HSA : Hid (∀ (i j : Nat) wx, i < n → j < m → Below B w wx → Calls Tryd.prog 35 #[.int .i64 i, .int .i64 j, .pointer (some P1), .pointer (some P2)] wx fun e w' => e = .returned (.bool (same i j)) ∧ Below B w w') := hsame
  clear hstar hsame
  go_enter Tryd.func33, Tryd.ntmps33
  go_wp2
  go_loopw [9, 10, 11, 12] (fun i j b bj wr => ∃ (x y z : Nat) (bk : Int), i = .int .i64 x ∧ j = .int .i64 y ∧ b = .int .i64 bk ∧ bj = .int .i64 z ∧ Pl.St n m star same x y bk z ∧ Below B w wr) (fun i j b bj _ => Pl.left n m (RowKit.intOf i).toNat (RowKit.intOf j).toNat (RowKit.intOf b) (RowKit.intOf bj).toNat)
  case atStart => exact ⟨0, 0, 0, -1, rfl, rfl, rfl, rfl, Pl.St.start, Below.refl _ _⟩
  case round =>
    obtain ⟨x, y, z, bk, rfl, rfl, rfl, rfl, hst, hBx⟩ := hrel
    have hle := hst.le
    obtain ⟨l1, l2, l3, l4, l5⟩ := hle
    have HS : Hid (Pl.St n m star same x y bk z) := hst
    clear hst
    by_cases hy : y < m
    · by_cases hx : x < n
      · have h34 := HST.out x wr hx hBx
        cases hs : star x with
        | true =>
          rw [hs] at h34
          have HN := HS.out.onStar hx hs
          have HL := Pl.left_star HS.out hx
          have HN' : Hid (Pl.St n m star same (x + 1) y (x : Int) y) := HN
          have HL' : Hid (Pl.left n m (x + 1) y (x : Int) y < Pl.left n m x y bk z) := HL
          clear HN HL hs
          go_wp2_with (go_at_call 34; refine h34.mono ?_; rintro e w1 ⟨rfl, hB1⟩)
          go_roundw
          case rel => exact ⟨x + 1, y, y, x, by go_num, rfl, rfl, rfl, HN'.out, hB1⟩
          case measure =>
            have := HL'.out
            simpa [RowKit.intOf] using this
        | false =>
          rw [hs] at h34
          have h35 := fun w1 hB1 => HSA.out x y w1 hx hy hB1
          cases he : same x y with
          | true =>
            rw [he] at h35
            have HN' : Hid (Pl.St n m star same (x + 1) (y + 1) bk z) := HS.out.onSame hx hs hy he
            have HL' : Hid (Pl.left n m (x + 1) (y + 1) bk z < Pl.left n m x y bk z) := Pl.left_same hx hy
            have H35 : Hid (∀ w1, Below B w w1 → Calls Tryd.prog 35 #[.int .i64 x, .int .i64 y, .pointer (some P1), .pointer (some P2)] w1 fun e w' => e = .returned (.bool true) ∧ Below B w w') := h35
            clear hs he h35
            go_wp2_with (first | (go_at_call 34; refine h34.mono ?_; rintro e w1 ⟨rfl, hB1⟩) | (go_at_call 35; refine (H35.out _ hB1).mono ?_; rintro e w2 ⟨rfl, hB2⟩))
            go_roundw
            case rel => exact ⟨x + 1, y + 1, z, bk, by go_num, by go_num, rfl, rfl, HN'.out, hB2⟩
            case measure =>
              have := HL'.out
              simpa [RowKit.intOf] using this
          | false =>
            rw [he] at h35
            have HNO : Hid (¬ Pl.Mt n m star same x y) := Pl.Mt.no_lit hx hs he
            have H35 : Hid (∀ w1, Below B w w1 → Calls Tryd.prog 35 #[.int .i64 x, .int .i64 y, .pointer (some P1), .pointer (some P2)] w1 fun e w' => e = .returned (.bool false) ∧ Below B w w') := h35
            clear hs he h35
            by_cases hbk : 0 ≤ bk
            · obtain ⟨b, rfl⟩ : ∃ b : Nat, bk = (b : Int) := ⟨bk.toNat, by omega⟩
              have HN' : Hid (Pl.St n m star same (b + 1) (z + 1) (b : Int) (z + 1)) := HS.out.onBack hy HNO.out
              have HL' : Hid (Pl.left n m (b + 1) (z + 1) (b : Int) (z + 1) < Pl.left n m x y (b : Int) z) := Pl.left_back (by omega)
              go_wp2_with (first | (go_at_call 34; refine h34.mono ?_; rintro e w1 ⟨rfl, hB1⟩) | (go_at_call 35; refine (H35.out _ hB1).mono ?_; rintro e w2 ⟨rfl, hB2⟩))
              go_roundw
              case rel => exact ⟨b + 1, z + 1, z + 1, b, by go_num, by go_num, rfl, by go_num, HN'.out, hB2⟩
              case measure =>
                have := HL'.out
                simpa [RowKit.intOf] using this
            · have HW : Hid (Pl.wild n m star same = false) := Pl.wild_false (HS.out.onFail (by omega) HNO.out)
              go_wp2_with (first | (go_at_call 34; refine h34.mono ?_; rintro e w1 ⟨rfl, hB1⟩) | (go_at_call 35; refine (H35.out _ hB1).mono ?_; rintro e w2 ⟨rfl, hB2⟩))
              go_ret
              exact ⟨by rw [HW.out]; rfl, hB2⟩
      · have HNO : Hid (¬ Pl.Mt n m star same x y) := by
          show ¬ _
          rw [show x = n by omega]
          exact Pl.Mt.no_end hy
        by_cases hbk : 0 ≤ bk
        · obtain ⟨b, rfl⟩ : ∃ b : Nat, bk = (b : Int) := ⟨bk.toNat, by omega⟩
          have HN' : Hid (Pl.St n m star same (b + 1) (z + 1) (b : Int) (z + 1)) := HS.out.onBack hy HNO.out
          have HL' : Hid (Pl.left n m (b + 1) (z + 1) (b : Int) (z + 1) < Pl.left n m x y (b : Int) z) := Pl.left_back (by omega)
          go_wp2
          go_roundw
          case rel => exact ⟨b + 1, z + 1, z + 1, b, by go_num, by go_num, rfl, by go_num, HN'.out, hBx⟩
          case measure =>
            have := HL'.out
            simpa [RowKit.intOf] using this
        · have HW : Hid (Pl.wild n m star same = false) := Pl.wild_false (HS.out.onFail (by omega) HNO.out)
          go_wp2
          go_ret
          exact ⟨by rw [HW.out]; rfl, hBx⟩
    · have HE : Hid (Pl.Mt n m star same 0 0 ↔ Pl.Mt n m star same x m) := by
        show _ ↔ _
        have h := HS.out
        rw [show y = m by omega] at h
        exact h.onEnd
      clear HS
      go_wp2
      go_loopw [9] (fun i wx => ∃ u : Nat, u ≤ n ∧ i = .int .i64 u ∧ (Pl.Mt n m star same 0 0 ↔ Pl.Mt n m star same u m) ∧ Below B w wx) (fun i _ => n - (RowKit.intOf i).toNat)
      case atStart => exact ⟨x, l1, rfl, HE.out, hBx⟩
      case round =>
        obtain ⟨u, hu, rfl, hiff, hBu⟩ := hrel
        have HI : Hid (Pl.Mt n m star same 0 0 ↔ Pl.Mt n m star same u m) := hiff
        clear hiff
        by_cases hlt : u < n
        · have h34 := HST.out u wr hlt hBu
          cases hs : star u with
          | true =>
            rw [hs] at h34
            have HI' : Hid (Pl.Mt n m star same 0 0 ↔ Pl.Mt n m star same (u + 1) m) := HI.out.trans (Pl.Mt.tail_star hlt hs)
            clear hs
            go_wp2_with (go_at_call 34; refine h34.mono ?_; rintro e w1 ⟨rfl, hB1⟩)
            go_roundw
            case rel => exact ⟨u + 1, by omega, by go_num, HI'.out, hB1⟩
            case measure => simp [RowKit.intOf]; omega
          | false =>
            rw [hs] at h34
            have HW : Hid (Pl.wild n m star same = false) := Pl.wild_false (by rw [HI.out]; exact Pl.Mt.tail_lit hlt hs)
            have hne : ((u : Int) == n) = false := beq_eq_false_iff_ne.2 (by omega)
            clear hs
            go_wp2_with (go_at_call 34; refine h34.mono ?_; rintro e w1 ⟨rfl, hB1⟩)
            go_ret
            exact ⟨by rw [HW.out]; rfl, hB1⟩
        · have HW : Hid (Pl.wild n m star same = true) := Pl.wild_true (by rw [HI.out, show u = n by omega]; exact .done)
          have hne : ((u : Int) == n) = true := beq_iff_eq.2 (by omega)
          go_wp2
          go_ret
          exact ⟨by rw [HW.out]; rfl, hBu⟩

set_option maxHeartbeats 2000000 in
theorem wildB (n m : Nat) (star : Nat → Bool) (same : Nat → Nat → Bool) (w : World) (B : Nat) (P1 P2 : Addr) (hn : n ≤ 1099511627776) (hm : m ≤ 1099511627776)
    (hstar : ∀ (i : Nat) wx, i < n → Below B w wx → Calls Tryd.prog 41 #[.int .i64 i, .pointer (some P1)] wx fun e w' => e = .returned (.bool (star i)) ∧ Below B w w')
    (hsame : ∀ (i j : Nat) wx, i < n → j < m → Below B w wx → Calls Tryd.prog 42 #[.int .i64 i, .int .i64 j, .pointer (some P1), .pointer (some P2)] wx fun e w' => e = .returned (.bool (same i j)) ∧ Below B w w') :
    Calls Tryd.prog 33 #[.int .i64 n, .int .i64 m, .func (.func 41) #[] #[.pointer (some P1)], .func (.func 42) #[] #[.pointer (some P1), .pointer (some P2)]] w fun e w' => e = .returned (.bool (Pl.wild n m star same)) ∧ Below B w w' := by
  have HST : Hid (∀ (i : Nat) wx, i < n → Below B w wx → Calls Tryd.prog 41 #[.int .i64 i, .pointer (some P1)] wx fun e w' => e = .returned (.bool (star i)) ∧ Below B w w') := hstar
  have HSA : Hid (∀ (i j : Nat) wx, i < n → j < m → Below B w wx → Calls Tryd.prog 42 #[.int .i64 i, .int .i64 j, .pointer (some P1), .pointer (some P2)] wx fun e w' => e = .returned (.bool (same i j)) ∧ Below B w w') := hsame
  clear hstar hsame
  go_enter Tryd.func33, Tryd.ntmps33
  go_wp2
  go_loopw [9, 10, 11, 12] (fun i j b bj wr => ∃ (x y z : Nat) (bk : Int), i = .int .i64 x ∧ j = .int .i64 y ∧ b = .int .i64 bk ∧ bj = .int .i64 z ∧ Pl.St n m star same x y bk z ∧ Below B w wr) (fun i j b bj _ => Pl.left n m (RowKit.intOf i).toNat (RowKit.intOf j).toNat (RowKit.intOf b) (RowKit.intOf bj).toNat)
  case atStart => exact ⟨0, 0, 0, -1, rfl, rfl, rfl, rfl, Pl.St.start, Below.refl _ _⟩
  case round =>
    obtain ⟨x, y, z, bk, rfl, rfl, rfl, rfl, hst, hBx⟩ := hrel
    have hle := hst.le
    obtain ⟨l1, l2, l3, l4, l5⟩ := hle
    have HS : Hid (Pl.St n m star same x y bk z) := hst
    clear hst
    by_cases hy : y < m
    · by_cases hx : x < n
      · have h34 := HST.out x wr hx hBx
        cases hs : star x with
        | true =>
          rw [hs] at h34
          have HN := HS.out.onStar hx hs
          have HL := Pl.left_star HS.out hx
          have HN' : Hid (Pl.St n m star same (x + 1) y (x : Int) y) := HN
          have HL' : Hid (Pl.left n m (x + 1) y (x : Int) y < Pl.left n m x y bk z) := HL
          clear HN HL hs
          go_wp2_with (go_at_call 41; refine h34.mono ?_; rintro e w1 ⟨rfl, hB1⟩)
          go_roundw
          case rel => exact ⟨x + 1, y, y, x, by go_num, rfl, rfl, rfl, HN'.out, hB1⟩
          case measure =>
            have := HL'.out
            simpa [RowKit.intOf] using this
        | false =>
          rw [hs] at h34
          have h35 := fun w1 hB1 => HSA.out x y w1 hx hy hB1
          cases he : same x y with
          | true =>
            rw [he] at h35
            have HN' : Hid (Pl.St n m star same (x + 1) (y + 1) bk z) := HS.out.onSame hx hs hy he
            have HL' : Hid (Pl.left n m (x + 1) (y + 1) bk z < Pl.left n m x y bk z) := Pl.left_same hx hy
            have H35 : Hid (∀ w1, Below B w w1 → Calls Tryd.prog 42 #[.int .i64 x, .int .i64 y, .pointer (some P1), .pointer (some P2)] w1 fun e w' => e = .returned (.bool true) ∧ Below B w w') := h35
            clear hs he h35
            go_wp2_with (first | (go_at_call 41; refine h34.mono ?_; rintro e w1 ⟨rfl, hB1⟩) | (go_at_call 42; refine (H35.out _ hB1).mono ?_; rintro e w2 ⟨rfl, hB2⟩))
            go_roundw
            case rel => exact ⟨x + 1, y + 1, z, bk, by go_num, by go_num, rfl, rfl, HN'.out, hB2⟩
            case measure =>
              have := HL'.out
              simpa [RowKit.intOf] using this
          | false =>
            rw [he] at h35
            have HNO : Hid (¬ Pl.Mt n m star same x y) := Pl.Mt.no_lit hx hs he
            have H35 : Hid (∀ w1, Below B w w1 → Calls Tryd.prog 42 #[.int .i64 x, .int .i64 y, .pointer (some P1), .pointer (some P2)] w1 fun e w' => e = .returned (.bool false) ∧ Below B w w') := h35
            clear hs he h35
            by_cases hbk : 0 ≤ bk
            · obtain ⟨b, rfl⟩ : ∃ b : Nat, bk = (b : Int) := ⟨bk.toNat, by omega⟩
              have HN' : Hid (Pl.St n m star same (b + 1) (z + 1) (b : Int) (z + 1)) := HS.out.onBack hy HNO.out
              have HL' : Hid (Pl.left n m (b + 1) (z + 1) (b : Int) (z + 1) < Pl.left n m x y (b : Int) z) := Pl.left_back (by omega)
              go_wp2_with (first | (go_at_call 41; refine h34.mono ?_; rintro e w1 ⟨rfl, hB1⟩) | (go_at_call 42; refine (H35.out _ hB1).mono ?_; rintro e w2 ⟨rfl, hB2⟩))
              go_roundw
              case rel => exact ⟨b + 1, z + 1, z + 1, b, by go_num, by go_num, rfl, by go_num, HN'.out, hB2⟩
              case measure =>
                have := HL'.out
                simpa [RowKit.intOf] using this
            · have HW : Hid (Pl.wild n m star same = false) := Pl.wild_false (HS.out.onFail (by omega) HNO.out)
              go_wp2_with (first | (go_at_call 41; refine h34.mono ?_; rintro e w1 ⟨rfl, hB1⟩) | (go_at_call 42; refine (H35.out _ hB1).mono ?_; rintro e w2 ⟨rfl, hB2⟩))
              go_ret
              exact ⟨by rw [HW.out]; rfl, hB2⟩
      · have HNO : Hid (¬ Pl.Mt n m star same x y) := by
          show ¬ _
          rw [show x = n by omega]
          exact Pl.Mt.no_end hy
        by_cases hbk : 0 ≤ bk
        · obtain ⟨b, rfl⟩ : ∃ b : Nat, bk = (b : Int) := ⟨bk.toNat, by omega⟩
          have HN' : Hid (Pl.St n m star same (b + 1) (z + 1) (b : Int) (z + 1)) := HS.out.onBack hy HNO.out
          have HL' : Hid (Pl.left n m (b + 1) (z + 1) (b : Int) (z + 1) < Pl.left n m x y (b : Int) z) := Pl.left_back (by omega)
          go_wp2
          go_roundw
          case rel => exact ⟨b + 1, z + 1, z + 1, b, by go_num, by go_num, rfl, by go_num, HN'.out, hBx⟩
          case measure =>
            have := HL'.out
            simpa [RowKit.intOf] using this
        · have HW : Hid (Pl.wild n m star same = false) := Pl.wild_false (HS.out.onFail (by omega) HNO.out)
          go_wp2
          go_ret
          exact ⟨by rw [HW.out]; rfl, hBx⟩
    · have HE : Hid (Pl.Mt n m star same 0 0 ↔ Pl.Mt n m star same x m) := by
        show _ ↔ _
        have h := HS.out
        rw [show y = m by omega] at h
        exact h.onEnd
      clear HS
      go_wp2
      go_loopw [9] (fun i wx => ∃ u : Nat, u ≤ n ∧ i = .int .i64 u ∧ (Pl.Mt n m star same 0 0 ↔ Pl.Mt n m star same u m) ∧ Below B w wx) (fun i _ => n - (RowKit.intOf i).toNat)
      case atStart => exact ⟨x, l1, rfl, HE.out, hBx⟩
      case round =>
        obtain ⟨u, hu, rfl, hiff, hBu⟩ := hrel
        have HI : Hid (Pl.Mt n m star same 0 0 ↔ Pl.Mt n m star same u m) := hiff
        clear hiff
        by_cases hlt : u < n
        · have h34 := HST.out u wr hlt hBu
          cases hs : star u with
          | true =>
            rw [hs] at h34
            have HI' : Hid (Pl.Mt n m star same 0 0 ↔ Pl.Mt n m star same (u + 1) m) := HI.out.trans (Pl.Mt.tail_star hlt hs)
            clear hs
            go_wp2_with (go_at_call 41; refine h34.mono ?_; rintro e w1 ⟨rfl, hB1⟩)
            go_roundw
            case rel => exact ⟨u + 1, by omega, by go_num, HI'.out, hB1⟩
            case measure => simp [RowKit.intOf]; omega
          | false =>
            rw [hs] at h34
            have HW : Hid (Pl.wild n m star same = false) := Pl.wild_false (by rw [HI.out]; exact Pl.Mt.tail_lit hlt hs)
            have hne : ((u : Int) == n) = false := beq_eq_false_iff_ne.2 (by omega)
            clear hs
            go_wp2_with (go_at_call 41; refine h34.mono ?_; rintro e w1 ⟨rfl, hB1⟩)
            go_ret
            exact ⟨by rw [HW.out]; rfl, hB1⟩
        · have HW : Hid (Pl.wild n m star same = true) := Pl.wild_true (by rw [HI.out, show u = n by omega]; exact .done)
          have hne : ((u : Int) == n) = true := beq_iff_eq.2 (by omega)
          go_wp2
          go_ret
          exact ⟨by rw [HW.out]; rfl, hBu⟩
end Go.Proofs.Qxb6602868aDoor
