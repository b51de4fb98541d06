import Derived.Test.Qxb6601969aDoorHas
import Derived.Lib.SmallJoins
import Derived.Test.Qxb6601969aDoorShelf
namespace Go.Proofs.Qxb6601969aDoor
open Go.RowKit Go.Lib Go.PlainAid

/-- The pieces of s between its slashes. -/
def pcs (s : ByteArray) : List ByteArray := Lib.splitB ⟨#[47]⟩ 0 (Lib.countB s ⟨#[47]⟩) s
theorem pcs_len (s : ByteArray) : (pcs s).length = Lib.countB s ⟨#[47]⟩ + 1 := splitB_all _ (by decide) 0 _ _ rfl
theorem pcs_segs (s : ByteArray) : (pcs s).map (·.data.toList) = Pl.segs 47 s.data.toList := by
  unfold pcs
  rw [splitB_data]
  exact Pl.split_segs 47 s.data.toList

theorem split_slash (s : ByteArray) (m : Int) (w : World) (hs : s.size < 4294967281) (hm : w.cell? ⟨0, 0, none⟩ = some (.int .i64 m)) :
    Calls Tryd.prog 10 #[.string s, .string ⟨#[47]⟩] w fun e w' =>
      e = .returned (.slice (some ⟨w.heap.size, 0, none⟩) (pcs s).length (pcs s).length) ∧ w' = w.alloc (.cells ((pcs s).map Value.string).toArray 9) := by
  rw [pcs_len]
  exact Tryd.strings_Split s ⟨#[47]⟩ m w hs hm (by decide)

set_option maxHeartbeats 400000 in
theorem chk_any (s : ByteArray) (m : Int) (w : World) (hs : s.size ≤ 1048576) (hm : w.cell? ⟨0, 0, none⟩ = some (.int .i64 m)) :
    Calls Tryd.prog 9 #[.string s] w fun e w' => e = .returned (.bool (Pl.chk s.data.toList)) ∧ Below w.heap.size w w' := by
  have hl : (pcs s).length ≤ 1048577 := by
    rw [pcs_len]
    have := countB_le ⟨#[47]⟩ (by decide) _ s (Nat.le_refl _)
    omega
  go_enter Tryd.func9, Tryd.ntmps9
  go_wp2_with (go_at_call 10; refine (split_slash s m w (by omega) hm).mono ?_; rintro e w' ⟨rfl, rfl⟩)
  go_loop [8] (fun i => ∃ k : Nat, k ≤ (pcs s).length ∧ i = .int .i64 k ∧ (∀ j p, j < k → (pcs s)[j]? = some p → Pl.okSeg p.data.toList = true)) (fun i => (pcs s).length - (RowKit.intOf i).toNat)
  case atStart => exact ⟨0, Nat.zero_le _, rfl, fun j _ h => absurd h (Nat.not_lt_zero _)⟩
  case round =>
    obtain ⟨k, hk, rfl, hok⟩ := hrel
    have HO : Hid (∀ j p, j < k → (pcs s)[j]? = some p → Pl.okSeg p.data.toList = true) := hok
    clear hok
    by_cases hlt : k < (pcs s).length
    · obtain ⟨p, hp⟩ : ∃ p, (pcs s)[k]? = some p := ⟨_, List.getElem?_eq_getElem hlt⟩
      have hc : (w.alloc (.cells ((pcs s).map Value.string).toArray 9)).cell? ⟨w.heap.size, k, none⟩ = some (.string p) := by
        rw [World.cell?_alloc_new]; simp [hp]
      have HP : Hid ((pcs s)[k]? = some p) := hp
      clear hp
      have e0 : p.toList = p.data.toList := toList_data p
      by_cases hq : Pl.okSeg p.data.toList = true
      · have HQ : Hid (Pl.okSeg p.data.toList = true) := hq
        obtain ⟨q1, q2, q3⟩ := (Pl.okSeg_iff _).1 hq
        clear hq
        have f1 : p.toList.isEmpty = false := by rw [e0]; simpa using q1
        have f2 : (p.toList == [46]) = false := by rw [e0]; simpa using q2
        have f3 : (p.toList == [46, 46]) = false := by rw [e0]; simpa using q3
        clear q1 q2 q3 e0
        go_wp2
        go_round
        case rel =>
          refine ⟨k + 1, by omega, by go_num, ?_⟩
          intro j x hj hx
          by_cases e : j = k
          · subst e
            rw [HP.out] at hx
            cases hx
            exact HQ.out
          · exact HO.out j x (by omega) hx
        case measure => simp [RowKit.intOf]; omega
      · have hno : Pl.chk s.data.toList = false := by
          unfold Pl.chk
          rw [Bool.eq_false_iff]
          intro h
          rw [← pcs_segs, List.all_eq_true] at h
          exact hq (h _ (List.mem_map.2 ⟨p, List.mem_of_getElem? HP.out, rfl⟩))
        have HF : Hid (Pl.chk s.data.toList = false) := hno
        clear hno
        by_cases f1 : p.data.toList = []
        · have g1 : p.toList.isEmpty = true := by rw [e0, f1]; rfl
          clear e0 hq f1
          go_wp2
          go_ret
          exact ⟨ret_bool HF.out.symm, (Below.refl _ _).alloc (Nat.le_refl _) _⟩
        · have g1 : p.toList.isEmpty = false := by rw [e0]; simpa using f1
          by_cases f2 : p.data.toList = [46]
          · have g2 : (p.toList == [46]) = true := by rw [e0, f2]; rfl
            clear e0 hq f1 f2
            go_wp2
            go_ret
            exact ⟨ret_bool HF.out.symm, (Below.refl _ _).alloc (Nat.le_refl _) _⟩
          · have f3 : p.data.toList = [46, 46] := by
              apply Classical.byContradiction
              intro h
              exact hq ((Pl.okSeg_iff _).2 ⟨f1, f2, h⟩)
            have g2 : (p.toList == [46]) = false := by rw [e0]; simpa using f2
            have g3 : (p.toList == [46, 46]) = true := by rw [e0, f3]; rfl
            clear e0 hq f1 f2 f3
            go_wp2
            go_ret
            exact ⟨ret_bool HF.out.symm, (Below.refl _ _).alloc (Nat.le_refl _) _⟩
    · go_wp2
      go_ret
      refine ⟨ret_bool ?_, (Below.refl _ _).alloc (Nat.le_refl _) _⟩
      unfold Pl.chk
      rw [← pcs_segs, eq_comm, List.all_eq_true]
      intro q hq
      obtain ⟨p, hp, rfl⟩ := List.mem_map.1 hq
      obtain ⟨j, hj⟩ := List.mem_iff_getElem?.1 hp
      exact HO.out j p (by have := (List.getElem?_eq_some_iff.1 hj).1; omega) hj

theorem zz_any (s : ByteArray) (m : Int) (w : World) (hs : s.size ≤ 1048576) (hm : w.cell? ⟨0, 0, none⟩ = some (.int .i64 m)) :
    Calls Tryd.prog 7 #[.string s] w fun e w' => e = .returned (.bool (Pl.chk s.data.toList)) ∧ Below w.heap.size w w' := by
  go_enter Tryd.func7, Tryd.ntmps7
  go_wp2_with (go_at_call 9; refine (chk_any s m w hs hm).mono ?_; rintro e w' ⟨rfl, hb⟩)
  go_ret
  exact ⟨rfl, hb⟩

theorem below_of {w w2 : World} (n : Nat) (hb : Below (w.drewN n).heap.size (w.drewN n) w2) : Below w.heap.size w w2 := ⟨hb.os, hb.tape, hb.output, hb.size, hb.block⟩
theorem fr_data (s : ByteArray) : ((⟨#[47]⟩ : ByteArray) ++ s ++ ⟨#[47]⟩).data.toList = 47 :: (s.data.toList ++ [47]) := by
  rw [Go.Joins.data_append, Go.Joins.data_append]; rfl
theorem fr_size (s : ByteArray) : ((⟨#[47]⟩ : ByteArray) ++ s ++ ⟨#[47]⟩).size = s.size + 2 := by
  rw [size_eq, fr_data, size_eq s]; simp

theorem has_fr (s sub : ByteArray) (b : Bool) (w : World) (hs : s.size ≤ 1048576) (hsub : sub.size ≤ 100) (hb : Hid (contains (47 :: (s.data.toList ++ [47])) sub.data.toList = b)) :
    Calls Tryd.prog 6 #[.string ((⟨#[47]⟩ : ByteArray) ++ s ++ ⟨#[47]⟩), .string sub] w fun e w' => e = .returned (.bool b) ∧ ∃ n, w' = w.drewN n := by
  have := has_any ((⟨#[47]⟩ : ByteArray) ++ s ++ ⟨#[47]⟩) sub w (by rw [fr_size]; omega) hsub
  rw [fr_data, hb.out] at this
  exact this
theorem zz_is (s : ByteArray) (m : Int) (w : World) (b : Bool) (hs : s.size ≤ 1048576) (hm : w.cell? ⟨0, 0, none⟩ = some (.int .i64 m)) (hb : Hid (Pl.chk s.data.toList = b)) :
    Calls Tryd.prog 7 #[.string s] w fun e w' => e = .returned (.bool b) ∧ Below w.heap.size w w' := by
  have := zz_any s m w hs hm
  rw [hb.out] at this
  exact this

set_option maxHeartbeats 400000 in
theorem law_any (s : ByteArray) (m : Int) (w : World) (hm : w.cell? ⟨0, 0, none⟩ = some (.int .i64 m)) :
    Calls Tryd.prog 3 #[.string s] w fun e w' => e = .returned (.bool true) ∧ Below w.heap.size w w' := by
  by_cases hz : s.size ≤ 1048576
  · have hp := Pl.plain s.data.toList
    unfold Pl.want at hp
    cases c1 : contains (47 :: (s.data.toList ++ [47])) [47, 47] with
    | true =>
      have H1 : Hid (contains (47 :: (s.data.toList ++ [47])) [47, 47] = true) := c1
      have H4 : Hid (Pl.chk s.data.toList = false) := by rw [c1] at hp; exact hp
      clear hp c1
      go_enter Tryd.func3, Tryd.ntmps3
      go_wp2_with (go_at_call 5; refine (bytes_any s w hz).mono ?_; rintro e w' ⟨rfl, rfl⟩)
      go_wp2_with fail
      refine (has_fr s ⟨#[47, 47]⟩ true _ hz (by decide) H1).mono ?_
      rintro e w1 ⟨rfl, n1, rfl⟩
      go_wp2_with fail
      refine (zz_is s m _ false hz (by simpa using hm) H4).mono ?_
      rintro e w2 ⟨rfl, hb⟩
      go_wp2
      go_ret
      exact ⟨rfl, below_of _ hb⟩
    | false =>
      cases c2 : contains (47 :: (s.data.toList ++ [47])) [47, 46, 47] with
      | true =>
        have H1 : Hid (contains (47 :: (s.data.toList ++ [47])) [47, 47] = false) := c1
        have H2 : Hid (contains (47 :: (s.data.toList ++ [47])) [47, 46, 47] = true) := c2
        have H4 : Hid (Pl.chk s.data.toList = false) := by rw [c1, c2] at hp; exact hp
        clear hp c1 c2
        go_enter Tryd.func3, Tryd.ntmps3
        go_wp2_with (go_at_call 5; refine (bytes_any s w hz).mono ?_; rintro e w' ⟨rfl, rfl⟩)
        go_wp2_with fail
        refine (has_fr s ⟨#[47, 47]⟩ false _ hz (by decide) H1).mono ?_
        rintro e w1 ⟨rfl, n1, rfl⟩
        go_wp2_with fail
        refine (has_fr s ⟨#[47, 46, 47]⟩ true _ hz (by decide) H2).mono ?_
        rintro e w1 ⟨rfl, n2, rfl⟩
        go_wp2_with fail
        refine (zz_is s m _ false hz (by simpa using hm) H4).mono ?_
        rintro e w2 ⟨rfl, hb⟩
        go_wp2
        go_ret
        exact ⟨rfl, below_of _ hb⟩
      | false =>
        have H1 : Hid (contains (47 :: (s.data.toList ++ [47])) [47, 47] = false) := c1
        have H2 : Hid (contains (47 :: (s.data.toList ++ [47])) [47, 46, 47] = false) := c2
        cases c3 : contains (47 :: (s.data.toList ++ [47])) [47, 46, 46, 47] with
        | true =>
          have H3 : Hid (contains (47 :: (s.data.toList ++ [47])) [47, 46, 46, 47] = true) := c3
          have H4 : Hid (Pl.chk s.data.toList = false) := by rw [c1, c2, c3] at hp; exact hp
          clear hp c1 c2 c3
          go_enter Tryd.func3, Tryd.ntmps3
          go_wp2_with (go_at_call 5; refine (bytes_any s w hz).mono ?_; rintro e w' ⟨rfl, rfl⟩)
          go_wp2_with fail
          refine (has_fr s ⟨#[47, 47]⟩ false _ hz (by decide) H1).mono ?_
          rintro e w1 ⟨rfl, n1, rfl⟩
          go_wp2_with fail
          refine (has_fr s ⟨#[47, 46, 47]⟩ false _ hz (by decide) H2).mono ?_
          rintro e w1 ⟨rfl, n2, rfl⟩
          go_wp2_with fail
          refine (has_fr s ⟨#[47, 46, 46, 47]⟩ true _ hz (by decide) H3).mono ?_
          rintro e w1 ⟨rfl, n3, rfl⟩
          go_wp2_with fail
          refine (zz_is s m _ false hz (by simpa using hm) H4).mono ?_
          rintro e w2 ⟨rfl, hb⟩
          go_wp2
          go_ret
          exact ⟨rfl, below_of _ hb⟩
        | false =>
          have H3 : Hid (contains (47 :: (s.data.toList ++ [47])) [47, 46, 46, 47] = false) := c3
          have H4 : Hid (Pl.chk s.data.toList = true) := by rw [c1, c2, c3] at hp; exact hp
          clear hp c1 c2 c3
          go_enter Tryd.func3, Tryd.ntmps3
          go_wp2_with (go_at_call 5; refine (bytes_any s w hz).mono ?_; rintro e w' ⟨rfl, rfl⟩)
          go_wp2_with fail
          refine (has_fr s ⟨#[47, 47]⟩ false _ hz (by decide) H1).mono ?_
          rintro e w1 ⟨rfl, n1, rfl⟩
          go_wp2_with fail
          refine (has_fr s ⟨#[47, 46, 47]⟩ false _ hz (by decide) H2).mono ?_
          rintro e w1 ⟨rfl, n2, rfl⟩
          go_wp2_with fail
          refine (has_fr s ⟨#[47, 46, 46, 47]⟩ false _ hz (by decide) H3).mono ?_
          rintro e w1 ⟨rfl, n3, rfl⟩
          go_wp2_with fail
          refine (zz_is s m _ true hz (by simpa using hm) H4).mono ?_
          rintro e w2 ⟨rfl, hb⟩
          go_wp2
          go_ret
          exact ⟨rfl, below_of _ hb⟩
  · go_enter Tryd.func3, Tryd.ntmps3
    go_wp2_with (go_at_call 5; refine (bytes_no s w (by omega)).mono ?_; rintro e w' ⟨rfl, rfl⟩)
    go_ret
    exact ⟨rfl, Below.refl _ _⟩
end Go.Proofs.Qxb6601969aDoor
