import Derived.Test.Qxb6601943aDoorNorm
namespace Go.Proofs.Qxb6601943aDoor
open Go Go.RowKit Go.PlainAid

theorem zzn_any (p : ByteArray) (m : Int) (w : World) (hsz : p.size ≤ 1048576) (hp0 : p.data.toList[0]? = some 47) (hm : w.cell? ⟨0, 0, none⟩ = some (.int .i64 m)) :
    Calls Tryd.prog 8 #[.string p] w fun e w' => ∃ r : ByteArray, e = .returned (.string r) ∧ 1 ≤ r.size ∧ r.size ≤ p.size ∧ Below w.heap.size w w' := by
  have hn := norm_any p m w hsz hp0 hm
  clear hp0
  go_enter Tryd.func8, Tryd.ntmps8
  go_wp2_with (go_at_call 18; refine hn.mono ?_; rintro e w' ⟨r, rfl, h1, h2, hb⟩)
  go_ret
  exact ⟨r, rfl, h1, h2, hb⟩

theorem bytes4 (s : ByteArray) (w : World) (hs : s.size ≤ 1048576) :
    Calls Tryd.prog 9 #[.string s] w fun e w' => e = .returned (.bool true) ∧ w' = w := by
  go_enter Tryd.func9, Tryd.ntmps9
  go_wp2
  go_ret
  exact ⟨rfl, rfl⟩
theorem bytes4_no (s : ByteArray) (w : World) (hs : 1048576 < s.size) :
    Calls Tryd.prog 9 #[.string s] w fun e w' => e = .returned (.bool false) ∧ w' = w := by
  go_enter Tryd.func9, Tryd.ntmps9
  go_wp2
  go_ret
  exact ⟨rfl, rfl⟩

set_option maxHeartbeats 400000 in
theorem law4 (s : ByteArray) (m : Int) (w : World) (hm : w.cell? ⟨0, 0, none⟩ = some (.int .i64 m)) :
    Calls Tryd.prog 4 #[.string s] w fun e w' => e = .returned (.bool true) ∧ Below w.heap.size w w' := by
  by_cases hz : s.size ≤ 1048576
  · by_cases h0 : s.size = 0
    · have h0' : ((s.size : Int) == 0) = true := by rw [h0]; rfl
      have H0 : s.size ≤ 0 := by omega
      clear h0
      go_enter Tryd.func4, Tryd.ntmps4
      go_wp2_with (go_at_call 9; refine (bytes4 s _ hz).mono ?_; rintro e w' ⟨rfl, rfl⟩)
      go_ret
      exact ⟨rfl, Below.refl _ _⟩
    · have h0' : ((s.size : Int) == 0) = false := beq_eq_false_iff_ne.2 (by omega)
      have h1 : (0 : Int) < s.size := by omega
      have hb := get_bt s
      by_cases h47 : bt s 0 = 47
      · have h47' : (bt s 0 != 47) = false := by simp [h47]
        have hp0 : s.data.toList[0]? = some 47 := by
          unfold bt at h47
          rw [dif_pos (by omega)] at h47
          rw [List.getElem?_eq_getElem (by rw [← Lib.size_eq]; omega)]
          have : s[0] = 47 := UInt8.toNat_inj.1 (by show (s[0]).toNat = 47; omega)
          exact congrArg some this
        have HZ : Hid (s.data.toList[0]? = some 47) := hp0
        clear h47 hp0 h0
        go_enter Tryd.func4, Tryd.ntmps4
        go_wp2_with fail
        refine (bytes4 s _ hz).mono ?_
        rintro e w' ⟨rfl, rfl⟩
        go_wp2_with fail
        refine (zzn_any s m _ hz HZ.out hm).mono ?_
        rintro e w2 ⟨r, rfl, hr1, hr2, hB⟩
        go_wp2
        go_ret
        exact ⟨rfl, hB⟩
      · have h47' : (bt s 0 != 47) = true := by simp [h47]
        clear h47 h0
        go_enter Tryd.func4, Tryd.ntmps4
        go_wp2_with (go_at_call 9; refine (bytes4 s _ hz).mono ?_; rintro e w' ⟨rfl, rfl⟩)
        go_ret
        exact ⟨rfl, Below.refl _ _⟩
  · go_enter Tryd.func4, Tryd.ntmps4
    go_wp2_with (go_at_call 9; refine (bytes4_no s _ (by omega)).mono ?_; rintro e w' ⟨rfl, rfl⟩)
    go_ret
    exact ⟨rfl, Below.refl _ _⟩
end Go.Proofs.Qxb6601943aDoor
