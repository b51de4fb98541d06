/-
  FnWriteDescriptionIndentUnseenByParser: the law's walk.
-/
import Derived.Test.Qxb6602381aDoorRead
import Derived.Test.Qxb6602381aDoorLaw3
namespace Go.Proofs.Qxb6602381aDoor
open Go Go.RowKit Go.PlainAid

set_option maxHeartbeats 1000000 in
theorem bytes2 (a b : ByteArray) (w : World) (hs : a.size + b.size ≤ 1048576) :
    Calls Tryd.prog 9 #[.string a, .string b] w fun e w' => e = .returned (.bool true) ∧ w' = w := by
  go_enter Tryd.func9, Tryd.ntmps9
  go_wp2
  go_ret
  exact ⟨rfl, rfl⟩
set_option maxHeartbeats 1000000 in
theorem bytes2_no (a b : ByteArray) (w : World) (hs : 1048576 < a.size + b.size) :
    Calls Tryd.prog 9 #[.string a, .string b] w fun e w' => e = .returned (.bool false) ∧ w' = w := by
  go_enter Tryd.func9, Tryd.ntmps9
  go_wp2
  all_goals (go_ret; exact ⟨rfl, rfl⟩)

/-- The indent holds blanks and tabs alone. -/
def WsOnly (ind : ByteArray) : Prop := ∀ c ∈ ind.data.toList, c = 32 ∨ c = 9
set_option maxHeartbeats 1000000 in
theorem premise (t ind : ByteArray) (w : World) (ht : t.size ≤ 1048576) (hi : ind.size ≤ 1048576) :
    Calls Tryd.prog 10 #[.string t, .string ind] w fun e w' => ∃ b : Bool, e = .returned (.bool b) ∧ w' = w ∧ (b = true → WsOnly ind) := by
  have hb := get_bt t
  have hbi := get_bt ind
  go_enter Tryd.func10, Tryd.ntmps10
  go_wp2
  go_loop [5] (fun i => ∃ k : Nat, k ≤ ind.size ∧ i = .int .i64 k ∧ (∀ j, j < k → ind.data.toList[j]? = some 32 ∨ ind.data.toList[j]? = some 9)) (fun i => ind.size - (RowKit.intOf i).toNat)
  case atStart => exact ⟨0, Nat.zero_le _, rfl, fun j h => absurd h (Nat.not_lt_zero _)⟩
  case round =>
    obtain ⟨k, hk, rfl, hok⟩ := hrel
    have HO : Hid (∀ j, j < k → ind.data.toList[j]? = some 32 ∨ ind.data.toList[j]? = some 9) := hok
    clear hok
    by_cases hlt : k < ind.size
    · have hat : ind.data.toList[k]? = some ind[k] := by rw [List.getElem?_eq_getElem (by rw [← Lib.size_eq]; exact hlt)]; rfl
      have hbt : bt ind k = (ind[k].toNat : Int) := by unfold bt; rw [dif_pos hlt]
      by_cases h32 : ind[k] = 32
      · have d32 : (bt ind k != 32) = false := by rw [hbt, h32]; rfl
        rw [h32] at hat
        have HA : Hid (ind.data.toList[k]? = some 32) := hat
        clear hat hbt h32
        go_wp2
        go_round
        case rel =>
          refine ⟨k + 1, by omega, by go_num, fun j hj => ?_⟩
          by_cases e : j = k
          · subst e; exact .inl HA.out
          · exact HO.out j (by omega)
        case measure => simp [RowKit.intOf]; omega
      · have d32 : (bt ind k != 32) = true := by
          rw [hbt, bne_iff_ne]
          intro e; exact h32 (UInt8.toNat_inj.1 (by rw [show (32 : UInt8).toNat = 32 from rfl]; omega))
        by_cases h9 : ind[k] = 9
        · have d9 : (bt ind k != 9) = false := by rw [hbt, h9]; rfl
          rw [h9] at hat
          have HA : Hid (ind.data.toList[k]? = some 9) := hat
          clear hat hbt h9 h32
          go_wp2
          go_round
          case rel =>
            refine ⟨k + 1, by omega, by go_num, fun j hj => ?_⟩
            by_cases e : j = k
            · subst e; exact .inr HA.out
            · exact HO.out j (by omega)
          case measure => simp [RowKit.intOf]; omega
        · have d9 : (bt ind k != 9) = true := by
            rw [hbt, bne_iff_ne]
            intro e; exact h9 (UInt8.toNat_inj.1 (by rw [show (9 : UInt8).toNat = 9 from rfl]; omega))
          clear hat hbt h9 h32
          go_wp2
          go_ret
          exact .inl ⟨rfl, rfl⟩
    · have HAll : Hid (WsOnly ind) := by
        show ∀ c, _
        intro c hc
        obtain ⟨j, hj⟩ := List.mem_iff_getElem?.1 hc
        have hjl := (List.getElem?_eq_some_iff.1 hj).1
        rw [← Lib.size_eq] at hjl
        rcases HO.out j (by omega) with h | h
        · rw [h] at hj; cases hj; exact .inl rfl
        · rw [h] at hj; cases hj; exact .inr rfl
      go_wp2
      go_loop [6] (fun i => ∃ k : Nat, k ≤ t.size ∧ i = .int .i64 k) (fun i => t.size - (RowKit.intOf i).toNat)
      case atStart => exact ⟨0, Nat.zero_le _, rfl⟩
      case round =>
        obtain ⟨m, hm, rfl⟩ := hrel
        by_cases hlm : m < t.size
        · cases h13 : (bt t m == 13) with
          | true =>
            go_wp2
            go_ret
            exact .inl ⟨rfl, rfl⟩
          | false =>
            go_wp2
            go_round
            case rel => exact ⟨m + 1, by omega, by go_num⟩
            case measure => simp [RowKit.intOf]; omega
        · go_wp2
          go_ret
          exact .inr ⟨rfl, rfl, HAll.out⟩

theorem raw_ne {t : List UInt8} (ind : List UInt8) (h : t ≠ []) : Pl.rawOf t ind ≠ [] := by
  unfold Pl.rawOf
  split
  · exact h
  · simp
theorem wd_len2 (t ind : List UInt8) (ht : t.length ≤ 1048576) (hi : ind.length ≤ 1048576) : (Pl.wd t ind).length ≤ 8796093022208 := by
  have h1 := (Pl.esc_len t).2
  have h2 := linesOut_len ind (Pl.segs 10 (Pl.esc t))
  have h3 := segs_sum 10 (Pl.esc t)
  have h5 := Nat.mul_le_mul (show (Pl.segs 10 (Pl.esc t)).length ≤ 2097153 by omega) (show ind.length + 1 ≤ 1048577 by omega)
  unfold Pl.wd
  split
  · simp
  · split
    · simp only [List.length_append, List.length_cons, List.length_nil, show Pl.q3.length = 3 from rfl]; omega
    · simp only [List.length_append, List.length_cons, List.length_nil, show Pl.q3.length = 3 from rfl]; omega

set_option maxRecDepth 10000 in
set_option maxHeartbeats 2000000 in
theorem law4 (t ind : ByteArray) (m : Int) (w : World) (hm : w.cell? ⟨0, 0, none⟩ = some (.int .i64 m)) (h00 : 0 < w.heap.size) :
    Calls Tryd.prog 4 #[.string t, .string ind] w fun e w' => e = .returned (.bool true) ∧ Below w.heap.size w w' := by
  by_cases hs : 1048576 < t.size + ind.size
  · go_enter Tryd.func4, Tryd.ntmps4
    go_wp2_with (go_at_call 9; refine (bytes2_no _ _ _ hs).mono ?_; rintro e w' ⟨rfl, rfl⟩)
    go_ret
    exact ⟨rfl, Below.refl _ _⟩
  · have hs' : t.size + ind.size ≤ 1048576 := by omega
    clear hs
    have hU := unfoldFits t ind w (by omega) (by omega)
    have hP := premise t ind w (by omega) (by omega)
    go_enter Tryd.func4, Tryd.ntmps4
    go_wp2_with (go_at_call 9; refine (bytes2 _ _ _ hs').mono ?_; rintro e w' ⟨rfl, rfl⟩)
    refine hU.mono ?_
    rintro r wx ⟨b, rfl, hwx⟩
    rw [hwx]; clear hwx wx hU
    cases b with
    | false =>
      go_wp2
      go_ret
      exact ⟨rfl, Below.refl _ _⟩
    | true =>
      go_wp2_with fail
      refine hP.mono ?_
      rintro r wx ⟨b, rfl, hwx, hws⟩
      rw [hwx]; clear hwx wx hP
      cases b with
      | false =>
        go_wp2
        go_ret
        exact ⟨rfl, Below.refl _ _⟩
      | true =>
        have hw' : WsOnly ind := hws rfl
        have HW : Hid (WsOnly ind) := hw'
        clear hws hw'
        have hZ1 := zzWrite ⟨#[]⟩ t ind m w' hm h00 (by decide) (by omega) (by omega)
        have hnil : (⟨#[]⟩ : ByteArray).data.toList = [] := rfl
        rw [hnil, List.nil_append] at hZ1
        have hZ2 := fun wx (hB : Below w'.heap.size w' wx) => zzWrite ⟨#[]⟩ t ⟨#[]⟩ m wx ((hB.cell (p := ⟨0, 0, none⟩) h00).trans hm) (Nat.lt_of_lt_of_le h00 hB.size) (by decide) (by omega) (by decide)
        rw [hnil, List.nil_append] at hZ2
        have HZ2 : Hid (∀ wx, Below w'.heap.size w' wx → Calls Tryd.prog 7 #[.string ⟨#[]⟩, .string t, .string ⟨#[]⟩] wx fun e wy => e = .returned (.string ⟨(Pl.wd t.data.toList []).toArray⟩) ∧ Below wx.heap.size wx wy) := hZ2
        clear hZ2 hnil
        by_cases h0 : t.size = 0
        · have hl : t.data.toList = [] := List.eq_nil_of_length_eq_zero (by rw [← Lib.size_eq]; exact h0)
          have h0' : ((t.size : Int) == 0) = true := by rw [h0]; rfl
          have hwd : Pl.wd t.data.toList ind.data.toList = [] := by unfold Pl.wd; rw [if_pos hl]
          rw [hwd] at hZ1
          clear hl h0 hwd
          go_wp2_with fail
          refine hZ1.mono ?_
          rintro r w1 ⟨rfl, hB1⟩
          clear hZ1
          go_wp2
          go_ret
          exact ⟨rfl, hB1⟩
        · have hne : t.data.toList ≠ [] := fun e => h0 (by rw [Lib.size_eq, e]; rfl)
          have h0' : ((t.size : Int) == 0) = false := beq_eq_false_iff_ne.2 (by omega)
          have hlt : t.data.toList.length ≤ 1048576 := by rw [← Lib.size_eq]; omega
          have hli : ind.data.toList.length ≤ 1048576 := by rw [← Lib.size_eq]; omega
          have hR1 := fun wx => readBlock ⟨(Pl.wd t.data.toList ind.data.toList).toArray⟩ ind (Pl.behind t.data.toList ind.data.toList) (Pl.rawOf t.data.toList ind.data.toList) wx (Pl.wd_behind _ hne) (Pl.rd_behind _ _ HW.out) (raw_ne _ hne) (by rw [Lib.size_eq]; exact wd_len2 _ _ hlt hli)
          have hR2 := fun wx => readBlock ⟨(Pl.wd t.data.toList []).toArray⟩ ⟨#[]⟩ (Pl.behind t.data.toList []) (Pl.rawOf t.data.toList []) wx (Pl.wd_behind _ hne) (Pl.rd_behind _ _ (fun _ h => by cases h)) (raw_ne _ hne) (by rw [Lib.size_eq]; exact wd_len2 _ _ hlt (Nat.zero_le _))
          rw [Pl.bv_dent _ _ HW.out] at hR1
          generalize (⟨(Pl.bv (Pl.rawOf t.data.toList [])).toArray⟩ : ByteArray) = V at hR1 hR2
          generalize (⟨(Pl.wd t.data.toList ind.data.toList).toArray⟩ : ByteArray) = D1 at hR1 hZ1
          generalize (⟨(Pl.wd t.data.toList []).toArray⟩ : ByteArray) = D2 at hR2 HZ2
          have HR1 : Hid (∀ wx, Calls Tryd.prog 11 #[.string D1, .string ind] wx fun e wy => e = .returned (.tuple #[.string V, .bool true]) ∧ Below wx.heap.size wx wy) := hR1
          have HR2 : Hid (∀ wx, Calls Tryd.prog 11 #[.string D2, .string ⟨#[]⟩] wx fun e wy => e = .returned (.tuple #[.string V, .bool true]) ∧ Below wx.heap.size wx wy) := hR2
          clear hR1 hR2 hlt hli hne h0
          go_wp2_with fail
          refine hZ1.mono ?_
          rintro r w1 ⟨rfl, hB1⟩
          clear hZ1
          go_wp2_with fail
          refine (HZ2.out w1 hB1).mono ?_
          rintro r w2 ⟨rfl, hB2⟩
          have hB12 := hB1.trans (hB2.mono hB1.size)
          clear hB1 hB2
          go_wp2_with fail
          refine (HR1.out w2).mono ?_
          rintro r w3 ⟨rfl, hB3⟩
          have hB13 := hB12.trans (hB3.mono hB12.size)
          clear hB12 hB3
          go_wp2_with fail
          refine (HR2.out w3).mono ?_
          rintro r w4 ⟨rfl, hB4⟩
          have hB14 := hB13.trans (hB4.mono hB13.size)
          clear hB13 hB4
          go_wp2
          go_ret
          exact ⟨rfl, hB14⟩
end Go.Proofs.Qxb6602381aDoor
