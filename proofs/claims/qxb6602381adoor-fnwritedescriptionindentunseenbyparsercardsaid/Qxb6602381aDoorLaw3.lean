/-
  FnWriteDescriptionMatchesLineModel: the law's walk.
-/
import Derived.Test.Qxb6602381aDoorModel2
import Derived.WalkSpells
namespace Go.Proofs.Qxb6602381aDoor
open Go Go.RowKit Go.PlainAid

set_option maxHeartbeats 1000000 in
theorem bytes3 (a b c : ByteArray) (w : World) (hs : a.size + b.size + c.size ≤ 1048576) :
    Calls Tryd.prog 5 #[.string a, .string b, .string c] w fun e w' => e = .returned (.bool true) ∧ w' = w := by
  go_enter Tryd.func5, Tryd.ntmps5
  go_wp2
  go_ret
  exact ⟨rfl, rfl⟩
set_option maxHeartbeats 1000000 in
theorem bytes3_no (a b c : ByteArray) (w : World) (hs : 1048576 < a.size + b.size + c.size) :
    Calls Tryd.prog 5 #[.string a, .string b, .string c] w fun e w' => e = .returned (.bool false) ∧ w' = w := by
  go_enter Tryd.func5, Tryd.ntmps5
  go_wp2
  all_goals (go_ret; exact ⟨rfl, rfl⟩)

theorem ba_ext {a b : ByteArray} (h : a.data.toList = b.data.toList) : a = b := by
  cases a; cases b
  congr 1
  exact Array.toList_inj.1 h

theorem wd_len (t ind : List UInt8) (ht : t.length ≤ 1048576) (hi : ind.length ≤ 1048576) : (Pl.wd t ind).length ≤ 8796096167950 := by
  have h1 := (Pl.esc_len t).2
  have h2 := lines_take_len ind (Pl.esc t) (Pl.segs 10 (Pl.esc t)).length (by omega) hi
  rw [List.take_length] at h2
  unfold Pl.wd
  split
  · simp
  · split
    · simp only [List.length_append, List.length_cons, List.length_nil, show Pl.q3.length = 3 from rfl]; omega
    · simp only [List.length_append, List.length_cons, List.length_nil, show Pl.q3.length = 3 from rfl]; omega

set_option maxRecDepth 10000 in
set_option maxHeartbeats 2000000 in
theorem law3 (p t ind : ByteArray) (m : Int) (w : World) (hm : w.cell? ⟨0, 0, none⟩ = some (.int .i64 m)) (h00 : 0 < w.heap.size) :
    Calls Tryd.prog 3 #[.string p, .string t, .string ind] w fun e w' => e = .returned (.bool true) ∧ Below w.heap.size w w' := by
  by_cases hs : 1048576 < p.size + t.size + ind.size
  · go_enter Tryd.func3, Tryd.ntmps3
    go_wp2_with (go_at_call 5; refine (bytes3_no _ _ _ _ hs).mono ?_; rintro e w' ⟨rfl, rfl⟩)
    go_ret
    exact ⟨rfl, Below.refl _ _⟩
  · have hs' : p.size + t.size + ind.size ≤ 1048576 := by omega
    clear hs
    have hU := unfoldFits t ind w (by omega) (by omega)
    have hZ := zzWrite p t ind m w hm h00 (by omega) (by omega) (by omega)
    have hM := fun wx => model_any t ind wx (by omega) (by omega)
    have HM : Hid (∀ wx, Calls Tryd.prog 8 #[.string t, .string ind] wx fun e w' => e = .returned (.string ⟨(Pl.wd t.data.toList ind.data.toList).toArray⟩) ∧ Below wx.heap.size wx w') := hM
    clear hM
    have hE : (⟨(p.data.toList ++ Pl.wd t.data.toList ind.data.toList).toArray⟩ : ByteArray) = p ++ ⟨(Pl.wd t.data.toList ind.data.toList).toArray⟩ := ba_ext (by simp)
    rw [hE] at hZ
    clear hE
    have hD : (⟨(Pl.wd t.data.toList ind.data.toList).toArray⟩ : ByteArray).size ≤ 8796096167950 := by
      rw [Lib.size_eq]
      exact wd_len _ _ (by rw [← Lib.size_eq]; omega) (by rw [← Lib.size_eq]; omega)
    generalize (⟨(Pl.wd t.data.toList ind.data.toList).toArray⟩ : ByteArray) = D at hZ HM hD
    go_enter Tryd.func3, Tryd.ntmps3
    go_wp2_with (go_at_call 5; refine (bytes3 _ _ _ _ hs').mono ?_; rintro e w' ⟨rfl, rfl⟩)
    refine hU.mono ?_
    rintro r wx ⟨b, rfl, hwx⟩
    rw [hwx]; clear hwx wx hU
    cases b with
    | false =>
      go_wp2
      go_ret
      exact ⟨rfl, Below.refl _ _⟩
    | true =>
      go_wp2_with fail
      refine hZ.mono ?_
      rintro r w1 ⟨rfl, hB1⟩
      clear hZ
      go_wp2_with fail
      refine (HM.out w1).mono ?_
      rintro r w2 ⟨rfl, hB2⟩
      go_wp2
      go_ret
      exact ⟨rfl, hB1.trans (hB2.mono hB1.size)⟩
end Go.Proofs.Qxb6602381aDoor
