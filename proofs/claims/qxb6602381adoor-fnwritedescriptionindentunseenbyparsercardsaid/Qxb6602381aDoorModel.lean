/-
  The law's own model, walked: wdEscape, wdHasNewline, wdModel, wdUnfoldFits.
-/
import Derived.Test.Qxb6602381aDoorWrite
import Derived.Maps.AppendAt
import Derived.Lib.AppendStr
namespace Go.Proofs.Qxb6602381aDoor
open Go Go.RowKit Go.PlainAid

/-- The slice value v owns a row of just the bytes l, in a block from B on. -/
abbrev Row (w : World) (B : Nat) (v : Value) (l : List UInt8) : Prop := w.ownsRow B 5 1 v l.length (Lib.byteCells l)
theorem info5 : (Tryd.prog.info? 5).map (fun i => (i.zero, i.size, i.bytes)) = some (some (.int .u8 0), 1, 1) := by kernel_rfl

/-- The cells of a new block. -/
theorem cells_new (w : World) (l : List Value) (t : TypeId) : ∀ (j : Nat) u, l[j]? = some u → (w.alloc (.cells l.toArray t)).cell? ((⟨w.heap.size, 0, none⟩ : Addr).add j) = some u := by
  intro j u hj
  have : ((⟨w.heap.size, 0, none⟩ : Addr).add j) = ⟨w.heap.size, j, none⟩ := by unfold Addr.add; split <;> simp_all
  rw [this, World.cell?_alloc_new]
  simpa using hj
theorem bytes_one (l : List UInt8) : ∀ u ∈ Lib.byteCells l, u.oneCell' = true := by
  intro u hu
  obtain ⟨b, _, rfl⟩ := List.mem_map.1 hu
  rfl
theorem byteCells_append (a b : List UInt8) : Lib.byteCells a ++ Lib.byteCells b = Lib.byteCells (a ++ b) := by simp [Lib.byteCells]
theorem Row.app {w : World} {B : Nat} {v : Value} {a b : List UInt8} {n : Nat} {xs : List Value} (h : w.ownsRow B 5 1 v n xs) (hn : n = (a ++ b).length) (hx : xs = Lib.byteCells a ++ Lib.byteCells b) : Row w B v (a ++ b) := by
  subst hn hx
  rw [byteCells_append] at h
  exact h

theorem drop_bt {s : ByteArray} {k : Nat} (h : k < s.size) : ∃ c : UInt8, s.data.toList.drop k = c :: s.data.toList.drop (k + 1) ∧ bt s k = (c.toNat : Int) := by
  have hl : k < s.data.toList.length := by rw [← Lib.size_eq]; exact h
  refine ⟨s[k], ?_, ?_⟩
  · rw [List.drop_eq_getElem_cons hl]; rfl
  · unfold bt; rw [dif_pos h]
theorem bt_eq {c : UInt8} {n : Int} {m : UInt8} (h : n = (c.toNat : Int)) (hm : n = (m.toNat : Int)) : c = m := UInt8.toNat_inj.1 (by omega)

set_option maxHeartbeats 1000000 in
theorem escape_any (s : ByteArray) (w : World) (hs : s.size ≤ 1048576) :
    Calls Tryd.prog 15 #[.string s] w fun e w' => ∃ v, e = .returned v ∧ Row w' w.heap.size v (Pl.esc s.data.toList) ∧ Below w.heap.size w w' := by
  obtain ⟨i0, hi, hz0, hz1, hz2⟩ := info_parts info5
  have hb := get_bt s
  go_enter Tryd.func15, Tryd.ntmps15
  go_wp2
  go_loopw [3, 4] (fun v i wr => ∃ (k : Nat) (acc : List UInt8), k ≤ s.size ∧ i = .int .i64 k ∧ Row wr w.heap.size v acc ∧ Pl.esc s.data.toList = acc ++ Pl.esc (s.data.toList.drop k) ∧ acc.length ≤ 2 * k ∧ Below w.heap.size w wr) (fun _ i _ => s.size - (RowKit.intOf i).toNat)
  case atStart => exact ⟨0, [], Nat.zero_le _, rfl, World.ownsRow_nil _ _ _ _, rfl, Nat.le_refl _, Below.refl _ _⟩
  case round =>
    obtain ⟨k, acc, hk, rfl, hrow, hesc, hal, hB⟩ := hrel
    have HE : Hid (Pl.esc s.data.toList = acc ++ Pl.esc (s.data.toList.drop k)) := hesc
    clear hesc
    have hwz := hB.size
    by_cases hlt : k < s.size
    · by_cases hit : k + 3 ≤ s.size ∧ bt s k = 34 ∧ bt s (k + 1) = 34 ∧ bt s (k + 2) = 34
      · obtain ⟨h3, b0, b1, b2⟩ := hit
        have HN : Hid (Pl.esc s.data.toList = acc ++ [92, 34, 34, 34] ++ Pl.esc (s.data.toList.drop (k + 3))) := by
          show _ = _
          obtain ⟨c0, d0, e0⟩ := drop_bt hlt
          obtain ⟨c1, d1, e1⟩ := drop_bt (s := s) (k := k + 1) (by omega)
          obtain ⟨c2, d2, e2⟩ := drop_bt (s := s) (k := k + 2) (by omega)
          rw [b0] at e0; rw [b1] at e1; rw [b2] at e2
          rw [HE.out, d0, d1, d2, bt_eq e0 (m := 34) rfl, bt_eq e1 (m := 34) rfl, bt_eq e2 (m := 34) rfl, Pl.esc_hit]
          simp
        have hb0 : (bt s k == 34) = true := by rw [b0]; rfl
        have hb1 : (bt s (k + 1) == 34) = true := by rw [b1]; rfl
        have hb2 : (bt s (k + 2) == 34) = true := by rw [b2]; rfl
        clear b0 b1 b2
        go_wp2_with (at_builtin; refine wpList_append_own _ rfl (.tmp 34) (.tmp 35) 29 rfl w.heap.size 5 i0 (.int .u8 0) 1 1 Tryd.underlying29 hi hz0 hz1 hz2 rfl (by decide) _ _ _ rfl (hrow.alloc _) ⟨wr.heap.size, 0, none⟩ 4 4 (Lib.byteCells [92, 34, 34, 34]) rfl rfl (cells_new _ _ _) (bytes_one _) (by unfold maxLen; omega) (by omega) (by simp; omega) ?_; intro v' w1 hown' hgrow _)
        have hrow' : Row w1 w.heap.size v' (acc ++ [92, 34, 34, 34]) := Row.app hown' (by simp) rfl
        have hB' : Below w.heap.size w w1 := (hB.alloc hwz _).grown hgrow (by simp; omega) (fun j e => (hrow.lt j e).1)
        go_roundw
        case rel => exact ⟨k + 3, acc ++ [92, 34, 34, 34], by omega, by go_num, hrow', HN.out, by simp; omega, hB'⟩
        case measure => simp [RowKit.intOf]; omega
      · obtain ⟨c, hdc, hbc⟩ := drop_bt hlt
        have hmiss : Pl.q3.isPrefixOf (c :: s.data.toList.drop (k + 1)) = false := by
          rw [Bool.eq_false_iff]
          intro hp
          obtain ⟨r, hr⟩ := List.isPrefixOf_iff_prefix.1 hp
          rw [← hdc] at hr
          have hl := congrArg List.length hr
          rw [List.length_append, List.length_drop, ← Lib.size_eq] at hl
          have h3 : k + 3 ≤ s.size := by
            have : Pl.q3.length = 3 := rfl
            omega
          have get : ∀ j, j < 3 → bt s (k + j) = 34 := by
            intro j hj
            obtain ⟨c', d', e'⟩ := drop_bt (s := s) (k := k + j) (by omega)
            have h0 : (s.data.toList.drop k)[j]? = some c' := by
              rw [List.getElem?_drop]
              have := congrArg (·[0]?) d'
              simpa using this
            rw [← hr] at h0
            have h34 : c' = 34 := by
              match j, hj with
              | 0, _ => simpa [Pl.q3] using h0.symm
              | 1, _ => simpa [Pl.q3] using h0.symm
              | 2, _ => simpa [Pl.q3] using h0.symm
            rw [e', h34]; rfl
          exact hit ⟨h3, get 0 (by omega), get 1 (by omega), get 2 (by omega)⟩
        have HN : Hid (Pl.esc s.data.toList = acc ++ [c] ++ Pl.esc (s.data.toList.drop (k + 1))) := by
          show _ = _
          rw [HE.out, hdc, Pl.esc_miss hmiss]; simp
        have hcell : [Value.int .u8 (bt s k)] = Lib.byteCells [c] := by rw [hbc]; rfl
        have HC : Hid ([Value.int .u8 (bt s k)] = Lib.byteCells [c]) := hcell
        clear hmiss hdc hbc hcell
        have key : ¬ k + 3 ≤ s.size ∨ (k + 3 ≤ s.size ∧ (bt s k == 34) = false) ∨ (k + 3 ≤ s.size ∧ (bt s k == 34) = true ∧ (bt s (k + 1) == 34) = false) ∨ (k + 3 ≤ s.size ∧ (bt s k == 34) = true ∧ (bt s (k + 1) == 34) = true ∧ (bt s (k + 2) == 34) = false) := by
          by_cases h3 : k + 3 ≤ s.size
          · by_cases b0 : bt s k = 34
            · by_cases b1 : bt s (k + 1) = 34
              · have b2 : bt s (k + 2) ≠ 34 := fun e => hit ⟨h3, b0, b1, e⟩
                exact .inr (.inr (.inr ⟨h3, by rw [b0]; rfl, by rw [b1]; rfl, beq_eq_false_iff_ne.2 b2⟩))
              · exact .inr (.inr (.inl ⟨h3, by rw [b0]; rfl, beq_eq_false_iff_ne.2 b1⟩))
            · exact .inr (.inl ⟨h3, beq_eq_false_iff_ne.2 b0⟩)
          · exact .inl h3
        clear hit
        rcases key with m0 | ⟨m0, m1⟩ | ⟨m0, m1, m2⟩ | ⟨m0, m1, m2, m3⟩
        all_goals
         go_wp2_with (at_builtin; refine wpList_append_own _ rfl (.tmp 39) (.tmp 43) 29 rfl w.heap.size 5 i0 (.int .u8 0) 1 1 Tryd.underlying29 hi hz0 hz1 hz2 rfl (by decide) _ _ _ rfl (hrow.alloc _) ⟨wr.heap.size, 0, none⟩ 1 1 [.int .u8 (bt s k)] rfl rfl (cells_new _ _ _) (by simp [Value.oneCell']) (by unfold maxLen; omega) (by omega) (by simp; omega) ?_; intro v' w1 hown' hgrow _)
         · have hrow' : Row w1 w.heap.size v' (acc ++ [c]) := Row.app hown' (by simp) (by rw [HC.out])
           have hB' : Below w.heap.size w w1 := (hB.alloc hwz _).grown hgrow (by simp; omega) (fun j e => (hrow.lt j e).1)
           go_roundw
           case rel => exact ⟨k + 1, acc ++ [c], by omega, by go_num, hrow', HN.out, by simp; omega, hB'⟩
           case measure => simp [RowKit.intOf]; omega
    · go_wp2
      go_ret
      have hd : s.data.toList.drop k = [] := List.drop_of_length_le (by rw [← Lib.size_eq]; omega)
      refine ⟨_, rfl, ?_, hB⟩
      rw [HE.out, hd]
      simpa [Pl.esc] using hrow
/-- Does the text hold the byte? -/
def hasL (l : List UInt8) (c : UInt8) : Bool := l.contains c
set_option maxHeartbeats 400000 in
theorem hasNl (s : ByteArray) (w : World) (hs : s.size ≤ 1048576) :
    Calls Tryd.prog 16 #[.string s] w fun e w' => e = .returned (.bool (hasL s.data.toList 10)) ∧ w' = w := by
  have hb := get_bt s
  go_enter Tryd.func16, Tryd.ntmps16
  go_wp2
  go_loop [3] (fun i => ∃ k : Nat, k ≤ s.size ∧ i = .int .i64 k ∧ (∀ j, j < k → s.data.toList[j]? ≠ some 10)) (fun i => s.size - (RowKit.intOf i).toNat)
  case atStart => exact ⟨0, Nat.zero_le _, rfl, fun j h => absurd h (Nat.not_lt_zero _)⟩
  case round =>
    obtain ⟨k, hk, rfl, hno⟩ := hrel
    have HN : Hid (∀ j, j < k → s.data.toList[j]? ≠ some 10) := hno
    clear hno
    by_cases hlt : k < s.size
    · have hat : s.data.toList[k]? = some s[k] := by rw [List.getElem?_eq_getElem (by rw [← Lib.size_eq]; exact hlt)]; rfl
      have hbt : bt s k = (s[k].toNat : Int) := by unfold bt; rw [dif_pos hlt]
      by_cases hc : s[k] = 10
      · have hd : (bt s k == 10) = true := by rw [hbt, hc]; rfl
        have hcon : hasL s.data.toList 10 = true := by
          unfold hasL
          rw [List.contains_iff_mem]
          exact List.mem_of_getElem? (hat.trans (by rw [hc]))
        have HC : Hid (hasL s.data.toList 10 = true) := hcon
        clear hcon hc hat hbt
        go_wp2
        go_ret
        exact ⟨ret_bool HC.out.symm, rfl⟩
      · have hd : (bt s k == 10) = false := by
          rw [hbt, beq_eq_false_iff_ne]
          intro e
          exact hc (UInt8.toNat_inj.1 (show (s[k]).toNat = 10 by omega))
        have HA : Hid (s.data.toList[k]? ≠ some 10) := by
          show s.data.toList[k]? ≠ some 10
          rw [hat]
          intro e
          exact hc (Option.some.inj e)
        clear hc hat hbt
        go_wp2
        go_round
        case rel =>
          refine ⟨k + 1, by omega, by go_num, fun j hj => ?_⟩
          by_cases e : j = k
          · subst e; exact HA.out
          · exact HN.out j (by omega)
        case measure => simp [RowKit.intOf]; omega
    · go_wp2
      go_ret
      refine ⟨ret_bool ?_, rfl⟩
      rw [eq_comm, Bool.eq_false_iff]
      intro h
      unfold hasL at h
      rw [List.contains_iff_mem] at h
      obtain ⟨j, hj⟩ := List.mem_iff_getElem?.1 h
      have hjl := (List.getElem?_eq_some_iff.1 hj).1
      rw [← Lib.size_eq] at hjl
      exact HN.out j (by omega) hj


set_option maxHeartbeats 400000 in
theorem unfoldFits (t ind : ByteArray) (w : World) (ht : t.size ≤ 1048576) (hi : ind.size ≤ 1048576) :
    Calls Tryd.prog 6 #[.string t, .string ind] w fun e w' => ∃ b : Bool, e = .returned (.bool b) ∧ w' = w := by
  have hb := get_bt t
  go_enter Tryd.func6, Tryd.ntmps6
  go_wp2
  go_loop [5, 6] (fun l i => ∃ k n : Nat, k ≤ t.size ∧ n ≤ k + 1 ∧ i = .int .i64 k ∧ l = .int .i64 n) (fun _ i => t.size - (RowKit.intOf i).toNat)
  case atStart => exact ⟨0, 1, Nat.zero_le _, Nat.le_refl _, rfl, rfl⟩
  case round =>
    obtain ⟨k, n, hk, hn, rfl, rfl⟩ := hrel
    by_cases hlt : k < t.size
    · cases hc : (bt t k == 10) with
      | true =>
        go_wp2
        go_round
        case rel => exact ⟨k + 1, n + 1, by omega, by omega, by go_num, by go_num⟩
        case measure => simp [RowKit.intOf]; omega
      | false =>
        go_wp2
        go_round
        case rel => exact ⟨k + 1, n, by omega, by omega, by go_num, rfl⟩
        case measure => simp [RowKit.intOf]; omega
    · by_cases h0 : (0 : Int) < ind.size
      · have hne : ¬ (ind.size : Int) = 0 := by omega
        go_wp2
        all_goals (go_ret; first | exact ⟨.inl rfl, rfl⟩ | exact ⟨.inr rfl, rfl⟩)
      · have hd : decide ((0 : Int) < ind.size) = false := by simpa using h0
        go_wp2
        all_goals (go_ret; first | exact ⟨.inl rfl, rfl⟩ | exact ⟨.inr rfl, rfl⟩)
end Go.Proofs.Qxb6602381aDoor
