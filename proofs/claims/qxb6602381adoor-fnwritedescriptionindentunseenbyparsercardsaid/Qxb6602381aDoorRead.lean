/-
  wdRead, walked: where the text is the indent, the opening quotes and what the reader closes just before the last newline, it answers the block's value.
-/
import Derived.Test.Qxb6602381aDoorBlock2
namespace Go.Proofs.Qxb6602381aDoor
open Go Go.RowKit Go.PlainAid

namespace Pl
theorem rd_inv {X r tl : List UInt8} (h : rd X = some (r, tl)) :
    (q3.isPrefixOf X = true ∧ r = [] ∧ tl = X) ∨
    (q3.isPrefixOf X = false ∧ [92, 34, 34, 34].isPrefixOf X = true ∧ ∃ r', r = [34, 34, 34] ++ r' ∧ rd (X.drop 4) = some (r', tl)) ∨
    (q3.isPrefixOf X = false ∧ [92, 34, 34, 34].isPrefixOf X = false ∧ ∃ b r', X = b :: X.drop 1 ∧ r = b :: r' ∧ rd (X.drop 1) = some (r', tl)) := by
  cases X with
  | nil => rw [rd] at h; cases h
  | cons b l =>
    rw [rd] at h
    cases h1 : q3.isPrefixOf (b :: l) with
    | true =>
      rw [h1, if_pos rfl] at h
      cases h
      exact .inl ⟨rfl, rfl, rfl⟩
    | false =>
      rw [h1, if_neg (by simp)] at h
      cases h2 : [92, 34, 34, 34].isPrefixOf (b :: l) with
      | true =>
        rw [h2, if_pos rfl] at h
        refine .inr (.inl ⟨rfl, rfl, ?_⟩)
        cases h3 : rd (l.drop 3) with
        | none => rw [h3] at h; cases h
        | some x =>
          rw [h3] at h
          simp only [Option.map_some, Option.some.injEq, Prod.mk.injEq] at h
          exact ⟨x.1, h.1.symm, by show rd (l.drop 3) = _; rw [h3, ← h.2]⟩
      | false =>
        rw [h2, if_neg (by simp)] at h
        refine .inr (.inr ⟨rfl, rfl, b, ?_⟩)
        cases h3 : rd l with
        | none => rw [h3] at h; cases h
        | some x =>
          rw [h3] at h
          simp only [Option.map_some, Option.some.injEq, Prod.mk.injEq] at h
          exact ⟨x.1, rfl, h.1.symm, by show rd l = _; rw [h3, ← h.2]⟩
theorem rd_len : ∀ (n : Nat) {X r tl : List UInt8}, X.length ≤ n → rd X = some (r, tl) → tl.length ≤ X.length
  | n, X, r, tl, hn, h => by
    rcases rd_inv h with ⟨_, _, rfl⟩ | ⟨_, h2, r', _, h4⟩ | ⟨_, _, b, r', h3, _, h4⟩
    · exact Nat.le_refl _
    · obtain ⟨y, hy⟩ := List.isPrefixOf_iff_prefix.1 h2
      have hl := congrArg List.length hy
      simp only [List.length_append, List.length_cons, List.length_nil] at hl
      cases n with
      | zero => omega
      | succ n =>
        have := rd_len n (by rw [List.length_drop]; omega) h4
        rw [List.length_drop] at this; omega
    · have hl := congrArg List.length h3
      rw [List.length_cons, List.length_drop] at hl
      cases n with
      | zero => omega
      | succ n =>
        have := rd_len n (by rw [List.length_drop]; omega) h4
        rw [List.length_drop] at this; omega
end Pl

set_option maxRecDepth 10000 in
set_option maxHeartbeats 4000000 in
theorem readBlock (s ind : ByteArray) (L raw : List UInt8) (w : World) (hS : s.data.toList = ind.data.toList ++ Pl.q3 ++ L) (hrd : Pl.rd L = some (raw, Pl.q3 ++ [10])) (h0 : raw ≠ []) (hn : s.size ≤ 8796093022208) :
    Calls Tryd.prog 11 #[.string s, .string ind] w fun e w' => e = .returned (.tuple #[.string ⟨(Pl.bv raw).toArray⟩, .bool true]) ∧ Below w.heap.size w w' := by
  obtain ⟨i0, hi0, hz0, hz1, hz2⟩ := info_parts info5
  have hb := get_bt s
  have hbi := get_bt ind
  have hlen : s.size = ind.size + 3 + L.length := by
    rw [Lib.size_eq, hS, Lib.size_eq ind]; simp [Pl.q3]; omega
  have h4 := Pl.rd_len _ (Nat.le_refl _) hrd
  have h4' : 4 ≤ L.length := by simpa [Pl.q3] using h4
  have hdrop : s.data.toList.drop (ind.size + 3) = L := by
    rw [hS, List.drop_left' (by rw [List.length_append, ← Lib.size_eq]; rfl)]
  have hbt : ∀ k c, s.data.toList[k]? = some c → bt s k = (c.toNat : Int) := by
    intro k c hk
    have hlt : k < s.size := by rw [Lib.size_eq]; exact (List.getElem?_eq_some_iff.1 hk).1
    obtain ⟨c', d', e'⟩ := drop_bt hlt
    have : s.data.toList[k]? = some c' := by
      have := congrArg (·[0]?) d'
      simpa using this
    rw [this] at hk
    cases hk
    exact e'
  have hind : ∀ k, k < ind.size → bt s k = bt ind k := by
    intro k hk
    have h1 : ind.data.toList[k]? = some ind[k] := by rw [List.getElem?_eq_getElem (by rw [← Lib.size_eq]; exact hk)]; rfl
    have h2 : s.data.toList[k]? = some ind[k] := by
      rw [hS, List.append_assoc, List.getElem?_append_left (by rw [← Lib.size_eq]; exact hk)]; exact h1
    rw [hbt k _ h2]
    unfold bt; rw [dif_pos hk]
  have hqs : ∀ j, j < 3 → bt s (ind.size + j) = 34 := by
    intro j hj
    have h2 : s.data.toList[ind.size + j]? = some 34 := by
      rw [hS, List.append_assoc, List.getElem?_append_right (by rw [← Lib.size_eq]; omega), List.getElem?_append_left (by rw [← Lib.size_eq]; simp [Pl.q3]; omega), ← Lib.size_eq, show ind.size + j - ind.size = j by omega]
      match j, hj with
      | 0, _ => rfl
      | 1, _ => rfl
      | 2, _ => rfl
    rw [hbt _ _ h2]; rfl
  have q0 := hqs 0 (by omega)
  have q1 := hqs 1 (by omega)
  have q2 := hqs 2 (by omega)
  rw [Nat.add_zero] at q0
  have g0 : (bt s ind.size != 34) = false := by rw [q0]; rfl
  have g1 : (bt s (ind.size + 1) != 34) = false := by rw [q1]; rfl
  have g2 : (bt s (ind.size + 2) != 34) = false := by rw [q2]; rfl
  have HI : Hid (∀ k, k < ind.size → bt s k = bt ind k) := hind
  have HD : Hid (s.data.toList.drop (ind.size + 3) = L) := hdrop
  have HRD : Hid (Pl.rd L = some (raw, Pl.q3 ++ [10])) := hrd
  have HBT : Hid (∀ k c, s.data.toList[k]? = some c → bt s k = (c.toNat : Int)) := hbt
  obtain ⟨B, hB⟩ : ∃ B, w.heap.size = B := ⟨_, rfl⟩
  have HB : Hid (w.heap.size = B) := hB
  have hBw : B ≤ w.heap.size := by omega
  have hl7 : ind.size + 7 ≤ s.size := by omega
  clear hlen h4'
  clear hS hrd hdrop hbt hind hqs q0 q1 q2 h4 hB
  go_enter Tryd.func11, Tryd.ntmps11
  go_wp2
  go_loopw [7] (fun i wr => ∃ k : Nat, k ≤ ind.size ∧ i = .int .i64 k ∧ Below B w wr ∧ B ≤ wr.heap.size) (fun i _ => ind.size - (RowKit.intOf i).toNat)
  case atStart => exact ⟨0, Nat.zero_le _, rfl, Below.refl _ _, hBw⟩
  case round =>
    obtain ⟨k, hk, rfl, hBx, hzx⟩ := hrel
    by_cases hlt : k < ind.size
    · have k1 : (k : Int) < s.size := by omega
      have k2 : (k : Int) < ind.size := by omega
      have hd : (bt s k != bt ind k) = false := by rw [HI.out k hlt]; simp
      go_wp2
      go_quiet (fail)
      go_wp2
      go_roundw
      case rel => exact ⟨k + 1, by omega, by go_num, below_drewN hBx _, hzx⟩
      case measure => simp [RowKit.intOf]; omega
    · clear hbi
      go_wp2
      go_loopw [8, 9, 10] (fun v i c wx => ∃ (k : Nat) (acc r : List UInt8), i = .int .i64 k ∧ c = .int .i64 (-1) ∧ k ≤ s.size ∧ Row wx B v acc ∧ raw = acc ++ r ∧ Pl.rd (s.data.toList.drop k) = some (r, Pl.q3 ++ [10]) ∧ acc.length ≤ k ∧ Below B w wx ∧ B ≤ wx.heap.size) (fun _ i _ _ => s.size - (RowKit.intOf i).toNat)
      case atStart => exact ⟨ind.size + 3, [], raw, by simp, rfl, by omega, World.ownsRow_nil _ _ _ _, rfl, by rw [HD.out]; exact HRD.out, Nat.zero_le _, hBx, hzx⟩
      case round =>
        obtain ⟨p, acc, r, rfl, rfl, hp, hRo, hra, hrd, hal, hBy, hzy⟩ := hrel
        have hp4 : p + 4 ≤ s.size := by
          have := Pl.rd_len _ (Nat.le_refl _) hrd
          rw [List.length_drop, ← Lib.size_eq] at this
          have h5 : (Pl.q3 ++ [10]).length = 4 := rfl
          omega
        obtain ⟨c0, d0, e0⟩ := drop_bt (s := s) (k := p) (by omega)
        obtain ⟨c1, d1, e1⟩ := drop_bt (s := s) (k := p + 1) (by omega)
        obtain ⟨c2, d2, e2⟩ := drop_bt (s := s) (k := p + 2) (by omega)
        obtain ⟨c3, d3, e3⟩ := drop_bt (s := s) (k := p + 3) (by omega)
        have hX : s.data.toList.drop p = c0 :: c1 :: c2 :: c3 :: s.data.toList.drop (p + 4) := by rw [d0, d1, d2, d3]
        have is34 : ∀ {c : UInt8} {n : Int}, n = (c.toNat : Int) → c = 34 → (n == 34) = true := fun h1 h2 => by rw [h1, h2]; rfl
        have no34 : ∀ {c : UInt8} {n : Int}, n = (c.toNat : Int) → c ≠ 34 → (n == 34) = false := fun {c n} h1 h2 => by
          rw [h1, beq_eq_false_iff_ne]
          intro h; exact h2 (UInt8.toNat_inj.1 (by rw [show (34 : UInt8).toNat = 34 from rfl]; omega))
        have HRA : Hid (raw = acc ++ r) := hra
        rcases Pl.rd_inv hrd with ⟨h1, h2, h3⟩ | ⟨h1, h2, r', h3, h5⟩ | ⟨h1, h2, b, r', h3, h5, h6⟩
        · subst h2
          rw [hX] at h3
          have hcl : c0 = 34 ∧ c1 = 34 ∧ c2 = 34 ∧ c3 = 10 ∧ s.data.toList.drop (p + 4) = [] := by
            simp only [Pl.q3, List.cons_append, List.nil_append, List.cons.injEq] at h3
            exact ⟨h3.1.symm, h3.2.1.symm, h3.2.2.1.symm, h3.2.2.2.1.symm, h3.2.2.2.2.symm⟩
          obtain ⟨k0, k1, k2, k3, k4⟩ := hcl
          have hs4 : s.size = p + 4 := by
            have := List.drop_eq_nil_iff.1 k4
            rw [← Lib.size_eq] at this
            omega
          have f0 := is34 e0 k0
          have f1 := is34 e1 k1
          have f2 := is34 e2 k2
          have f3 : (bt s (p + 3) != 10) = false := by rw [e3, k3]; rfl
          have f4 : (((p : Int) + 4) != (s.size : Int)) = false := by rw [hs4]; simp
          have f5 : ((s.size : Int) - 1).toNat = p + 3 := by omega
          have f6 : (0 : Int) ≤ (s.size : Int) - 1 := by omega
          have f7 : (s.size : Int) - 1 < s.size := by omega
          have hraw : raw = acc := by rw [hra, List.append_nil]
          have hRo' : Row wr B u8 raw := by rw [hraw]; exact hRo
          obtain ⟨gr, capr, rfl, hgr1, hgr2, hgr3, hgr4⟩ := hRo'.shape h0
          have hbv := blockValue raw gr capr wr hgr4 hgr2 hgr3 (by rw [hraw]; omega)
          clear k0 k1 k2 k3 k4 h1 h3 hX d0 d1 d2 d3 e0 e1 e2 e3 is34 no34 hrd hra hs4 hraw hRo hRo'
          go_wp2_with fail
          refine hbv.mono ?_
          rintro e wy ⟨rfl, hby⟩
          clear hbv
          go_wp2
          go_ret2
          exact ⟨rfl, by rw [HB.out]; exact hBy.trans (hby.mono (by omega))⟩
        · have hcl : c0 = 92 ∧ c1 = 34 ∧ c2 = 34 ∧ c3 = 34 := by
            rw [hX] at h2
            obtain ⟨y, hy⟩ := List.isPrefixOf_iff_prefix.1 h2
            simp only [List.cons_append, List.nil_append, List.cons.injEq] at hy
            exact ⟨hy.1.symm, hy.2.1.symm, hy.2.2.1.symm, hy.2.2.2.1.symm⟩
          obtain ⟨k0, k1, k2, k3⟩ := hcl
          have f0 : (bt s p == 34) = false := no34 e0 (by rw [k0]; decide)
          have f9 : (bt s p == 92) = true := by rw [e0, k0]; rfl
          have f1 := is34 e1 k1
          have f2 := is34 e2 k2
          have f3 := is34 e3 k3
          rw [List.drop_drop] at h5
          have HR5 : Hid (Pl.rd (s.data.toList.drop (p + 4)) = some (r', Pl.q3 ++ [10])) := h5
          have HRA' : Hid (raw = (acc ++ [34, 34, 34]) ++ r') := by
            show _ = _
            rw [HRA.out, h3]; simp
          clear k0 k1 k2 k3 h1 h2 h3 h5 hX d0 d1 d2 d3 e0 e1 e2 e3 is34 no34 hrd hra
          go_wp2_with (at_builtin; refine wpList_append_own _ rfl (.tmp 112) (.tmp 113) 29 rfl B 5 i0 (.int .u8 0) 1 1 Tryd.underlying29 hi0 hz0 hz1 hz2 rfl (by decide) _ _ _ rfl (hRo.alloc _) ⟨wr.heap.size, 0, none⟩ 3 3 (Lib.byteCells [34, 34, 34]) rfl rfl (cells_new _ _ _) (bytes_one _) (by unfold maxLen; omega) (by omega) (by simp; omega) ?_; intro v5 w6 hown hgrow _; obtain ⟨R5, b5, z5⟩ := step_lit (b := [34, 34, 34]) hBy hzy hRo hown hgrow rfl rfl; clear hown hgrow)
          go_roundw
          case rel => exact ⟨p + 4, acc ++ [34, 34, 34], r', by go_num, rfl, by omega, R5, HRA'.out, HR5.out, by simp; omega, b5, z5⟩
          case measure => simp [RowKit.intOf]; omega
        · have hb0 : b = c0 := by
            rw [hX] at h3
            simp only [List.cons.injEq] at h3
            exact h3.1.symm
          subst hb0
          rw [List.drop_drop] at h6
          have HR5 : Hid (Pl.rd (s.data.toList.drop (p + 1)) = some (r', Pl.q3 ++ [10])) := h6
          have HRA' : Hid (raw = (acc ++ [b]) ++ r') := by
            show _ = _
            rw [HRA.out, h5]; simp
          have HC : Hid ([Value.int .u8 (bt s p)] = Lib.byteCells [b]) := by
            show _ = _
            rw [e0]; rfl
          have no92 : b ≠ 92 → (bt s p == 92) = false := fun h2 => by
            rw [e0, beq_eq_false_iff_ne]
            intro h; exact h2 (UInt8.toNat_inj.1 (by rw [show (92 : UInt8).toNat = 92 from rfl]; omega))
          have key : ((bt s p == 34) = true ∧ (bt s (p + 1) == 34) = false ∧ (bt s p == 92) = false) ∨
              ((bt s p == 34) = true ∧ (bt s (p + 1) == 34) = true ∧ (bt s (p + 2) == 34) = false ∧ (bt s p == 92) = false) ∨
              ((bt s p == 34) = false ∧ (bt s p == 92) = false) ∨
              ((bt s p == 34) = false ∧ (bt s p == 92) = true ∧ (bt s (p + 1) == 34) = false) ∨
              ((bt s p == 34) = false ∧ (bt s p == 92) = true ∧ (bt s (p + 1) == 34) = true ∧ (bt s (p + 2) == 34) = false) ∨
              ((bt s p == 34) = false ∧ (bt s p == 92) = true ∧ (bt s (p + 1) == 34) = true ∧ (bt s (p + 2) == 34) = true ∧ (bt s (p + 3) == 34) = false) := by
            rw [hX] at h1 h2
            by_cases k0 : b = 34
            · have n92 := no92 (by rw [k0]; decide)
              by_cases k1 : c1 = 34
              · have k2 : c2 ≠ 34 := fun k2 => by
                  rw [k0, k1, k2] at h1
                  simp [Pl.q3] at h1
                exact .inr (.inl ⟨is34 e0 k0, is34 e1 k1, no34 e2 k2, n92⟩)
              · exact .inl ⟨is34 e0 k0, no34 e1 k1, n92⟩
            · have n34 := no34 e0 k0
              by_cases k9 : b = 92
              · have t92 : (bt s p == 92) = true := by rw [e0, k9]; rfl
                by_cases k1 : c1 = 34
                · by_cases k2 : c2 = 34
                  · have k3 : c3 ≠ 34 := fun k3 => by
                      rw [k9, k1, k2, k3] at h2
                      simp at h2
                    exact .inr (.inr (.inr (.inr (.inr ⟨n34, t92, is34 e1 k1, is34 e2 k2, no34 e3 k3⟩))))
                  · exact .inr (.inr (.inr (.inr (.inl ⟨n34, t92, is34 e1 k1, no34 e2 k2⟩))))
                · exact .inr (.inr (.inr (.inl ⟨n34, t92, no34 e1 k1⟩)))
              · exact .inr (.inr (.inl ⟨n34, no92 k9⟩))
          clear h1 h2 h3 h5 h6 hX d0 d1 d2 d3 e0 e1 e2 e3 is34 no34 no92 hrd hra
          rcases key with ⟨m0, m1, m2⟩ | ⟨m0, m1, m2, m3⟩ | ⟨m0, m1⟩ | ⟨m0, m1, m2⟩ | ⟨m0, m1, m2, m3⟩ | ⟨m0, m1, m2, m3, m4⟩
          all_goals
           go_wp2_with (at_builtin; refine wpList_append_own _ rfl (.tmp 117) (.tmp 121) 29 rfl B 5 i0 (.int .u8 0) 1 1 Tryd.underlying29 hi0 hz0 hz1 hz2 rfl (by decide) _ _ _ rfl (hRo.alloc _) ⟨wr.heap.size, 0, none⟩ 1 1 [.int .u8 (bt s p)] rfl rfl (cells_new _ _ _) (by simp [Value.oneCell']) (by unfold maxLen; omega) (by omega) (by simp; omega) ?_; intro v5 w6 hown hgrow _; obtain ⟨R5, b5, z5⟩ := step_lit (b := [b]) hBy hzy hRo hown hgrow rfl HC.out; clear hown hgrow)
           go_roundw
           case rel => exact ⟨p + 1, acc ++ [b], r', by go_num, rfl, by omega, R5, HRA'.out, HR5.out, by simp; omega, b5, z5⟩
           case measure => simp [RowKit.intOf]; omega
end Go.Proofs.Qxb6602381aDoor
