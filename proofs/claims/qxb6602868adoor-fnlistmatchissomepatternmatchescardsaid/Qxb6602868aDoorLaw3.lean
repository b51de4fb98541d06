/-
  FnListMatchIsSomePatternMatches: the law's walk.
-/
import Derived.Test.Qxb6602868aDoorMake
import Derived.Test.Qxb6602868aDoorBig7
import Derived.Test.Qxb6602868aDoorTabP
import Derived.Test.Qxb6602868aDoorSlash
namespace Go.Proofs.Qxb6602868aDoor
open Go Go.RowKit Go.PlainAid Go.WideShapes

set_option maxHeartbeats 400000 in
theorem clone_nil (w : World) : Calls Tryd.prog 10 #[.slice none 0 0] w fun e w' => e = .returned (.slice none 0 0) ∧ w' = w := by
  have he : ∀ w : World, (binOp .eql 22 (.slice none 0 0) (.slice none 0 0)).run Tryd.prog w = .ok (.bool true) w := fun _ => rfl
  go_enter Tryd.func10, Tryd.ntmps10
  go_wp2
  go_ret
  exact ⟨rfl, rfl⟩
set_option maxHeartbeats 400000 in
theorem make_nil (w : World) : Calls Tryd.prog 11 #[.slice none 0 0] w fun e w' => e = .returned (.slice none 0 0) ∧ w' = w := by
  have he : ∀ w : World, (binOp .eql 22 (.slice none 0 0) (.slice none 0 0)).run Tryd.prog w = .ok (.bool true) w := fun _ => rfl
  go_enter Tryd.func11, Tryd.ntmps11
  go_wp2
  go_ret
  exact ⟨rfl, rfl⟩
theorem piece_size (sep : ByteArray) : ∀ (k : Nat) (s x : ByteArray), x ∈ Lib.splitB sep 0 k s → x.size ≤ s.size
  | 0, s, x, h => by
    rw [Lib.splitB_zero] at h
    cases List.mem_singleton.1 h; exact Nat.le_refl _
  | k + 1, s, x, h => by
    by_cases hi : Lib.indexB s sep = -1
    · rw [Lib.splitB_miss _ _ _ _ hi] at h
      cases List.mem_singleton.1 h; exact Nat.le_refl _
    · obtain ⟨i, hi'⟩ : ∃ i : Nat, Lib.indexB s sep = i := ⟨(Lib.indexB s sep).toNat, by
        have : -1 ≤ Lib.indexB s sep := by
          unfold Lib.indexB
          exact Lib.index_ge _ _
        omega⟩
      rw [Lib.splitB_hit _ _ _ _ i hi'] at h
      rcases List.mem_cons.1 h with rfl | h
      · rw [ByteArray.size_extract]; omega
      · have := piece_size sep k _ x h
        rw [ByteArray.size_extract] at this
        omega
theorem pcs_size (s x : ByteArray) (h : x ∈ pcs s) : x.size ≤ s.size := piece_size _ _ s x h
theorem pcs_count (s : ByteArray) : (pcs s).length ≤ s.size + 1 := by
  rw [pcs_len]
  have := Lib.countB_le ⟨#[47]⟩ (Nat.le_refl 1) s.size s (Nat.le_refl _)
  omega

theorem ListAt_nil (w : World) (A : Option Addr) : ListAt w A [] := fun _ _ h => by cases h
theorem any_take {ps : List Pat} {f : Pat → Bool} {k : Nat} (h : (ps.take k).any f = true) : ps.any f = true := by
  obtain ⟨p, hp, hf⟩ := List.any_eq_true.1 h
  exact List.any_eq_true.2 ⟨p, List.mem_of_mem_take hp, hf⟩
theorem any_step {ps : List Pat} {f : Pat → Bool} {k : Nat} {p : Pat} (hp : ps[k]? = some p) (h : (ps.take k).any f = false) : (ps.take (k + 1)).any f = f p := by
  rw [List.take_add_one, hp, List.any_append, h]
  simp

set_option maxRecDepth 10000 in
set_option maxHeartbeats 2000000 in
theorem law3_tail (ps : List Pat) (A : Option Addr) (C : Nat) (name : ByteArray) (m : Int) (w : World) (hA : SrcAt w A ps) (hl : ps.length ≤ 9223372036854775807) (hnm : name.size ≤ 9223372036854775807)
    (hnil : A = none → ps = [] ∧ C = 0) (hP : ∀ p ∈ ps, p.A = none → p.l = [] ∧ p.C = 0) (hm : w.cell? ⟨0, 0, none⟩ = some (.int .i64 m)) (h00 : 0 < w.heap.size) :
    Calls Tryd.prog 3 #[.slice A ps.length C, .string name] w fun e w' => e = .returned (.bool true) ∧ Below w.heap.size w w' := by
  have hb := bytes7 ps A C name w hA hl hnm
  have hf := fields_some 0 ps A C w (by omega) (by omega) hA hl
  have HM : Hid (w.cell? ⟨0, 0, none⟩ = some (.int .i64 m)) := hm
  clear hm
  go_enter Tryd.func3, Tryd.ntmps3
  go_wp2_with fail
  refine hb.mono ?_
  rintro r wx ⟨b, rfl, hwx, hsm⟩
  rw [hwx]; clear hwx wx hb
  cases b with
  | false =>
    go_wp2
    go_ret
    exact ⟨rfl, Below.refl _ _⟩
  | true =>
    obtain ⟨s1, s2, s3⟩ := hsm rfl
    clear hsm
    go_wp2_with fail
    refine hf.mono ?_
    rintro r wx ⟨z, rfl, hz0, hz1, hwx⟩
    rw [hwx]; clear hwx wx hf
    have ha := add_some z (name.size : Int) w hz0 hz1 (by omega)
    go_wp2_with fail
    refine ha.mono ?_
    rintro r wx ⟨z2, rfl, hy0, hy1, hwx⟩
    rw [hwx]; clear hwx wx ha
    by_cases hbig : 4096 < z2
    · go_wp2
      go_ret
      exact ⟨rfl, Below.refl _ _⟩
    · have hq : ∀ p ∈ ps, SmallQ p := fun p hp => ⟨(s3 p hp).1, (s3 p hp).2, hP p hp⟩
      have HPL : Hid (∀ s ∈ pcs name, s.size ≤ 1048576) := fun s hs => Nat.le_trans (pcs_size name s hs) s2
      have HPN : Hid ((pcs name).length ≤ 1048577) := Nat.le_trans (pcs_count name) (by omega)
      cases A with
      | none =>
        obtain ⟨rfl, rfl⟩ := hnil rfl
        clear hA hnil hP hq s3
        go_wp2_with fail
        refine (clone_nil w).mono ?_
        rintro r wx ⟨rfl, hwx⟩
        rw [hwx]; clear hwx wx
        go_wp2_with fail
        refine (make_nil w).mono ?_
        rintro r wx ⟨rfl, hwx⟩
        rw [hwx]; clear hwx wx
        go_wp2_with fail
        refine (splitSlash name w s2).mono ?_
        rintro r w3 ⟨A3, C3, rfl, _, hB3⟩
        have hlm := listMatch [] none 0 name m w3 (ListAt_nil _ _) ((hB3.cell (p := ⟨0, 0, none⟩) h00).trans HM.out) s2 HPL.out HPN.out (by simp)
        have HLM : Hid (Calls Tryd.prog 14 #[.slice none 0 0, .string name] w3 fun e w' => e = .returned (.bool false) ∧ Below w3.heap.size w3 w') := hlm
        clear hlm
        go_wp2
        go_loop [7, 8] (fun v i => v = .bool false ∧ i = .int .i64 0) (fun _ _ => 0)
        case atStart => exact ⟨rfl, rfl⟩
        case round =>
          obtain ⟨rfl, rfl⟩ := hrel
          go_wp2_with fail
          refine HLM.out.mono ?_
          rintro r w4 ⟨rfl, hB4⟩
          clear HLM
          go_wp2
          go_ret
          exact ⟨rfl, hB3.trans (hB4.mono hB3.size)⟩
      | some a =>
        have hcl := cloneFields ps a C w hA hq s1
        clear hA hnil hP hq s3
        go_wp2_with fail
        refine hcl.mono ?_
        rintro r w1 ⟨g, C1, qs, rfl, hql, hL1, hg1, hB1⟩
        clear hcl
        rw [← hql]
        have hql' : qs.length ≤ 1048576 := by omega
        clear hql
        have hmk := makeList qs g C1 w1 hL1 hg1 hql'
        go_wp2_with fail
        refine hmk.mono ?_
        rintro r w2 ⟨g2, C2, rfl, hL2, hB2⟩
        clear hmk
        have hB2' : Below w.heap.size w w2 := hB1.trans (hB2.mono hB1.size)
        have hL12 := hL1.later hB2 rfl
        go_wp2_with fail
        refine (splitSlash name w2 s2).mono ?_
        rintro r w3 ⟨A3, C3, rfl, hS3, hB3⟩
        have hB3' : Below w.heap.size w w3 := hB2'.trans (hB3.mono hB2'.size)
        have HL3 : Hid (ListAt w3 (some ⟨g2, 0, none⟩) qs) := hL2.later hB3 rfl
        have HQ3 : Hid (ListAt w3 (some ⟨g, 0, none⟩) qs) := hL12.later hB3 rfl
        have HS3 : Hid (StrsAt w3 A3 (pcs name)) := hS3
        clear hL1 hL2 hL12 hS3 hB1 hB2 hB3 hB2'
        go_wp2
        go_loopw [7, 8] (fun v i wr => ∃ (k : Nat) (b : Bool), k ≤ qs.length ∧ i = .int .i64 k ∧ v = .bool b ∧ (qs.take k).any (fun p => matchF p.l (pcs name)) = b ∧ Below w3.heap.size w3 wr) (fun _ i _ => qs.length - (RowKit.intOf i).toNat)
        case atStart => exact ⟨0, false, Nat.zero_le _, rfl, rfl, rfl, Below.refl _ _⟩
        case round =>
          obtain ⟨k, b, hk, rfl, rfl, hb, hBx⟩ := hrel
          have HB : Hid ((qs.take k).any (fun p => matchF p.l (pcs name)) = b) := hb
          clear hb
          by_cases hgo : k < qs.length ∧ b = false
          · obtain ⟨hlt, rfl⟩ := hgo
            obtain ⟨p, hp⟩ : ∃ p, qs[k]? = some p := ⟨_, List.getElem?_eq_getElem hlt⟩
            obtain ⟨g', hg', h2, h3, h4, h5, h6, h7, h8⟩ := (HQ3.out.later hBx rfl) k p hp
            cases hg'
            have hpm := partsMatch p.l (pcs name) p.A A3 p.C C3 wr h6 (HS3.out.later hBx rfl) h7 HPL.out h8 HPN.out
            have HN : Hid ((qs.take (k + 1)).any (fun p => matchF p.l (pcs name)) = matchF p.l (pcs name)) := any_step hp HB.out
            clear hp h2 h3 h4 h6 h7
            generalize matchF p.l (pcs name) = q at hpm HN
            go_wp2_with fail
            refine hpm.mono ?_
            rintro r w4 ⟨rfl, hB4⟩
            clear hpm
            go_wp2
            go_roundw
            case rel => exact ⟨k + 1, q, by omega, by go_num, rfl, HN.out, hBx.trans (hB4.mono hBx.size)⟩
            case measure => simp [RowKit.intOf]; omega
          · have HE : Hid (qs.any (fun p => matchF p.l (pcs name)) = b) := by
              show _ = _
              cases b with
              | true => exact any_take HB.out
              | false =>
                have : qs.take k = qs := List.take_of_length_le (by simp at hgo; omega)
                rw [← HB.out, this]
            have hBw : Below w.heap.size w wr := hB3'.trans (hBx.mono hB3'.size)
            have hlm := listMatch qs (some ⟨g2, 0, none⟩) C2 name m wr (HL3.out.later hBx rfl) ((hBw.cell (p := ⟨0, 0, none⟩) h00).trans HM.out) s2 HPL.out HPN.out hql'
            rw [HE.out] at hlm
            cases b with
            | true =>
              clear hgo
              by_cases hlt : k < qs.length
              all_goals
               go_wp2_with fail
               refine hlm.mono ?_
               rintro r w4 ⟨rfl, hB4⟩
               clear hlm
               go_wp2
               go_ret
               exact ⟨rfl, hBw.trans (hB4.mono hBw.size)⟩
            | false =>
              have hge : ¬ k < qs.length := fun h => hgo ⟨h, rfl⟩
              clear hgo
              go_wp2_with fail
              refine hlm.mono ?_
              rintro r w4 ⟨rfl, hB4⟩
              clear hlm
              go_wp2
              go_ret
              exact ⟨rfl, hBw.trans (hB4.mono hBw.size)⟩
end Go.Proofs.Qxb6602868aDoor
