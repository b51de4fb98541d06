/-
  FnListMatchAgreesWithUnmatched: the law's walk.
-/
import Derived.Test.Qxb6602868aDoorMake
import Derived.Test.Qxb6602868aDoorBig15
namespace Go.Proofs.Qxb6602868aDoor
open Go Go.RowKit Go.PlainAid Go.WideShapes

set_option maxHeartbeats 400000 in
theorem clone_nil (w : World) : Calls Tryd.prog 10 #[.slice none 0 0] w fun e w' => e = .returned (.slice none 0 0) ∧ w' = w := by
  have he : ∀ w : World, (binOp .eql 22 (.slice none 0 0) (.slice none 0 0)).run Tryd.prog w = .ok (.bool true) w := fun _ => rfl
  go_enter Tryd.func10, Tryd.ntmps10
  go_wp2
  go_ret
  exact ⟨rfl, rfl⟩
set_option maxHeartbeats 400000 in
theorem make_nil (w : World) : Calls Tryd.prog 11 #[.slice none 0 0] w fun e w' => e = .returned (.slice none 0 0) ∧ w' = w := by
  have he : ∀ w : World, (binOp .eql 22 (.slice none 0 0) (.slice none 0 0)).run Tryd.prog w = .ok (.bool true) w := fun _ => rfl
  go_enter Tryd.func11, Tryd.ntmps11
  go_wp2
  go_ret
  exact ⟨rfl, rfl⟩
theorem piece_size (sep : ByteArray) : ∀ (k : Nat) (s x : ByteArray), x ∈ Lib.splitB sep 0 k s → x.size ≤ s.size
  | 0, s, x, h => by
    rw [Lib.splitB_zero] at h
    cases List.mem_singleton.1 h; exact Nat.le_refl _
  | k + 1, s, x, h => by
    by_cases hi : Lib.indexB s sep = -1
    · rw [Lib.splitB_miss _ _ _ _ hi] at h
      cases List.mem_singleton.1 h; exact Nat.le_refl _
    · obtain ⟨i, hi'⟩ : ∃ i : Nat, Lib.indexB s sep = i := ⟨(Lib.indexB s sep).toNat, by
        have : -1 ≤ Lib.indexB s sep := by
          unfold Lib.indexB
          exact Lib.index_ge _ _
        omega⟩
      rw [Lib.splitB_hit _ _ _ _ i hi'] at h
      rcases List.mem_cons.1 h with rfl | h
      · rw [ByteArray.size_extract]; omega
      · have := piece_size sep k _ x h
        rw [ByteArray.size_extract] at this
        omega
theorem pcs_size (s x : ByteArray) (h : x ∈ pcs s) : x.size ≤ s.size := piece_size _ _ s x h
theorem pcs_count (s : ByteArray) : (pcs s).length ≤ s.size + 1 := by
  rw [pcs_len]
  have := Lib.countB_le ⟨#[47]⟩ (Nat.le_refl 1) s.size s (Nat.le_refl _)
  omega
/-- Clone and list together: whatever came in, a list of as many patterns. -/
theorem any_countP (ps : List Pat) (f : Pat → Bool) : ps.any f = decide (ps.countP (fun p => !f p) < ps.length) := by
  induction ps with
  | nil => rfl
  | cons p ps ih =>
    have hle : ps.countP (fun p => !f p) ≤ ps.length := List.countP_le_length
    rw [List.any_cons, ih, List.countP_cons, List.length_cons]
    cases h : f p
    · simp
    · simp only [Bool.true_or, Bool.not_true, Bool.false_eq_true, if_false, Nat.add_zero]
      exact (decide_eq_true (by omega)).symm

theorem ListAt_nil (w : World) (A : Option Addr) : ListAt w A [] := fun _ _ h => by cases h
/-- Clone, then list: whatever came in, a list of as many patterns. -/
def Listed (w : World) (v : Value) (n : Nat) : Prop := ∃ A C qs, v = .slice A n C ∧ qs.length = n ∧ ListAt w A qs

set_option maxRecDepth 10000 in
set_option maxHeartbeats 2000000 in
theorem law4_tail (ps : List Pat) (A : Option Addr) (C : Nat) (name : ByteArray) (m : Int) (w : World) (hA : SrcAt w A ps) (hl : ps.length ≤ 9223372036854775807) (hnm : name.size ≤ 9223372036854775807)
    (hnil : A = none → ps = [] ∧ C = 0) (hP : ∀ p ∈ ps, p.A = none → p.l = [] ∧ p.C = 0) (hm : w.cell? ⟨0, 0, none⟩ = some (.int .i64 m)) (h00 : 0 < w.heap.size) :
    Calls Tryd.prog 4 #[.slice A ps.length C, .string name] w fun e w' => e = .returned (.bool true) ∧ Below w.heap.size w w' := by
  have hb := bytes15 ps A C name w hA hl hnm
  have hf := fields_some 0 ps A C w (by omega) (by omega) hA hl
  have HM : Hid (w.cell? ⟨0, 0, none⟩ = some (.int .i64 m)) := hm
  clear hm
  go_enter Tryd.func4, Tryd.ntmps4
  go_wp2_with fail
  refine hb.mono ?_
  rintro r wx ⟨b, rfl, hwx, hsm⟩
  rw [hwx]; clear hwx wx hb
  cases b with
  | false =>
    go_wp2
    go_ret
    exact ⟨rfl, Below.refl _ _⟩
  | true =>
    obtain ⟨s1, s2, s3⟩ := hsm rfl
    clear hsm
    go_wp2_with fail
    refine hf.mono ?_
    rintro r wx ⟨z, rfl, hz0, hz1, hwx⟩
    rw [hwx]; clear hwx wx hf
    have ha := add_some z (name.size : Int) w hz0 hz1 (by omega)
    go_wp2_with fail
    refine ha.mono ?_
    rintro r wx ⟨z2, rfl, hy0, hy1, hwx⟩
    rw [hwx]; clear hwx wx ha
    by_cases hbig : 4096 < z2
    · go_wp2
      go_ret
      exact ⟨rfl, Below.refl _ _⟩
    · have hq : ∀ p ∈ ps, SmallQ p := fun p hp => ⟨(s3 p hp).1, (s3 p hp).2, hP p hp⟩
      have HPL : Hid (∀ s ∈ pcs name, s.size ≤ 1048576) := fun s hs => Nat.le_trans (pcs_size name s hs) s2
      have HPN : Hid ((pcs name).length ≤ 1048577) := Nat.le_trans (pcs_count name) (by omega)
      cases A with
      | none =>
        obtain ⟨rfl, rfl⟩ := hnil rfl
        clear hA hnil hP hq s3
        go_wp2_with fail
        refine (clone_nil w).mono ?_
        rintro r wx ⟨rfl, hwx⟩
        rw [hwx]; clear hwx wx
        go_wp2_with fail
        refine (make_nil w).mono ?_
        rintro r wx ⟨rfl, hwx⟩
        rw [hwx]; clear hwx wx
        have hBW : Below w.heap.size w (w.alloc (.cells #[.string name] 9)) := (Below.refl _ _).alloc (Nat.le_refl _) _
        have hu := unmatched [] none 0 w.heap.size name m (w.alloc (.cells #[.string name] 9)) (ListAt_nil _ _) ((hBW.cell (p := ⟨0, 0, none⟩) h00).trans HM.out) (by simp) s2 (by simp) (by rw [World.cell?_alloc_new]; rfl) HPL.out HPN.out (by simp)
        go_wp2_with fail
        refine hu.mono ?_
        rintro r w3 ⟨A3, C3, rfl, hB3⟩
        clear hu
        have hB3' : Below w.heap.size w w3 := hBW.trans (hB3.mono (by simp))
        have hlm := listMatch [] none 0 name m w3 (ListAt_nil _ _) ((hB3'.cell (p := ⟨0, 0, none⟩) h00).trans HM.out) s2 HPL.out HPN.out (by simp)
        go_wp2_with fail
        refine hlm.mono ?_
        rintro r w4 ⟨rfl, hB4⟩
        clear hlm
        go_wp2
        go_ret
        exact ⟨rfl, hB3'.trans (hB4.mono hB3'.size)⟩
      | some a =>
        have hcl := cloneFields ps a C w hA hq s1
        clear hA hnil hP hq s3
        go_wp2_with fail
        refine hcl.mono ?_
        rintro r w1 ⟨g, C1, qs, rfl, hql, hL1, hg1, hB1⟩
        clear hcl
        rw [← hql]
        have hql' : qs.length ≤ 1048576 := by omega
        clear hql
        have hmk := makeList qs g C1 w1 hL1 hg1 hql'
        go_wp2_with fail
        refine hmk.mono ?_
        rintro r w2 ⟨g2, C2, rfl, hL2, hB2⟩
        clear hmk hL1
        have hB2' : Below w.heap.size w w2 := hB1.trans (hB2.mono hB1.size)
        have hBr : Below w2.heap.size w2 (w2.alloc (.cells #[.string name] 9)) := (Below.refl _ _).alloc (Nat.le_refl _) _
        have hBW : Below w.heap.size w (w2.alloc (.cells #[.string name] 9)) := hB2'.alloc hB2'.size _
        have hu := unmatched qs (some ⟨g2, 0, none⟩) C2 w2.heap.size name m (w2.alloc (.cells #[.string name] 9)) (hL2.later hBr rfl) ((hBW.cell (p := ⟨0, 0, none⟩) h00).trans HM.out) (by simp) s2 (by simp) (by rw [World.cell?_alloc_new]; rfl) HPL.out HPN.out hql'
        go_wp2_with fail
        refine hu.mono ?_
        rintro r w3 ⟨A3, C3, rfl, hB3⟩
        clear hu
        have hB3' : Below w.heap.size w w3 := hBW.trans (hB3.mono (by have := hBW.size; omega))
        have hL3 := (hL2.later hBr rfl).later hB3 rfl
        have hlm := listMatch qs (some ⟨g2, 0, none⟩) C2 name m w3 hL3 ((hB3'.cell (p := ⟨0, 0, none⟩) h00).trans HM.out) s2 HPL.out HPN.out hql'
        rw [any_countP] at hlm
        have hcn : qs.countP (fun p => !matchF p.l (pcs name)) ≤ 1048576 := Nat.le_trans List.countP_le_length hql'
        generalize qs.countP (fun p => !matchF p.l (pcs name)) = cn at hlm hcn
        clear hL2 hL3
        go_wp2_with fail
        refine hlm.mono ?_
        rintro r w4 ⟨rfl, hB4⟩
        clear hlm
        go_wp2
        go_ret
        exact ⟨by simp, hB3'.trans (hB4.mono hB3'.size)⟩
end Go.Proofs.Qxb6602868aDoor
