/-
  zzCompMatch, walked: the table of bytes.
-/
import Derived.Test.Qxb6602868aDoorComp
import Derived.Test.Qxb6602868aDoorTabPl
import Derived.Deep.QuietTactic
import Derived.BigQuiet
import Derived.Laws.OwnMore
namespace Go.Proofs.Qxb6602868aDoor
open Go Go.RowKit Go.PlainAid Go.WideShapes

theorem info4 : (Tryd.prog.info? 4).map (fun i => (i.zero, i.size, i.bytes)) = some (some (.bool false), 1, 1) := by kernel_rfl

set_option maxRecDepth 10000 in
set_option maxHeartbeats 2000000 in
theorem compMatch (p s : ByteArray) (w : World) (hp : p.size ≤ 1048576) (hs : s.size ≤ 1048576) :
    Calls Tryd.prog 26 #[.string p, .string s] w fun e w' => e = .returned (.bool (comp p s)) ∧ Below w.heap.size w w' := by
  obtain ⟨N, hN⟩ : ∃ N : Nat, N = (p.size + 1) * (s.size + 1) := ⟨_, rfl⟩
  have hNi : ((p.size : Int) + 1) * ((s.size : Int) + 1) = (N : Int) := by rw [hN]; simp
  have hNl : N ≤ 1099513724929 := by
    rw [hN]; exact Nat.le_trans (Nat.mul_le_mul (show p.size + 1 ≤ 1048577 by omega) (show s.size + 1 ≤ 1048577 by omega)) (by decide)
  have hmk := fun wx => run_make_row' (P := Tryd.prog) 49 4 (.bool false) 1 Tryd.underlying49 info4 rfl .i64 .i64 N (by omega) (by omega) wx
  have HN : Hid (N = (p.size + 1) * (s.size + 1)) := hN
  clear hN
  go_enter Tryd.func26, Tryd.ntmps26
  go_wp2
  clear hmk
  go_loopw [9] (fun i wr => ∃ (u : Nat) (z : Int), z = (u : Int) - 1 ∧ u ≤ p.size + 1 ∧ i = .int .i64 z ∧ Pl.Tab wr w.heap.size N (s.size + 1) (u * (s.size + 1)) (Pl.tb p.size s.size (cstar p) (csame p s)) ∧ Below w.heap.size w wr) (fun i _ => (RowKit.intOf i + 1).toNat)
  case atStart =>
    refine ⟨p.size + 1, p.size, by omega, by omega, rfl, ?_, (Below.refl _ _).alloc (Nat.le_refl _) _⟩
    rw [← HN.out]
    exact Pl.Tab.start (World.rowIs_made w (.bool false) N 4)
  case round =>
    obtain ⟨u, z, hz, hu, rfl, hT, hB⟩ := hrel
    cases u with
    | zero =>
      obtain rfl : z = -1 := by omega
      have hN0 : 0 < N := by rw [HN.out]; exact Nat.mul_pos (by omega) (by omega)
      have hc := hT.read (i := 0) (j := 0) (x := 0) (by omega) (by omega) (by omega) hN0
      clear hT hu hz
      go_wp2
      go_ret
      exact ⟨rfl, hB⟩
    | succ i =>
      obtain rfl : z = (i : Int) := by omega
      clear hz
      go_wp2
      go_loopw [10] (fun j wr => ∃ (v : Nat) (y : Int), y = (v : Int) - 1 ∧ v ≤ s.size + 1 ∧ j = .int .i64 y ∧ Pl.Tab wr w.heap.size N (s.size + 1) (i * (s.size + 1) + v) (Pl.tb p.size s.size (cstar p) (csame p s)) ∧ Below w.heap.size w wr) (fun j _ => (RowKit.intOf j + 1).toNat)
      case atStart =>
        refine ⟨s.size + 1, s.size, by omega, by omega, rfl, ?_, hB⟩
        rw [← Nat.succ_mul]
        exact hT
      case round =>
        obtain ⟨v, y, hy, hv, rfl, hT, hB⟩ := hrel
        cases v with
        | zero =>
          obtain rfl : y = -1 := by omega
          have HT : Hid (Pl.Tab wr w.heap.size N (s.size + 1) (i * (s.size + 1)) (Pl.tb p.size s.size (cstar p) (csame p s))) := hT
          clear hT hv hy
          go_wp2
          go_roundw
          case rel => exact ⟨i, _, rfl, by omega, by go_num, HT.out, hB⟩
          case measure => simp [RowKit.intOf]
        | succ j =>
          obtain rfl : y = (j : Int) := by omega
          clear hy
          obtain ⟨q, hq⟩ : ∃ q : Nat, i * (s.size + 1) = q := ⟨_, rfl⟩
          have hqN : q + (s.size + 1) ≤ N := by rw [HN.out, ← hq, ← Nat.succ_mul]; exact Nat.mul_le_mul_right _ hu
          have hqi : (i : Int) * ((s.size : Int) + 1) = (q : Int) := by rw [← hq]; simp
          have hqi1 : ((i : Int) + 1) * ((s.size : Int) + 1) = ((q + (s.size + 1) : Nat) : Int) := by rw [← hq]; simp [Int.add_mul]
          have hTn := fun (b : Bool) (e : b = Pl.tb p.size s.size (cstar p) (csame p s) i j) => e ▸ hT.write (i := i) (j := j) (x := q + j) (by omega) (by omega) (by omega)
          have HTN : Hid (∀ b, b = Pl.tb p.size s.size (cstar p) (csame p s) i j → Pl.Tab (wr.setCell ⟨w.heap.size, q + j, none⟩ (.bool b)) w.heap.size N (s.size + 1) (i * (s.size + 1) + j) (Pl.tb p.size s.size (cstar p) (csame p s))) := by
            intro b e
            rw [hq]; exact hTn b e
          have hfz : wr.frozen? ⟨w.heap.size, q + j, none⟩ = false := hT.frozen _
          have hd0 : ∃ v0, wr.cell? ⟨w.heap.size, q + j, none⟩ = some v0 := ⟨_, hT.cell (by omega)⟩
          obtain ⟨v0, hd0⟩ := hd0
          have HRD : Hid (∀ {i' j' x : Nat}, j' < s.size + 1 → i' * (s.size + 1) + j' = x → q + j + 1 ≤ x → x < N → wr.cell? ⟨w.heap.size, x, none⟩ = some (.bool (Pl.tb p.size s.size (cstar p) (csame p s) i' j'))) := fun h1 h2 h3 h4 => hT.read h1 h2 (by omega) h4
          have Hq : Hid (i * (s.size + 1) = q) := hq
          clear hTn hT hq
          by_cases hin : i = p.size
          · subst hin
            clear hNi hqi1
            have HV : Hid (Pl.Tab (wr.setCell ⟨w.heap.size, q + j, none⟩ (.bool ((j : Int) == (s.size : Int)))) w.heap.size N (s.size + 1) (p.size * (s.size + 1) + j) (Pl.tb p.size s.size (cstar p) (csame p s))) := HTN.out _ (by rw [Pl.tb_end, Bool.eq_iff_iff]; simp; omega)
            go_wp2
            go_roundw
            case rel => exact ⟨j, _, rfl, by omega, by go_num, HV.out, hB.setCell (Nat.le_refl _) _⟩
            case measure => simp [RowKit.intOf]
          · have hilt : i < p.size := by omega
            have hii : (i : Int) < p.size := by omega
            clear hin
            have hb := get_bt p
            have hd1 := HRD.out (i' := i + 1) (j' := j) (x := q + (s.size + 1) + j) (by omega) (by rw [Nat.succ_mul, Hq.out]) (by omega) (by
              have : (i + 2) * (s.size + 1) ≤ N := by rw [HN.out]; exact Nat.mul_le_mul_right _ (by omega)
              rw [Nat.add_mul, Hq.out] at this
              omega)
            have hqN2 : q + (s.size + 1) + (s.size + 1) ≤ N := by
              have : (i + 2) * (s.size + 1) ≤ N := by rw [HN.out]; exact Nat.mul_le_mul_right _ (by omega)
              rw [Nat.add_mul, Hq.out] at this
              omega
            cases hst : cstar p i with
            | true =>
              have hrec := Pl.tb_star (n := p.size) (m := s.size) (star := cstar p) (same := csame p s) (j := j) hilt hst (by omega)
              have hbi : bt p i = 42 := by simpa [cstar] using hst
              clear hst
              cases hv1 : Pl.tb p.size s.size (cstar p) (csame p s) (i + 1) j with
              | true =>
                have HV : Hid (Pl.Tab (wr.setCell ⟨w.heap.size, q + j, none⟩ (.bool true)) w.heap.size N (s.size + 1) (i * (s.size + 1) + j) (Pl.tb p.size s.size (cstar p) (csame p s))) := HTN.out _ (by rw [hrec, hv1, Bool.true_or])
                rw [hv1] at hd1
                clear hv1 hrec
                go_wp2
                go_roundw
                case rel => exact ⟨j, _, rfl, by omega, by go_num, HV.out, hB.setCell (Nat.le_refl _) _⟩
                case measure => simp [RowKit.intOf]
              | false =>
                by_cases hjm : j < s.size
                · have hd2 := HRD.out (i' := i) (j' := j + 1) (x := q + j + 1) (by omega) (by rw [Hq.out]; rfl) (by omega) (by omega)
                  have HV : Hid (Pl.Tab (wr.setCell ⟨w.heap.size, q + j, none⟩ (.bool (Pl.tb p.size s.size (cstar p) (csame p s) i (j + 1)))) w.heap.size N (s.size + 1) (i * (s.size + 1) + j) (Pl.tb p.size s.size (cstar p) (csame p s))) := HTN.out _ (by rw [hrec, hv1, Bool.false_or, decide_eq_true hjm, Bool.true_and])
                  rw [hv1] at hd1
                  clear hv1 hrec
                  generalize Pl.tb p.size s.size (cstar p) (csame p s) i (j + 1) = b at hd2 HV
                  go_wp2
                  go_roundw
                  case rel => exact ⟨j, _, rfl, by omega, by go_num, HV.out, hB.setCell (Nat.le_refl _) _⟩
                  case measure => simp [RowKit.intOf]
                · have HV : Hid (Pl.Tab (wr.setCell ⟨w.heap.size, q + j, none⟩ (.bool false)) w.heap.size N (s.size + 1) (i * (s.size + 1) + j) (Pl.tb p.size s.size (cstar p) (csame p s))) := HTN.out _ (by rw [hrec, hv1, Bool.false_or, decide_eq_false hjm, Bool.false_and])
                  obtain rfl : j = s.size := by omega
                  rw [hv1] at hd1
                  clear hv1 hrec hjm
                  go_wp2
                  go_roundw
                  case rel => exact ⟨s.size, _, rfl, by omega, by go_num, HV.out, hB.setCell (Nat.le_refl _) _⟩
                  case measure => simp [RowKit.intOf]
            | false =>
              have hrec := Pl.tb_lit (n := p.size) (m := s.size) (star := cstar p) (same := csame p s) (j := j) hilt hst
              have hbi : (bt p i == 42) = false := hst
              clear hst
              by_cases hjm : j < s.size
              · have hjj : (j : Int) < s.size := by omega
                have hb2 := get_bt s
                have hd3 := HRD.out (i' := i + 1) (j' := j + 1) (x := q + (s.size + 1) + j + 1) (by omega) (by rw [Nat.succ_mul, Hq.out]; rfl) (by omega) (by omega)
                cases hsm : csame p s i j with
                | true =>
                  have HV : Hid (Pl.Tab (wr.setCell ⟨w.heap.size, q + j, none⟩ (.bool (Pl.tb p.size s.size (cstar p) (csame p s) (i + 1) (j + 1)))) w.heap.size N (s.size + 1) (i * (s.size + 1) + j) (Pl.tb p.size s.size (cstar p) (csame p s))) := HTN.out _ (by rw [hrec, hsm, decide_eq_true hjm, Bool.true_and, Bool.true_and])
                  have hsm' : (bt p i == bt s j) = true := hsm
                  clear hsm hrec hd1
                  generalize Pl.tb p.size s.size (cstar p) (csame p s) (i + 1) (j + 1) = b at hd3 HV
                  go_wp2
                  go_quiet (fail)
                  go_wp2
                  go_roundw
                  case rel => exact ⟨j, _, rfl, by omega, by go_num, HV.out, (show Below w.heap.size w (wr.drewN _) from ⟨hB.os, hB.tape, hB.output, hB.size, hB.block⟩).setCell (Nat.le_refl _) _⟩
                  case measure => simp [RowKit.intOf]
                | false =>
                  have HV : Hid (Pl.Tab (wr.setCell ⟨w.heap.size, q + j, none⟩ (.bool false)) w.heap.size N (s.size + 1) (i * (s.size + 1) + j) (Pl.tb p.size s.size (cstar p) (csame p s))) := HTN.out _ (by rw [hrec, hsm, Bool.and_false, Bool.false_and])
                  have hsm' : (bt p i == bt s j) = false := hsm
                  clear hsm hrec hd1
                  go_wp2
                  go_quiet (fail)
                  go_wp2
                  go_roundw
                  case rel => exact ⟨j, _, rfl, by omega, by go_num, HV.out, (show Below w.heap.size w (wr.drewN _) from ⟨hB.os, hB.tape, hB.output, hB.size, hB.block⟩).setCell (Nat.le_refl _) _⟩
                  case measure => simp [RowKit.intOf]
              · have HV : Hid (Pl.Tab (wr.setCell ⟨w.heap.size, q + j, none⟩ (.bool false)) w.heap.size N (s.size + 1) (i * (s.size + 1) + j) (Pl.tb p.size s.size (cstar p) (csame p s))) := HTN.out _ (by rw [hrec, decide_eq_false hjm, Bool.false_and, Bool.false_and])
                obtain rfl : j = s.size := by omega
                have hjj : ¬ ((s.size : Int) < s.size) := by omega
                clear hrec hjm hd1
                go_wp2
                go_quiet (fail)
                go_wp2
                go_roundw
                case rel => exact ⟨s.size, _, rfl, by omega, by go_num, HV.out, (show Below w.heap.size w (wr.drewN _) from ⟨hB.os, hB.tape, hB.output, hB.size, hB.block⟩).setCell (Nat.le_refl _) _⟩
                case measure => simp [RowKit.intOf]
end Go.Proofs.Qxb6602868aDoor
