/-
  zzPartsMatch, walked: the table of components.
-/
import Derived.Test.Qxb6602868aDoorTabC
import Derived.Deep.RegionHeld
namespace Go.Proofs.Qxb6602868aDoor
open Go Go.RowKit Go.PlainAid Go.WideShapes

set_option maxRecDepth 10000 in
set_option maxHeartbeats 2000000 in
theorem partsMatch (l c : List ByteArray) (A A' : Option Addr) (C C' : Nat) (w : World) (hA : StrsAt w A l) (hA' : StrsAt w A' c) (hl : ∀ s ∈ l, s.size ≤ 1048576) (hc : ∀ s ∈ c, s.size ≤ 1048576)
    (hp : l.length ≤ 1048576) (hs : c.length ≤ 1048577) :
    Calls Tryd.prog 13 #[.slice A l.length C, .slice A' c.length C'] w fun e w' => e = .returned (.bool (matchF l c)) ∧ Below w.heap.size w w' := by
  have HA : Hid (StrsAt w A l) := hA
  have HA' : Hid (StrsAt w A' c) := hA'
  have HL : Hid (∀ s ∈ l, s.size ≤ 1048576) := hl
  have HC : Hid (∀ s ∈ c, s.size ≤ 1048576) := hc
  clear hA hA' hl hc
  obtain ⟨N, hN⟩ : ∃ N : Nat, N = (l.length + 1) * (c.length + 1) := ⟨_, rfl⟩
  have hNi : ((l.length : Int) + 1) * ((c.length : Int) + 1) = (N : Int) := by rw [hN]; simp
  have hNl : N ≤ 1099514773506 := by
    rw [hN]; exact Nat.le_trans (Nat.mul_le_mul (show l.length + 1 ≤ 1048577 by omega) (show c.length + 1 ≤ 1048578 by omega)) (by decide)
  have hmk := fun wx => run_make_row' (P := Tryd.prog) 49 4 (.bool false) 1 Tryd.underlying49 info4 rfl .i64 .i64 N (by omega) (by omega) wx
  have HN : Hid (N = (l.length + 1) * (c.length + 1)) := hN
  clear hN
  go_enter Tryd.func13, Tryd.ntmps13
  go_wp2
  clear hmk
  go_loopw [9] (fun i wr => ∃ (u : Nat) (z : Int), z = (u : Int) - 1 ∧ u ≤ l.length + 1 ∧ i = .int .i64 z ∧ Pl.Tab wr w.heap.size N (c.length + 1) (u * (c.length + 1)) (Pl.tb l.length c.length (pstar l) (psame l c)) ∧ Below w.heap.size w wr) (fun i _ => (RowKit.intOf i + 1).toNat)
  case atStart =>
    refine ⟨l.length + 1, l.length, by omega, by omega, rfl, ?_, (Below.refl _ _).alloc (Nat.le_refl _) _⟩
    rw [← HN.out]
    exact Pl.Tab.start (World.rowIs_made w (.bool false) N 4)
  case round =>
    obtain ⟨u, z, hz, hu, rfl, hT, hB⟩ := hrel
    cases u with
    | zero =>
      obtain rfl : z = -1 := by omega
      have hN0 : 0 < N := by rw [HN.out]; exact Nat.mul_pos (by omega) (by omega)
      have hc := hT.read (i := 0) (j := 0) (x := 0) (by omega) (by omega) (by omega) hN0
      clear hT hu hz
      go_wp2
      go_ret
      exact ⟨rfl, hB⟩
    | succ i =>
      obtain rfl : z = (i : Int) := by omega
      clear hz
      go_wp2
      go_loopw [10] (fun j wr => ∃ (v : Nat) (y : Int), y = (v : Int) - 1 ∧ v ≤ c.length + 1 ∧ j = .int .i64 y ∧ Pl.Tab wr w.heap.size N (c.length + 1) (i * (c.length + 1) + v) (Pl.tb l.length c.length (pstar l) (psame l c)) ∧ Below w.heap.size w wr) (fun j _ => (RowKit.intOf j + 1).toNat)
      case atStart =>
        refine ⟨c.length + 1, c.length, by omega, by omega, rfl, ?_, hB⟩
        rw [← Nat.succ_mul]
        exact hT
      case round =>
        obtain ⟨v, y, hy, hv, rfl, hT, hB⟩ := hrel
        cases v with
        | zero =>
          obtain rfl : y = -1 := by omega
          have HT : Hid (Pl.Tab wr w.heap.size N (c.length + 1) (i * (c.length + 1)) (Pl.tb l.length c.length (pstar l) (psame l c))) := hT
          clear hT hv hy
          go_wp2
          go_roundw
          case rel => exact ⟨i, _, rfl, by omega, by go_num, HT.out, hB⟩
          case measure => simp [RowKit.intOf]
        | succ j =>
          obtain rfl : y = (j : Int) := by omega
          clear hy
          obtain ⟨q, hq⟩ : ∃ q : Nat, i * (c.length + 1) = q := ⟨_, rfl⟩
          have hqN : q + (c.length + 1) ≤ N := by rw [HN.out, ← hq, ← Nat.succ_mul]; exact Nat.mul_le_mul_right _ hu
          have hqi : (i : Int) * ((c.length : Int) + 1) = (q : Int) := by rw [← hq]; simp
          have hqi1 : ((i : Int) + 1) * ((c.length : Int) + 1) = ((q + (c.length + 1) : Nat) : Int) := by rw [← hq]; simp [Int.add_mul]
          have hTn := fun (b : Bool) (e : b = Pl.tb l.length c.length (pstar l) (psame l c) i j) => e ▸ hT.write (i := i) (j := j) (x := q + j) (by omega) (by omega) (by omega)
          have HTN : Hid (∀ b, b = Pl.tb l.length c.length (pstar l) (psame l c) i j → Pl.Tab (wr.setCell ⟨w.heap.size, q + j, none⟩ (.bool b)) w.heap.size N (c.length + 1) (i * (c.length + 1) + j) (Pl.tb l.length c.length (pstar l) (psame l c))) := by
            intro b e
            rw [hq]; exact hTn b e
          have hfz : wr.frozen? ⟨w.heap.size, q + j, none⟩ = false := hT.frozen _
          have hd0 : ∃ v0, wr.cell? ⟨w.heap.size, q + j, none⟩ = some v0 := ⟨_, hT.cell (by omega)⟩
          obtain ⟨v0, hd0⟩ := hd0
          have HRD : Hid (∀ {i' j' x : Nat}, j' < c.length + 1 → i' * (c.length + 1) + j' = x → q + j + 1 ≤ x → x < N → wr.cell? ⟨w.heap.size, x, none⟩ = some (.bool (Pl.tb l.length c.length (pstar l) (psame l c) i' j'))) := fun h1 h2 h3 h4 => hT.read h1 h2 (by omega) h4
          have Hq : Hid (i * (c.length + 1) = q) := hq
          have HTK : Hid (Pl.Tab wr w.heap.size N (c.length + 1) (i * (c.length + 1) + (j + 1)) (Pl.tb l.length c.length (pstar l) (psame l c))) := hT
          clear hTn hT hq
          by_cases hin : i = l.length
          · subst hin
            clear hNi hqi1
            have HV : Hid (Pl.Tab (wr.setCell ⟨w.heap.size, q + j, none⟩ (.bool ((j : Int) == (c.length : Int)))) w.heap.size N (c.length + 1) (l.length * (c.length + 1) + j) (Pl.tb l.length c.length (pstar l) (psame l c))) := HTN.out _ (by rw [Pl.tb_end, Bool.eq_iff_iff]; simp; omega)
            go_wp2
            go_roundw
            case rel => exact ⟨j, _, rfl, by omega, by go_num, HV.out, hB.setCell (Nat.le_refl _) _⟩
            case measure => simp [RowKit.intOf]
          · have hilt : i < l.length := by omega
            have hii : (i : Int) < l.length := by omega
            clear hin
            obtain ⟨x, hx⟩ : ∃ x, l[i]? = some x := ⟨_, List.getElem?_eq_getElem hilt⟩
            obtain ⟨a, rfl, hab, hcx0⟩ := HA.out i x hx
            have hcx : wr.cell? (a.add i) = some (.string x) := (hB.cell (p := a.add i) (by rw [addr_block]; exact hab)).trans hcx0
            have hps : pstar l i = (x.toList == [42, 42]) := by unfold pstar; rw [List.getD_eq_getElem?_getD, hx]; rfl
            have hd1 := HRD.out (i' := i + 1) (j' := j) (x := q + (c.length + 1) + j) (by omega) (by rw [Nat.succ_mul, Hq.out]) (by omega) (by
              have : (i + 2) * (c.length + 1) ≤ N := by rw [HN.out]; exact Nat.mul_le_mul_right _ (by omega)
              rw [Nat.add_mul, Hq.out] at this
              omega)
            have hqN2 : q + (c.length + 1) + (c.length + 1) ≤ N := by
              have : (i + 2) * (c.length + 1) ≤ N := by rw [HN.out]; exact Nat.mul_le_mul_right _ (by omega)
              rw [Nat.add_mul, Hq.out] at this
              omega
            have HX : Hid (l[i]? = some x) := hx
            have HX0 : Hid (w.cell? (a.add i) = some (.string x)) := hcx0
            clear hx hcx0
            cases hst : pstar l i with
            | true =>
              have hrec := Pl.tb_star (n := l.length) (m := c.length) (star := pstar l) (same := psame l c) (j := j) hilt hst (by omega)
              have hbi : (x.toList == [42, 42]) = true := hps.symm.trans hst
              clear hst hps
              cases hv1 : Pl.tb l.length c.length (pstar l) (psame l c) (i + 1) j with
              | true =>
                have HV : Hid (Pl.Tab (wr.setCell ⟨w.heap.size, q + j, none⟩ (.bool true)) w.heap.size N (c.length + 1) (i * (c.length + 1) + j) (Pl.tb l.length c.length (pstar l) (psame l c))) := HTN.out _ (by rw [hrec, hv1, Bool.true_or])
                rw [hv1] at hd1
                clear hv1 hrec
                go_wp2
                go_roundw
                case rel => exact ⟨j, _, rfl, by omega, by go_num, HV.out, hB.setCell (Nat.le_refl _) _⟩
                case measure => simp [RowKit.intOf]
              | false =>
                by_cases hjm : j < c.length
                · have hd2 := HRD.out (i' := i) (j' := j + 1) (x := q + j + 1) (by omega) (by rw [Hq.out]; rfl) (by omega) (by omega)
                  have HV : Hid (Pl.Tab (wr.setCell ⟨w.heap.size, q + j, none⟩ (.bool (Pl.tb l.length c.length (pstar l) (psame l c) i (j + 1)))) w.heap.size N (c.length + 1) (i * (c.length + 1) + j) (Pl.tb l.length c.length (pstar l) (psame l c))) := HTN.out _ (by rw [hrec, hv1, Bool.false_or, decide_eq_true hjm, Bool.true_and])
                  rw [hv1] at hd1
                  clear hv1 hrec
                  generalize Pl.tb l.length c.length (pstar l) (psame l c) i (j + 1) = b at hd2 HV
                  go_wp2
                  go_roundw
                  case rel => exact ⟨j, _, rfl, by omega, by go_num, HV.out, hB.setCell (Nat.le_refl _) _⟩
                  case measure => simp [RowKit.intOf]
                · have HV : Hid (Pl.Tab (wr.setCell ⟨w.heap.size, q + j, none⟩ (.bool false)) w.heap.size N (c.length + 1) (i * (c.length + 1) + j) (Pl.tb l.length c.length (pstar l) (psame l c))) := HTN.out _ (by rw [hrec, hv1, Bool.false_or, decide_eq_false hjm, Bool.false_and])
                  obtain rfl : j = c.length := by omega
                  rw [hv1] at hd1
                  clear hv1 hrec hjm
                  go_wp2
                  go_roundw
                  case rel => exact ⟨c.length, _, rfl, by omega, by go_num, HV.out, hB.setCell (Nat.le_refl _) _⟩
                  case measure => simp [RowKit.intOf]
            | false =>
              have hrec := Pl.tb_lit (n := l.length) (m := c.length) (star := pstar l) (same := psame l c) (j := j) hilt hst
              have hbi : (x.toList == [42, 42]) = false := hps.symm.trans hst
              clear hst hps
              by_cases hjm : j < c.length
              · have hjj : (j : Int) < c.length := by omega
                obtain ⟨y, hy⟩ : ∃ y, c[j]? = some y := ⟨_, List.getElem?_eq_getElem hjm⟩
                obtain ⟨a', rfl, hab', hcy0⟩ := HA'.out j y hy
                have hpm : psame l c i j = comp x y := by unfold psame; rw [List.getD_eq_getElem?_getD, List.getD_eq_getElem?_getD, HX.out, hy]; rfl
                have hcm := fun wx => compMatch x y wx (HL.out x (List.mem_of_getElem? HX.out)) (HC.out y (List.mem_of_getElem? hy))
                have HCM : Hid (∀ wx, Calls Tryd.prog 26 #[.string x, .string y] wx fun e w' => e = .returned (.bool (comp x y)) ∧ Below wx.heap.size wx w') := hcm
                have HCY : Hid (w.cell? (a'.add j) = some (.string y)) := hcy0
                have hcy : wr.cell? (a'.add j) = some (.string y) := (hB.cell (p := a'.add j) (by rw [addr_block]; exact hab')).trans hcy0
                clear hy hcm hcy0
                have hd3 := HRD.out (i' := i + 1) (j' := j + 1) (x := q + (c.length + 1) + j + 1) (by omega) (by rw [Nat.succ_mul, Hq.out]; rfl) (by omega) (by omega)
                rw [hpm] at hrec
                clear hpm hd1
                cases hv3 : Pl.tb l.length c.length (pstar l) (psame l c) (i + 1) (j + 1) with
                | false =>
                  have HV : Hid (Pl.Tab (wr.setCell ⟨w.heap.size, q + j, none⟩ (.bool false)) w.heap.size N (c.length + 1) (i * (c.length + 1) + j) (Pl.tb l.length c.length (pstar l) (psame l c))) := HTN.out _ (by rw [hrec, hv3, Bool.and_false])
                  rw [hv3] at hd3
                  clear hv3 hrec
                  go_wp2
                  go_quiet (fail)
                  go_wp2
                  go_roundw
                  case rel => exact ⟨j, _, rfl, by omega, by go_num, HV.out, (show Below w.heap.size w (wr.drewN _) from ⟨hB.os, hB.tape, hB.output, hB.size, hB.block⟩).setCell (Nat.le_refl _) _⟩
                  case measure => simp [RowKit.intOf]
                | true =>
                  rw [hv3] at hd3
                  have HREC : Hid (comp x y = Pl.tb l.length c.length (pstar l) (psame l c) i j) := by
                    show _ = _
                    rw [hrec, hv3, decide_eq_true hjm, Bool.true_and, Bool.and_true]
                  have hBd : Below w.heap.size w wr.drew := hB.drew
                  have HS : Hid (∀ wx, Below wr.heap.size wr wx → (wx.cell? (a.add i) = some (.string x) ∧ wx.cell? (a'.add j) = some (.string y) ∧ wx.cell? ⟨w.heap.size, q + (c.length + 1) + j + 1, none⟩ = some (.bool true))) := by
                    show ∀ wx, _
                    intro wx hBx
                    have hlt := HTK.out.lt
                    exact ⟨(hBx.cell (p := a.add i) (by rw [addr_block]; omega)).trans hcx, (hBx.cell (p := a'.add j) (by rw [addr_block]; omega)).trans hcy, (hBx.cell (p := ⟨w.heap.size, q + (c.length + 1) + j + 1, none⟩) hlt).trans hd3⟩
                  clear hv3 hrec
                  obtain ⟨r, hr⟩ : ∃ r : Nat, q + (c.length + 1) = r := ⟨_, rfl⟩
                  rw [hr] at hqi1 hd3 HS hqN2
                  have f1 : IntKind.i64.wrap ((i : Int) + 1) = (i : Int) + 1 := IntWalk.i64_in _ ⟨by omega, by omega⟩
                  have f2 : IntKind.i64.wrap (r : Int) = (r : Int) := IntWalk.i64_in _ ⟨by omega, by omega⟩
                  have f3 : IntKind.i64.wrap ((r : Int) + (j : Int)) = (r : Int) + (j : Int) := IntWalk.i64_in _ ⟨by omega, by omega⟩
                  have f4 : IntKind.i64.wrap ((r : Int) + (j : Int) + 1) = (r : Int) + (j : Int) + 1 := IntWalk.i64_in _ ⟨by omega, by omega⟩
                  have f5 : (r : Int) + (j : Int) + 1 < N := by omega
                  have f6 : 0 ≤ (r : Int) + (j : Int) + 1 := by omega
                  have f7 : ((r : Int) + (j : Int) + 1).toNat = r + j + 1 := by omega
                  clear hr
                  go_wp2
                  go_region_held (fun w' => w'.cell? (a.add i) = some (.string x) ∧ w'.cell? (a'.add j) = some (.string y) ∧ w'.cell? ⟨w.heap.size, r + j + 1, none⟩ = some (.bool true)) (first | exact HS.out _ (Below.refl _ _).drew | exact HS.out _ (by assumption)) ((go_at_call 26; refine (HCM.out _).mono ?_; rintro e w2 ⟨rfl, hB2'⟩; have hB2 : Below wr.heap.size wr w2 := ⟨hB2'.os, hB2'.tape, hB2'.output, hB2'.size, hB2'.block⟩))
                  have hT2 : Pl.Tab w2 w.heap.size N (c.length + 1) (i * (c.length + 1) + (j + 1)) (Pl.tb l.length c.length (pstar l) (psame l c)) := HTK.out.of_block (hB2.block _ HTK.out.lt)
                  have hBw : Below w.heap.size w w2 := hB.trans (hB2.mono hB.size)
                  have HV : Hid (Pl.Tab (w2.setCell ⟨w.heap.size, q + j, none⟩ (.bool (comp x y))) w.heap.size N (c.length + 1) (i * (c.length + 1) + j) (Pl.tb l.length c.length (pstar l) (psame l c))) := by
                    show Pl.Tab _ _ _ _ _ _
                    rw [HREC.out, Hq.out]
                    exact hT2.write (by omega) (by rw [Hq.out]) (by rw [Hq.out]; rfl)
                  have hfz2 : w2.frozen? ⟨w.heap.size, q + j, none⟩ = false := hT2.frozen _
                  obtain ⟨v2, hd2⟩ : ∃ v2, w2.cell? ⟨w.heap.size, q + j, none⟩ = some v2 := ⟨_, hT2.cell (by omega)⟩
                  clear hT2
                  go_wp2
                  go_roundw
                  case rel => exact ⟨j, _, rfl, by omega, by go_num, HV.out, hBw.setCell (Nat.le_refl _) _⟩
                  case measure => simp [RowKit.intOf]
              · have HV : Hid (Pl.Tab (wr.setCell ⟨w.heap.size, q + j, none⟩ (.bool false)) w.heap.size N (c.length + 1) (i * (c.length + 1) + j) (Pl.tb l.length c.length (pstar l) (psame l c))) := HTN.out _ (by rw [hrec, decide_eq_false hjm, Bool.false_and, Bool.false_and])
                obtain rfl : j = c.length := by omega
                have hjj : ¬ ((c.length : Int) < c.length) := by omega
                clear hrec hjm hd1
                go_wp2
                go_quiet (fail)
                go_wp2
                go_roundw
                case rel => exact ⟨c.length, _, rfl, by omega, by go_num, HV.out, (show Below w.heap.size w (wr.drewN _) from ⟨hB.os, hB.tape, hB.output, hB.size, hB.block⟩).setCell (Nat.le_refl _) _⟩
                case measure => simp [RowKit.intOf]
end Go.Proofs.Qxb6602868aDoor
