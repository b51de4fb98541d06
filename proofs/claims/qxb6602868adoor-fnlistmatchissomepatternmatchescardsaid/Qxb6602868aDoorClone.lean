/-
  zzCloneStrings, walked: the clone holds the same strings.
-/
import Derived.Test.Qxb6602868aDoorBytes
import Derived.Deep.OwnRows
import Derived.Laws.OwnMore
namespace Go.Proofs.Qxb6602868aDoor
open Go Go.RowKit Go.PlainAid Go.WideShapes

theorem info9 : (Tryd.prog.info? 9).map (fun i => (i.zero, i.size, i.bytes)) = some (some (.string ⟨#[]⟩), 1, 16) := by kernel_rfl
theorem made_row (w : World) (z : Value) (n : Nat) (t : TypeId) : (w.alloc (.cells (madeCells #[z] n) t)).rowIs w.heap.size t n (fun _ => z) := by
  have h := World.rowIs_alloc w (madeCells #[z] n) t (fun _ => z) (fun i hi => by
    rw [size_madeCells] at hi
    have := toList_madeCells_one z n
    rw [← Array.getElem?_toList, this, List.getElem?_replicate, if_pos hi])
  rw [size_madeCells] at h
  exact h

set_option maxHeartbeats 1000000 in
theorem cloneStrings (l : List ByteArray) (A : Option Addr) (C : Nat) (w : World) (hA : StrsAt w A l) (hC : A = none → l = [] ∧ C = 0) (hl : l.length ≤ 1048576) :
    Calls Tryd.prog 19 #[.slice A l.length C] w fun e w' => ∃ A2 C2, e = .returned (.slice A2 l.length C2) ∧ StrsAt w' A2 l ∧ (∀ a, A2 = some a → w.heap.size ≤ a.block) ∧ Below w.heap.size w w' := by
  cases A with
  | none =>
    obtain ⟨rfl, rfl⟩ := hC rfl
    have he : ∀ w : World, (binOp .eql 30 (.slice none 0 0) (.slice none 0 0)).run Tryd.prog w = .ok (.bool true) w := fun _ => rfl
    go_enter Tryd.func19, Tryd.ntmps19
    go_wp2
    go_ret
    exact ⟨none, ⟨0, rfl⟩, hA, (fun _ h => by cases h), Below.refl _ _⟩
  | some a =>
    clear hC
    have he : ∀ w : World, (binOp .eql 30 (.slice (some a) l.length C) (.slice none 0 0)).run Tryd.prog w = .ok (.bool false) w := fun _ => rfl
    have hmk := fun wx => run_make_row' (P := Tryd.prog) 30 9 (.string ⟨#[]⟩) 16 Tryd.underlying30 info9 rfl .i64 .i64 l.length (by omega) (by omega) wx
    have hrow := made_row w (.string ⟨#[]⟩) l.length 9
    have hB0 : Below w.heap.size w (w.alloc (.cells (madeCells #[.string ⟨#[]⟩] l.length) 9)) := (Below.refl _ _).alloc (Nat.le_refl _) _
    have HA : Hid (StrsAt w (some a) l) := hA
    clear hA
    go_enter Tryd.func19, Tryd.ntmps19
    go_wp2
    clear hmk
    go_loopw [4] (fun i wr => ∃ k : Nat, k ≤ l.length ∧ i = .int .i64 k ∧ wr.rowIs w.heap.size 9 l.length (fun j => if j < k then .string (l.getD j two) else .string ⟨#[]⟩) ∧ Below w.heap.size w wr) (fun i _ => l.length - (RowKit.intOf i).toNat)
    case atStart => exact ⟨0, Nat.zero_le _, rfl, hrow.congr (fun i _ => by simp), hB0⟩
    case round =>
      obtain ⟨k, hk, rfl, hr, hBx⟩ := hrel
      clear hrow hB0
      by_cases hlt : k < l.length
      · obtain ⟨s, hs⟩ : ∃ s, l[k]? = some s := ⟨_, List.getElem?_eq_getElem hlt⟩
        obtain ⟨a', ha', hab, hc⟩ := HA.out k s hs
        cases ha'
        have hc' : wr.cell? (a.add k) = some (.string s) := (hBx.cell (p := a.add k) (by rw [addr_block]; exact hab)).trans hc
        have hd := hr.cell hlt
        have hf := hr.frozen k
        have HS : Hid (l.getD k two = s) := by
          show _ = _
          rw [List.getD_eq_getElem?_getD, hs]; rfl
        have hr' := hr.set k (.string s)
        have HR : Hid ((wr.setCell ⟨w.heap.size, k, none⟩ (.string s)).rowIs w.heap.size 9 l.length (fun j => if j < k + 1 then .string (l.getD j two) else .string ⟨#[]⟩)) := hr'.congr (fun i _ => by
          by_cases e : i = k
          · subst e
            rw [if_pos rfl, if_pos (by omega), HS.out]
          · rw [if_neg e]
            by_cases e2 : i < k
            · rw [if_pos e2, if_pos (by omega)]
            · rw [if_neg e2, if_neg (by omega)])
        clear hr hr' hs hc
        go_wp2
        go_roundw
        case rel => exact ⟨k + 1, by omega, by go_num, HR.out, hBx.setCell (Nat.le_refl _) _⟩
        case measure => simp [RowKit.intOf]; omega
      · have HSA : Hid (StrsAt wr (some ⟨w.heap.size, 0, none⟩) l) := by
          show StrsAt _ _ _
          intro j s hj
          have hjl := (List.getElem?_eq_some_iff.1 hj).1
          refine ⟨_, rfl, hr.lt, ?_⟩
          rw [add_plain, Nat.zero_add, hr.cell hjl, if_pos (by omega), List.getD_eq_getElem?_getD, hj]; rfl
        clear hr
        go_wp2
        go_ret
        exact ⟨_, _, rfl, HSA.out, (fun _ h => by cases h; exact Nat.le_refl _), hBx⟩
end Go.Proofs.Qxb6602868aDoor
