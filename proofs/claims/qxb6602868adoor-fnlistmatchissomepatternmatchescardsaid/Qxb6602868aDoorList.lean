/-
  List.Match and List.Unmatched, walked.
-/
import Derived.Test.Qxb6602868aDoorComp
import Derived.Test.Qxb6602868aDoorShelf
import Derived.Lib.SplitLaws
namespace Go.Proofs.Qxb6602868aDoor
open Go Go.RowKit Go.PlainAid Go.WideShapes

/-- The pieces of s cut at every slash. -/
def pcs (s : ByteArray) : List ByteArray := Lib.splitB ⟨#[47]⟩ 0 (Lib.countB s ⟨#[47]⟩) s
theorem pcs_len (s : ByteArray) : (pcs s).length = Lib.countB s ⟨#[47]⟩ + 1 := Lib.splitB_all ⟨#[47]⟩ (Nat.le_refl 1) 0 _ _ rfl
theorem split_at (s : ByteArray) (m : Int) (w : World) (hs : s.size < 4294967281) (hm : w.cell? ⟨0, 0, none⟩ = some (.int .i64 m)) :
    Calls Tryd.prog 27 #[.string s, .string ⟨#[47]⟩] w fun e w' =>
      e = .returned (.slice (some ⟨w.heap.size, 0, none⟩) (pcs s).length (pcs s).length) ∧ w' = w.alloc (.cells ((pcs s).map Value.string).toArray 9) := by
  rw [pcs_len]
  exact Tryd.strings_Split s ⟨#[47]⟩ m w hs hm (Nat.le_refl 1)

/-- A pattern as the list holds it. -/
structure Pat where
  tx : ByteArray
  og : ByteArray
  A : Option Addr
  C : Nat
  l : List ByteArray

/-- The list's slice at A holds the patterns ps. -/
def ListAt (w : World) (A : Option Addr) (ps : List Pat) : Prop :=
  ∀ j p, ps[j]? = some p → ∃ g, A = some ⟨g, 0, none⟩ ∧ g < w.heap.size ∧ w.cell? ⟨g, j * 3, none⟩ = some (.string p.tx) ∧ w.cell? ⟨g, j * 3 + 1, none⟩ = some (.string p.og) ∧ w.cell? ⟨g, j * 3 + 2, none⟩ = some (.slice p.A p.l.length p.C) ∧
    StrsAt w p.A p.l ∧ (∀ s ∈ p.l, s.size ≤ 1048576) ∧ p.l.length ≤ 1048576
theorem ListAt.later {w w' : World} {A : Option Addr} {ps : List Pat} {B : Nat} (h : ListAt w A ps) (hb : Below B w w') (hB : B = w.heap.size) : ListAt w' A ps := by
  intro j p hj
  obtain ⟨a, h1, h2, h3, h4, h5, h6, h7⟩ := h j p hj
  have := hb.size
  have hc : ∀ k, w'.cell? ⟨a, k, none⟩ = w.cell? ⟨a, k, none⟩ := fun k => hb.cell (p := ⟨a, k, none⟩) (by show a < B; omega)
  exact ⟨a, h1, by omega, (hc _).trans h3, (hc _).trans h4, (hc _).trans h5, h6.later hb hB, h7⟩

set_option maxHeartbeats 1000000 in
theorem listMatch (ps : List Pat) (A : Option Addr) (C : Nat) (name : ByteArray) (m : Int) (w : World) (hL : ListAt w A ps) (hm : w.cell? ⟨0, 0, none⟩ = some (.int .i64 m)) (hn : name.size ≤ 1048576)
    (hpl : ∀ s ∈ pcs name, s.size ≤ 1048576) (hpn : (pcs name).length ≤ 1048577) (hps : ps.length ≤ 1048576) :
    Calls Tryd.prog 14 #[.slice A ps.length C, .string name] w fun e w' => e = .returned (.bool (ps.any fun p => matchF p.l (pcs name))) ∧ Below w.heap.size w w' := by
  have hsp := split_at name m w (by omega) hm
  go_enter Tryd.func14, Tryd.ntmps14
  go_wp2_with fail
  refine hsp.mono ?_
  rintro e wx ⟨rfl, hwx⟩
  rw [hwx]; clear hwx wx hsp
  obtain ⟨W1, hW1⟩ : ∃ W1, w.alloc (.cells ((pcs name).map Value.string).toArray 9) = W1 := ⟨_, rfl⟩
  have hB1 : Below w.heap.size w W1 := by rw [← hW1]; exact (Below.refl _ _).alloc (Nat.le_refl _) _
  have hcomp : StrsAt W1 (some ⟨w.heap.size, 0, none⟩) (pcs name) := by
    intro j s hj
    refine ⟨_, rfl, by rw [← hW1]; simp, ?_⟩
    rw [← hW1, add_plain, Nat.zero_add, World.cell?_alloc_new]
    simp [hj]
  have hL1 := hL.later hB1 rfl
  rw [hW1]
  obtain ⟨B1, hBB⟩ : ∃ B1, W1.heap.size = B1 := ⟨_, rfl⟩
  have hwB : w.heap.size ≤ B1 := by have := hB1.size; omega
  have HBB : Hid (W1.heap.size = B1) := hBB
  have HL : Hid (ListAt W1 A ps) := hL1
  have HC : Hid (StrsAt W1 (some ⟨w.heap.size, 0, none⟩) (pcs name)) := hcomp
  clear hL hL1 hcomp hW1 hm
  clear hBB
  go_wp2
  go_loopw [12] (fun i wr => ∃ k : Nat, k ≤ ps.length ∧ i = .int .i64 k ∧ (∀ j p, j < k → ps[j]? = some p → matchF p.l (pcs name) = false) ∧ Below B1 W1 wr) (fun i _ => ps.length - (RowKit.intOf i).toNat)
  case atStart => exact ⟨0, Nat.zero_le _, rfl, fun j _ h => absurd h (Nat.not_lt_zero _), Below.refl _ _⟩
  case round =>
    obtain ⟨k, hk, rfl, hno, hBx⟩ := hrel
    have HN : Hid (∀ j p, j < k → ps[j]? = some p → matchF p.l (pcs name) = false) := hno
    clear hno
    by_cases hlt : k < ps.length
    · obtain ⟨p, hp⟩ : ∃ p, ps[k]? = some p := ⟨_, List.getElem?_eq_getElem hlt⟩
      obtain ⟨a, rfl, h2, h3, h4, h5, h6, h7, h8⟩ := (HL.out.later hBx HBB.out.symm) k p hp
      have hz : B1 ≤ wr.heap.size := by have := hBx.size; rw [HBB.out] at this; exact this
      have hBa : Below B1 W1 (wr.alloc (.cells #[.string p.tx, .string p.og, .slice p.A p.l.length p.C] 45)) := hBx.alloc hz _
      have hmt := match_any p.tx p.og p.l (pcs name) p.A (some ⟨w.heap.size, 0, none⟩) p.C (pcs name).length (wr.alloc (.cells #[.string p.tx, .string p.og, .slice p.A p.l.length p.C] 45))
        (h6.later ((Below.refl _ wr).alloc (Nat.le_refl _) _) rfl) (HC.out.later hBa HBB.out.symm) h7 hpl (by omega) (by omega)
      have HP : Hid (ps[k]? = some p) := hp
      clear hp h2 h6 h7
      go_wp2_with fail
      refine hmt.mono ?_
      rintro e w2 ⟨rfl, hB2⟩
      clear hmt
      have hB2' : Below B1 W1 w2 := hBa.trans (hB2.mono (by have := hBa.size; rw [HBB.out] at this; exact this))
      clear hB2 hBa
      cases hq : matchF p.l (pcs name) with
      | true =>
        have HR : Hid ((ps.any fun p => matchF p.l (pcs name)) = true) := List.any_eq_true.2 ⟨p, List.mem_of_getElem? HP.out, hq⟩
        clear hq
        go_wp2
        go_ret
        exact ⟨by rw [HR.out]; rfl, hB1.trans (hB2'.mono hwB)⟩
      | false =>
        have HQ : Hid (matchF p.l (pcs name) = false) := hq
        clear hq
        go_wp2
        go_roundw
        case rel =>
          refine ⟨k + 1, by omega, by go_num, fun j q hj hqj => ?_, hB2'⟩
          by_cases e : j = k
          · subst e
            rw [HP.out] at hqj
            cases hqj
            exact HQ.out
          · exact HN.out j q (by omega) hqj
        case measure => simp [RowKit.intOf]; omega
    · have HR : Hid ((ps.any fun p => matchF p.l (pcs name)) = false) := by
        show _ = _
        rw [List.any_eq_false]
        intro p hp
        obtain ⟨j, hj⟩ := List.mem_iff_getElem?.1 hp
        have hjl := (List.getElem?_eq_some_iff.1 hj).1
        rw [HN.out j p (by omega) hj]
        simp
      go_wp2
      go_ret
      exact ⟨by rw [HR.out]; rfl, hB1.trans (hBx.mono hwB)⟩
end Go.Proofs.Qxb6602868aDoor
