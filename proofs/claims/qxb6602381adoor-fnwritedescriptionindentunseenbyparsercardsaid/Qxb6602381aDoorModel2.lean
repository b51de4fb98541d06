/-
  wdModel, walked.
-/
import Derived.Test.Qxb6602381aDoorModel
import Derived.Laws.OwnMore
import Derived.Laws.IdiomStrings
namespace Go.Proofs.Qxb6602381aDoor
open Go Go.RowKit Go.PlainAid

theorem addr_add (g j : Nat) : ((⟨g, 0, none⟩ : Addr).add j) = ⟨g, j, none⟩ := by unfold Addr.add; split <;> simp_all
theorem Row.shape {w : World} {B : Nat} {v : Value} {l : List UInt8} (h : Row w B v l) (hl : l ≠ []) :
    ∃ g cap, v = .slice (some ⟨g, 0, none⟩) l.length cap ∧ B ≤ g ∧ g < w.heap.size ∧ l.length ≤ cap ∧ (∀ j, j < l.length → w.cell? ⟨g, j, none⟩ = (Lib.byteCells l)[j]?) := by
  rcases h.2 with ⟨_, h0⟩ | ⟨g, cap, cur, hv, hB, hg, hn, _⟩
  · exact absurd (List.eq_nil_of_length_eq_zero h0) hl
  · subst hv
    exact ⟨g, cap, rfl, hB, (Array.getElem?_eq_some_iff.1 hg).1, hn, fun j hj => h.cellAt j (by omega)⟩
theorem Row.conv {w : World} {B : Nat} {v : Value} {l : List UInt8} (h : Row w B v l) (hl : l ≠ []) : (convert 29 9 v).run Tryd.prog w = .ok (.string ⟨l.toArray⟩) w := by
  obtain ⟨g, cap, rfl, _, _, _, hc⟩ := h.shape hl
  refine run_convert_bytes_back w 29 9 5 ⟨g, 0, none⟩ cap l Tryd.underlying29 Tryd.underlying5 Tryd.underlying9 (fun j hj => ?_)
  rw [addr_add, hc j hj]
  simp [Lib.byteCells, hj]

/-- Behind an append of a slice that was laid for it. -/
theorem step_lit {W1 w w1 : World} {B1 : Nat} {v v' : Value} {a b : List UInt8} {o : Obj} {m : Nat} {news : List Value} (hB : Below B1 W1 w) (hz : B1 ≤ w.heap.size) (hrow : Row w B1 v a)
    (hown : w1.ownsRow B1 5 1 v' (a.length + m) (Lib.byteCells a ++ news)) (hgrow : (w.alloc o).grownBy w1 v.ownBlock) (hm : m = b.length) (hn : news = Lib.byteCells b) :
    Row w1 B1 v' (a ++ b) ∧ Below B1 W1 w1 ∧ B1 ≤ w1.heap.size := by
  subst hm hn
  have h1 := hgrow.size
  rw [World.size_alloc] at h1
  exact ⟨Row.app hown (by simp) rfl, (hB.alloc hz _).grown hgrow (by simp; omega) (fun j e => (hrow.lt j e).1), by omega⟩
/-- Behind an append of what lay there. -/
theorem step_old {W1 w w1 : World} {B1 : Nat} {v v' : Value} {a b : List UInt8} {m : Nat} {news : List Value} (hB : Below B1 W1 w) (hz : B1 ≤ w.heap.size) (hrow : Row w B1 v a)
    (hown : w1.ownsRow B1 5 1 v' (a.length + m) (Lib.byteCells a ++ news)) (hgrow : w.grownBy w1 v.ownBlock) (hm : m = b.length) (hn : news = Lib.byteCells b) :
    Row w1 B1 v' (a ++ b) ∧ Below B1 W1 w1 ∧ B1 ≤ w1.heap.size := by
  subst hm hn
  have h1 := hgrow.size
  exact ⟨Row.app hown (by simp) rfl, hB.grown hgrow hz (fun j e => (hrow.lt j e).1), by omega⟩
theorem strCells_is (s : ByteArray) : Lib.strCells s = Lib.byteCells s.data.toList := rfl

/-- The cells of a row that lay there. -/
theorem old_cells {B1 ge n : Nat} {W1 w : World} {l : List Value} (hB : Below B1 W1 w) (hg : ge < B1) (h : ∀ j, j < n → W1.cell? ⟨ge, j, none⟩ = l[j]?) (hn : l.length = n := by simp [Lib.byteCells]) :
    ∀ (j : Nat) u, l[j]? = some u → w.cell? ((⟨ge, 0, none⟩ : Addr).add j) = some u := by
  intro j u hj
  rw [addr_add, ← hj, ← h j (by rw [← hn]; exact (List.getElem?_eq_some_iff.1 hj).1)]
  exact hB.cell hg

/-- Does a line begin behind k bytes? -/
def atK (e : List UInt8) (k : Nat) : Bool := if e.take k = [] then true else (e.take k).getLast? == some 10
theorem atK_next {e : List UInt8} {k : Nat} {b : UInt8} (h : e[k]? = some b) : atK e (k + 1) = (b == 10) := by
  unfold atK
  have : e.take (k + 1) = e.take k ++ [b] := by rw [List.take_add_one, h]; rfl
  rw [this, if_neg (by simp), List.getLast?_append]
  rw [Bool.eq_iff_iff]; simp
theorem stream_next (ind : List UInt8) {e : List UInt8} {k : Nat} {b : UInt8} (h : e[k]? = some b) :
    Pl.stream ind true (e.take (k + 1)) = Pl.stream ind true (e.take k) ++ (if b = 10 then [10] else (if atK e k then ind else []) ++ [b]) := by
  have : e.take (k + 1) = e.take k ++ [b] := by rw [List.take_add_one, h]; rfl
  rw [this, Pl.stream_snoc]
  rfl

set_option maxHeartbeats 2000000 in
theorem model_any (t ind : ByteArray) (w : World) (ht : t.size ≤ 1048576) (hi : ind.size ≤ 1048576) :
    Calls Tryd.prog 8 #[.string t, .string ind] w fun e w' => e = .returned (.string ⟨(Pl.wd t.data.toList ind.data.toList).toArray⟩) ∧ Below w.heap.size w w' := by
  by_cases h0 : t.size = 0
  · have hl : t.data.toList = [] := List.eq_nil_of_length_eq_zero (by rw [← Lib.size_eq]; exact h0)
    have h0' : ((t.size : Int) == 0) = true := by rw [h0]; rfl
    have hw : Pl.wd t.data.toList ind.data.toList = [] := by unfold Pl.wd; rw [if_pos hl]
    rw [hw]
    clear hl h0 hw
    go_enter Tryd.func8, Tryd.ntmps8
    go_wp2
    go_ret
    exact ⟨rfl, Below.refl _ _⟩
  · have hne : t.data.toList ≠ [] := fun e => h0 (by rw [Lib.size_eq, e]; rfl)
    have h0' : ((t.size : Int) == 0) = false := beq_eq_false_iff_ne.2 (by omega)
    obtain ⟨i0, hi0, hz0, hz1, hz2⟩ := info_parts info5
    have i1 : (0 : Int) ≤ (t.size : Int) - 1 := by omega
    have i2 : (t.size : Int) - 1 < t.size := by omega
    have i3 : ((t.size : Int) - 1).toNat = t.size - 1 := by omega
    have hb := get_bt t
    have hlt : t.size - 1 < t.size := by omega
    obtain ⟨lst, hlst, hbl⟩ : ∃ c : UInt8, t.data.toList.getLast? = some c ∧ bt t (t.size - 1) = (c.toNat : Int) := by
      refine ⟨t[t.size - 1], ?_, ?_⟩
      · rw [List.getLast?_eq_getElem?, ← Lib.size_eq, List.getElem?_eq_getElem (by rw [← Lib.size_eq]; exact hlt)]; rfl
      · unfold bt; rw [dif_pos hlt]
    have hE := escape_any t w ht
    have hel := (Pl.esc_len t.data.toList).2
    rw [← Lib.size_eq] at hel
    have hene := Pl.esc_ne hne
    have hNl := hasNl t
    have HWD : Hid (Pl.wd t.data.toList ind.data.toList = if Pl.oneLine t.data.toList then ind.data.toList ++ Pl.q3 ++ Pl.esc t.data.toList ++ Pl.q3 ++ [10] else ind.data.toList ++ Pl.q3 ++ [10] ++ Pl.linesOut ind.data.toList (Pl.segs 10 (Pl.esc t.data.toList)) ++ ind.data.toList ++ Pl.q3 ++ [10]) := by
      show _ = _
      unfold Pl.wd; rw [if_neg hne]
    have HL : Hid (t.data.toList.getLast? = some lst) := hlst
    generalize hen : Pl.esc t.data.toList = es at hE hel hene
    have HEN : Hid (Pl.esc t.data.toList = es) := hen
    have hil : ind.data.toList.length = ind.size := (Lib.size_eq ind).symm
    have HIL : Hid (ind.data.toList.length = ind.size) := hil
    clear hen hlst h0 hne hlt hil
    go_enter Tryd.func8, Tryd.ntmps8
    go_wp2_with fail
    refine hE.mono ?_
    rintro r w1 ⟨ve, rfl, hrowE, hBe⟩
    clear hE
    obtain ⟨ge, cape, rfl, hge1, hge2, hcape, hcE⟩ := hrowE.shape hene
    obtain ⟨B1, hB1⟩ : ∃ B1, w1.heap.size = B1 := ⟨_, rfl⟩
    rw [hB1] at hge2
    have hzB : B1 ≤ w1.heap.size := by omega
    have hwB : w.heap.size ≤ B1 := by have := hBe.size; omega
    have hB0 : Below B1 w1 w1 := Below.refl _ _
    clear hB1
    have HNL : Hid (∀ wx, Calls Tryd.prog 16 #[.string t] wx fun e w' => e = .returned (.bool (hasL t.data.toList 10)) ∧ w' = wx) := fun wx => hNl wx ht
    clear hNl
    have key : (Pl.oneLine t.data.toList = true ∧ hasL t.data.toList 10 = false ∧ ((lst.toNat : Int) != 34) = true ∧ ((lst.toNat : Int) != 92) = true) ∨
        (Pl.oneLine t.data.toList = false ∧ (hasL t.data.toList 10 = true ∨ (hasL t.data.toList 10 = false ∧ ((lst.toNat : Int) != 34) = false) ∨ (hasL t.data.toList 10 = false ∧ ((lst.toNat : Int) != 34) = true ∧ ((lst.toNat : Int) != 92) = false))) := by
      have e1 : ∀ n : UInt8, (t.data.toList.getLast? != some n) = ((lst.toNat : Int) != (n.toNat : Int)) := fun n => by
        rw [HL.out, Bool.eq_iff_iff]
        simp only [bne_iff_ne, ne_eq, Option.some.injEq]
        constructor
        · intro h e; exact h (UInt8.toNat_inj.1 (by omega))
        · intro h e; exact h (by rw [e])
      unfold Pl.oneLine
      rw [e1 34, e1 92]
      show (_ ∧ t.data.toList.contains 10 = false ∧ _) ∨ (_ ∧ (t.data.toList.contains 10 = true ∨ (t.data.toList.contains 10 = false ∧ _) ∨ (t.data.toList.contains 10 = false ∧ _)))
      generalize t.data.toList.contains 10 = a
      have e34 : (((34 : UInt8).toNat : Nat) : Int) = 34 := rfl
      have e92 : (((92 : UInt8).toNat : Nat) : Int) = 92 := rfl
      rw [e34, e92]
      generalize ((lst.toNat : Int) != 34) = b
      generalize ((lst.toNat : Int) != 92) = c
      cases a <;> cases b <;> cases c <;> simp
    rcases key with ⟨h1, n1, n2, n3⟩ | ⟨h1, key⟩
    · have hnl := HNL.out
      rw [n1] at hnl
      have HH : Hid (∀ wx, Calls Tryd.prog 16 #[.string t] wx fun e w' => e = .returned (.bool false) ∧ w' = wx) := hnl
      have HR : Hid (Pl.wd t.data.toList ind.data.toList = ind.data.toList ++ Pl.q3 ++ es ++ [34, 34, 34, 10]) := by
        show _ = _
        rw [HWD.out, if_pos h1, HEN.out]; simp [Pl.q3]
      clear hnl n1 h1 HNL HWD
      have hesl : es.length ≤ 2097152 := by omega
      have HES : Hid (es.length ≤ 2097152) := hesl
      have HCE : Hid (∀ j, j < es.length → w1.cell? ⟨ge, j, none⟩ = (Lib.byteCells es)[j]?) := hcE
      clear hcE hesl
      go_wp2_with (first
       | (at_builtin; refine Lib.wpList_append_own_string _ rfl (.tmp 20) (.tmp 21) 29 9 rfl B1 5 i0 Tryd.underlying29 Tryd.underlying9 hi0 hz0 hz1 hz2 (.slice none 0 0) 0 [] rfl (World.ownsRow_nil _ _ _ _) ind rfl (by unfold maxLen; omega) (by omega) hzB ?_; intro v1 w2 hown hgrow _; obtain ⟨R1, b1, z1⟩ := step_old (a := []) (b := ind.data.toList) hB0 hzB (World.ownsRow_nil _ _ _ _) hown hgrow (Lib.size_eq ind) rfl; clear hown hgrow)
       | (at_builtin; refine wpList_append_own _ rfl (.tmp 23) (.tmp 24) 29 rfl B1 5 i0 (.int .u8 0) 1 1 Tryd.underlying29 hi0 hz0 hz1 hz2 rfl (by decide) _ _ _ rfl (R1.alloc _) ⟨w2.heap.size, 0, none⟩ 3 3 (Lib.byteCells [34, 34, 34]) rfl rfl (cells_new _ _ _) (bytes_one _) (by have := HES.out; simp only [List.length_append, HIL.out]; unfold maxLen; simp; omega) (by have := HES.out; simp only [List.length_append, HIL.out]; simp; omega) (by simp; omega) ?_; intro v2 w3 hown hgrow _; obtain ⟨R2, b2, z2⟩ := step_lit (b := [34, 34, 34]) b1 z1 R1 hown hgrow rfl rfl; clear hown hgrow)
       | (go_at_call 16; refine (HH.out _).mono ?_; rintro r wx ⟨rfl, hwx⟩; rw [hwx]; clear hwx wx)
       | (at_builtin; refine wpList_append_own _ rfl (.tmp 37) (.tmp 38) 29 rfl B1 5 i0 (.int .u8 0) 1 1 Tryd.underlying29 hi0 hz0 hz1 hz2 rfl (by decide) _ _ _ rfl R2 ⟨ge, 0, none⟩ es.length cape (Lib.byteCells es) rfl (by simp [Lib.byteCells]) (old_cells b2 hge2 HCE.out) (bytes_one _) (by have := HES.out; simp only [List.length_append, HIL.out]; unfold maxLen; simp; omega) (by have := HES.out; simp only [List.length_append, HIL.out]; simp; omega) z2 ?_; intro v3 w4 hown hgrow _; obtain ⟨R3, b3, z3⟩ := step_old (b := es) b2 z2 R2 hown hgrow rfl rfl; clear hown hgrow)
       | (at_builtin; refine wpList_append_own _ rfl (.tmp 40) (.tmp 41) 29 rfl B1 5 i0 (.int .u8 0) 1 1 Tryd.underlying29 hi0 hz0 hz1 hz2 rfl (by decide) _ _ _ rfl (R3.alloc _) ⟨w4.heap.size, 0, none⟩ 4 4 (Lib.byteCells [34, 34, 34, 10]) rfl rfl (cells_new _ _ _) (bytes_one _) (by have := HES.out; simp only [List.length_append, HIL.out]; unfold maxLen; simp; omega) (by have := HES.out; simp only [List.length_append, HIL.out]; simp; omega) (by simp; omega) ?_; intro v4 w5 hown hgrow _; obtain ⟨R4, b4, z4⟩ := step_lit (b := [34, 34, 34, 10]) b3 z3 R3 hown hgrow rfl rfl; clear hown hgrow; have hconv := Row.conv R4 (by simp)))
      go_ret
      refine ⟨?_, hBe.trans (b4.mono hwB)⟩
      rw [HR.out]
      simp [Pl.q3]
    · have HR : Hid (Pl.wd t.data.toList ind.data.toList = ind.data.toList ++ Pl.q3 ++ [10] ++ Pl.stream ind.data.toList true es ++ [10] ++ ind.data.toList ++ [34, 34, 34, 10]) := by
        show _ = _
        rw [HWD.out, if_neg (by rw [h1]; simp), HEN.out, ← Pl.stream_body]; simp [Pl.q3]
      have HES : Hid (es.length ≤ 2097152) := (by omega : es.length ≤ 2097152)
      have HCE : Hid (∀ j, j < es.length → w1.cell? ⟨ge, j, none⟩ = (Lib.byteCells es)[j]?) := hcE
      have hel' : es.length ≤ 2097152 := HES.out
      have HSL : Hid (∀ k, k ≤ es.length → (Pl.stream ind.data.toList true (es.take k)).length ≤ 2199025352704) := by
        show ∀ k, _
        intro k hk
        have h1 := Pl.stream_len ind.data.toList (es.take k) true
        rw [List.length_take, HIL.out] at h1
        have h2 : min k es.length ≤ 2097152 := by omega
        have h3 := Nat.mul_le_mul h2 (show 1 + ind.size ≤ 1048577 by omega)
        omega
      clear hcE h1 HWD
      obtain ⟨bl, hbl16, key⟩ : ∃ bl, hasL t.data.toList 10 = bl ∧ (bl = true ∨ (bl = false ∧ ((lst.toNat : Int) != 34) = false) ∨ (bl = false ∧ ((lst.toNat : Int) != 34) = true ∧ ((lst.toNat : Int) != 92) = false)) := ⟨_, rfl, key⟩
      have hnl := HNL.out
      rw [hbl16] at hnl
      have HH : Hid (∀ wx, Calls Tryd.prog 16 #[.string t] wx fun e w' => e = .returned (.bool bl) ∧ w' = wx) := hnl
      clear hnl HNL hbl16
      rcases key with rfl | ⟨rfl, n2⟩ | ⟨rfl, n2, n3⟩
      all_goals
       go_wp2_with (first
        | (at_builtin; refine Lib.wpList_append_own_string _ rfl (.tmp 20) (.tmp 21) 29 9 rfl B1 5 i0 Tryd.underlying29 Tryd.underlying9 hi0 hz0 hz1 hz2 (.slice none 0 0) 0 [] rfl (World.ownsRow_nil _ _ _ _) ind rfl (by unfold maxLen; omega) (by omega) hzB ?_; intro v1 w2 hown hgrow _; obtain ⟨R1, b1, z1⟩ := step_old (a := []) (b := ind.data.toList) hB0 hzB (World.ownsRow_nil _ _ _ _) hown hgrow (Lib.size_eq ind) rfl; clear hown hgrow)
        | (at_builtin; refine wpList_append_own _ rfl (.tmp 23) (.tmp 24) 29 rfl B1 5 i0 (.int .u8 0) 1 1 Tryd.underlying29 hi0 hz0 hz1 hz2 rfl (by decide) _ _ _ rfl (R1.alloc _) ⟨w2.heap.size, 0, none⟩ 3 3 (Lib.byteCells [34, 34, 34]) rfl rfl (cells_new _ _ _) (bytes_one _) (by simp only [List.length_append, HIL.out]; unfold maxLen; simp; omega) (by simp only [List.length_append, HIL.out]; simp; omega) (by simp; omega) ?_; intro v2 w3 hown hgrow _; obtain ⟨R2, b2, z2⟩ := step_lit (b := [34, 34, 34]) b1 z1 R1 hown hgrow rfl rfl; clear hown hgrow)
        | (go_at_call 16; refine (HH.out _).mono ?_; rintro r wx ⟨rfl, hwx⟩; rw [hwx]; clear hwx wx)
        | (at_builtin; refine wpList_append_own _ rfl (.tmp 45) (.tmp 46) 29 rfl B1 5 i0 (.int .u8 0) 1 1 Tryd.underlying29 hi0 hz0 hz1 hz2 rfl (by decide) _ _ _ rfl (R2.alloc _) ⟨w3.heap.size, 0, none⟩ 1 1 (Lib.byteCells [10]) rfl rfl (cells_new _ _ _) (bytes_one _) (by simp only [List.length_append, HIL.out]; unfold maxLen; simp; omega) (by simp only [List.length_append, HIL.out]; simp; omega) (by simp; omega) ?_; intro v3 w4 hown hgrow _; obtain ⟨R3, b3, z3⟩ := step_lit (b := [10]) b2 z2 R2 hown hgrow rfl rfl; clear hown hgrow))
       clear HH R1 b1 z1 R2 b2 z2
       go_loopw [7, 8, 9] (fun v a i wr => ∃ k : Nat, k ≤ es.length ∧ i = .int .i64 k ∧ a = .bool (atK es k) ∧ Row wr B1 v (ind.data.toList ++ Pl.q3 ++ [10] ++ Pl.stream ind.data.toList true (es.take k)) ∧ Below B1 w1 wr ∧ B1 ≤ wr.heap.size) (fun _ _ i _ => es.length - (RowKit.intOf i).toNat)
       case atStart => exact ⟨0, Nat.zero_le _, rfl, rfl, by simpa [Pl.q3, Pl.stream] using R3, b3, z3⟩
       case round =>
         obtain ⟨k, hk, rfl, rfl, hR, hB, hz⟩ := hrel
         have hal : (ind.data.toList ++ Pl.q3 ++ [10] ++ Pl.stream ind.data.toList true (es.take k)).length ≤ 2199026401284 := by
           have h1 := HSL.out k hk
           have h2 := HIL.out
           simp only [List.length_append, List.length_cons, List.length_nil, show Pl.q3.length = 3 from rfl]
           omega
         generalize hacc : ind.data.toList ++ Pl.q3 ++ [10] ++ Pl.stream ind.data.toList true (es.take k) = ak at hR hal
         have HAK : Hid (ind.data.toList ++ Pl.q3 ++ [10] ++ Pl.stream ind.data.toList true (es.take k) = ak) := hacc
         clear hacc R3 b3 z3
         by_cases hlt : k < es.length
         · obtain ⟨c, hc⟩ : ∃ c, es[k]? = some c := ⟨_, List.getElem?_eq_getElem hlt⟩
           have hcell : wr.cell? ⟨ge, k, none⟩ = some (.int .u8 (c.toNat : Int)) := by
             rw [hB.cell (p := ⟨ge, k, none⟩) hge2, HCE.out k hlt]
             simp [Lib.byteCells, hc]
           have HN : Hid (ind.data.toList ++ Pl.q3 ++ [10] ++ Pl.stream ind.data.toList true (es.take (k + 1)) = ak ++ (if c = 10 then [10] else (if atK es k then ind.data.toList else []) ++ [c])) := by
             show _ = _
             rw [stream_next _ hc, ← HAK.out]
             simp only [List.append_assoc]
           have HA : Hid (atK es (k + 1) = (c == 10)) := atK_next hc
           clear hc
           by_cases h10 : c = 10
           · subst h10
             have hd : (((10 : UInt8).toNat : Int) == 10) = true := rfl
             rw [show (((10 : UInt8).toNat : Nat) : Int) = 10 from rfl] at hcell
             go_wp2_with (at_builtin; refine wpList_append_own _ rfl (.tmp 59) (.tmp 60) 29 rfl B1 5 i0 (.int .u8 0) 1 1 Tryd.underlying29 hi0 hz0 hz1 hz2 rfl (by decide) _ _ _ rfl (hR.alloc _) ⟨wr.heap.size, 0, none⟩ 1 1 (Lib.byteCells [10]) rfl rfl (cells_new _ _ _) (bytes_one _) (by unfold maxLen; first | omega | (simp only [List.length_append, List.length_cons, List.length_nil, HIL.out]; omega)) (by first | omega | (simp only [List.length_append, List.length_cons, List.length_nil, HIL.out]; omega)) (by simp; omega) ?_; intro v5 w6 hown hgrow _; obtain ⟨R5, b5, z5⟩ := step_lit (b := [10]) hB hz hR hown hgrow rfl rfl; clear hown hgrow)
             go_roundw
             case rel => exact ⟨k + 1, by omega, by go_num, by rw [HA.out]; rfl, by rw [HN.out, if_pos rfl]; exact R5, b5, z5⟩
             case measure => simp [RowKit.intOf]; omega
           · have hd : ((c.toNat : Int) == 10) = false := beq_eq_false_iff_ne.2 (fun e => h10 (UInt8.toNat_inj.1 (by rw [show (10 : UInt8).toNat = 10 from rfl]; omega)))
             have HA' : Hid (atK es (k + 1) = false) := by
               show _ = _
               rw [HA.out]; exact beq_eq_false_iff_ne.2 h10
             have HN' : Hid (ind.data.toList ++ Pl.q3 ++ [10] ++ Pl.stream ind.data.toList true (es.take (k + 1)) = ak ++ (if atK es k then ind.data.toList else []) ++ [c]) := by
               show _ = _
               rw [HN.out, if_neg h10]; simp only [List.append_assoc]
             clear h10 HN HA
             cases hat : atK es k with
             | true =>
               rw [hat, if_pos rfl] at HN'
               clear hat
               go_wp2_with (first
                | (at_builtin; refine Lib.wpList_append_own_string _ rfl (.tmp 63) (.tmp 64) 29 9 rfl B1 5 i0 Tryd.underlying29 Tryd.underlying9 hi0 hz0 hz1 hz2 _ _ _ rfl hR ind rfl (by unfold maxLen; first | omega | (simp only [List.length_append, List.length_cons, List.length_nil, HIL.out]; omega)) (by first | omega | (simp only [List.length_append, List.length_cons, List.length_nil, HIL.out]; omega)) hz ?_; intro v5 w6 hown hgrow _; obtain ⟨R5, b5, z5⟩ := step_old (b := ind.data.toList) hB hz hR hown hgrow (Lib.size_eq ind) rfl; clear hown hgrow; have hcell6 := (b5.cell (p := ⟨ge, k, none⟩) hge2).trans ((hB.cell (p := ⟨ge, k, none⟩) hge2).symm.trans hcell))
                | (at_builtin; refine wpList_append_own _ rfl (.tmp 66) (.tmp 71) 29 rfl B1 5 i0 (.int .u8 0) 1 1 Tryd.underlying29 hi0 hz0 hz1 hz2 rfl (by decide) _ _ _ rfl (R5.alloc _) ⟨w6.heap.size, 0, none⟩ 1 1 [.int .u8 (c.toNat : Int)] rfl rfl (cells_new _ _ _) (by simp [Value.oneCell']) (by unfold maxLen; first | omega | (simp only [List.length_append, HIL.out]; omega)) (by first | omega | (simp only [List.length_append, HIL.out]; omega)) (by simp; omega) ?_; intro v6 w7 hown hgrow _; obtain ⟨R6, b6, z6⟩ := step_lit (b := [c]) b5 z5 R5 hown hgrow rfl rfl; clear hown hgrow))
               go_roundw
               case rel => exact ⟨k + 1, by omega, by go_num, by rw [HA'.out], by rw [HN'.out]; exact R6, b6, z6⟩
               case measure => simp [RowKit.intOf]; omega
             | false =>
               rw [hat, if_neg (by simp), List.append_nil] at HN'
               clear hat
               go_wp2_with (at_builtin; refine wpList_append_own _ rfl (.tmp 66) (.tmp 71) 29 rfl B1 5 i0 (.int .u8 0) 1 1 Tryd.underlying29 hi0 hz0 hz1 hz2 rfl (by decide) _ _ _ rfl (hR.alloc _) ⟨wr.heap.size, 0, none⟩ 1 1 [.int .u8 (c.toNat : Int)] rfl rfl (cells_new _ _ _) (by simp [Value.oneCell']) (by unfold maxLen; first | omega | (simp only [List.length_append, List.length_cons, List.length_nil, HIL.out]; omega)) (by first | omega | (simp only [List.length_append, List.length_cons, List.length_nil, HIL.out]; omega)) (by simp; omega) ?_; intro v6 w7 hown hgrow _; obtain ⟨R6, b6, z6⟩ := step_lit (b := [c]) hB hz hR hown hgrow rfl rfl; clear hown hgrow)
               go_roundw
               case rel => exact ⟨k + 1, by omega, by go_num, by rw [HA'.out], by rw [HN'.out]; exact R6, b6, z6⟩
               case measure => simp [RowKit.intOf]; omega
         · go_wp2_with (first
            | (at_builtin; refine wpList_append_own _ rfl (.tmp 73) (.tmp 74) 29 rfl B1 5 i0 (.int .u8 0) 1 1 Tryd.underlying29 hi0 hz0 hz1 hz2 rfl (by decide) _ _ _ rfl (hR.alloc _) ⟨wr.heap.size, 0, none⟩ 1 1 (Lib.byteCells [10]) rfl rfl (cells_new _ _ _) (bytes_one _) (by unfold maxLen; first | omega | (simp only [List.length_append, List.length_cons, List.length_nil, HIL.out]; omega)) (by first | omega | (simp only [List.length_append, List.length_cons, List.length_nil, HIL.out]; omega)) (by simp; omega) ?_; intro v5 w6 hown hgrow _; obtain ⟨R5, b5, z5⟩ := step_lit (b := [10]) hB hz hR hown hgrow rfl rfl; clear hown hgrow)
            | (at_builtin; refine Lib.wpList_append_own_string _ rfl (.tmp 76) (.tmp 77) 29 9 rfl B1 5 i0 Tryd.underlying29 Tryd.underlying9 hi0 hz0 hz1 hz2 _ _ _ rfl R5 ind rfl (by unfold maxLen; first | omega | (simp only [List.length_append, List.length_cons, List.length_nil]; omega)) (by first | omega | (simp only [List.length_append, List.length_cons, List.length_nil]; omega)) z5 ?_; intro v6 w7 hown hgrow _; obtain ⟨R6, b6, z6⟩ := step_old (b := ind.data.toList) b5 z5 R5 hown hgrow (Lib.size_eq ind) rfl; clear hown hgrow)
            | (at_builtin; refine wpList_append_own _ rfl (.tmp 79) (.tmp 80) 29 rfl B1 5 i0 (.int .u8 0) 1 1 Tryd.underlying29 hi0 hz0 hz1 hz2 rfl (by decide) _ _ _ rfl (R6.alloc _) ⟨w7.heap.size, 0, none⟩ 4 4 (Lib.byteCells [34, 34, 34, 10]) rfl rfl (cells_new _ _ _) (bytes_one _) (by unfold maxLen; first | omega | (simp only [List.length_append, List.length_cons, List.length_nil, HIL.out]; omega)) (by first | omega | (simp only [List.length_append, List.length_cons, List.length_nil, HIL.out]; omega)) (by simp; omega) ?_; intro v7 w8 hown hgrow _; obtain ⟨R7, b7, z7⟩ := step_lit (b := [34, 34, 34, 10]) b6 z6 R6 hown hgrow rfl rfl; clear hown hgrow; have hconv := Row.conv R7 (by simp)))
           go_ret
           refine ⟨?_, hBe.trans (b7.mono hwB)⟩
           have hfull : es.take k = es := List.take_of_length_le (by omega)
           rw [HR.out, ← HAK.out, hfull]
           simp
end Go.Proofs.Qxb6602381aDoor
