/-
  writeDescription and ZZWriteDescription, walked: the builder holds what it held and, behind it, Pl.wd of the text and the indent.
-/
import Derived.Test.Qxb6602381aDoorShelf
import Derived.Test.Qxb6602381aDoorPlain
import Derived.WalkKit
import Derived.WalkLawsBesides
import Derived.Handy
import Derived.PlainAid
import Derived.Lib.SmallJoins
import Derived.WalkSmall
namespace Go.Proofs.Qxb6602381aDoor
open Go Go.RowKit Go.PlainAid

theorem ret_bool {a b : Bool} (h : a = b) : Ending.returned (.bool a) = .returned (.bool b) := by rw [h]

/-- The builder at block b, from base B on, holds the bytes l. -/
abbrev Bld (B b : Nat) (l : List UInt8) (w : World) : Prop := Lib.IsBuilderF 31 5 B b (Lib.byteCells l) w

theorem ownsRowF_later {w w' : World} {B : Nat} {e : TypeId} {v : Value} {n : Nat} {xs : List Value} (h : w.ownsRowF B e 1 v n xs) (hb : Below w.heap.size w w') : w'.ownsRowF B e 1 v n xs := by
  refine ⟨h.1, ?_⟩
  rcases h.2 with hn | ⟨g, cap, cur, fz, hv, hB, hg, rest⟩
  · exact .inl hn
  · exact .inr ⟨g, cap, cur, fz, hv, hB, (hb.block g (Array.getElem?_eq_some_iff.1 hg).1).trans hg, rest⟩
theorem bldAt_later {w w' : World} {B b : Nat} {p : Value} {bs : List Value} (h : Lib.BuilderAtF 31 5 B b p bs w) (hb : Below w.heap.size w w') : Lib.BuilderAtF 31 5 B b p bs w' := by
  obtain ⟨h1, v, h2, h3, h4⟩ := h
  exact ⟨h1, v, (hb.block b (Array.getElem?_eq_some_iff.1 h2).1).trans h2, ownsRowF_later h3 hb, h4⟩
theorem Bld.later {w w' : World} {B b : Nat} {l : List UInt8} (h : Bld B b l w) (hb : Below w.heap.size w w') : Bld B b l w' :=
  h.elim (fun x => .inl (bldAt_later x hb)) (fun x => .inr (bldAt_later x hb))
theorem Bld.lt {w : World} {B b : Nat} {l : List UInt8} (h : Bld B b l w) : B ≤ b ∧ b < w.heap.size := by
  rcases h with ⟨h1, v, h2, _⟩ | ⟨h1, v, h2, _⟩
  · exact ⟨h1, (Array.getElem?_eq_some_iff.1 h2).1⟩
  · exact ⟨h1, (Array.getElem?_eq_some_iff.1 h2).1⟩

theorem ws (B b : Nat) (acc : List UInt8) (s : ByteArray) (w : World) (h : Bld B b acc w) (hlen : acc.length + s.size ≤ 140737488355328) :
    Calls Tryd.prog 12 #[.pointer (some ⟨b, 0, none⟩), .string s] w fun e w' => e = .returned (.tuple #[.int .i64 s.size, .nilIface]) ∧ Bld B b (acc ++ s.data.toList) w' ∧ Below B w w' ∧ Lib.OthersKept 5 (some b) w w' := by
  refine (Tryd.Builder_WriteString_k B b (Lib.byteCells acc) s w h (by rw [Lib.byteCells_length]; exact hlen) (by have := h.lt; omega)).mono ?_
  rintro e w' ⟨rfl, h1, h2, h3⟩
  refine ⟨rfl, .inr ?_, h2, h3⟩
  have e1 : Lib.byteCells acc ++ Lib.strCells s = Lib.byteCells (acc ++ s.data.toList) := by simp [Lib.byteCells, Lib.strCells]
  rw [← e1]
  exact h1

/-- The pieces of s cut at every c. -/
def pcs (c : UInt8) (s : ByteArray) : List ByteArray := Lib.splitB ⟨#[c]⟩ 0 (Lib.countB s ⟨#[c]⟩) s
theorem pcs_len (c : UInt8) (s : ByteArray) : (pcs c s).length = Lib.countB s ⟨#[c]⟩ + 1 := Lib.splitB_all ⟨#[c]⟩ (Nat.le_refl 1) 0 _ _ rfl
theorem pcs_segs (c : UInt8) (s : ByteArray) : (pcs c s).map (·.data.toList) = Pl.segs c s.data.toList := by
  unfold pcs
  rw [Lib.splitB_data]
  exact Pl.split_segs c s.data.toList
theorem split_at (c : UInt8) (s : ByteArray) (m : Int) (w : World) (hs : s.size < 4294967281) (hm : w.cell? ⟨0, 0, none⟩ = some (.int .i64 m)) :
    Calls Tryd.prog 22 #[.string s, .string ⟨#[c]⟩] w fun e w' =>
      e = .returned (.slice (some ⟨w.heap.size, 0, none⟩) (pcs c s).length (pcs c s).length) ∧ w' = w.alloc (.cells ((pcs c s).map Value.string).toArray 9) := by
  rw [pcs_len]
  exact Tryd.strings_Split s ⟨#[c]⟩ m w hs hm (Nat.le_refl 1)

theorem contains_nl (l : List UInt8) (c : UInt8) : decide (0 ≤ Lib.indexByte l c) = l.contains c := by
  rw [Bool.eq_iff_iff, decide_eq_true_iff, List.contains_iff_mem]
  have hge := Lib.indexByte_ge l c
  constructor
  · intro h
    obtain ⟨i, hi⟩ : ∃ i : Nat, Lib.indexByte l c = i := ⟨(Lib.indexByte l c).toNat, by omega⟩
    exact List.mem_of_getElem? (Lib.indexByte_some hi).1
  · intro h
    apply Classical.byContradiction
    intro hn
    obtain ⟨j, hj⟩ := List.mem_iff_getElem?.1 h
    exact Lib.indexByte_none (by omega) j hj
theorem suffix_one (l : List UInt8) (c : UInt8) : Lib.hasSuffix l [c] = (l.getLast? == some c) := by
  unfold Lib.hasSuffix
  rcases List.eq_nil_or_concat l with rfl | ⟨l', z, rfl⟩
  · rfl
  · rw [List.concat_eq_append, List.getLast?_append, Bool.eq_iff_iff, List.isSuffixOf_iff_suffix]
    simp only [List.getLast?_singleton, Option.some_or, beq_iff_eq, Option.some.injEq]
    constructor
    · rintro ⟨r, hr⟩
      have := congrArg List.getLast? hr
      simpa using this.symm
    · rintro rfl
      exact ⟨l', rfl⟩

theorem sz3 : (⟨#[34, 34, 34]⟩ : ByteArray).size = 3 := rfl
theorem sz1 : (⟨#[10]⟩ : ByteArray).size = 1 := rfl

/-- The lengths. -/
theorem linesOut_len (ind : List UInt8) : ∀ ls : List (List UInt8), (Pl.linesOut ind ls).length ≤ ls.length * (ind.length + 1) + (ls.map List.length).sum
  | [] => Nat.zero_le _
  | h :: t => by
    have ih := linesOut_len ind t
    rw [Pl.linesOut_cons, List.length_append, List.length_cons, Nat.succ_mul, List.map_cons, List.sum_cons]
    have : (Pl.lineOut ind h).length ≤ ind.length + 1 + h.length := by
      unfold Pl.lineOut
      split
      · simp; omega
      · simp only [List.length_append, List.length_cons, List.length_nil]; omega
    omega
theorem segs_sum (c : UInt8) : ∀ l : List UInt8, ((Pl.segs c l).map List.length).sum ≤ l.length ∧ (Pl.segs c l).length ≤ l.length + 1
  | [] => ⟨Nat.le_refl _, Nat.le_refl _⟩
  | b :: l => by
    have ih := segs_sum c l
    by_cases hb : b = c
    · subst hb
      have e2 : Pl.segs b (b :: l) = [] :: Pl.segs b l := by simp [Pl.segs]
      rw [e2]
      simp only [List.map_cons, List.sum_cons, List.length_nil, List.length_cons]
      omega
    · cases e : Pl.segs c l with
      | nil => exact absurd e (Pl.segs_ne c l)
      | cons h t =>
        rw [Pl.segs_cons_ne hb e]
        rw [e] at ih
        simp only [List.map_cons, List.sum_cons, List.length_cons] at ih ⊢
        omega
theorem sum_take_le (l : List Nat) (k : Nat) : (l.take k).sum ≤ l.sum := by
  have := congrArg List.sum (List.take_append_drop k l)
  rw [List.sum_append] at this
  omega
theorem le_sum_of_mem : ∀ {l : List Nat} {n : Nat}, n ∈ l → n ≤ l.sum
  | a :: l, n, h => by
    rw [List.sum_cons]
    rcases List.mem_cons.1 h with rfl | h
    · omega
    · have := le_sum_of_mem h
      omega
theorem lines_take_len (ind e : List UInt8) (k : Nat) (he : e.length ≤ 2097152) (hi : ind.length ≤ 1048576) : (Pl.linesOut ind ((Pl.segs 10 e).take k)).length ≤ 8796093022208 := by
  have h1 := linesOut_len ind ((Pl.segs 10 e).take k)
  have h2 := segs_sum 10 e
  have h3 : ((Pl.segs 10 e).take k).length ≤ 2097153 := by rw [List.length_take]; omega
  have h4 : (((Pl.segs 10 e).take k).map List.length).sum ≤ 2097152 := by
    rw [List.map_take]
    have := sum_take_le ((Pl.segs 10 e).map List.length) k
    omega
  have h5 := Nat.mul_le_mul h3 (show ind.length + 1 ≤ 1048577 by omega)
  omega
theorem linesOut_snoc (ind : List UInt8) (ls : List (List UInt8)) (x : List UInt8) : Pl.linesOut ind (ls ++ [x]) = Pl.linesOut ind ls ++ Pl.lineOut ind x := by simp [Pl.linesOut]

set_option maxHeartbeats 1000000 in
theorem write_any (B b : Nat) (acc : List UInt8) (t ind : ByteArray) (m : Int) (w : World) (hb : Bld B b acc w) (hm : w.cell? ⟨0, 0, none⟩ = some (.int .i64 m)) (hB0 : 0 < B)
    (ht : t.size ≤ 1048576) (hi : ind.size ≤ 1048576) (ha : acc.length ≤ 1048576) :
    Calls Tryd.prog 13 #[.pointer (some ⟨b, 0, none⟩), .string t, .string ind] w fun e w' => e = .returned (.tuple #[]) ∧ Bld B b (acc ++ Pl.wd t.data.toList ind.data.toList) w' ∧ Below B w w' := by
  by_cases h0 : t.data.toList = []
  · have h0' : t.toList.isEmpty = true := by rw [Lib.toList_data, h0]; rfl
    have hw : Pl.wd t.data.toList ind.data.toList = [] := by unfold Pl.wd; rw [if_pos h0]
    rw [hw, List.append_nil]
    clear h0 hw
    go_enter Tryd.func13, Tryd.ntmps13
    go_wp2
    refine bodyPost_ret (results_none rfl _ _ _) rfl ?_
    exact ⟨rfl, hb, Below.refl _ _⟩
  · have h0' : t.toList.isEmpty = false := by rw [Lib.toList_data]; simpa using h0
    have hcl := Lib.countB_le ⟨#[34, 34, 34]⟩ (by decide) _ t (Nat.le_refl _)
    have hR := Tryd.strings_ReplaceAll t ⟨#[34, 34, 34]⟩ ⟨#[92, 34, 34, 34]⟩ m w (by omega) hm (by decide) (by
      have : (⟨#[92, 34, 34, 34]⟩ : ByteArray).size = 4 := rfl
      rw [this]; omega)
    rw [show (⟨#[34, 34, 34]⟩ : ByteArray).data.toList = Pl.q3 from rfl, show (⟨#[92, 34, 34, 34]⟩ : ByteArray).data.toList = [92, 34, 34, 34] from rfl, Pl.replaceAll_esc] at hR
    have hel := (Pl.esc_len t.data.toList).2
    rw [← Lib.size_eq] at hel
    obtain ⟨E, hE⟩ : ∃ E : ByteArray, E = ⟨(Pl.esc t.data.toList).toArray⟩ := ⟨_, rfl⟩
    have hEd : E.data.toList = Pl.esc t.data.toList := by rw [hE]
    rw [← hE] at hR
    have hEs : E.size ≤ 2097152 := by rw [Lib.size_eq, hEd]; omega
    have hC : ∀ wx, Calls Tryd.prog 20 #[.string E, .string ⟨#[10]⟩] wx fun e w' => e = .returned (.bool (t.data.toList.contains 10)) ∧ w' = wx := fun wx => by
      have := Tryd.strings_Contains_one E 10 wx
      rw [contains_nl, hEd, Pl.esc_nl] at this
      exact this
    have hS : ∀ (c : UInt8) wx, Calls Tryd.prog 21 #[.string E, .string ⟨#[c]⟩] wx fun e w' => e = .returned (.bool (t.data.toList.getLast? == some c)) ∧ w' = wx := fun c wx => by
      have := Tryd.strings_HasSuffix E ⟨#[c]⟩ wx (by omega)
      rw [show (⟨#[c]⟩ : ByteArray).data.toList = [c] from rfl, suffix_one, hEd, Pl.esc_last] at this
      exact this
    have HED : Hid (E.data.toList = Pl.esc t.data.toList) := hEd
    have hwd : Pl.wd t.data.toList ind.data.toList = if Pl.oneLine t.data.toList then ind.data.toList ++ Pl.q3 ++ Pl.esc t.data.toList ++ Pl.q3 ++ [10] else ind.data.toList ++ Pl.q3 ++ [10] ++ Pl.linesOut ind.data.toList (Pl.segs 10 (Pl.esc t.data.toList)) ++ ind.data.toList ++ Pl.q3 ++ [10] := by
      unfold Pl.wd; rw [if_neg h0]
    clear hE hEd hel hcl h0
    have hiL : ind.data.toList.length = ind.size := (Lib.size_eq ind).symm
    cases h1 : Pl.oneLine t.data.toList with
    | true =>
      rw [h1, if_pos rfl] at hwd
      rw [hwd]
      unfold Pl.oneLine at h1
      rw [Bool.and_eq_true, Bool.and_eq_true, Bool.not_eq_true'] at h1
      obtain ⟨n1, n2, n3⟩ := h1
      have n2' : (t.data.toList.getLast? == some 34) = false := by rw [beq_eq_false_iff_ne]; exact bne_iff_ne.1 n2
      have n3' : (t.data.toList.getLast? == some 92) = false := by rw [beq_eq_false_iff_ne]; exact bne_iff_ne.1 n3
      rw [n1] at hC
      have hS34 := hS 34
      have hS92 := hS 92
      rw [n2'] at hS34
      rw [n3'] at hS92
      have HC : Hid (∀ wx, Calls Tryd.prog 20 #[.string E, .string ⟨#[10]⟩] wx fun e w' => e = .returned (.bool false) ∧ w' = wx) := hC
      have H34 : Hid (∀ wx, Calls Tryd.prog 21 #[.string E, .string ⟨#[34]⟩] wx fun e w' => e = .returned (.bool false) ∧ w' = wx) := hS34
      have H92 : Hid (∀ wx, Calls Tryd.prog 21 #[.string E, .string ⟨#[92]⟩] wx fun e w' => e = .returned (.bool false) ∧ w' = wx) := hS92
      clear hC hS34 hS92 hS hwd n1 n2 n3 n2' n3' hiL
      go_enter Tryd.func13, Tryd.ntmps13
      go_wp2_with fail
      refine hR.mono ?_
      rintro e w1 ⟨rfl, hb1⟩
      have hb' := hb.later hb1
      have hbl := hb.lt
      clear hR
      go_wp2_with fail
      refine (HC.out _).mono ?_
      rintro e wx ⟨rfl, hwx⟩
      rw [hwx]; clear hwx wx
      go_wp2_with fail
      refine (H34.out _).mono ?_
      rintro e wx ⟨rfl, hwx⟩
      rw [hwx]; clear hwx wx
      go_wp2_with fail
      refine (H92.out _).mono ?_
      rintro e wx ⟨rfl, hwx⟩
      rw [hwx]; clear hwx wx
      go_wp2_with fail
      refine (ws B b acc _ _ hb' (by simp only [ByteArray.size_append, sz3, sz1]; omega)).mono ?_
      rintro e w2 ⟨rfl, hb2, hbB, _⟩
      go_wp2
      refine bodyPost_ret (results_none rfl _ _ _) rfl ?_
      refine ⟨rfl, ?_, (hb1.mono (by omega)).trans hbB⟩
      simp only [Joins.data_append, HED.out] at hb2
      simpa [Pl.q3] using hb2
    | false =>
      rw [h1, if_neg (by simp)] at hwd
      rw [hwd]
      have HC : Hid (∀ wx, Calls Tryd.prog 20 #[.string E, .string ⟨#[10]⟩] wx fun e w' => e = .returned (.bool (t.data.toList.contains 10)) ∧ w' = wx) := hC
      have HS : Hid (∀ (c : UInt8) wx, Calls Tryd.prog 21 #[.string E, .string ⟨#[c]⟩] wx fun e w' => e = .returned (.bool (t.data.toList.getLast? == some c)) ∧ w' = wx) := hS
      have H1 : Hid (Pl.oneLine t.data.toList = false) := h1
      have hsg := pcs_segs 10 E
      rw [HED.out] at hsg
      have hpl := (segs_sum 10 (Pl.esc t.data.toList)).2
      have hll : (pcs 10 E).length = (Pl.segs 10 (Pl.esc t.data.toList)).length := by rw [← hsg]; simp
      have hel2 : (Pl.esc t.data.toList).length ≤ 2097152 := by rw [← HED.out, ← Lib.size_eq]; exact hEs
      have hln : (pcs 10 E).length ≤ 2097153 := by omega
      have htl := fun k => lines_take_len ind.data.toList (Pl.esc t.data.toList) k hel2 (by omega)
      have HTL : Hid (∀ k, (Pl.linesOut ind.data.toList ((Pl.segs 10 (Pl.esc t.data.toList)).take k)).length ≤ 8796093022208) := htl
      have HSG : Hid ((pcs 10 E).map (·.data.toList) = Pl.segs 10 (Pl.esc t.data.toList)) := hsg
      have HIL : Hid (ind.data.toList.length = ind.size) := hiL
      clear hC hS h1 hwd hsg hpl hll htl hel2 hiL
      have hbl := hb.lt
      go_enter Tryd.func13, Tryd.ntmps13
      go_wp2_with fail
      refine hR.mono ?_
      rintro e w1 ⟨rfl, hb1⟩
      have hb' := hb.later hb1
      have hm1 : w1.cell? ⟨0, 0, none⟩ = some (.int .i64 m) := (hb1.cell (p := ⟨0, 0, none⟩) (by show 0 < w.heap.size; omega)).trans hm
      clear hR
      go_wp2_with fail
      refine (HC.out _).mono ?_
      rintro e wx ⟨rfl, hwx⟩
      rw [hwx]; clear hwx wx
      have key : t.data.toList.contains 10 = true ∨ (t.data.toList.contains 10 = false ∧ (t.data.toList.getLast? == some 34) = true) ∨ (t.data.toList.contains 10 = false ∧ (t.data.toList.getLast? == some 34) = false ∧ (t.data.toList.getLast? == some 92) = true) := by
        have h := H1.out
        unfold Pl.oneLine at h
        cases e1 : t.data.toList.contains 10 with
        | true => exact .inl rfl
        | false =>
          cases e2 : (t.data.toList.getLast? == some 34) with
          | true => exact .inr (.inl ⟨rfl, rfl⟩)
          | false =>
            refine .inr (.inr ⟨rfl, rfl, ?_⟩)
            rw [e1] at h
            have e2' : (t.data.toList.getLast? != some 34) = true := by rw [bne_iff_ne]; exact beq_eq_false_iff_ne.1 e2
            rw [e2'] at h
            simpa using h
      rcases key with n1 | ⟨n1, n2⟩ | ⟨n1, n2, n3⟩
      case' inl =>
        rw [n1]
        clear n1
        go_wp2_with fail
      case' inr.inl =>
        rw [n1]
        have h34 := HS.out 34
        rw [n2] at h34
        clear n1 n2
        go_wp2_with fail
        refine (h34 _).mono ?_
        rintro e wx ⟨rfl, hwx⟩
        rw [hwx]; clear hwx wx h34
        go_wp2_with fail
      case' inr.inr =>
        rw [n1]
        have h34 := HS.out 34
        rw [n2] at h34
        have h92 := HS.out 92
        rw [n3] at h92
        clear n1 n2 n3
        go_wp2_with fail
        refine (h34 _).mono ?_
        rintro e wx ⟨rfl, hwx⟩
        rw [hwx]; clear hwx wx h34
        go_wp2_with fail
        refine (h92 _).mono ?_
        rintro e wx ⟨rfl, hwx⟩
        rw [hwx]; clear hwx wx h92
        go_wp2_with fail
      all_goals
        refine (ws B b acc _ _ hb' (by simp only [ByteArray.size_append, sz3, sz1]; omega)).mono ?_
        rintro e w2 ⟨rfl, hb2, hbB, _⟩
        have eA : acc ++ (ind ++ ⟨#[34, 34, 34]⟩ ++ ⟨#[10]⟩ : ByteArray).data.toList = acc ++ (ind.data.toList ++ Pl.q3 ++ [10]) := by simp only [Joins.data_append]; rfl
        rw [eA] at hb2
        clear eA
        have hBlt := hbl.1
        have hm2 : w2.cell? ⟨0, 0, none⟩ = some (.int .i64 m) := (hbB.cell (p := ⟨0, 0, none⟩) hB0).trans hm1
        have hsp := split_at 10 E m w2 (by omega) hm2
        go_wp2_with fail
        refine hsp.mono ?_
        rintro e wx ⟨rfl, hwx⟩
        rw [hwx]; clear hwx wx hsp
        have hb3 := hb2.later ((Below.refl _ w2).alloc (Nat.le_refl _) (.cells ((pcs 10 E).map Value.string).toArray 9))
        have hsl : (w2.alloc (.cells ((pcs 10 E).map Value.string).toArray 9)).heap[w2.heap.size]? = some (.cells ((pcs 10 E).map Value.string).toArray 9) := by
          show (w2.heap.push _)[w2.heap.size]? = _
          simp
        have hB3 : Below B w (w2.alloc (.cells ((pcs 10 E).map Value.string).toArray 9)) := ((hb1.mono (by omega)).trans hbB).alloc (by have := hb2.lt; omega) _
        have hbne : w2.heap.size ≠ b := by have := hb2.lt; omega
        go_wp2
        go_loopw [41] (fun i wr => ∃ k : Nat, k ≤ (pcs 10 E).length ∧ i = .int .i64 k ∧ Bld B b (acc ++ (ind.data.toList ++ Pl.q3 ++ [10]) ++ Pl.linesOut ind.data.toList ((Pl.segs 10 (Pl.esc t.data.toList)).take k)) wr ∧ Below B w wr ∧ wr.heap[w2.heap.size]? = some (.cells ((pcs 10 E).map Value.string).toArray 9)) (fun i _ => (pcs 10 E).length - (RowKit.intOf i).toNat)
        case atStart => exact ⟨0, Nat.zero_le _, rfl, by simpa [Pl.linesOut] using hb3, hB3, hsl⟩
        case round =>
          obtain ⟨k, hk, rfl, hbk, hBk, hslk⟩ := hrel
          have hal : (acc ++ (ind.data.toList ++ Pl.q3 ++ [10]) ++ Pl.linesOut ind.data.toList ((Pl.segs 10 (Pl.esc t.data.toList)).take k)).length ≤ 8796096167940 := by
            have h1 := HTL.out k
            have h2 := HIL.out
            simp only [List.length_append, List.length_cons, List.length_nil, show Pl.q3.length = 3 from rfl]
            omega
          generalize hacc : acc ++ (ind.data.toList ++ Pl.q3 ++ [10]) ++ Pl.linesOut ind.data.toList ((Pl.segs 10 (Pl.esc t.data.toList)).take k) = ak at hbk hal
          have HAK : Hid (acc ++ (ind.data.toList ++ Pl.q3 ++ [10]) ++ Pl.linesOut ind.data.toList ((Pl.segs 10 (Pl.esc t.data.toList)).take k) = ak) := hacc
          clear hacc hb3 hB3 hsl hb2 hm2 hbB hb' hm1 hb1
          by_cases hlt : k < (pcs 10 E).length
          · obtain ⟨x, hx⟩ : ∃ x, (pcs 10 E)[k]? = some x := ⟨_, List.getElem?_eq_getElem hlt⟩
            have hcx : wr.cell? ⟨w2.heap.size, k, none⟩ = some (.string x) := by
              simp [World.cell?, hslk, hx]
            have hxs : x.size ≤ 2097152 := by
              have hm := List.mem_of_getElem? hx
              have hm2 : x.data.toList.length ∈ (Pl.segs 10 (Pl.esc t.data.toList)).map List.length := by
                rw [← HSG.out]
                exact List.mem_map.2 ⟨x.data.toList, List.mem_map.2 ⟨x, hm, rfl⟩, rfl⟩
              have h1 := le_sum_of_mem hm2
              have h2 := (segs_sum 10 (Pl.esc t.data.toList)).1
              have h3 : (Pl.esc t.data.toList).length ≤ 2097152 := by rw [← HED.out, ← Lib.size_eq]; exact hEs
              rw [Lib.size_eq]
              omega
            have hseg : (Pl.segs 10 (Pl.esc t.data.toList)).take (k + 1) = (Pl.segs 10 (Pl.esc t.data.toList)).take k ++ [x.data.toList] := by
              have : (Pl.segs 10 (Pl.esc t.data.toList))[k]? = some x.data.toList := by rw [← HSG.out, List.getElem?_map, hx]; rfl
              rw [List.take_add_one, this]; rfl
            have HN : Hid (acc ++ (ind.data.toList ++ Pl.q3 ++ [10]) ++ Pl.linesOut ind.data.toList ((Pl.segs 10 (Pl.esc t.data.toList)).take (k + 1)) = ak ++ Pl.lineOut ind.data.toList x.data.toList) := by
              show _ = _
              rw [hseg, linesOut_snoc, ← HAK.out]
              simp only [List.append_assoc]
            clear hx hseg
            by_cases hxe : x.data.toList = []
            · have f1 : x.toList.isEmpty = true := by rw [Lib.toList_data, hxe]; rfl
              have HL : Hid (Pl.lineOut ind.data.toList x.data.toList = [10]) := by
                show _ = _
                unfold Pl.lineOut; rw [if_pos hxe]; rfl
              clear hxe
              go_wp2_with fail
              refine (ws B b ak _ _ hbk (by rw [sz1]; omega)).mono ?_
              rintro e w5 ⟨rfl, hb5, hB5, hO5⟩
              go_wp2
              go_roundw
              case rel => exact ⟨k + 1, by omega, by go_num, by rw [HN.out, HL.out]; exact hb5, hBk.trans hB5, hO5 _ _ hslk (by simpa using hbne) (by simp)⟩
              case measure => simp [RowKit.intOf]; omega
            · have f1 : x.toList.isEmpty = false := by rw [Lib.toList_data]; simpa using hxe
              have HL : Hid (Pl.lineOut ind.data.toList x.data.toList = ind.data.toList ++ x.data.toList ++ [10]) := by
                show _ = _
                unfold Pl.lineOut; rw [if_neg hxe]
              clear hxe
              go_wp2_with fail
              refine (ws B b ak _ _ hbk (by simp only [ByteArray.size_append]; omega)).mono ?_
              rintro e w5 ⟨rfl, hb5, hB5, hO5⟩
              have hsl5 := hO5 _ _ hslk (by simpa using hbne) (by simp)
              go_wp2_with fail
              refine (ws B b _ _ _ hb5 (by rw [sz1, List.length_append, ← Lib.size_eq, ByteArray.size_append]; omega)).mono ?_
              rintro e w6 ⟨rfl, hb6, hB6, hO6⟩
              go_wp2
              go_roundw
              case rel =>
                refine ⟨k + 1, by omega, by go_num, ?_, (hBk.trans hB5).trans hB6, hO6 _ _ hsl5 (by simpa using hbne) (by simp)⟩
                rw [HN.out, HL.out]
                rw [Joins.data_append, List.append_assoc] at hb6
                exact hb6
              case measure => simp [RowKit.intOf]; omega
          · go_wp2_with fail
            refine (ws B b ak _ _ hbk (by simp only [ByteArray.size_append, sz3, sz1]; omega)).mono ?_
            rintro e w5 ⟨rfl, hb5, hB5, hO5⟩
            go_wp2
            go_end0
            refine ⟨rfl, ?_, hBk.trans hB5⟩
            have hfull : (Pl.segs 10 (Pl.esc t.data.toList)).take k = Pl.segs 10 (Pl.esc t.data.toList) := List.take_of_length_le (by
              have := congrArg List.length HSG.out
              rw [List.length_map] at this
              omega)
            rw [← HAK.out, hfull, Joins.data_append, Joins.data_append] at hb5
            simpa [Pl.q3] using hb5

set_option maxHeartbeats 400000 in
theorem zzWrite (pre t ind : ByteArray) (m : Int) (w : World) (hm : w.cell? ⟨0, 0, none⟩ = some (.int .i64 m)) (h00 : 0 < w.heap.size)
    (hp : pre.size ≤ 1048576) (ht : t.size ≤ 1048576) (hi : ind.size ≤ 1048576) :
    Calls Tryd.prog 7 #[.string pre, .string t, .string ind] w fun e w' => e = .returned (.string ⟨(pre.data.toList ++ Pl.wd t.data.toList ind.data.toList).toArray⟩) ∧ Below w.heap.size w w' := by
  have hb0 : Bld w.heap.size w.heap.size [] (w.alloc (.cells #[.pointer none, .slice none 0 0] 31)) := by
    refine .inl ⟨Nat.le_refl _, .slice none 0 0, ?_, ⟨rfl, .inl ⟨rfl, rfl⟩⟩, by simp [Value.ownBlock]⟩
    show (w.heap.push _)[w.heap.size]? = _
    simp
  have hB0 : Below w.heap.size w (w.alloc (.cells #[.pointer none, .slice none 0 0] 31)) := (Below.refl _ _).alloc (Nat.le_refl _) _
  go_enter Tryd.func7, Tryd.ntmps7
  go_wp2_with fail
  refine (ws w.heap.size w.heap.size [] pre _ hb0 (by simp; omega)).mono ?_
  rintro e w1 ⟨rfl, hb1, hB1, _⟩
  have hm1 : w1.cell? ⟨0, 0, none⟩ = some (.int .i64 m) := ((hB0.trans hB1).cell (p := ⟨0, 0, none⟩) h00).trans hm
  go_wp2_with fail
  refine (write_any w.heap.size w.heap.size ([] ++ pre.data.toList) t ind m w1 hb1 hm1 h00 ht hi (by rw [List.nil_append, ← Lib.size_eq]; exact hp)).mono ?_
  rintro e w2 ⟨rfl, hb2, hB2⟩
  go_wp2_with fail
  refine (Tryd.Builder_String_any_k w.heap.size w.heap.size _ w2 hb2 (by have := hb2.lt; omega)).mono ?_
  rintro e w3 ⟨rfl, _, hB3, _⟩
  go_wp2
  go_ret
  exact ⟨rfl, ((hB0.trans hB1).trans hB2).trans hB3⟩
end Go.Proofs.Qxb6602381aDoor
