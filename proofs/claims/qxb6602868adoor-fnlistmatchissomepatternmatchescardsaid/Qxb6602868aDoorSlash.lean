/-
  zzSplitSlash, walked: it cuts as strings.Split does.
-/
import Derived.Test.Qxb6602868aDoorUnm
import Derived.Test.Qxb6602868aDoorClone
import Derived.Lib.IndexLaws
import Derived.Lib.IndexBytes
namespace Go.Proofs.Qxb6602868aDoor
open Go Go.RowKit Go.PlainAid Go.WideShapes

theorem ix_hit {l : List UInt8} {c : UInt8} {o : Nat} (h : l[o]? = some c) (hk : ∀ k, k < o → l[k]? ≠ some c) : Lib.indexByte l c = o := by
  have hge := Lib.indexByte_ge l c
  by_cases e : Lib.indexByte l c = -1
  · exact absurd h (Lib.indexByte_none e o)
  · obtain ⟨o', ho⟩ : ∃ o' : Nat, Lib.indexByte l c = o' := ⟨(Lib.indexByte l c).toNat, by omega⟩
    obtain ⟨h1, h2⟩ := Lib.indexByte_some ho
    rcases Nat.lt_trichotomy o o' with h3 | h3 | h3
    · exact absurd h (h2 o h3)
    · rw [ho, h3]
    · exact absurd h1 (hk o' h3)
theorem ix_miss {l : List UInt8} {c : UInt8} (hk : ∀ k : Nat, l[k]? ≠ some c) : Lib.indexByte l c = -1 := by
  have hge := Lib.indexByte_ge l c
  by_cases e : Lib.indexByte l c = -1
  · exact e
  · obtain ⟨o', ho⟩ : ∃ o' : Nat, Lib.indexByte l c = o' := ⟨(Lib.indexByte l c).toNat, by omega⟩
    exact absurd (Lib.indexByte_some ho).1 (hk o')
theorem bt_some {s : ByteArray} {k : Nat} {c : UInt8} (h : s.data.toList[k]? = some c) : k < s.size ∧ bt s k = (c.toNat : Int) := by
  have h1 : k < s.size := by
    have := (List.getElem?_eq_some_iff.1 h).1
    rwa [Array.length_toList] at this
  refine ⟨h1, ?_⟩
  rw [← get_bt s k h1]
  rw [Array.getElem?_toList] at h
  have h2 := (Array.getElem?_eq_some_iff.1 h).2
  show ((s.data[k]).toNat : Int) = _
  rw [h2]
theorem some_of_bt {s : ByteArray} {k : Nat} (h1 : k < s.size) (h : bt s k = 47) : s.data.toList[k]? = some 47 := by
  have h2 : s.data.toList[k]? = some (s.data[k]'h1) := by
    rw [Array.getElem?_toList]; exact Array.getElem?_eq_getElem _
  have h3 := (bt_some h2).2
  rw [h] at h3
  rw [h2]
  congr 1
  apply UInt8.toNat.inj
  have : (47 : UInt8).toNat = 47 := rfl
  omega
theorem index47 (s : ByteArray) : Lib.indexB s ⟨#[47]⟩ = Lib.indexByte s.data.toList 47 := Lib.index_one _ _
/-- No slash from b to i. -/
def NoS (s : ByteArray) (b i : Nat) : Prop := ∀ k, b ≤ k → k < i → bt s k ≠ 47
theorem pcs_hit {s : ByteArray} {b i : Nat} (hb : b ≤ i) (hi : i < s.size) (hn : NoS s b i) (h : bt s i = 47) : pcs (s.extract b s.size) = s.extract b i :: pcs (s.extract (i + 1) s.size) := by
  have hl : (s.extract b s.size).data.toList = s.data.toList.drop b := Lib.extract_to_end s b
  have hix : Lib.indexB (s.extract b s.size) ⟨#[47]⟩ = ((i - b : Nat) : Int) := by
    rw [index47, hl]
    refine ix_hit ?_ ?_
    · rw [List.getElem?_drop, show b + (i - b) = i by omega]
      exact some_of_bt hi h
    · intro k hk e
      rw [List.getElem?_drop] at e
      exact hn (b + k) (by omega) (by omega) (bt_some e).2
  have hc := Lib.countB_hit _ ⟨#[47]⟩ (i - b) (Nat.le_refl 1) hix
  have e1 : (s.extract b s.size).extract (i - b + 1) (s.extract b s.size).size = s.extract (i + 1) s.size := by
    rw [ByteArray.size_extract, ByteArray.extract_extract]
    congr 1 <;> omega
  have e2 : (s.extract b s.size).extract 0 (i - b + 0) = s.extract b i := by
    rw [ByteArray.extract_extract]
    congr 1 <;> omega
  have hc' : Lib.countB (s.extract b s.size) ⟨#[47]⟩ = Lib.countB (s.extract (i + 1) s.size) ⟨#[47]⟩ + 1 := by
    rw [hc, show (⟨#[47]⟩ : ByteArray).size = 1 from rfl, e1, Nat.add_comm]
  unfold pcs
  rw [hc', Lib.splitB_hit _ _ _ _ _ hix, e2, show (⟨#[47]⟩ : ByteArray).size = 1 from rfl, e1]
theorem pcs_miss {s : ByteArray} {b : Nat} (hn : NoS s b s.size) : pcs (s.extract b s.size) = [s.extract b s.size] := by
  have hl : (s.extract b s.size).data.toList = s.data.toList.drop b := Lib.extract_to_end s b
  refine Lib.splitB_miss _ _ _ _ ?_
  rw [index47, hl]
  refine ix_miss ?_
  intro k e
  rw [List.getElem?_drop] at e
  have := bt_some e
  exact hn (b + k) (by omega) this.1 this.2

/-- The slice that the cut builds: strings, in cells of their own. -/
theorem owned_strs {w : World} {B : Nat} {v : Value} {l : List ByteArray} (h : w.ownsRow B 9 1 v l.length (l.map .string)) : ∃ A C, v = .slice A l.length C ∧ StrsAt w A l := by
  rcases h.2 with ⟨h1, h2⟩ | ⟨g, cap, cur, h1, _, hg, _⟩
  · refine ⟨none, 0, by rw [h1, h2], fun j s hj => ?_⟩
    have := (List.getElem?_eq_some_iff.1 hj).1
    omega
  · refine ⟨_, cap, h1, fun j s hj => ⟨_, rfl, ?_, ?_⟩⟩
    · exact (Array.getElem?_eq_some_iff.1 hg).1
    · subst h1
      have := (List.getElem?_eq_some_iff.1 hj).1
      rw [add_plain, Nat.zero_add, h.cellAt j (by omega), List.getElem?_map, hj]; rfl

set_option maxRecDepth 10000 in
set_option maxHeartbeats 2000000 in
theorem splitSlash (s : ByteArray) (w : World) (hs : s.size ≤ 1048576) :
    Calls Tryd.prog 12 #[.string s] w fun e w' => ∃ A C, e = .returned (.slice A (pcs s).length C) ∧ StrsAt w' A (pcs s) ∧ Below w.heap.size w w' := by
  have hb := get_bt s
  obtain ⟨i0, hi0, hz0, hz1, hz2⟩ := info_parts info9
  go_enter Tryd.func12, Tryd.ntmps12
  go_wp2
  go_loopw [3, 4, 5] (fun v b i wr => ∃ (k n : Nat) (done : List ByteArray), n ≤ k ∧ k ≤ s.size ∧ b = .int .i64 n ∧ i = .int .i64 k ∧ wr.ownsRow w.heap.size 9 1 v done.length (done.map .string) ∧ done.length ≤ n ∧ pcs s = done ++ pcs (s.extract n s.size) ∧ NoS s n k ∧ Below w.heap.size w wr ∧ w.heap.size ≤ wr.heap.size) (fun _ _ i _ => s.size - (RowKit.intOf i).toNat)
  case atStart => exact ⟨0, 0, [], Nat.le_refl _, Nat.zero_le _, rfl, rfl, World.ownsRow_nil _ _ _ _, Nat.zero_le _, by simp, fun k _ h => by omega, Below.refl _ _, Nat.le_refl _⟩
  case round =>
    obtain ⟨k, n, done, hnk, hk, rfl, rfl, hR, hdn, hp, hns, hB, hz⟩ := hrel
    have HP : Hid (pcs s = done ++ pcs (s.extract n s.size)) := hp
    have HNS : Hid (NoS s n k) := hns
    clear hp hns
    by_cases hlt : k < s.size
    · have hkk : (k : Int) < s.size := by omega
      cases hq : (bt s k == 47) with
      | true =>
        have hq' : bt s k = 47 := by simpa using hq
        have HP2 : Hid (pcs s = (done ++ [s.extract n k]) ++ pcs (s.extract (k + 1) s.size)) := by
          show _ = _
          rw [HP.out, pcs_hit hnk hlt HNS.out hq', List.append_assoc]; rfl
        clear hq
        go_wp2_with (at_builtin; refine wpList_append_own _ rfl (.tmp 16) (.tmp 21) 30 rfl w.heap.size 9 i0 (.string ⟨#[]⟩) 1 16 Tryd.underlying30 hi0 hz0 hz1 hz2 rfl (by decide) _ _ _ rfl (hR.alloc _) ⟨wr.heap.size, 0, none⟩ 1 1 [.string (s.extract n k)] rfl rfl (cells_new _ _ _) (by simp [Value.oneCell']) (by unfold maxLen; omega) (by omega) (by simp; omega) ?_; intro v5 w6 hown hgrow _)
        have hB6 : Below w.heap.size w w6 := (hB.alloc hz _).grown hgrow (by simp; omega) (fun j e => (hR.lt j e).1)
        have hz6 : w.heap.size ≤ w6.heap.size := hB6.size
        have HR : Hid (w6.ownsRow w.heap.size 9 1 v5 (done ++ [s.extract n k]).length ((done ++ [s.extract n k]).map .string)) := by
          show World.ownsRow _ _ _ _ _ _ _
          simpa using hown
        clear hown hR
        go_wp2
        go_roundw
        case rel => exact ⟨k + 1, k + 1, _, Nat.le_refl _, by omega, by go_num, by go_num, HR.out, by simp; omega, HP2.out, fun x _ h => by omega, hB6, hz6⟩
        case measure => simp [RowKit.intOf]; omega
      | false =>
        have HN2 : Hid (NoS s n (k + 1)) := by
          show NoS _ _ _
          intro x h1 h2
          by_cases e : x = k
          · subst e; simpa using hq
          · exact HNS.out x h1 (by omega)
        go_wp2
        go_roundw
        case rel => exact ⟨k + 1, n, done, by omega, by omega, rfl, by go_num, hR, hdn, HP.out, HN2.out, hB, hz⟩
        case measure => simp [RowKit.intOf]; omega
    · have HP2 : Hid (pcs s = done ++ [s.extract n s.size]) := by
        show _ = _
        rw [HP.out, pcs_miss (fun x h1 h2 => HNS.out x h1 (by omega))]
      go_wp2_with (at_builtin; refine wpList_append_own _ rfl (.tmp 25) (.tmp 29) 30 rfl w.heap.size 9 i0 (.string ⟨#[]⟩) 1 16 Tryd.underlying30 hi0 hz0 hz1 hz2 rfl (by decide) _ _ _ rfl (hR.alloc _) ⟨wr.heap.size, 0, none⟩ 1 1 [.string (s.extract n s.size)] rfl rfl (cells_new _ _ _) (by simp [Value.oneCell']) (by unfold maxLen; omega) (by omega) (by simp; omega) ?_; intro v5 w6 hown hgrow _)
      have hB6 : Below w.heap.size w w6 := (hB.alloc hz _).grown hgrow (by simp; omega) (fun j e => (hR.lt j e).1)
      have HR : Hid (w6.ownsRow w.heap.size 9 1 v5 (pcs s).length ((pcs s).map .string)) := by
        show World.ownsRow _ _ _ _ _ _ _
        rw [HP2.out]
        simpa using hown
      clear hown hR
      obtain ⟨A, C, rfl, hA⟩ := owned_strs HR.out
      have HA : Hid (StrsAt w6 A (pcs s)) := hA
      clear hA
      go_wp2
      go_ret
      exact ⟨A, C, rfl, HA.out, hB6⟩
end Go.Proofs.Qxb6602868aDoor
