/-
  matchComponent and its closures, walked.
-/
import Derived.Test.Qxb6602868aDoorWild
import Derived.WalkSmall
import Derived.Deep.RegionWith
namespace Go.Proofs.Qxb6602868aDoor
open Go Go.RowKit Go.PlainAid

def cstar (p : ByteArray) (i : Nat) : Bool := bt p i == 42
def csame (p s : ByteArray) (i j : Nat) : Bool := bt p i == bt s j
/-- Does the component match? -/
noncomputable def comp (p s : ByteArray) : Bool := Pl.wild p.size s.size (cstar p) (csame p s)

set_option maxHeartbeats 400000 in
theorem comp1 (p : ByteArray) (i : Nat) (w : World) (P1 : Addr) (hi : i < p.size) (h1 : w.cell? P1 = some (.string p)) :
    Calls Tryd.prog 41 #[.int .i64 i, .pointer (some P1)] w fun e w' => e = .returned (.bool (cstar p i)) ∧ w' = w := by
  have hb := get_bt p
  have hii : (i : Int) < p.size := by omega
  go_enter Tryd.func41, Tryd.ntmps41
  go_wp2
  go_ret
  exact ⟨rfl, rfl⟩
set_option maxHeartbeats 400000 in
theorem comp2 (p s : ByteArray) (i j : Nat) (w : World) (P1 P2 : Addr) (hi : i < p.size) (hj : j < s.size) (h1 : w.cell? P1 = some (.string p)) (h2 : w.cell? P2 = some (.string s)) :
    Calls Tryd.prog 42 #[.int .i64 i, .int .i64 j, .pointer (some P1), .pointer (some P2)] w fun e w' => e = .returned (.bool (csame p s i j)) ∧ ∃ n, w' = w.drewN n := by
  have hb := get_bt p
  have hb2 := get_bt s
  have hii : (i : Int) < p.size := by omega
  have hjj : (j : Int) < s.size := by omega
  go_enter Tryd.func42, Tryd.ntmps42
  go_wp2
  go_quiet (fail)
  go_wp2
  go_ret
  exact ⟨rfl, _, rfl⟩
set_option maxHeartbeats 400000 in
theorem comp_any (p s : ByteArray) (w : World) (hp : p.size ≤ 1099511627776) (hs : s.size ≤ 1099511627776) :
    Calls Tryd.prog 36 #[.string p, .string s] w fun e w' => e = .returned (.bool (comp p s)) ∧ Below w.heap.size w w' := by
  obtain ⟨W, hW⟩ : ∃ W, (w.alloc (.cells #[.string p] 9)).alloc (.cells #[.string s] 9) = W := ⟨_, rfl⟩
  have c1 : W.cell? ⟨w.heap.size, 0, none⟩ = some (.string p) := by
    rw [← hW, World.cell?_alloc_past _ _ _ (by simp), World.cell?_alloc_new]; rfl
  have c2 : W.cell? ⟨w.heap.size + 1, 0, none⟩ = some (.string s) := by
    have := World.cell?_alloc_new (w.alloc (.cells #[.string p] 9)) #[.string s] 9 0
    rw [World.size_alloc] at this
    rw [← hW, this]; rfl
  have hsz : W.heap.size = w.heap.size + 2 := by rw [← hW]; simp
  have hBW : Below w.heap.size w W := by
    rw [← hW]
    exact ((Below.refl _ w).alloc (Nat.le_refl _) _).alloc (by simp) _
  have hwild := wildB p.size s.size (cstar p) (csame p s) W W.heap.size ⟨w.heap.size, 0, none⟩ ⟨w.heap.size + 1, 0, none⟩ hp hs
    (fun i wx hi hBx => (comp1 p i wx _ hi ((hBx.cell (p := ⟨w.heap.size, 0, none⟩) (by show w.heap.size < W.heap.size; omega)).trans c1)).mono (fun e w' h => ⟨h.1, by rw [h.2]; exact hBx⟩))
    (fun i j wx hi hj hBx => (comp2 p s i j wx _ _ hi hj ((hBx.cell (p := ⟨w.heap.size, 0, none⟩) (by show w.heap.size < W.heap.size; omega)).trans c1) ((hBx.cell (p := ⟨w.heap.size + 1, 0, none⟩) (by show w.heap.size + 1 < W.heap.size; omega)).trans c2)).mono (fun e w' h => ⟨h.1, by obtain ⟨n, hn⟩ := h.2; rw [hn]; exact below_drewN hBx n⟩))
  go_enter Tryd.func36, Tryd.ntmps36
  go_wp2_with fail
  refine hwild.mono ?_
  rintro e w2 ⟨rfl, hB2⟩
  clear hwild hW
  go_wp2
  go_ret
  exact ⟨rfl, hBW.trans (hB2.mono (by omega))⟩

/-- The slice at A holds the strings l. -/
def StrsAt (w : World) (A : Option Addr) (l : List ByteArray) : Prop := ∀ j s, l[j]? = some s → ∃ a, A = some a ∧ a.block < w.heap.size ∧ w.cell? (a.add j) = some (.string s)
theorem addr_block (a : Addr) (j : Nat) : (a.add j).block = a.block := by unfold Addr.add; split <;> rfl
theorem StrsAt.later {w w' : World} {A : Option Addr} {l : List ByteArray} {B : Nat} (h : StrsAt w A l) (hb : Below B w w') (hB : B = w.heap.size) : StrsAt w' A l := by
  intro j s hj
  obtain ⟨a, h1, h2, h3⟩ := h j s hj
  have := hb.size
  exact ⟨a, h1, by omega, (hb.cell (p := a.add j) (by rw [addr_block]; omega)).trans h3⟩
def two : ByteArray := ⟨#[42, 42]⟩
def pstar (l : List ByteArray) (i : Nat) : Bool := (l.getD i two).toList == [42, 42]
noncomputable def psame (l c : List ByteArray) (i j : Nat) : Bool := comp (l.getD i two) (c.getD j two)
/-- Does the pattern with the parts l match the components c? -/
noncomputable def matchF (l c : List ByteArray) : Bool := Pl.wild l.length c.length (pstar l) (psame l c)

set_option maxHeartbeats 400000 in
theorem match1 (l : List ByteArray) (A : Option Addr) (C i b : Nat) (w : World) (hi : i < l.length) (h1 : w.cell? ⟨b, 2, none⟩ = some (.slice A l.length C)) (hA : StrsAt w A l) :
    Calls Tryd.prog 34 #[.int .i64 i, .pointer (some ⟨b, 0, none⟩)] w fun e w' => e = .returned (.bool (pstar l i)) ∧ w' = w := by
  have hii : (i : Int) < l.length := by omega
  obtain ⟨s, hs⟩ : ∃ s, l[i]? = some s := ⟨_, List.getElem?_eq_getElem hi⟩
  obtain ⟨a, rfl, ha, hc⟩ := hA i s hs
  have hps : pstar l i = (s.toList == [42, 42]) := by unfold pstar; rw [List.getD_eq_getElem?_getD, hs]; rfl
  rw [hps]
  clear hps hs hA
  go_enter Tryd.func34, Tryd.ntmps34
  go_wp2
  go_ret
  exact ⟨rfl, rfl⟩
set_option maxHeartbeats 1000000 in
theorem match2 (l c : List ByteArray) (A A' : Option Addr) (C C' i j b b2 : Nat) (w : World) (hi : i < l.length) (hj : j < c.length) (h1 : w.cell? ⟨b, 2, none⟩ = some (.slice A l.length C)) (hA : StrsAt w A l)
    (h2 : w.cell? ⟨b2, 0, none⟩ = some (.slice A' c.length C')) (hA' : StrsAt w A' c) (hl : ∀ s ∈ l, s.size ≤ 1048576) (hc : ∀ s ∈ c, s.size ≤ 1048576) :
    Calls Tryd.prog 35 #[.int .i64 i, .int .i64 j, .pointer (some ⟨b, 0, none⟩), .pointer (some ⟨b2, 0, none⟩)] w fun e w' => e = .returned (.bool (psame l c i j)) ∧ Below w.heap.size w w' := by
  have hii : (i : Int) < l.length := by omega
  have hjj : (j : Int) < c.length := by omega
  obtain ⟨s, hs⟩ : ∃ s, l[i]? = some s := ⟨_, List.getElem?_eq_getElem hi⟩
  obtain ⟨a, rfl, ha, hcs⟩ := hA i s hs
  obtain ⟨t, ht⟩ : ∃ t, c[j]? = some t := ⟨_, List.getElem?_eq_getElem hj⟩
  obtain ⟨a', rfl, ha', hct⟩ := hA' j t ht
  have hps : psame l c i j = comp s t := by unfold psame; rw [List.getD_eq_getElem?_getD, List.getD_eq_getElem?_getD, hs, ht]; rfl
  have hcm := fun wx => comp_any s t wx (by have := hl s (List.mem_of_getElem? hs); omega) (by have := hc t (List.mem_of_getElem? ht); omega)
  rw [hps]
  have HCM : Hid (∀ wx, Calls Tryd.prog 36 #[.string s, .string t] wx fun e w' => e = .returned (.bool (comp s t)) ∧ Below wx.heap.size wx w') := hcm
  clear hps hs ht hA hA' hl hc hcm
  go_enter Tryd.func35, Tryd.ntmps35
  go_wp2
  go_region_with (go_at_call 36; refine (HCM.out _).mono ?_; rintro e w2 ⟨rfl, hB2⟩)
  all_goals (try go_wp2)
  all_goals go_ret
  all_goals exact ⟨rfl, hB2.os, hB2.tape, hB2.output, hB2.size, hB2.block⟩

set_option maxHeartbeats 1000000 in
theorem match_any (tx og : ByteArray) (l c : List ByteArray) (A A' : Option Addr) (C C' : Nat) (w : World) (hA : StrsAt w A l) (hA' : StrsAt w A' c) (hl : ∀ s ∈ l, s.size ≤ 1048576) (hc : ∀ s ∈ c, s.size ≤ 1048576)
    (hll : l.length ≤ 1099511627776) (hcl : c.length ≤ 1099511627776) :
    Calls Tryd.prog 28 #[.agg #[.string tx, .string og, .slice A l.length C], .slice A' c.length C'] w fun e w' => e = .returned (.bool (matchF l c)) ∧ Below w.heap.size w w' := by
  obtain ⟨W, hW⟩ : ∃ W, (w.alloc (.cells #[.string tx, .string og, .slice A l.length C] 45)).alloc (.cells #[.slice A' c.length C'] 30) = W := ⟨_, rfl⟩
  have c1 : W.cell? ⟨w.heap.size, 2, none⟩ = some (.slice A l.length C) := by
    rw [← hW, World.cell?_alloc_past _ _ _ (by simp), World.cell?_alloc_new]; rfl
  have c2 : W.cell? ⟨w.heap.size + 1, 0, none⟩ = some (.slice A' c.length C') := by
    have := World.cell?_alloc_new (w.alloc (.cells #[.string tx, .string og, .slice A l.length C] 45)) #[.slice A' c.length C'] 30 0
    rw [World.size_alloc] at this
    rw [← hW, this]; rfl
  have hsz : W.heap.size = w.heap.size + 2 := by rw [← hW]; simp
  have hBW : Below w.heap.size w W := by
    rw [← hW]
    exact ((Below.refl _ w).alloc (Nat.le_refl _) _).alloc (by simp) _
  have hAW := hA.later hBW rfl
  have hAW' := hA'.later hBW rfl
  have hwild := wildA l.length c.length (pstar l) (psame l c) W W.heap.size ⟨w.heap.size, 0, none⟩ ⟨w.heap.size + 1, 0, none⟩ hll hcl
    (fun i wx hi hBx => (match1 l A C i w.heap.size wx hi ((hBx.cell (p := ⟨w.heap.size, 2, none⟩) (by show w.heap.size < W.heap.size; omega)).trans c1) (hAW.later hBx rfl)).mono (fun e w' h => ⟨h.1, by rw [h.2]; exact hBx⟩))
    (fun i j wx hi hj hBx => (match2 l c A A' C C' i j w.heap.size (w.heap.size + 1) wx hi hj ((hBx.cell (p := ⟨w.heap.size, 2, none⟩) (by show w.heap.size < W.heap.size; omega)).trans c1) (hAW.later hBx rfl) ((hBx.cell (p := ⟨w.heap.size + 1, 0, none⟩) (by show w.heap.size + 1 < W.heap.size; omega)).trans c2) (hAW'.later hBx rfl) hl hc).mono (fun e w' h => ⟨h.1, hBx.trans (h.2.mono hBx.size)⟩))
  clear hA hA' hl hc hAW hAW'
  go_enter Tryd.func28, Tryd.ntmps28
  go_wp2_with fail
  refine hwild.mono ?_
  rintro e w2 ⟨rfl, hB2⟩
  clear hwild hW
  go_wp2
  go_ret
  exact ⟨rfl, hBW.trans (hB2.mono (by omega))⟩
end Go.Proofs.Qxb6602868aDoor
