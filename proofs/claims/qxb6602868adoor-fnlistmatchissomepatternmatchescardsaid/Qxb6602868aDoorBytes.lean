/-
  The law's counts, walked: zzAdd, zzStringsBytes, zzFieldsBytes answer some number; the world is kept.
-/
import Derived.Test.Qxb6602868aDoorList
namespace Go.Proofs.Qxb6602868aDoor
open Go Go.RowKit Go.PlainAid Go.WideShapes

/-- The fields' slice at A, as it came in, holds ps. -/
def SrcAt (w : World) (A : Option Addr) (ps : List Pat) : Prop :=
  ∀ j p, ps[j]? = some p → ∃ a, A = some a ∧ a.block < w.heap.size ∧ w.cell? (a.add (j * 3)) = some (.string p.tx) ∧ w.cell? ⟨(a.add (j * 3)).block, (a.add (j * 3)).off + 1, none⟩ = some (.string p.og) ∧
    w.cell? ⟨(a.add (j * 3)).block, (a.add (j * 3)).off + 2, none⟩ = some (.slice p.A p.l.length p.C) ∧ StrsAt w p.A p.l ∧ p.tx.size ≤ 9223372036854775807 ∧ p.og.size ≤ 9223372036854775807 ∧ p.l.length ≤ 9223372036854775807 ∧ ∀ s ∈ p.l, s.size ≤ 9223372036854775807

set_option maxHeartbeats 1000000 in
theorem add_some (t n : Int) (w : World) (h0 : -4097 ≤ t) (h1 : t ≤ 4097) (hn : 0 ≤ n) :
    Calls Tryd.prog 8 #[.int .i64 t, .int .i64 n] w fun e w' => ∃ z : Int, e = .returned (.int .i64 z) ∧ -4097 ≤ z ∧ z ≤ 4097 ∧ w' = w := by
  go_enter Tryd.func8, Tryd.ntmps8
  by_cases c1 : 4096 < t
  · go_wp2
    go_ret
    exact ⟨4097, rfl, by omega, by omega, rfl⟩
  · by_cases c2 : 4096 < n
    · go_wp2
      go_ret
      exact ⟨4097, rfl, by omega, by omega, rfl⟩
    · by_cases c3 : 4096 < t + n
      · go_wp2
        go_ret
        exact ⟨4097, rfl, by omega, by omega, rfl⟩
      · go_wp2
        go_ret
        exact ⟨t + n, rfl, by omega, by omega, rfl⟩
set_option maxHeartbeats 1000000 in
theorem strings_some (t : Int) (l : List ByteArray) (A : Option Addr) (C : Nat) (w : World) (h0 : -4097 ≤ t) (h1 : t ≤ 4097) (hA : StrsAt w A l) (hl : l.length ≤ 9223372036854775807) :
    Calls Tryd.prog 18 #[.int .i64 t, .slice A l.length C] w fun e w' => ∃ z : Int, e = .returned (.int .i64 z) ∧ -4097 ≤ z ∧ z ≤ 4097 ∧ w' = w := by
  by_cases c1 : 4096 < l.length
  · go_enter Tryd.func18, Tryd.ntmps18
    go_wp2
    go_ret
    exact ⟨4097, rfl, by omega, by omega, rfl⟩
  · have ha := add_some t (8 * (l.length : Int)) w h0 h1 (by omega)
    go_enter Tryd.func18, Tryd.ntmps18
    go_wp2_with fail
    refine ha.mono ?_
    rintro e wx ⟨z, rfl, hz0, hz1, hwx⟩
    rw [hwx]; clear hwx wx ha
    go_wp2
    go_loop [0, 5] (fun t i => ∃ (k : Nat) (z : Int), k ≤ l.length ∧ i = .int .i64 k ∧ t = .int .i64 z ∧ -4097 ≤ z ∧ z ≤ 4097) (fun _ i => l.length - (RowKit.intOf i).toNat)
    case atStart => exact ⟨0, z, Nat.zero_le _, rfl, rfl, hz0, hz1⟩
    case round =>
      obtain ⟨k, z', hk, rfl, rfl, hz0', hz1'⟩ := hrel
      by_cases hlt : k < l.length
      · obtain ⟨s, hs⟩ : ∃ s, l[k]? = some s := ⟨_, List.getElem?_eq_getElem hlt⟩
        obtain ⟨a, rfl, hab, hc⟩ := hA k s hs
        have ha := add_some z' (s.size : Int) w hz0' hz1' (by omega)
        clear hA hs
        go_wp2_with fail
        refine ha.mono ?_
        rintro e wx ⟨z2, rfl, hy0, hy1, hwx⟩
        rw [hwx]; clear hwx wx ha
        go_wp2
        go_round
        case rel => exact ⟨k + 1, z2, by omega, by go_num, rfl, hy0, hy1⟩
        case measure => simp [RowKit.intOf]; omega
      · go_wp2
        go_ret
        exact ⟨z', rfl, hz0', hz1', rfl⟩
set_option maxHeartbeats 1000000 in
theorem fields_some (t : Int) (ps : List Pat) (A : Option Addr) (C : Nat) (w : World) (h0 : -4097 ≤ t) (h1 : t ≤ 4097) (hA : SrcAt w A ps) (hl : ps.length ≤ 9223372036854775807) :
    Calls Tryd.prog 9 #[.int .i64 t, .slice A ps.length C] w fun e w' => ∃ z : Int, e = .returned (.int .i64 z) ∧ -4097 ≤ z ∧ z ≤ 4097 ∧ w' = w := by
  by_cases c1 : 4096 < ps.length
  · go_enter Tryd.func9, Tryd.ntmps9
    go_wp2
    go_ret
    exact ⟨4097, rfl, by omega, by omega, rfl⟩
  · have ha := add_some t (8 * (ps.length : Int)) w h0 h1 (by omega)
    go_enter Tryd.func9, Tryd.ntmps9
    go_wp2_with fail
    refine ha.mono ?_
    rintro e wx ⟨z, rfl, hz0, hz1, hwx⟩
    rw [hwx]; clear hwx wx ha
    go_wp2
    go_loop [0, 5] (fun t i => ∃ (k : Nat) (z : Int), k ≤ ps.length ∧ i = .int .i64 k ∧ t = .int .i64 z ∧ -4097 ≤ z ∧ z ≤ 4097) (fun _ i => ps.length - (RowKit.intOf i).toNat)
    case atStart => exact ⟨0, z, Nat.zero_le _, rfl, rfl, hz0, hz1⟩
    case round =>
      obtain ⟨k, z', hk, rfl, rfl, hz0', hz1'⟩ := hrel
      by_cases hlt : k < ps.length
      · obtain ⟨p, hs⟩ : ∃ p, ps[k]? = some p := ⟨_, List.getElem?_eq_getElem hlt⟩
        obtain ⟨a, rfl, hab, hc0, hc1, hc2, hst, _, _, hpl, _⟩ := hA k p hs
        have ha := add_some z' (p.tx.size : Int) w hz0' hz1' (by omega)
        clear hA hs
        go_wp2_with fail
        refine ha.mono ?_
        rintro e wx ⟨z2, rfl, hy0, hy1, hwx⟩
        rw [hwx]; clear hwx wx ha
        have ha := add_some z2 (p.og.size : Int) w hy0 hy1 (by omega)
        go_wp2_with fail
        refine ha.mono ?_
        rintro e wx ⟨z3, rfl, hx0, hx1, hwx⟩
        rw [hwx]; clear hwx wx ha
        have ha := strings_some z3 p.l p.A p.C w hx0 hx1 hst hpl
        go_wp2_with fail
        refine ha.mono ?_
        rintro e wx ⟨z4, rfl, hv0, hv1, hwx⟩
        rw [hwx]; clear hwx wx ha
        go_wp2
        go_round
        case rel => exact ⟨k + 1, z4, by omega, by go_num, rfl, hv0, hv1⟩
        case measure => simp [RowKit.intOf]; omega
      · go_wp2
        go_ret
        exact ⟨z', rfl, hz0', hz1', rfl⟩
end Go.Proofs.Qxb6602868aDoor
