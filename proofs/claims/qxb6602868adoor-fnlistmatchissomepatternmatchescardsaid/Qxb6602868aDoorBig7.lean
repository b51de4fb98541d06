/-
  The bound on total length, walked: where it answers true, every part is short.
-/
import Derived.Test.Qxb6602868aDoorBytes
namespace Go.Proofs.Qxb6602868aDoor
open Go Go.RowKit Go.PlainAid Go.WideShapes

def SmallP (p : Pat) : Prop := p.l.length ≤ 1048576 ∧ ∀ s ∈ p.l, s.size ≤ 1048576
def Small (ps : List Pat) (name : ByteArray) : Prop := ps.length ≤ 1048576 ∧ name.size ≤ 1048576 ∧ ∀ p ∈ ps, SmallP p

set_option maxRecDepth 10000 in
set_option maxHeartbeats 4000000 in
theorem bytes7 (ps : List Pat) (A : Option Addr) (C : Nat) (name : ByteArray) (w : World) (hA : SrcAt w A ps) (hl : ps.length ≤ 9223372036854775807) (hnm : name.size ≤ 9223372036854775807) :
    Calls Tryd.prog 7 #[.slice A ps.length C, .string name] w fun e w' => ∃ b : Bool, e = .returned (.bool b) ∧ w' = w ∧ (b = true → Small ps name) := by
  have HA : Hid (SrcAt w A ps) := hA
  clear hA
  by_cases c0 : 1048576 < ps.length
  · go_enter Tryd.func7, Tryd.ntmps7
    go_wp2
    go_ret
    exact ⟨false, rfl, rfl, fun h => by cases h⟩
  · go_enter Tryd.func7, Tryd.ntmps7
    go_wp2
    go_loop [5, 6] (fun t i => ∃ (k z : Nat), k ≤ ps.length ∧ i = .int .i64 k ∧ t = .int .i64 z ∧ z ≤ 1048576 ∧ (∀ j p, j < k → ps[j]? = some p → SmallP p)) (fun _ i => ps.length - (RowKit.intOf i).toNat)
    case atStart => exact ⟨0, ps.length, Nat.zero_le _, rfl, rfl, by omega, fun j _ h => absurd h (Nat.not_lt_zero _)⟩
    case round =>
      obtain ⟨k, z, hk, rfl, rfl, hz, hok⟩ := hrel
      have HO : Hid (∀ j p, j < k → ps[j]? = some p → SmallP p) := hok
      clear hok
      by_cases hlt : k < ps.length
      · obtain ⟨p, hs⟩ : ∃ p, ps[k]? = some p := ⟨_, List.getElem?_eq_getElem hlt⟩
        obtain ⟨a, rfl, hab, hc0, hc1, hc2, hst, s0, s1, s2, s3⟩ := HA.out k p hs
        have HP : Hid (ps[k]? = some p) := hs
        have HS : Hid (StrsAt w p.A p.l) := hst
        have H3 : Hid (∀ s ∈ p.l, s.size ≤ 9223372036854775807) := s3
        clear hs hst s3
        by_cases d0 : p.tx.size ≤ 1048576 ∧ z + p.tx.size ≤ 1048576 ∧ p.og.size ≤ 1048576 ∧ z + p.tx.size + p.og.size ≤ 1048576 ∧ p.l.length ≤ 1048576 ∧ z + p.tx.size + p.og.size + p.l.length ≤ 1048576
        · obtain ⟨e0, e1, e2, e3, e4, e5⟩ := d0
          go_wp2
          go_loop [5, 7] (fun t i => ∃ (u y : Nat), u ≤ p.l.length ∧ i = .int .i64 u ∧ t = .int .i64 y ∧ y ≤ 1048576 ∧ (∀ j s, j < u → p.l[j]? = some s → s.size ≤ 1048576)) (fun _ i => p.l.length - (RowKit.intOf i).toNat)
          case atStart => exact ⟨0, z + p.tx.size + p.og.size + p.l.length, Nat.zero_le _, rfl, by go_num, by omega, fun j _ h => absurd h (Nat.not_lt_zero _)⟩
          case round =>
            obtain ⟨u, y, hu, rfl, rfl, hy, hoku⟩ := hrel
            have HOU : Hid (∀ j s, j < u → p.l[j]? = some s → s.size ≤ 1048576) := hoku
            clear hoku
            by_cases hul : u < p.l.length
            · obtain ⟨s, hsu⟩ : ∃ s, p.l[u]? = some s := ⟨_, List.getElem?_eq_getElem hul⟩
              obtain ⟨a', hA', hab', hcs⟩ := HS.out u s hsu
              rw [hA'] at hc2
              have HSU : Hid (p.l[u]? = some s) := hsu
              have hss := H3.out s (List.mem_of_getElem? hsu)
              clear hsu hA'
              by_cases f0 : s.size ≤ 1048576 ∧ y + s.size ≤ 1048576
              · obtain ⟨f1, f2⟩ := f0
                go_wp2
                go_round
                case rel =>
                  refine ⟨u + 1, y + s.size, by omega, by go_num, by go_num, f2, fun j q hj hq => ?_⟩
                  by_cases e : j = u
                  · subst e
                    rw [HSU.out] at hq
                    cases hq
                    exact f1
                  · exact HOU.out j q (by omega) hq
                case measure => simp [RowKit.intOf]; omega
              · rcases (show 1048576 < s.size ∨ (s.size ≤ 1048576 ∧ 1048576 < y + s.size) by omega) with f1 | ⟨f1, f2⟩
                all_goals
                 clear f0
                 go_wp2
                 go_ret
                 exact .inl ⟨rfl, rfl⟩
            · have HSP : Hid (SmallP p) := ⟨e4, fun s hs => by
                obtain ⟨j, hj⟩ := List.mem_iff_getElem?.1 hs
                have := (List.getElem?_eq_some_iff.1 hj).1
                exact HOU.out j s (by omega) hj⟩
              go_wp2
              go_round
              case rel =>
                refine ⟨k + 1, y, by omega, by go_num, rfl, hy, fun j q hj hq => ?_⟩
                by_cases e : j = k
                · subst e
                  rw [HP.out] at hq
                  cases hq
                  exact HSP.out
                · exact HO.out j q (by omega) hq
              case measure => simp [RowKit.intOf]; omega
        · have key : 1048576 < p.tx.size ∨ (p.tx.size ≤ 1048576 ∧ 1048576 < z + p.tx.size) ∨ (p.tx.size ≤ 1048576 ∧ z + p.tx.size ≤ 1048576 ∧ 1048576 < p.og.size) ∨ (p.tx.size ≤ 1048576 ∧ z + p.tx.size ≤ 1048576 ∧ p.og.size ≤ 1048576 ∧ 1048576 < z + p.tx.size + p.og.size) ∨
              (p.tx.size ≤ 1048576 ∧ z + p.tx.size ≤ 1048576 ∧ p.og.size ≤ 1048576 ∧ z + p.tx.size + p.og.size ≤ 1048576 ∧ 1048576 < p.l.length) ∨
              (p.tx.size ≤ 1048576 ∧ z + p.tx.size ≤ 1048576 ∧ p.og.size ≤ 1048576 ∧ z + p.tx.size + p.og.size ≤ 1048576 ∧ p.l.length ≤ 1048576 ∧ 1048576 < z + p.tx.size + p.og.size + p.l.length) := by omega
          clear d0
          rcases key with f0 | ⟨f0, f1⟩ | ⟨f0, f1, f2⟩ | ⟨f0, f1, f2, f3⟩ | ⟨f0, f1, f2, f3, f4⟩ | ⟨f0, f1, f2, f3, f4, f5⟩
          all_goals
           go_wp2
           go_ret
           exact .inl ⟨rfl, rfl⟩
      · by_cases d0 : name.size ≤ 1048576 ∧ z + name.size ≤ 1048576
        · have HSM : Hid (Small ps name) := ⟨by omega, d0.1, fun p hp => by
            obtain ⟨j, hj⟩ := List.mem_iff_getElem?.1 hp
            have := (List.getElem?_eq_some_iff.1 hj).1
            exact HO.out j p (by omega) hj⟩
          obtain ⟨d1, d2⟩ := d0
          go_wp2
          go_ret
          exact .inr ⟨rfl, rfl, HSM.out⟩
        · rcases (show 1048576 < name.size ∨ (name.size ≤ 1048576 ∧ 1048576 < z + name.size) by omega) with f1 | ⟨f1, f2⟩
          all_goals
           clear d0
           go_wp2
           go_ret
           exact .inl ⟨rfl, rfl⟩
end Go.Proofs.Qxb6602868aDoor
