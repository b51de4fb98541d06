/-
  A map[string]string that the call makes: look-ups and stores as equations for the walk.
-/
import Derived.Test.Qxb6601943aDoorProg
import Derived.Maps.OwnSet
import Derived.Maps.StringElems
namespace Go.Proofs.Qxb6601943aDoor
open Go Go.RowKit Go.Maps Go.WideMaps

abbrev MapIs (w : World) (b n : Nat) (D : DataW Unit) : Prop := w.ownsMap Tryd.prog 9 (plainElem Tryd.prog 9) b n D
theorem lawS : Keyed Tryd.prog 9 := string_keyed Tryd.underlying9
theorem zero9 (w : World) : (zeroValue 9).run Tryd.prog w = .ok (.string ⟨#[]⟩) w := by kernel_rfl
theorem maxLen_of {n : Nat} (h : n ≤ 100000000) : n ≤ maxLen := by unfold maxLen; omega

theorem data_inj {a b : ByteArray} (h : a.data.toList = b.data.toList) : a = b := by
  cases a with | mk a => cases b with | mk b => exact congrArg ByteArray.mk (Array.toList_inj.1 h)

theorem MapIs.look {w : World} {b n : Nat} {D : DataW Unit} (h : MapIs w b n D) (k s : ByteArray) (hk : k.size ≤ 100000000)
    (hs : D.atKey (.string k.data.toList) (.lit (.string [])) = .lit (.string s.data.toList)) :
    (Instr.lookup 30 (.map (some b)) (.string k) false).run Tryd.prog w = .ok (.string s) w := by
  obtain ⟨v, ps, hrun, hv⟩ := h.lookup lawS Tryd.underlying30 (zero9 w) (plainElem_string Tryd.underlying9 (s := ⟨#[]⟩) (by decide)) (keyOf_string_mk (s := k) Tryd.underlying9 (maxLen_of hk))
  obtain ⟨s', rfl, hz, _⟩ := plainElem_string_inv Tryd.underlying9 hv
  simp only [Prod.mk.injEq] at hz
  have hz1 := hz.1
  rw [hs] at hz1
  simp only [DataW.lit.injEq, Lit.string.injEq] at hz1
  rw [data_inj hz1]
  exact hrun

theorem MapIs.lookOk {w : World} {b n : Nat} {D : DataW Unit} (h : MapIs w b n D) (k s : ByteArray) (ok : Bool) (hk : k.size ≤ 100000000)
    (hs : D.atKey (.string k.data.toList) (.lit (.string [])) = .lit (.string s.data.toList)) (hok : Maps.has D (.string k.data.toList) = ok) :
    (Instr.lookup 30 (.map (some b)) (.string k) true).run Tryd.prog w = .ok (.tuple #[.string s, .bool ok]) w := by
  obtain ⟨v, ps, hrun, hv⟩ := h.look_ok lawS Tryd.underlying30 (zero9 w) (plainElem_string Tryd.underlying9 (s := ⟨#[]⟩) (by decide)) (keyOf_string_mk (s := k) Tryd.underlying9 (maxLen_of hk))
  obtain ⟨s', rfl, hz, _⟩ := plainElem_string_inv Tryd.underlying9 hv
  simp only [Prod.mk.injEq] at hz
  have hz1 := hz.1
  rw [hs] at hz1
  simp only [DataW.lit.injEq, Lit.string.injEq] at hz1
  rw [data_inj hz1, ← hok]
  exact hrun

theorem MapIs.put {w : World} {b n : Nat} {D : DataW Unit} (h : MapIs w b n D) (k v : ByteArray) (hn : n ≤ 1000) (hk : k.size ≤ 100000000) (hv : v.size ≤ 100000000) :
    ∃ w', (Instr.mapUpdate 30 (.map (some b)) (.string k) (.string v)).run Tryd.prog w = .ok () w' ∧ MapIs w' b (n + 1) (D.put (.string k.data.toList) (.lit (.string v.data.toList))) ∧ w.grownBy w' (some b) :=
  h.update lawS Tryd.underlying30 (by unfold maxLen; omega) (keyOf_string_mk (s := k) Tryd.underlying9 (maxLen_of hk)) (plainElem_string Tryd.underlying9 (maxLen_of hv))

theorem MapIs.len {w : World} {b n : Nat} {D : DataW Unit} (h : MapIs w b n D) (ty : TypeId) : (Builtin.len_ #[30] ty #[.map (some b)]).run Tryd.prog w = .ok (.int .i64 (Maps.size D)) w :=
  World.ownsMap.len h Tryd.underlying30 ty

end Go.Proofs.Qxb6601943aDoor
