/-
  wdLeadWS and wdBlockValue, walked.
-/
import Derived.Test.Qxb6602381aDoorModel2
import Derived.Test.Qxb6602381aDoorTilesPl
namespace Go.Proofs.Qxb6602381aDoor
open Go Go.RowKit Go.PlainAid

/-- The bytes raw stand at block g. -/
def RawAt (w : World) (g : Nat) (raw : List UInt8) : Prop := ∀ j, j < raw.length → w.cell? ⟨g, j, none⟩ = (Lib.byteCells raw)[j]?
theorem RawAt.get {w : World} {g : Nat} {raw : List UInt8} (h : RawAt w g raw) {j : Nat} {b : UInt8} (hb : raw[j]? = some b) : w.cell? ⟨g, j, none⟩ = some (.int .u8 (b.toNat : Int)) := by
  rw [h j (List.getElem?_eq_some_iff.1 hb).1]
  simp [Lib.byteCells, hb]
theorem Pl.Piece.get {raw l : List UInt8} {s e k : Nat} (h : Pl.Piece raw s e l) (hk : k < l.length) : ∃ b, raw[s + k]? = some b ∧ l.drop k = b :: l.drop (k + 1) := by
  obtain ⟨h1, h2, h3⟩ := h
  refine ⟨l[k], ?_, List.drop_eq_getElem_cons hk⟩
  have h4 : l[k]? = some l[k] := List.getElem?_eq_getElem hk
  have h5 : ((raw.drop s).take l.length)[k]? = l[k]? := by rw [h3]
  rw [List.getElem?_take_of_lt hk, List.getElem?_drop] at h5
  exact h5.trans h4

set_option maxHeartbeats 1000000 in
theorem leadWS (raw : List UInt8) (g cap s e : Nat) (l : List UInt8) (w : World) (hr : RawAt w g raw) (hp : Pl.Piece raw s e l) (hn : raw.length ≤ 17592186044416) :
    Calls Tryd.prog 23 #[.slice (some ⟨g, 0, none⟩) raw.length cap, .int .i64 s, .int .i64 e] w fun r w' => r = .returned (.int .i64 (Pl.lead l : Int)) ∧ w' = w := by
  have hel := hp.1
  have her := hp.2.1
  have HP : Hid (Pl.Piece raw s e l) := hp
  have HR : Hid (RawAt w g raw) := hr
  clear hp hr
  go_enter Tryd.func23, Tryd.ntmps23
  go_wp2
  go_loop [7] (fun i => ∃ k : Nat, k ≤ l.length ∧ i = .int .i64 k ∧ Pl.lead l = k + Pl.lead (l.drop k)) (fun i => l.length - (RowKit.intOf i).toNat)
  case atStart => exact ⟨0, Nat.zero_le _, rfl, by simp⟩
  case round =>
    obtain ⟨k, hk, rfl, hld⟩ := hrel
    have HL : Hid (Pl.lead l = k + Pl.lead (l.drop k)) := hld
    clear hld
    by_cases hlt : k < l.length
    · obtain ⟨b, hb, hd⟩ := HP.out.get hlt
      have hcell := HR.out.get hb
      have hlt2 : s + k < raw.length := (List.getElem?_eq_some_iff.1 hb).1
      have i1 : ((s : Int) + (k : Int)).toNat = s + k := by omega
      have HD : Hid (l.drop k = b :: l.drop (k + 1)) := hd
      clear hb hd
      by_cases h32 : b = 32
      · subst h32
        have HN : Hid (Pl.lead l = (k + 1) + Pl.lead (l.drop (k + 1))) := by
          show _ = _
          rw [HL.out, HD.out, Pl.lead, if_pos (by rfl)]; omega
        rw [show (((32 : UInt8).toNat : Nat) : Int) = 32 from rfl] at hcell
        go_wp2
        go_round
        case rel => exact ⟨k + 1, by omega, by go_num, HN.out⟩
        case measure => simp [RowKit.intOf]; omega
      · have d32 : ((b.toNat : Int) == 32) = false := beq_eq_false_iff_ne.2 (fun e => h32 (UInt8.toNat_inj.1 (by rw [show (32 : UInt8).toNat = 32 from rfl]; omega)))
        by_cases h9 : b = 9
        · subst h9
          have HN : Hid (Pl.lead l = (k + 1) + Pl.lead (l.drop (k + 1))) := by
            show _ = _
            rw [HL.out, HD.out, Pl.lead, if_pos (by rfl)]; omega
          rw [show (((9 : UInt8).toNat : Nat) : Int) = 9 from rfl] at hcell d32
          clear h32
          go_wp2
          go_round
          case rel => exact ⟨k + 1, by omega, by go_num, HN.out⟩
          case measure => simp [RowKit.intOf]; omega
        · have d9 : ((b.toNat : Int) == 9) = false := beq_eq_false_iff_ne.2 (fun e => h9 (UInt8.toNat_inj.1 (by rw [show (9 : UInt8).toNat = 9 from rfl]; omega)))
          have HN : Hid (Pl.lead l = k) := by
            show _ = _
            have hw : Pl.ws b = false := by
              unfold Pl.ws
              rw [beq_eq_false_iff_ne.2 h32, beq_eq_false_iff_ne.2 h9]; rfl
            rw [HL.out, HD.out, Pl.lead, if_neg (by rw [hw]; simp)]; rfl
          clear h32 h9
          go_wp2
          go_ret
          exact ⟨by rw [HN.out]; rfl, rfl⟩
    · have HN : Hid (Pl.lead l = k) := by
        show _ = _
        rw [HL.out, List.drop_of_length_le (by omega)]; rfl
      go_wp2
      go_ret
      exact ⟨by rw [HN.out]; rfl, rfl⟩
end Go.Proofs.Qxb6602381aDoor
