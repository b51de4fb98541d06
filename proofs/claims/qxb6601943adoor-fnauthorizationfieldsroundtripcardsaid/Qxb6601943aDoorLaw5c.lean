/-
  FnAuthorizationFieldsRoundTrip: the law's walk, behind its first tests.
-/
import Derived.Test.Qxb6601943aDoorLaw5b
import Derived.WalkSpells
namespace Go.Proofs.Qxb6601943aDoor
open Go Go.RowKit Go.PlainAid Go.Maps

theorem text_is (sc k0 v0 k1 v1 k2 v2 : ByteArray) :
    (sc ++ ⟨#[32]⟩ ++ k0 ++ ⟨#[61]⟩ ++ v0 ++ ⟨#[44, 32]⟩ ++ k1 ++ ⟨#[61]⟩ ++ v1 ++ ⟨#[44, 32]⟩ ++ k2 ++ ⟨#[61]⟩ ++ v2).data.toList =
      Pl.whole sc.data.toList k0.data.toList v0.data.toList k1.data.toList v1.data.toList k2.data.toList v2.data.toList := by
  simp only [Joins.data_append]
  unfold Pl.whole
  simp

set_option maxRecDepth 10000 in
set_option maxHeartbeats 2000000 in
theorem law5_late (sc c0 c1 c2 : ByteArray) (n m : Int) (w : World) (hm : w.cell? ⟨0, 0, none⟩ = some (.int .i64 m))
    (hs : sc.size + c0.size + c1.size + c2.size ≤ 1048576) (n0 : 0 ≤ n) (n5 : n ≤ 5) (z0 : 0 < sc.size) (t9 : bt sc 0 ≠ 9) (t32 : hasL sc.data.toList 32 = false) :
    Calls Tryd.prog 5 #[.string sc, .string c0, .string c1, .string c2, .int .i64 n] w fun e w' => e = .returned (.bool true) ∧ Below w.heap.size w w' := by
  have z0' : ((sc.size : Int) == 0) = false := beq_eq_false_iff_ne.2 (by omega)
  have z1 : (0 : Int) < sc.size := by omega
  have hb := get_bt sc
  have t9' : (bt sc 0 == 9) = false := beq_eq_false_iff_ne.2 t9
  have h11 := hasByte sc 32 w (by omega)
  rw [t32] at h11
  have HT9 : Hid (bt sc 0 ≠ 9) := t9
  have HT32 : Hid (hasL sc.data.toList 32 = false) := t32
  clear t9 t32
  have hvs : ∀ k, k < 3 → (valV c0 c1 c2 k).size ≤ 1048576 := by
    intro k hk
    match k, hk with
    | 0, _ => show c0.size ≤ _; omega
    | 1, _ => show c1.size ≤ _; omega
    | 2, _ => show c2.size ≤ _; omega
  have HVS : Hid (∀ k, k < 3 → (valV c0 c1 c2 k).size ≤ 1048576) := hvs
  clear hvs
  go_enter Tryd.func5, Tryd.ntmps5
  go_wp2_with fail
  refine (bytes5 _ _ _ _ _ _ hs).mono ?_
  rintro e wx ⟨rfl, hwx⟩
  rw [hwx]; clear hwx wx
  go_wp2_with fail
  refine h11.mono ?_
  rintro e wx ⟨rfl, hwx⟩
  rw [hwx]; clear hwx wx
  clear h11
  go_wp2_with fail
  have hcell : ∀ k : Nat, k < 3 → (w.alloc (Obj.cells #[Value.string c0, Value.string c1, Value.string c2] 26)).cell? ⟨w.heap.size, k, none⟩ = some (.string (valV c0 c1 c2 k)) := by
    intro k hk
    rw [World.cell?_alloc_new]
    match k, hk with
    | 0, _ => rfl
    | 1, _ => rfl
    | 2, _ => rfl
  have hBel : Below w.heap.size w (w.alloc (Obj.cells #[Value.string c0, Value.string c1, Value.string c2] 26)) := (Below.refl _ _).alloc (Nat.le_refl _) _
  have hsW : (w.alloc (Obj.cells #[Value.string c0, Value.string c1, Value.string c2] 26)).heap.size = w.heap.size + 1 := by simp
  generalize (w.alloc (Obj.cells #[Value.string c0, Value.string c1, Value.string c2] 26)) = W1 at hcell hBel hsW ⊢
  generalize hbl : w.heap.size = bl at hcell hBel hsW ⊢
  go_loop [12] (fun i => ∃ k : Nat, k ≤ 3 ∧ i = .int .i64 k ∧ (∀ j, j < k → Pl.plainV (valV c0 c1 c2 j).data.toList = true)) (fun i => 3 - (RowKit.intOf i).toNat)
  case atStart => exact ⟨0, by omega, rfl, fun j h => absurd h (Nat.not_lt_zero _)⟩
  case round =>
    obtain ⟨k, hk, rfl, hpl⟩ := hrel
    have HPL : Hid (∀ j, j < k → Pl.plainV (valV c0 c1 c2 j).data.toList = true) := hpl
    clear hpl
    by_cases hlt : k < 3
    · have hck := hcell k hlt
      have hpv := plainValue (valV c0 c1 c2 k) W1 (HVS.out k hlt)
      have HC : Hid (∀ k : Nat, k < 3 → W1.cell? ⟨bl, k, none⟩ = some (.string (valV c0 c1 c2 k))) := hcell
      clear hcell
      cases hq : Pl.plainV (valV c0 c1 c2 k).data.toList with
      | false =>
        rw [hq] at hpv
        clear hq
        go_wp2_with (go_at_call 12; refine hpv.mono ?_; rintro e w' ⟨rfl, rfl⟩)
        go_ret
        exact ⟨rfl, by rw [hbl]; exact hBel⟩
      | true =>
        rw [hq] at hpv
        have HQ : Hid (Pl.plainV (valV c0 c1 c2 k).data.toList = true) := hq
        clear hq
        go_wp2_with (go_at_call 12; refine hpv.mono ?_; rintro e w' ⟨rfl, rfl⟩)
        go_round
        case rel =>
          refine ⟨k + 1, by omega, by go_num, fun j hj => ?_⟩
          by_cases e : j = k
          · subst e; exact HQ.out
          · exact HPL.out j (by omega)
        case measure => simp [RowKit.intOf]; omega
    · have hk3 : k = 3 := by omega
      subst hk3
      go_wp2_with fail
      refine (perm5 n _ n0 n5).mono ?_
      rintro e wx ⟨rfl, hwx⟩
      rw [hwx]; clear hwx wx
      have hP := ordO_perm n
      have hlt3 := hP.lt
      obtain ⟨o, hoo⟩ : ∃ o, ordO n = o := ⟨_, rfl⟩
      rw [hoo] at hP hlt3 ⊢
      clear hoo
      obtain ⟨a, hea⟩ : ∃ a, o 0 = a := ⟨_, rfl⟩
      obtain ⟨b, heb⟩ : ∃ b, o 1 = b := ⟨_, rfl⟩
      obtain ⟨c, hec⟩ : ∃ c, o 2 = c := ⟨_, rfl⟩
      rw [hea, heb, hec] at hlt3 ⊢
      obtain ⟨la, lb, lc⟩ := hlt3
      have HEA : Hid (o 0 = a ∧ o 1 = b ∧ o 2 = c) := ⟨hea, heb, hec⟩
      have HP : Hid (Perm o) := hP
      clear hea heb hec hP
      have ca := hcell a la
      have cb := hcell b lb
      have cc := hcell c lc
      have ia : (a : Int) < 3 := by omega
      have ib : (b : Int) < 3 := by omega
      have ic : (c : Int) < 3 := by omega
      have ka := keyS_size a
      have kb := keyS_size b
      have kc := keyS_size c
      have va := HVS.out a la
      have vb := HVS.out b lb
      have vc := HVS.out c lc
      have HC : Hid (∀ k : Nat, k < 3 → W1.cell? ⟨bl, k, none⟩ = some (.string (valV c0 c1 c2 k))) := hcell
      clear hcell
      go_wp2_with fail
      go_quiet ((go_at_call 14; exact Calls.quiet_of_same (key5 _ _ (by assumption))))
      have htx := text_is sc (keyS a) (valV c0 c1 c2 a) (keyS b) (valV c0 c1 c2 b) (keyS c) (valV c0 c1 c2 c)
      have hxs : (sc ++ ⟨#[32]⟩ ++ keyS a ++ ⟨#[61]⟩ ++ valV c0 c1 c2 a ++ ⟨#[44, 32]⟩ ++ keyS b ++ ⟨#[61]⟩ ++ valV c0 c1 c2 b ++ ⟨#[44, 32]⟩ ++ keyS c ++ ⟨#[61]⟩ ++ valV c0 c1 c2 c).size ≤ 10000000 := by
        have e1 : sc.data.toList.length = sc.size := (Lib.size_eq _).symm
        have e2 : (keyS a).data.toList.length = (keyS a).size := (Lib.size_eq _).symm
        have e3 : (keyS b).data.toList.length = (keyS b).size := (Lib.size_eq _).symm
        have e4 : (keyS c).data.toList.length = (keyS c).size := (Lib.size_eq _).symm
        have e5 : (valV c0 c1 c2 a).data.toList.length = (valV c0 c1 c2 a).size := (Lib.size_eq _).symm
        have e6 : (valV c0 c1 c2 b).data.toList.length = (valV c0 c1 c2 b).size := (Lib.size_eq _).symm
        have e7 : (valV c0 c1 c2 c).data.toList.length = (valV c0 c1 c2 c).size := (Lib.size_eq _).symm
        rw [Lib.size_eq, htx]
        unfold Pl.whole
        simp only [List.length_append, List.length_cons]
        omega
      have HXT : Hid ((sc ++ ⟨#[32]⟩ ++ keyS a ++ ⟨#[61]⟩ ++ valV c0 c1 c2 a ++ ⟨#[44, 32]⟩ ++ keyS b ++ ⟨#[61]⟩ ++ valV c0 c1 c2 b ++ ⟨#[44, 32]⟩ ++ keyS c ++ ⟨#[61]⟩ ++ valV c0 c1 c2 c).data.toList = Pl.whole sc.data.toList (keyS a).data.toList (valV c0 c1 c2 a).data.toList (keyS b).data.toList (valV c0 c1 c2 b).data.toList (keyS c).data.toList (valV c0 c1 c2 c).data.toList) := htx
      clear htx
      go_wp2_with fail
      generalize (sc ++ ⟨#[32]⟩ ++ keyS a ++ ⟨#[61]⟩ ++ valV c0 c1 c2 a ++ ⟨#[44, 32]⟩ ++ keyS b ++ ⟨#[61]⟩ ++ valV c0 c1 c2 b ++ ⟨#[44, 32]⟩ ++ keyS c ++ ⟨#[61]⟩ ++ valV c0 c1 c2 c : ByteArray) = x at hxs HXT ⊢
      have hx := HXT.out
      obtain ⟨oa, ob, oc⟩ := HEA.out
      obtain ⟨rs, hF⟩ := fx x sc o (fun k => valV c0 c1 c2 (o k)) (by rw [hx, oa, ob, oc]) (by
          have h9 := HT9.out
          have h32 := HT32.out
          cases hl : sc.data.toList with
          | nil =>
            have : sc.size = 0 := by rw [Lib.size_eq, hl]; rfl
            omega
          | cons y l =>
            refine ⟨y, l, rfl, ?_, ?_⟩
            · rintro rfl
              unfold hasL at h32
              rw [hl] at h32
              simp at h32
            · rintro rfl
              apply h9
              unfold bt
              rw [dif_pos z0]
              have : sc[0] = 9 := by
                have e : sc.data.toList[0]? = some sc[0] := by rw [List.getElem?_eq_getElem (by rw [← Lib.size_eq]; exact z0)]; rfl
                rw [hl] at e
                simpa using e.symm
              rw [this]; rfl) (by
          have h32 := HT32.out
          unfold hasL at h32
          intro hm
          rw [List.contains_iff_mem.2 hm] at h32
          cases h32) (by
          intro k hk
          have := HP.out.lt
          match k, hk with
          | 0, _ => exact HPL.out _ this.1
          | 1, _ => exact HPL.out _ this.2.1
          | 2, _ => exact HPL.out _ this.2.2)
      have hfull := DF_full HP.out sc (fun k => valV c0 c1 c2 (o k))
      have h00 : 0 < w.heap.size := by
        apply Classical.byContradiction
        intro hn
        have e : w.heap[0]? = none := Array.getElem?_eq_none (by omega)
        simp [World.cell?, e] at hm
      have hmW : (W1.drewN nq).cell? ⟨0, 0, none⟩ = some (.int .i64 m) := by
        rw [World.cell?_drewN, hBel.cell (p := ⟨0, 0, none⟩) (by rw [← hbl]; exact h00)]; exact hm
      refine (zzAuth x sc rs o _ m (W1.drewN nq) hxs hmW HP.out hF).mono ?_
      rintro e U ⟨M, rfl, hM, hBU⟩
      obtain ⟨hsz4, hat0, hhas0, hatk⟩ := hfull
      have hlk : ∀ j, j < 3 → (Instr.lookup 30 (.map (some M)) (.string (parS j)) true).run Tryd.prog U = .ok (.tuple #[.string (valV c0 c1 c2 j), .bool true]) U := by
        intro j hj
        obtain ⟨k, hk, rfl⟩ := HP.out.onto j hj
        exact hM.lookOk (parS (o k)) _ true (by have := parS_size (o k); omega) (hatk k hk).1 (hatk k hk).2
      have hla := hM.lookOk algS sc true (by decide) hat0 hhas0
      have hln := hM.len 3
      rw [hsz4] at hln
      unfold algS at hla
      have hcU : ∀ k, k < 3 → U.cell? ⟨bl, k, none⟩ = some (.string (valV c0 c1 c2 k)) := fun k hk => by
        rw [hBU.cell (p := ⟨bl, k, none⟩) (by show bl < W1.heap.size; omega), World.cell?_drewN]
        exact HC.out k hk
      have hBf : Below w.heap.size w U := by
        rw [hbl]
        exact (below_drewN hBel nq).trans (hBU.mono (by show bl ≤ W1.heap.size; omega))
      have HLK : Hid (∀ j, j < 3 → (Instr.lookup 30 (.map (some M)) (.string (parS j)) true).run Tryd.prog U = .ok (.tuple #[.string (valV c0 c1 c2 j), .bool true]) U) := hlk
      have HCU : Hid (∀ k, k < 3 → U.cell? ⟨bl, k, none⟩ = some (.string (valV c0 c1 c2 k))) := hcU
      clear hlk hcU hatk hsz4 hat0 hhas0 hM hF hmW oa ob oc hx ca cb cc hBU
      have hqn : ∀ (w : World) (r : Option Nat), (binOp .eql 30 (.map r) (.map none)).run Tryd.prog w = .ok (.bool r.isNone) w := fun w r => run_eql_map_nil w _ _ _ r Tryd.underlying30
      go_wp2_with fail
      clear hqn hla hln
      go_loop [20] (fun i => ∃ j : Nat, j ≤ 3 ∧ i = .int .i64 j) (fun i => 3 - (RowKit.intOf i).toNat)
      case atStart => exact ⟨0, by omega, rfl⟩
      case round =>
        obtain ⟨j, hj, rfl⟩ := hrel
        by_cases hj3 : j < 3
        · have hp := par5 j U hj3
          have hl := HLK.out j hj3
          have hc := HCU.out j hj3
          have ij : (j : Int) < 3 := by omega
          go_wp2_with (go_at_call 16; refine hp.mono ?_; rintro e w' ⟨rfl, rfl⟩)
          go_round
          case rel => exact ⟨j + 1, by omega, by go_num⟩
          case measure => simp [RowKit.intOf]; omega
        · go_wp2
          go_ret
          exact ⟨rfl, by rw [← hbl]; exact hBf⟩

theorem law5 (sc c0 c1 c2 : ByteArray) (n m : Int) (w : World) (hm : w.cell? ⟨0, 0, none⟩ = some (.int .i64 m)) :
    Calls Tryd.prog 5 #[.string sc, .string c0, .string c1, .string c2, .int .i64 n] w fun e w' => e = .returned (.bool true) ∧ Below w.heap.size w w' := by
  by_cases h : 1048576 < sc.size + c0.size + c1.size + c2.size ∨ n < 0 ∨ 5 < n ∨ sc.size = 0 ∨ bt sc 0 = 9 ∨ hasL sc.data.toList 32 = true
  · exact law5_early sc c0 c1 c2 n w h
  · simp only [not_or] at h
    obtain ⟨h1, h2, h3, h4, h5, h6⟩ := h
    exact law5_late sc c0 c1 c2 n m w hm (by omega) (by omega) (by omega) (by omega) h5 (by simpa using h6)
end Go.Proofs.Qxb6601943aDoor
