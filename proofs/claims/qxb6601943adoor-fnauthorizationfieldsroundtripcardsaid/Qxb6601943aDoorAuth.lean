/-
  authorizationFields, walked at a text built of a scheme and three parts.
-/
import Derived.Test.Qxb6601943aDoorAuthDat
namespace Go.Proofs.Qxb6601943aDoor
open Go Go.RowKit Go.Shelf Go.PlainAid Go.Maps
attribute [local go_sem] Oper.semAt_some

theorem MapIs.of_block {w w' : World} {b n : Nat} {D : DataW Unit} (h : MapIs w b n D) (e : w'.heap[b]? = w.heap[b]?) : MapIs w' b n D := by
  obtain ⟨es, clock, hb, r⟩ := h
  exact ⟨es, clock, e.trans hb, r⟩

/-- Behind 'names': the result's cell, the map 'names' (block N + 1), its box Bn. -/
structure St (w U : World) (Bn : Nat) : Prop where
  res : U.cell? ⟨w.heap.size, 0, none⟩ = some (.map none)
  resF : U.frozen? ⟨w.heap.size, 0, none⟩ = false
  nm : MapIs U (w.heap.size + 1) 3 DN
  nb : U.cell? ⟨Bn, 0, none⟩ = some (.map (some (w.heap.size + 1)))
  below : Below w.heap.size w U
  size : Bn + 1 ≤ U.heap.size
  lt : w.heap.size + 1 < Bn
theorem St.later {w U U' : World} {Bn B : Nat} (h : St w U Bn) (hb : Below B U U') (hB : Bn + 1 ≤ B) : St w U' Bn := by
  have hl := h.lt
  refine ⟨?_, ?_, h.nm.of_block (hb.block _ (by omega)), ?_, h.below.trans (hb.mono (by omega)), Nat.le_trans h.size hb.size, hl⟩
  · rw [hb.cell (p := ⟨w.heap.size, 0, none⟩) (by show w.heap.size < B; omega)]; exact h.res
  · rw [hb.frozen (p := ⟨w.heap.size, 0, none⟩) (by show w.heap.size < B; omega)]; exact h.resF
  · rw [hb.cell (p := ⟨Bn, 0, none⟩) (by show Bn < B; omega)]; exact h.nb

theorem names_start (w : World) : ∃ W1 W2 W3,
    (Instr.mapUpdate 30 (.map (some (w.heap.size + 1))) (.string (keyS 0)) (.string (parS 0))).run Tryd.prog ((w.alloc (.cells #[.map none] 30)).alloc (.map #[] 0)) = .ok () W1 ∧
    (Instr.mapUpdate 30 (.map (some (w.heap.size + 1))) (.string (keyS 1)) (.string (parS 1))).run Tryd.prog W1 = .ok () W2 ∧
    (Instr.mapUpdate 30 (.map (some (w.heap.size + 1))) (.string (keyS 2)) (.string (parS 2))).run Tryd.prog W2 = .ok () W3 ∧
    St w (W3.alloc (.cells #[.map (some (w.heap.size + 1))] 30)) W3.heap.size := by
  have hM0 := World.ownsMap_made (H := Unit) (w.alloc (.cells #[.map none] 30)) Tryd.prog 9 (plainElem Tryd.prog 9)
  rw [World.size_alloc] at hM0
  obtain ⟨W1, hr1, hM1, hg1⟩ := MapIs.put hM0 (keyS 0) (parS 0) (by omega) (by decide) (by decide)
  obtain ⟨W2, hr2, hM2, hg2⟩ := MapIs.put hM1 (keyS 1) (parS 1) (by omega) (by decide) (by decide)
  obtain ⟨W3, hr3, hM3, hg3⟩ := MapIs.put hM2 (keyS 2) (parS 2) (by omega) (by decide) (by decide)
  refine ⟨W1, W2, W3, hr1, hr2, hr3, ?_⟩
  have hg := (hg1.trans hg2).trans hg3
  have hz := hg.size
  simp at hz
  have hb : Below (w.heap.size + 1) ((w.alloc (.cells #[.map none] 30)).alloc (.map #[] 0)) W3 :=
    (Below.refl _ _).grown hg (by simp) (fun k e => by cases e; exact Nat.le_refl _)
  have hbw : Below w.heap.size w W3 := (((Below.refl _ w).alloc (Nat.le_refl _) _).alloc (by simp) _).trans (hb.mono (by omega))
  refine ⟨?_, ?_, (World.ownsMap.alloc hM3 _), ?_, hbw.alloc (by omega) _, by simp, by omega⟩
  · rw [World.cell?_alloc_past _ _ _ (by omega), hb.cell (p := ⟨w.heap.size, 0, none⟩) (Nat.lt_succ_self _), World.cell?_alloc_past _ _ _ (by simp), World.cell?_alloc_at _ _ _ _ rfl]; rfl
  · rw [World.frozen?_alloc_past _ _ _ (by omega), hb.frozen (p := ⟨w.heap.size, 0, none⟩) (Nat.lt_succ_self _), World.frozen?_alloc_past _ _ _ (by simp), World.frozen?_alloc_at _ _ _ _ rfl]
  · rw [World.cell?_alloc_at _ _ _ _ rfl]; rfl

/-- Behind 'fields': its map (block M) reads as D, its box Bf. -/
structure Au (w W : World) (Bn M Bf n : Nat) (D : DataW Unit) : Prop where
  st : St w W Bn
  fm : MapIs W M n D
  fb : W.cell? ⟨Bf, 0, none⟩ = some (.map (some M))
  size : Bf + 4 ≤ W.heap.size
  lt1 : Bn < M
  lt2 : M < Bf

theorem fields_start {w U : World} {Bn : Nat} (h : St w U Bn) (sc : ByteArray) (hsc : sc.size ≤ 100000000) : ∃ W4,
    (Instr.mapUpdate 30 (.map (some U.heap.size)) (.string algS) (.string sc)).run Tryd.prog (U.alloc (.map #[] 0)) = .ok () W4 ∧
    ∀ v4 v5 v6 t4 t5 t6, Rows1 W4 ((((W4.alloc (.cells #[.map (some U.heap.size)] 30)).alloc (.cells #[v4] t4)).alloc (.cells #[v5] t5)).alloc (.cells #[v6] t6)) [.map (some U.heap.size), v4, v5, v6] ∧
      Au w ((((W4.alloc (.cells #[.map (some U.heap.size)] 30)).alloc (.cells #[v4] t4)).alloc (.cells #[v5] t5)).alloc (.cells #[v6] t6)) Bn U.heap.size W4.heap.size 1 ((DataW.map []).put (sL algS) (sD sc)) := by
  have hM0 := World.ownsMap_made (H := Unit) U Tryd.prog 9 (plainElem Tryd.prog 9)
  obtain ⟨W4, hr4, hM4, hg4⟩ := MapIs.put hM0 algS sc (by omega) (by decide) hsc
  refine ⟨W4, hr4, fun v4 v5 v6 t4 t5 t6 => ?_⟩
  have R := ((((Rows1.nil W4).snoc (.map (some U.heap.size)) 30).snoc v4 t4).snoc v5 t5).snoc v6 t6
  have hz := hg4.size
  have hs := h.size
  simp at hz
  have hb : Below U.heap.size U W4 := ((Below.refl _ U).alloc (Nat.le_refl _) _).grown hg4 (by simp) (fun k e => by cases e; exact Nat.le_refl _)
  have hb2 := hb.trans (R.below.mono (by omega))
  refine ⟨R, h.later hb2 hs, hM4.of_block (R.below.block _ (by omega)), R.cell 0 (by simp), Nat.le_of_eq R.size.symm, by omega, by omega⟩

theorem Au.own {w : World} {Bn M Bf : Nat} {D : Nat → DataW Unit} : OwnFrom (Bf + 4) (fun k W => Au w W Bn M Bf (k + 1) (D k)) := by
  intro k W W' row h hg hr
  have hr' := fun r e => (hr r e).2
  have l1 := h.lt1
  have l2 := h.lt2
  have l3 := h.st.lt
  have hb : Below (Bf + 4) W W' := (Below.refl _ W).grown hg h.size (fun k e => (hr k e).1)
  refine ⟨h.st.later hb (by omega), h.fm.of_block (hb.block _ (by omega)), ?_, Nat.le_trans h.size hg.size, l1, l2⟩
  rw [hb.cell (p := ⟨Bf, 0, none⟩) (by show Bf < Bf + 4; omega)]; exact h.fb

theorem Au.stp {w A B : World} {Bn M Bf n : Nat} {D : DataW Unit} (h : Au w A Bn M Bf n D) (hs : Stp (Bf + 1) A B) : Au w B Bn M Bf n D := by
  obtain ⟨r, rfl⟩ := hs
  have l1 := h.lt1
  have l2 := h.lt2
  have l3 := h.st.lt
  have hb : Below (Bf + 1) A (A.setCell ⟨Bf + 1, 0, none⟩ (.string r)) := (Below.refl _ A).setCell (p := ⟨Bf + 1, 0, none⟩) (Nat.le_refl _) _
  refine ⟨h.st.later hb (by omega), h.fm.of_block (hb.block _ (by omega)), ?_, Nat.le_trans h.size hb.size, l1, l2⟩
  rw [hb.cell (p := ⟨Bf, 0, none⟩) (Nat.lt_succ_self _)]; exact h.fb


theorem ba_mk (s : ByteArray) : (⟨s.data.toList.toArray⟩ : ByteArray) = s := by cases s; simp

/-- How the text is cut again. -/
structure Fx (x sc rs : ByteArray) (o : Nat → Nat) (V : Nat → ByteArray) : Prop where
  trim : Lib.trimS x.data.toList [32, 9] = x.data.toList
  cut : Lib.cut x.data.toList [32] = (sc.data.toList, rs.data.toList, true)
  len : (pcs 44 rs).length = 3
  rsz : rs.size ≤ x.size
  scz : sc.size ≤ x.size
  vz : ∀ k, k < 3 → (V k).size ≤ x.size
  trimK : ∀ k, k < 3 → Lib.trimB ((pcs 44 rs).getD k ⟨#[]⟩).data.toList 32 = (keyS (o k)).data.toList ++ 61 :: (V k).data.toList
  psz : ∀ k, k < 3 → ((pcs 44 rs).getD k ⟨#[]⟩).size ≤ x.size
  cutK : ∀ k, k < 3 → Lib.cut ((keyS (o k)).data.toList ++ 61 :: (V k).data.toList) [61] = ((keyS (o k)).data.toList, (V k).data.toList, true)

theorem fx (x sc : ByteArray) (o : Nat → Nat) (V : Nat → ByteArray)
    (hx : x.data.toList = Pl.whole sc.data.toList (keyS (o 0)).data.toList (V 0).data.toList (keyS (o 1)).data.toList (V 1).data.toList (keyS (o 2)).data.toList (V 2).data.toList)
    (hsc : ∃ a l, sc.data.toList = a :: l ∧ a ≠ 32 ∧ a ≠ 9) (hsc2 : 32 ∉ sc.data.toList) (hV : ∀ k, k < 3 → Pl.plainV (V k).data.toList = true) : ∃ rs, Fx x sc rs o V := by
  have q0 := Pl.part_ok (keyS_ok (o 0)) (hV 0 (by omega))
  have q1 := Pl.part_ok (keyS_ok (o 1)) (hV 1 (by omega))
  have q2 := Pl.part_ok (keyS_ok (o 2)) (hV 2 (by omega))
  refine ⟨⟨(Pl.rest (keyS (o 0)).data.toList (V 0).data.toList (keyS (o 1)).data.toList (V 1).data.toList (keyS (o 2)).data.toList (V 2).data.toList).toArray⟩, ?_⟩
  generalize hrs : Pl.rest (keyS (o 0)).data.toList (V 0).data.toList (keyS (o 1)).data.toList (V 1).data.toList (keyS (o 2)).data.toList (V 2).data.toList = rs
  have hseg := pcs_segs 44 ⟨rs.toArray⟩
  simp only at hseg
  rw [← hrs, Pl.rest_segs q0.2.2.2 q1.2.2.2 q2.2.2.2, hrs] at hseg
  have hrl : rs.length ≤ x.size := by
    rw [Lib.size_eq x, hx, ← hrs]; unfold Pl.whole Pl.rest; simp; omega
  have hd : ∀ k l, [(keyS (o 0)).data.toList ++ 61 :: (V 0).data.toList, 32 :: ((keyS (o 1)).data.toList ++ 61 :: (V 1).data.toList), 32 :: ((keyS (o 2)).data.toList ++ 61 :: (V 2).data.toList)][k]? = some l → ((pcs 44 ⟨rs.toArray⟩).getD k ⟨#[]⟩).data.toList = l := by
    intro k l hl
    rw [← hseg, List.getElem?_map] at hl
    obtain ⟨y, hy, rfl⟩ := Option.map_eq_some_iff.1 hl
    rw [List.getD_eq_getElem?_getD, hy]; rfl
  have hxl : x.size = x.data.toList.length := Lib.size_eq x
  rw [hx] at hxl
  unfold Pl.whole at hxl
  simp only [List.length_append, List.length_cons] at hxl
  have e0 := hd 0 _ rfl
  have e1 := hd 1 _ rfl
  have e2 := hd 2 _ rfl
  refine ⟨?_, ?_, ?_, ?_, ?_, ?_, ?_, ?_, ?_⟩
  · obtain ⟨a, l, e, h1, h2⟩ := hsc
    rw [hx, e]
    exact Pl.whole_trim h1 h2 (hV 2 (by omega))
  · rw [hx, ← hrs]; exact Pl.whole_cut hsc2
  · have := congrArg List.length hseg
    simpa using this
  · rw [Lib.size_eq]; exact hrl
  · rw [Lib.size_eq]; omega
  · intro k hk
    rw [Lib.size_eq]
    match k, hk with
    | 0, _ => omega
    | 1, _ => omega
    | 2, _ => omega
  · intro k hk
    match k, hk with
    | 0, _ => rw [e0]; exact q0.2.1
    | 1, _ => rw [e1]; exact q1.1
    | 2, _ => rw [e2]; exact q2.1
  · intro k hk
    rw [Lib.size_eq]
    match k, hk with
    | 0, _ => rw [e0]; simp only [List.length_append, List.length_cons]; omega
    | 1, _ => rw [e1]; simp only [List.length_append, List.length_cons]; omega
    | 2, _ => rw [e2]; simp only [List.length_append, List.length_cons]; omega
  · intro k hk
    match k, hk with
    | 0, _ => exact q0.2.2.1
    | 1, _ => exact q1.2.2.1
    | 2, _ => exact q2.2.2.1


/-- The end of authorizationFields. -/
theorem fin19 {tmps : Array Value} {N D M : Nat} {w W : World} {R : Ending → World → Prop} (ht : tmps.getD 2 undef = .pointer (some ⟨N, 0, none⟩)) (hK : W.heap[D]? = some (.deferred (some [])))
    (hres : W.cell? ⟨N, 0, none⟩ = some (.map (some M))) (hb : Below N w W) (hN : N = w.heap.size) (hD : N ≤ D)
    (hR : Below N w (W.putObj D (.deferred none)) → (∀ k, k ≠ D → (W.putObj D (.deferred none)).heap[k]? = W.heap[k]?) → R (.returned (.map (some M))) (W.putObj D (.deferred none))) :
    bodyPostM Fence.wide 10 Tryd.prog Tryd.f19 R .ret { tmps := tmps, defers := [{ target := .collected D, args := #[] }] } W := by
  subst hN
  refine ⟨by simp, .inl ⟨_, _, rfl, run_takeDeferred hK, ?_⟩⟩
  have e1 : (W.putObj D (.deferred none)).cell? ⟨w.heap.size, 0, none⟩ = some (.map (some M)) := cell_kept hres (grownBy_putObj' _ D (.deferred none)) (fun r e => by cases e; exact ⟨_, hK, rfl⟩)
  refine ⟨.map (some M), ?_, hR (hb.trans (belowK_b (w := w) (Nat.le_refl _) W D _ _ hD hK rfl rfl)) (fun k hk => World.putObj_heap_other hk)⟩
  have e2 : Tryd.f19.results = #[.cell 2 30] := rfl
  have e3 : tmps[2]?.getD undef = .pointer (some ⟨w.heap.size, 0, none⟩) := by rw [← ht]; simp
  simp only [results, e2]
  simp [go_sem, e3, e1]

theorem Au.heap {w W W' : World} {Bn M Bf n : Nat} {D : DataW Unit} (h : Au w W Bn M Bf n D) (hb : ∀ B, Below B W W') : Au w W' Bn M Bf n D := by
  have hb' := hb (W.heap.size)
  have hs := h.size
  have l1 := h.lt1
  have l2 := h.lt2
  refine ⟨h.st.later hb' h.st.size, h.fm.of_block (hb'.block _ (by omega)), ?_, Nat.le_trans h.size hb'.size, l1, l2⟩
  rw [hb'.cell (p := ⟨Bf, 0, none⟩) (by show Bf < W.heap.size; omega)]; exact h.fb

theorem keeps_all {A B : World} (h : ∀ n, Below n A B) (n : Nat) : KeepsFrom n A B :=
  ⟨(h 0).size, fun k _ _ hk _ => ((h (k + 1)).block k (Nat.lt_succ_self k)).trans hk⟩

/-- A round's store into 'fields'. -/
theorem Au.store {w W W' : World} {Bn M Bf n : Nat} {D D' : DataW Unit} (h : Au w W Bn M Bf n D) (hm : MapIs W' M (n + 1) D') (hg : W.grownBy W' (some M)) :
    Au w W' Bn M Bf (n + 1) D' ∧ Kp (Bf + 1) W W' ∧ KeepsFrom (Bf + 4) W W' := by
  have hs := h.size
  have l1 := h.lt1
  have l2 := h.lt2
  have l3 := h.st.lt
  have hb : Below M W W' := (Below.refl _ W).grown hg (by omega) (fun k e => by cases e; exact Nat.le_refl _)
  have hc : ∀ j, j ≠ M → j < W.heap.size → W'.heap[j]? = W.heap[j]? := fun j hj hl => hg.block j hl (fun e => hj (by cases e; rfl))
  refine ⟨⟨h.st.later hb (by omega), hm, ?_, Nat.le_trans h.size hg.size, l1, l2⟩, ⟨fun j h1 h2 => ?_, fun j h1 h2 => ?_⟩, KeepsFrom.of_grownBy hg (fun j e => by cases e; omega)⟩
  · exact (World.cell?_of_block (hc Bf (by omega) (by omega))).trans h.fb
  · exact World.cell?_of_block (hc j (by omega) (by omega))
  · exact World.frozen?_of_block (hc j (by omega) (by omega))

set_option maxHeartbeats 2000000 in
theorem auth_any (x sc rs : ByteArray) (o : Nat → Nat) (V : Nat → ByteArray) (m : Int) (w : World) (hsz : x.size ≤ 10000000) (hm : w.cell? ⟨0, 0, none⟩ = some (.int .i64 m))
    (ho : Perm o) (F : Fx x sc rs o V) :
    Calls Tryd.prog 19 #[.string x] w fun e w' => ∃ M, e = .returned (.map (some M)) ∧ MapIs w' M 4 (DF sc o V 3) ∧ Below w.heap.size w w' := by
  have hmm := @run_makeMap Tryd.prog
  obtain ⟨W1, W2, W3, hr1, hr2, hr3, hS0⟩ := names_start w
  unfold keyS parS at hr1 hr2 hr3
  have h00 : 0 < w.heap.size := by
    apply Classical.byContradiction
    intro hn
    have e : w.heap[0]? = none := Array.getElem?_eq_none (by omega)
    simp [World.cell?, e] at hm
  have HO : Hid (Perm o) := ho
  clear ho
  refine (callsIn_wide (n := 10)).1 ?_
  refine callsIn_of_wp_marks Tryd.func19 rfl trivial ?_ rfl
  simp only [Tryd.ntmps19, List.size_toArray, List.length_cons, List.length_nil, Nat.reduceAdd, Nat.reduceSub, Array.replicate_succ, Array.replicate_zero, List.push_toArray, List.append_toArray, List.nil_append, List.cons_append]
  gi_wp2_with fail
  generalize hBn : W3.heap.size = Bn at hS0 ⊢
  generalize hU0 : W3.alloc (.cells #[.map (some (w.heap.size + 1))] 30) = U0 at hS0 ⊢
  clear hr1 hr2 hr3 hBn hU0
  refine ⟨trivial, ?_⟩
  have hT := Tryd.strings_Trim_laid x ⟨#[32, 9]⟩ U0 (by omega) (by decide) (ascii_of_all (by decide))
  rw [show (⟨#[32, 9]⟩ : ByteArray).data.toList = [32, 9] from rfl, F.trim, ba_mk] at hT
  refine (callsIn_wide.2 hT).mono ?_
  rintro e U1 ⟨rfl, hb1⟩
  have hS1 := hS0.later hb1 hS0.size
  clear hT hb1 hS0
  gi_wp2_with fail
  refine ⟨trivial, ?_⟩
  have hmU : U1.cell? ⟨0, 0, none⟩ = some (.int .i64 m) := (hS1.below.cell (p := ⟨0, 0, none⟩) h00).trans hm
  have hC := Tryd.strings_Cut x ⟨#[32]⟩ m U1 (by omega) hmU
  rw [show (⟨#[32]⟩ : ByteArray).data.toList = [32] from rfl, F.cut, ba_mk, ba_mk] at hC
  refine (callsIn_wide.2 hC).mono ?_
  rintro e U2 ⟨rfl, n1, hU2⟩
  have hS2 : St w U2 Bn := hS1.later (B := Bn + 1) (by rw [hU2]; exact below_drewN (Below.refl _ _) _) (Nat.le_refl _)
  clear hU2 hC hmU hS1
  obtain ⟨W4, hr4, hA4⟩ := fields_start hS2 sc (by have := F.scz; omega)
  unfold algS at hr4
  gi_wp2_with fail
  refine ⟨trivial, ?_⟩
  refine (callsIn_wide.2 (splitSeq_c _ _ _)).mono ?_
  rintro e w' ⟨rfl, rfl⟩
  gi_wp2_with fail
  have R := (hA4 (.string rs) (.string ⟨#[44]⟩) (.int .i64 0) 9 9 3).1
  have A0 := (hA4 (.string rs) (.string ⟨#[44]⟩) (.int .i64 0) 9 9 3).2
  generalize hU3 : ((((W4.alloc (Obj.cells #[Value.map (some U2.heap.size)] 30)).alloc (Obj.cells #[Value.string rs] 9)).alloc (Obj.cells #[Value.string { data := #[44] }] 9)).alloc (Obj.cells #[Value.int IntKind.i64 0] 3)) = U3 at R A0 ⊢
  clear hU3 hA4 hr4
  have hz3 : U3.heap.size = W4.heap.size + 4 := R.size
  have hseq := iter_in 9 44 rs (W4.heap.size + 1) U3 (by have := F.rsz; omega) (R.cell 1 (by simp)) (R.frozen 1 (by simp)) (R.cell 2 (by simp)) (R.cell 3 (by simp))
  clear R
  generalize hM : U2.heap.size = M at A0 ⊢
  generalize hBf : W4.heap.size = Bf at A0 hseq hz3 ⊢
  clear hM hBf hS2
  rw [F.len] at hseq
  refine Rg.wp_range (gf := 43) rfl (enters_of Tryd.func43 (by kernel_rfl) rfl) hseq (fun A B h => by obtain ⟨r, rfl⟩ := h; exact KeepsOthers.setCell _ _ _) (fun h k => h.trans k) (Kp.put (by omega)) (Kp.alloc2 (by omega)) rfl
    (fun k W => Au w W Bn M Bf (k + 1) (DF sc o V k)) (fun _ _ _ => False) (by rw [hz3]; exact Au.own) (fun c => fun _ _ _ _ h _ _ => h)
    (fun k A B h hs => h.stp hs) (fun c k A B h hs => h) A0 ?a1 ?assign ?body ?done ?stop
  case assign =>
    intro l k W K hK
    gi_wp2
    exact hK
  case stop =>
    rintro D c k W _ _ h _
    exact h.elim
  case done =>
    rintro D W hD h hK
    have cF := h.fb
    have cR := h.st.res
    have fR := h.st.resF
    have lA := h.st.lt
    have lB := h.lt1
    have lC := h.lt2
    have hsW := h.size
    gi_wp2
    refine fin19 rfl ((KeepsOthers.setCell _ _ _).same D _ hK rfl) (World.cell?_setCell_same _ _ _ cR) (h.st.below.setCell (p := ⟨w.heap.size, 0, none⟩) (Nat.le_refl _) _) rfl (by omega) (fun hb hh => ⟨M, rfl, ?_, hb⟩)
    exact MapIs.of_block (World.ownsMap.setCell h.fm (a := ⟨w.heap.size, 0, none⟩) (by show M ≠ w.heap.size; omega) _) (hh M (by omega))
  case body =>
    rintro l k W hkN h
    have hk1 := F.trimK k hkN
    have hk2 := F.cutK k hkN
    have hk3 := F.psz k hkN
    have hk4 := F.vz k hkN
    have hab := DF_absent HO.out sc V k hkN
    rw [List.getD_eq_getElem?_getD] at hk1 hk3
    generalize (pcs 44 rs)[k]?.getD ⟨#[]⟩ = pc at hk1 hk3 ⊢
    have hT := Tryd.strings_Trim_one pc 32 (by decide) W (by omega)
    rw [hk1] at hT
    clear hk1 hseq A0
    gi_wp2_with fail
    refine ⟨trivial, ?_⟩
    refine (CallsIn.inRound l (callsIn_wide.2 hT)).mono ?_
    rintro e U4 ⟨rfl, hU4⟩
    have hb4 : ∀ B, Below B W U4 := fun B => by
      rcases hU4 with rfl | rfl
      · exact Below.refl _ _
      · exact (Below.refl _ _).drew
    have h4 := h.heap hb4
    clear hT hU4
    have hmU : U4.cell? ⟨0, 0, none⟩ = some (.int .i64 m) := (h4.st.below.cell (p := ⟨0, 0, none⟩) h00).trans hm
    have hC := Tryd.strings_Cut ⟨((keyS (o k)).data.toList ++ 61 :: (V k).data.toList).toArray⟩ ⟨#[61]⟩ m U4 (by
      have := keyS_size (o k)
      rw [Lib.size_eq] at this ⊢
      have e := hk4
      rw [Lib.size_eq] at e
      simp only [List.length_append, List.length_cons]
      omega) hmU
    simp only at hC
    rw [hk2, ba_mk, ba_mk] at hC
    clear hk2
    gi_wp2_with fail
    refine ⟨trivial, ?_⟩
    refine (CallsIn.inRound l (callsIn_wide.2 hC)).mono ?_
    rintro e U5 ⟨rfl, n5, hU5⟩
    have hb5 : ∀ B, Below B U4 U5 := fun B => by rw [hU5]; exact below_drewN (Below.refl _ _) _
    have h5 := h4.heap hb5
    clear hC hU5
    have hl1 := h5.st.nm.look (keyS (o k)) (parS (o k)) (by have := keyS_size (o k); omega) (DN_at (o k))
    have hl2 := h5.fm.lookOk (parS (o k)) ⟨#[]⟩ false (by have := parS_size (o k); omega) hab.1 hab.2
    obtain ⟨U6, hr6, hM6, hg6⟩ := h5.fm.put (parS (o k)) (V k) (by omega) (by have := parS_size (o k); omega) (by omega)
    have cN := h5.st.nb
    have cF := h5.fb
    have hne := parS_ne (o k)
    obtain ⟨hA6, hKp6, hKF6⟩ := h5.store hM6 hg6
    gi_wp2
    have hAll : ∀ B, Below B W U5 := fun B => (hb4 B).trans (hb5 B)
    exact ⟨(keeps_all hAll _).trans (by rw [hz3]; exact hKF6), (Kp.of_below (hAll (Bf + 4)) (by omega)).trans hKp6, hA6⟩
end Go.Proofs.Qxb6601943aDoor
