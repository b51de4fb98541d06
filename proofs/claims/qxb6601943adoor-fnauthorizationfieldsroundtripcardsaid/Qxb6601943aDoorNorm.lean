import Derived.Test.Qxb6601943aDoorLen
import Derived.WalkLawsBesides
import Derived.Handy
import Derived.PlainAid
import Derived.Lib.SmallJoins
import Derived.Maps.AppendAt
import Derived.WalkSmall
namespace Go.Proofs.Qxb6601943aDoor
open Go Go.RowKit Go.Shelf Go.PlainAid
attribute [local go_sem] Oper.semAt_some

theorem splitSeq_c (s sep : ByteArray) (w : World) :
    Calls Tryd.prog 21 #[.string s, .string sep] w fun e w' => e = .returned (.func (.func 43) #[] #[.pointer (some ⟨w.heap.size + 1, 0, none⟩), .pointer (some ⟨w.heap.size, 0, none⟩), .pointer (some ⟨w.heap.size + 2, 0, none⟩)]) ∧
      w' = ((w.alloc (.cells #[.string s] 9)).alloc (.cells #[.string sep] 9)).alloc (.cells #[.int .i64 0] 3) := by
  go_enter Tryd.func21, Tryd.ntmps21
  go_wp2
  go_ret
  exact ⟨rfl, rfl⟩

/-- What the cells of normalizePath's frame hold, from the range on (N: the heap's size at the call). -/
structure Cm (N : Nat) (p : ByteArray) (cnt : Int) (w W : World) : Prop where
  path : W.cell? ⟨N, 0, none⟩ = some (.string p)
  res : ∃ r : ByteArray, W.cell? ⟨N + 1, 0, none⟩ = some (.string r)
  resF : W.frozen? ⟨N + 1, 0, none⟩ = false
  last : W.cell? ⟨N + 1 + 1, 0, none⟩ = some (.int .i64 cnt)
  below : Below N w W
  size : N + 7 ≤ W.heap.size
structure Ik (N : Nat) (p : ByteArray) (cnt : Int) (w : World) (k : Nat) (W : World) : Prop where
  cm : Cm N p cnt w W
  i : W.cell? ⟨N + 1 + 1 + 1, 0, none⟩ = some (.int .i64 k)
  iF : W.frozen? ⟨N + 1 + 1 + 1, 0, none⟩ = false
  lt : (k : Int) < cnt
structure Ixk (N : Nat) (p : ByteArray) (cnt : Int) (w : World) (c : Code) (_k : Nat) (W : World) : Prop where
  cm : Cm N p cnt w W
  how : (c = .ret ∧ W.cell? ⟨N + 1, 0, none⟩ = some (.string p)) ∨ c = .exit 0

theorem Cm.own {N : Nat} {p : ByteArray} {cnt : Int} {w : World} (hN : N ≤ w.heap.size) : OwnFrom (β := Unit) (N + 7) (fun _ W => Cm N p cnt w W) := by
  intro s W W' row h hg hr
  have hr' := fun r e => (hr r e).2
  obtain ⟨r, hr1⟩ := h.res
  exact ⟨cell_kept h.path hg hr', ⟨r, cell_kept hr1 hg hr'⟩, (frozen_kept hr1 hg hr').trans h.resF, cell_kept h.last hg hr', ownFrom_below (β := Unit) hN (by omega) s W W' row h.below hg hr, Nat.le_trans h.size hg.size⟩
theorem Ik.own {N : Nat} {p : ByteArray} {cnt : Int} {w : World} (hN : N ≤ w.heap.size) : OwnFrom (N + 7) (Ik N p cnt w) := by
  intro s W W' row h hg hr
  exact ⟨Cm.own hN () W W' row h.cm hg hr, cell_kept h.i hg (fun r e => (hr r e).2), (frozen_kept h.i hg (fun r e => (hr r e).2)).trans h.iF, h.lt⟩
theorem Ixk.own {N : Nat} {p : ByteArray} {cnt : Int} {w : World} (hN : N ≤ w.heap.size) (c : Code) : OwnFrom (N + 7) (Ixk N p cnt w c) := by
  intro s W W' row h hg hr
  refine ⟨Cm.own hN () W W' row h.cm hg hr, ?_⟩
  rcases h.how with ⟨e, h2⟩ | e
  · exact .inl ⟨e, cell_kept h2 hg (fun r e => (hr r e).2)⟩
  · exact .inr e
theorem Cm.stp {N : Nat} {p : ByteArray} {cnt : Int} {w A B : World} (h : Cm N p cnt w A) (hs : Stp (N + 1 + 1 + 1 + 1) A B) : Cm N p cnt w B := by
  obtain ⟨r, rfl⟩ := hs
  obtain ⟨r1, hr1⟩ := h.res
  refine ⟨?_, ⟨r1, ?_⟩, ?_, ?_, h.below.setCell (p := ⟨N + 1 + 1 + 1 + 1, 0, none⟩) (by show N ≤ N + 1 + 1 + 1 + 1; omega) _, ?_⟩
  · rw [World.cell?_setCell_other _ _ _ _ (by simp)]; exact h.path
  · rw [World.cell?_setCell_other _ _ _ _ (by simp)]; exact hr1
  · rw [World.frozen?_setCell]; exact h.resF
  · rw [World.cell?_setCell_other _ _ _ _ (by simp)]; exact h.last
  · exact Nat.le_trans h.size (KeepsOthers.setCell A _ _).size
theorem Ik.stp {N : Nat} {p : ByteArray} {cnt : Int} {w A B : World} {k : Nat} (h : Ik N p cnt w k A) (hs : Stp (N + 1 + 1 + 1 + 1) A B) : Ik N p cnt w k B := by
  refine ⟨h.cm.stp hs, ?_, ?_, h.lt⟩
  · obtain ⟨r, rfl⟩ := hs
    rw [World.cell?_setCell_other _ _ _ _ (by simp)]; exact h.i
  · obtain ⟨r, rfl⟩ := hs
    rw [World.frozen?_setCell]; exact h.iF
theorem Ixk.stp {N : Nat} {p : ByteArray} {cnt : Int} {w A B : World} {c : Code} {k : Nat} (h : Ixk N p cnt w c k A) (hs : Stp (N + 1 + 1 + 1 + 1) A B) : Ixk N p cnt w c k B := by
  refine ⟨h.cm.stp hs, ?_⟩
  rcases h.how with ⟨e, h2⟩ | e
  · refine .inl ⟨e, ?_⟩
    obtain ⟨r, rfl⟩ := hs
    rw [World.cell?_setCell_other _ _ _ _ (by simp)]; exact h2
  · exact .inr e

/-- The iterator's cells through the law's own steps, and through a store below them. -/
theorem Kp.trans {b : Nat} {A B C : World} (h : Kp b A B) (k : Kp b B C) : Kp b A C :=
  ⟨fun j h1 h2 => (k.cell j h1 h2).trans (h.cell j h1 h2), fun j h1 h2 => (k.frozen j h1 h2).trans (h.frozen j h1 h2)⟩
theorem Kp.of_below {b n : Nat} {A B : World} (h : Below n A B) (hb : b + 3 ≤ n) : Kp b A B :=
  ⟨fun j _ h2 => h.cell (p := ⟨j, 0, none⟩) (by show j < n; omega), fun j _ h2 => h.frozen (p := ⟨j, 0, none⟩) (by show j < n; omega)⟩
theorem Kp.put {b : Nat} {w : World} (hb : b + 3 ≤ w.heap.size) (W : World) (l : Nat) (o o' : Obj) (hl : w.heap.size ≤ l) (h : W.heap[l]? = some o) (h2 : o.isCells = false) (h3 : o.isWalk = false) : Kp b W (W.putObj l o') :=
  Kp.of_below (belowK_b (n₀ := b + 3) (w := w) hb W l o o' hl h h2 h3) (Nat.le_refl _)
theorem Kp.alloc2 {b : Nat} {w : World} (hb : b + 3 ≤ w.heap.size) (o1 o2 : Obj) : Kp b w ((w.alloc o1).alloc o2) :=
  Kp.of_below ((((Below.refl _ w).alloc (Nat.le_refl _) o1).alloc (by simp) o2)) hb
theorem Kp.store {b j : Nat} (W : World) (v : Value) (hj : j < b) : Kp b W (W.setCell ⟨j, 0, none⟩ v) :=
  ⟨fun i h1 _ => World.cell?_setCell_other _ _ _ _ (fun e => by have := congrArg Addr.block e; simp at this; omega), fun i _ _ => World.frozen?_setCell _ _ _ _⟩

theorem Cm.stI {N : Nat} {p : ByteArray} {cnt : Int} {w W : World} (h : Cm N p cnt w W) (v : Value) : Cm N p cnt w (W.setCell ⟨N + 1 + 1 + 1, 0, none⟩ v) := by
  obtain ⟨r1, hr1⟩ := h.res
  refine ⟨?_, ⟨r1, ?_⟩, ?_, ?_, h.below.setCell (p := ⟨N + 1 + 1 + 1, 0, none⟩) (by show N ≤ N + 1 + 1 + 1; omega) _, ?_⟩
  · rw [World.cell?_setCell_other _ _ _ _ (by simp)]; exact h.path
  · rw [World.cell?_setCell_other _ _ _ _ (by simp)]; exact hr1
  · rw [World.frozen?_setCell]; exact h.resF
  · rw [World.cell?_setCell_other _ _ _ _ (by simp)]; exact h.last
  · exact Nat.le_trans h.size (KeepsOthers.setCell W _ _).size
theorem Cm.stR {N : Nat} {p : ByteArray} {cnt : Int} {w W : World} (h : Cm N p cnt w W) (r : ByteArray) : Cm N p cnt w (W.setCell ⟨N + 1, 0, none⟩ (.string r)) ∧ (W.setCell ⟨N + 1, 0, none⟩ (.string r)).cell? ⟨N + 1, 0, none⟩ = some (.string r) := by
  obtain ⟨r1, hr1⟩ := h.res
  have e := World.cell?_setCell_same _ _ (.string r) hr1
  refine ⟨⟨?_, ⟨r, e⟩, ?_, ?_, h.below.setCell (p := ⟨N + 1, 0, none⟩) (by show N ≤ N + 1; omega) _, ?_⟩, e⟩
  · rw [World.cell?_setCell_other _ _ _ _ (by simp)]; exact h.path
  · rw [World.frozen?_setCell]; exact h.resF
  · rw [World.cell?_setCell_other _ _ _ _ (by simp)]; exact h.last
  · exact Nat.le_trans h.size (KeepsOthers.setCell W _ _).size
theorem body_exit {N B : Nat} {p : ByteArray} {cnt : Int} {w W : World} {k : Nat} (h : Ik N p cnt w k W) (v : Value) (j : Nat) :
    KeepsFrom B W (W.setCell ⟨N + 1 + 1 + 1, 0, none⟩ v) ∧ Ixk N p cnt w (.exit 0) j (W.setCell ⟨N + 1 + 1 + 1, 0, none⟩ v) :=
  ⟨(KeepsOthers.setCell _ _ _).from _, h.cm.stI v, .inr rfl⟩
theorem body_next {N B : Nat} {p : ByteArray} {cnt : Int} {w W : World} {k : Nat} (h : Ik N p cnt w k W) (hne : ((k : Int) + 1 == cnt) = false) :
    KeepsFrom B W (W.setCell ⟨N + 1 + 1 + 1, 0, none⟩ (.int .i64 (↑k + 1))) ∧ Kp (N + 1 + 1 + 1 + 1) W (W.setCell ⟨N + 1 + 1 + 1, 0, none⟩ (.int .i64 (↑k + 1))) ∧ Ik N p cnt w (k + 1) (W.setCell ⟨N + 1 + 1 + 1, 0, none⟩ (.int .i64 (↑k + 1))) :=
  ⟨(KeepsOthers.setCell _ _ _).from _, Kp.store W _ (by omega), h.cm.stI _, World.cell?_setCell_same _ _ _ h.i, by rw [World.frozen?_setCell]; exact h.iF, by have := h.lt; have := beq_eq_false_iff_ne.1 hne; omega⟩
theorem body_ret {N B : Nat} {p : ByteArray} {cnt : Int} {w W : World} {k : Nat} (h : Ik N p cnt w k W) (v : Value) (j : Nat) :
    KeepsFrom B W ((W.setCell ⟨N + 1 + 1 + 1, 0, none⟩ v).setCell ⟨N + 1, 0, none⟩ (.string p)) ∧ Ixk N p cnt w .ret j ((W.setCell ⟨N + 1 + 1 + 1, 0, none⟩ v).setCell ⟨N + 1, 0, none⟩ (.string p)) :=
  ⟨((KeepsOthers.setCell _ _ _).trans (KeepsOthers.setCell _ _ _)).from _, ((h.cm.stI v).stR p).1, .inl ⟨rfl, ((h.cm.stI v).stR p).2⟩⟩

/-- New blocks of one cell each. -/
structure Rows1 (w W : World) (vs : List Value) : Prop where
  size : W.heap.size = w.heap.size + vs.length
  below : Below w.heap.size w W
  cell : ∀ j, j < vs.length → W.cell? ⟨w.heap.size + j, 0, none⟩ = vs[j]?
  frozen : ∀ j, j < vs.length → W.frozen? ⟨w.heap.size + j, 0, none⟩ = false
theorem Rows1.nil (w : World) : Rows1 w w [] := ⟨rfl, Below.refl _ _, fun _ h => absurd h (Nat.not_lt_zero _), fun _ h => absurd h (Nat.not_lt_zero _)⟩
theorem Rows1.snoc {w W : World} {vs : List Value} (h : Rows1 w W vs) (v : Value) (t : TypeId) : Rows1 w (W.alloc (.cells #[v] t)) (vs ++ [v]) := by
  have hsz := h.size
  refine ⟨by simp [hsz]; omega, h.below.alloc (by omega) _, ?_, ?_⟩
  · intro j hj
    by_cases e : j < vs.length
    · rw [World.cell?_alloc_past _ _ _ (by omega), h.cell j e, List.getElem?_append_left e]
    · have : j = vs.length := by simp at hj; omega
      subst this
      rw [World.cell?_alloc_at _ _ _ _ hsz.symm]; simp
  · intro j hj
    by_cases e : j < vs.length
    · rw [World.frozen?_alloc_past _ _ _ (by omega), h.frozen j e]
    · have : j = vs.length := by simp at hj; omega
      subst this
      rw [World.frozen?_alloc_at _ _ _ _ hsz.symm]

/-- The end of normalizePath: the mark among the deferred calls, the result read out of its cell. -/
theorem fin18 {tmps : Array Value} {N D : Nat} {w W : World} {p r : ByteArray} (ht : tmps.getD 2 undef = .pointer (some ⟨N + 1, 0, none⟩)) (hK : W.heap[D]? = some (.deferred (some [])))
    (hres : W.cell? ⟨N + 1, 0, none⟩ = some (.string r)) (hb : Below N w W) (hN : N = w.heap.size) (hD : N ≤ D) (hr1 : 1 ≤ r.size) (hr2 : r.size ≤ p.size) :
    bodyPostM Fence.wide 10 Tryd.prog Tryd.f18 (fun e w' => ∃ r : ByteArray, e = .returned (.string r) ∧ 1 ≤ r.size ∧ r.size ≤ p.size ∧ Below w.heap.size w w') .ret { tmps := tmps, defers := [{ target := .collected D, args := #[] }] } W := by
  subst hN
  refine ⟨by simp, .inl ⟨_, _, rfl, run_takeDeferred hK, ?_⟩⟩
  have e1 : (W.putObj D (.deferred none)).cell? ⟨w.heap.size + 1, 0, none⟩ = some (.string r) := cell_kept hres (grownBy_putObj' _ D (.deferred none)) (fun r e => by cases e; exact ⟨_, hK, rfl⟩)
  refine ⟨.string r, ?_, r, rfl, hr1, hr2, hb.trans (belowK_b (w := w) (Nat.le_refl _) W D _ _ hD hK rfl rfl)⟩
  have e2 : Tryd.f18.results = #[.cell 2 9] := rfl
  have e3 : tmps[2]?.getD undef = .pointer (some ⟨w.heap.size + 1, 0, none⟩) := by rw [← ht]; simp
  simp only [results, e2]
  simp [go_sem, e3, e1]

def mk (n : Nat) : Array Value := madeCells #[.string ⟨#[]⟩] n
theorem mk_size (n : Nat) : (mk n).size = n := size_madeCells _ _
theorem info9 : (Tryd.prog.info? 9).map (fun i => (i.zero, i.size, i.bytes)) = some (some (.string ⟨#[]⟩), 1, 16) := by kernel_rfl
theorem make_run (n : Nat) (hn : n ≤ 1048577) (w : World) :
    (Instr.makeSlice 38 (.int .i64 0) (.int .i64 (n : Int))).run Tryd.prog w = .ok (.slice (some ⟨w.heap.size, 0, none⟩) 0 n) (w.alloc (.cells (mk n) 9)) := by
  obtain ⟨i0, hi, hz0, hz1, hz2⟩ := info_parts info9
  have := run_make (P := Tryd.prog) w 38 9 i0 (.string ⟨#[]⟩) Tryd.underlying38 hi hz0 .i64 .i64 0 n (Int.le_refl _) (by omega) (by rw [hz2]; omega) (by omega)
  have ec : (Value.string ⟨#[]⟩ : Value).cells = #[.string ⟨#[]⟩] := rfl
  rw [hz1, ec] at this
  simpa [mk] using this

theorem split_at (c : UInt8) (s : ByteArray) (m : Int) (w : World) (hs : s.size < 4294967281) (hm : w.cell? ⟨0, 0, none⟩ = some (.int .i64 m)) :
    Calls Tryd.prog 22 #[.string s, .string ⟨#[c]⟩] w fun e w' =>
      e = .returned (.slice (some ⟨w.heap.size, 0, none⟩) (pcs c s).length (pcs c s).length) ∧ w' = w.alloc (.cells ((pcs c s).map Value.string).toArray 9) := by
  rw [pcs_len]
  exact Tryd.strings_Split s ⟨#[c]⟩ m w hs hm (Nat.le_refl 1)

set_option maxHeartbeats 2000000 in
theorem norm_any (p : ByteArray) (m : Int) (w : World) (hsz : p.size ≤ 1048576) (hp0 : p.data.toList[0]? = some 47) (hm : w.cell? ⟨0, 0, none⟩ = some (.int .i64 m)) :
    Calls Tryd.prog 18 #[.string p] w fun e w' => ∃ r : ByteArray, e = .returned (.string r) ∧ 1 ≤ r.size ∧ r.size ≤ p.size ∧ Below w.heap.size w w' := by
  have h1 : 1 ≤ p.size := by
    have := (List.getElem?_eq_some_iff.1 hp0).1
    rw [← Lib.size_eq] at this; exact this
  have HP0 : Hid (p.data.toList[0]? = some 47) := hp0
  refine (callsIn_wide (n := 10)).1 ?_
  refine callsIn_of_wp_marks Tryd.func18 rfl trivial ?_ rfl
  simp only [Tryd.ntmps18, List.size_toArray, List.length_cons, List.length_nil, Nat.reduceAdd, Nat.reduceSub, Array.replicate_succ, Array.replicate_zero, List.push_toArray, List.append_toArray, List.nil_append, List.cons_append]
  gi_wp2_with fail
  refine ⟨trivial, ?_⟩
  refine (callsIn_wide.2 (Tryd.strings_Count_one p 47 _)).mono ?_
  rintro e w' ⟨rfl, rfl⟩
  gi_wp2_with fail
  refine ⟨trivial, ?_⟩
  refine (callsIn_wide.2 (splitSeq_c _ _ _)).mono ?_
  rintro e w' ⟨rfl, rfl⟩
  gi_wp2_with fail
  rename_i K hKr
  have R := (((((((Rows1.nil w).snoc (.string p) 9).snoc (.string ⟨#[]⟩) 9).snoc (.int .i64 ↑(Lib.countByte p.data.toList 47)) 3).snoc (.int .i64 0) 3).snoc (.string (p.extract 1 p.size)) 9).snoc (.string ⟨#[47]⟩) 9).snoc (.int .i64 0) 3
  generalize hW0 : (((((((w.alloc (Obj.cells #[Value.string p] 9)).alloc (Obj.cells #[Value.string { data := #[] }] 9)).alloc
                      (Obj.cells #[Value.int IntKind.i64 ↑(Lib.countByte p.data.toList 47)] 3)).alloc
                  (Obj.cells #[Value.int IntKind.i64 0] 3)).alloc
              (Obj.cells #[Value.string (p.extract 1 p.size)] 9)).alloc
          (Obj.cells #[Value.string { data := #[47] }] 9)).alloc
      (Obj.cells #[Value.int IntKind.i64 0] 3)) = W0 at R ⊢
  clear hW0
  have hz0 : W0.heap.size = w.heap.size + 7 := R.size
  have cm0 : Ik w.heap.size p (Lib.countByte p.data.toList 47) w 0 W0 :=
    ⟨⟨R.cell 0 (by simp), ⟨_, R.cell 1 (by simp)⟩, R.frozen 1 (by simp), R.cell 2 (by simp), R.below, by omega⟩, R.cell 3 (by simp), R.frozen 3 (by simp), by have := pcs_len 47 (p.extract 1 p.size); have := count_pcs p hp0; omega⟩
  have hseq := iter_in 9 47 (p.extract 1 p.size) (w.heap.size + 1 + 1 + 1 + 1) W0 (by rw [ByteArray.size_extract]; omega) (R.cell 4 (by simp)) (R.frozen 4 (by simp)) (R.cell 5 (by simp)) (R.cell 6 (by simp))
  clear R
  refine Rg.wp_range (gf := 43) rfl (enters_of Tryd.func43 (by kernel_rfl) rfl) hseq (fun A B h => by obtain ⟨r, rfl⟩ := h; exact KeepsOthers.setCell _ _ _) (fun h k => h.trans k) (Kp.put (by omega)) (Kp.alloc2 (by omega)) rfl
    (Ik w.heap.size p (Lib.countByte p.data.toList 47) w) (Ixk w.heap.size p (Lib.countByte p.data.toList 47) w) (by rw [hz0]; exact Ik.own (Nat.le_refl _)) (fun c => by rw [hz0]; exact Ixk.own (Nat.le_refl _) c)
    (fun k A B h hs => h.stp hs) (fun c k A B h hs => h.stp hs) cm0 ?a1 ?assign ?body ?done ?stop
  case assign =>
    intro l k W K hK
    gi_wp2
    exact hK
  case body =>
    rintro l k W hkN h
    have cP := h.cm.path
    obtain ⟨r0, cR⟩ := h.cm.res
    have fR := h.cm.resF
    have cL := h.cm.last
    have cI := h.i
    have fI := h.iF
    have hkL : k ≤ 1048577 := by
      rw [pcs_len] at hkN
      have := Lib.countB_le ⟨#[47]⟩ (by decide) _ (p.extract 1 p.size) (Nat.le_refl _)
      rw [ByteArray.size_extract] at this
      omega
    clear hseq
    gi_wp2
    all_goals first | exact body_exit h _ _ | exact body_next h (by assumption) | exact body_ret h _ _
  case done =>
    rintro D W hD h _
    exfalso
    have := h.lt
    have := count_pcs p HP0.out
    omega
  case stop =>
    rintro D c k W hD hkN h hK
    rcases h.how with ⟨rfl, hres⟩ | rfl
    · gi_wp2
      exact fin18 rfl hK hres h.cm.below rfl (by omega) h1 (Nat.le_refl _)
    · refine wpIn_exit ?_
      refine hKr _ _ ?_
      clear hKr hseq cm0
      rw [wpIn_wide]
      have cP := h.cm.path
      obtain ⟨r0, cR⟩ := h.cm.res
      have fR := h.cm.resF
      have hBW := h.cm.below
      have hDW : D < W.heap.size := (Array.getElem?_eq_some_iff.1 hK).1
      have h00 : 0 < w.heap.size := by
        apply Classical.byContradiction
        intro hn
        have e : w.heap[0]? = none := Array.getElem?_eq_none (by omega)
        simp [World.cell?, e] at hm
      have hmW : W.cell? ⟨0, 0, none⟩ = some (.int .i64 m) := (hBW.cell (p := ⟨0, 0, none⟩) h00).trans hm
      have hex : (p.extract 1 p.size).size = p.size - 1 := by rw [ByteArray.size_extract]; omega
      have hts := tot_pcs 47 _ (p.extract 1 p.size) (Nat.le_refl _)
      have hl := Lib.countB_le ⟨#[47]⟩ (by decide) _ (p.extract 1 p.size) (Nat.le_refl _)
      have hl2 := pcs_len 47 (p.extract 1 p.size)
      have hsp := split_at 47 (p.extract 1 p.size) m W (by omega) hmW
      go_wp2_with fail
      refine hsp.mono ?_
      rintro e w' ⟨rfl, rfl⟩
      obtain ⟨sg, hsg⟩ : ∃ sg, pcs 47 (p.extract 1 p.size) = sg := ⟨_, rfl⟩
      rw [hsg] at hts hl2 ⊢
      have HS : Hid (pcs 47 (p.extract 1 p.size) = sg) := hsg
      have hts' : tot sg = p.size := by omega
      have hln : sg.length ≤ 1048577 := by omega
      have hln1 : 1 ≤ sg.length := by omega
      have HT : Hid (tot sg = p.size) := hts'
      clear hsg hts hl2 hsp hl hex hts' h00 hmW hkN HP0 hp0
      have hmk := make_run sg.length hln
      go_wp2
      have hown0 : ((W.alloc (.cells (sg.map Value.string).toArray 9)).alloc (.cells (mk sg.length) 9)).ownsRow (W.heap.size + 1) 9 1 (.slice (some ⟨W.heap.size + 1, 0, none⟩) 0 sg.length) 0 [] := by
        have := World.ownsRow_made (base := W.heap.size + 1) (e := 9) (size := 1) (W.alloc (.cells (sg.map Value.string).toArray 9)) (mk sg.length) sg.length (by simp) (by unfold maxLen; omega) (by rw [mk_size]; omega)
        simpa using this
      have hB1 : Below (W.heap.size + 1) (W.alloc (.cells (sg.map Value.string).toArray 9)) ((W.alloc (.cells (sg.map Value.string).toArray 9)).alloc (.cells (mk sg.length) 9)) := (Below.refl _ _).alloc (by simp) _
      go_loopw [7, 47] (fun v i wr => ∃ (k : Nat) (kl : List ByteArray) (g cap : Nat), Inv sg k kl ∧ i = .int .i64 k ∧ v = .slice (some ⟨g, 0, none⟩) kl.length cap ∧ wr.ownsRow (W.heap.size + 1) 9 1 (.slice (some ⟨g, 0, none⟩) kl.length cap) kl.length (kl.map Value.string) ∧ Below (W.heap.size + 1) (W.alloc (.cells (sg.map Value.string).toArray 9)) wr) (fun _ i _ => sg.length - (RowKit.intOf i).toNat)
      case atStart => exact ⟨0, [], _, _, Inv.zero sg, rfl, rfl, hown0, hB1⟩
      case round =>
        obtain ⟨k, kl, g, cap, hI, rfl, rfl, hown, hB⟩ := hrel
        clear hown0 hB1 hmk
        by_cases hlt : k < sg.length
        · obtain ⟨x, hx⟩ : ∃ x, sg[k]? = some x := ⟨_, List.getElem?_eq_getElem hlt⟩
          have hcx : wr.cell? ⟨W.heap.size, k, none⟩ = some (.string x) := by
            rw [hB.cell (p := ⟨W.heap.size, k, none⟩) (Nat.lt_succ_self _), World.cell?_alloc_new]; simp [hx]
          have HX : Hid (sg[k]? = some x) := hx
          clear hx
          have hkl := hI.len
          have e0 : x.toList = x.data.toList := Lib.toList_data x
          have hszr : W.heap.size + 1 ≤ wr.heap.size := by have := hB.size; simpa using this
          by_cases q1 : x.data.toList = []
          · have f1 : x.toList.isEmpty = true := by rw [e0, q1]; rfl
            clear q1 e0
            go_wp2
            go_roundw
            case rel => exact ⟨k + 1, kl, g, cap, hI.skip HX.out, by go_num, rfl, hown, hB⟩
            case measure => simp [RowKit.intOf]; omega
          · have f1 : x.toList.isEmpty = false := by rw [e0]; simpa using q1
            by_cases q2 : x.data.toList = [46]
            · have f2 : (x.toList == [46]) = true := by rw [e0, q2]; rfl
              clear q1 q2 e0
              go_wp2
              go_roundw
              case rel => exact ⟨k + 1, kl, g, cap, hI.skip HX.out, by go_num, rfl, hown, hB⟩
              case measure => simp [RowKit.intOf]; omega
            · have f2 : (x.toList == [46]) = false := by rw [e0]; simpa using q2
              by_cases q3 : x.data.toList = [46, 46]
              · have f3 : (x.toList == [46, 46]) = true := by rw [e0, q3]; rfl
                clear q1 q2 q3 e0
                rcases List.eq_nil_or_concat kl with rfl | ⟨kl, y, rfl⟩
                · go_wp2
                  go_roundw
                  case rel => exact ⟨k + 1, [], g, cap, hI.skip HX.out, by go_num, rfl, hown, hB⟩
                  case measure => simp [RowKit.intOf]; omega
                · rw [List.concat_eq_append] at hI
                  simp only [List.concat_eq_append, List.length_append, List.length_cons, List.length_nil, Nat.zero_add, List.map_append, List.map_cons, List.map_nil] at hown hkl
                  have hll : (kl.concat y).length = kl.length + 1 := by simp
                  rw [hll]
                  have hpop := ownsRow_pop (by simp) hown
                  have hc1 : kl.length + 1 ≤ cap := by
                    rcases hown.2 with ⟨h0, _⟩ | ⟨g', cap', cur, hv, _, _, hn, _⟩
                    · cases h0
                    · cases hv; exact hn
                  go_wp2
                  go_roundw
                  case rel => exact ⟨k + 1, kl, g, cap, hI.pop HX.out, by go_num, by simp, hpop, hB⟩
                  case measure => simp [RowKit.intOf]; omega
              · have f3 : (x.toList == [46, 46]) = false := by rw [e0]; simpa using q3
                have hns : spc x = false := by
                  unfold spc
                  rw [Bool.or_eq_false_iff, Bool.or_eq_false_iff, beq_eq_false_iff_ne, beq_eq_false_iff_ne, beq_eq_false_iff_ne]
                  exact ⟨⟨q1, q2⟩, q3⟩
                have HNS : Hid (spc x = false) := hns
                clear q1 q2 q3 e0 hns
                obtain ⟨i0, hi, hz0, hz1, hz2⟩ := info_parts info9
                go_wp2_with (at_builtin; refine wpList_append_own _ rfl (.tmp 52) (.tmp 54) 38 rfl (W.heap.size + 1) 9 i0 (.string ⟨#[]⟩) 1 16 Tryd.underlying38 hi hz0 hz1 hz2 rfl (by decide) _ _ _ rfl (hown.alloc _) ⟨wr.heap.size, 0, none⟩ 1 1 [.string x] rfl rfl (cell_one_new _ _ _) (by simp [Value.oneCell']) (by unfold maxLen; omega) (by omega) (by simp; omega) ?_; intro v' w1 hown' hgrow _)
                have hn1 := hgrow.size
                have hbl : Below (W.heap.size + 1) (W.alloc (.cells (sg.map Value.string).toArray 9)) w1 := (hB.alloc (by omega) _).grown hgrow (by simp; omega) (fun j e => (hown.lt j e).1)
                obtain ⟨g', cap', rfl⟩ := ownsRow_succ hown'
                have hI' := hI.keep HX.out HNS.out
                go_roundw
                case rel => exact ⟨k + 1, kl ++ [x], g', cap', hI', by go_num, by simp, by simpa using hown', hbl⟩
                case measure => simp [RowKit.intOf]; omega
        · have hkn : k = sg.length := by have := hI.le; omega
          have hDW1 : D < W.heap.size + 1 := by omega
          have hKr1 : wr.heap[D]? = some (.deferred (some [])) := (hB.block D hDW1).trans ((Below.heap_alloc W _ D hDW).trans hK)
          have hN1 : w.heap.size + 1 < W.heap.size := by have := h.cm.size; omega
          have hN0 : w.heap.size ≤ W.heap.size + 1 := by have := h.cm.size; omega
          have cRr : wr.cell? ⟨w.heap.size + 1, 0, none⟩ = some (.string r0) := by
            rw [hB.cell (p := ⟨w.heap.size + 1, 0, none⟩) (by show w.heap.size + 1 < W.heap.size + 1; omega), World.cell?_alloc_past _ _ _ hN1]; exact cR
          have fRr : wr.frozen? ⟨w.heap.size + 1, 0, none⟩ = false := by
            rw [hB.frozen (p := ⟨w.heap.size + 1, 0, none⟩) (by show w.heap.size + 1 < W.heap.size + 1; omega), World.frozen?_alloc_past _ _ _ hN1]; exact fR
          have hBw : Below w.heap.size w wr := (hBW.alloc (by omega) _).trans (hB.mono hN0)
          cases kl with
          | nil =>
            go_wp2
            exact fin18 rfl ((KeepsOthers.setCell _ _ _).same D _ hKr1 rfl) (World.cell?_setCell_same _ _ _ cRr) (hBw.setCell (p := ⟨w.heap.size + 1, 0, none⟩) (by show w.heap.size ≤ w.heap.size + 1; omega) _) rfl (by omega) (Nat.le_refl 1) h1
          | cons z zs =>
            have hjt := join_tot (l := z :: zs) (by simp)
            have hit := hI.tot
            have hfull : sg.take k = sg := List.take_of_length_le (by omega)
            have hpt := HT.out
            rw [hfull, hpt] at hit
            have hlen : (Lib.join ((z :: zs).map (·.data.toList)) [47]).length ≤ 140737488355328 := by omega
            have hcap : (z :: zs).length ≤ cap := by
              rcases hown.2 with ⟨h0, _⟩ | ⟨g', cap', cur, hv, _, _, hn, _⟩
              · cases h0
              · cases hv; exact hn
            have hgw : g < wr.heap.size := (hown.lt g rfl).2
            have hcs : ∀ (j : Nat) y, (z :: zs)[j]? = some y → wr.cell? ⟨g, 0 + j, none⟩ = some (.string y) := fun j y hj => by
              have hjl := (List.getElem?_eq_some_iff.1 hj).1
              rw [Nat.zero_add, hown.cellAt j (by omega), List.getElem?_map, hj]; rfl
            have hjoin := Tryd.strings_Join g 0 cap (z :: zs) ⟨#[47]⟩ wr hcs hgw (by have := hI.len; omega) hcap hlen
            obtain ⟨xl, hxl⟩ : ∃ x, sg[sg.length - 1]? = some x := ⟨_, List.getElem?_eq_getElem (by omega)⟩
            have hspx := hI.sp xl (sg.length - 1) (by omega) hxl
            rw [hfull, hpt] at hspx
            have hcl : wr.cell? ⟨W.heap.size, sg.length - 1, none⟩ = some (.string xl) := by
              rw [hB.cell (p := ⟨W.heap.size, sg.length - 1, none⟩) (Nat.lt_succ_self _), World.cell?_alloc_new]; simp [hxl]
            have HSP : Hid (spc xl = true → tot (z :: zs) + 1 ≤ p.size) := hspx
            have HJ : Hid ((Lib.join ((z :: zs).map (·.data.toList)) [47]).length + 1 = tot (z :: zs)) := hjt
            have HI : Hid (tot (z :: zs) ≤ p.size) := hit
            have hJb : (Lib.join ((z :: zs).map (·.data.toList)) [47]).length ≤ 1048576 := by omega
            have HJN : Hid (Calls Tryd.prog 23 #[.slice (some ⟨g, 0, none⟩) (z :: zs).length cap, .string ⟨#[47]⟩] wr fun e w' => e = .returned (.string ⟨(Lib.join ((z :: zs).map (·.data.toList)) [47]).toArray⟩) ∧ Below wr.heap.size wr w') := hjoin
            clear hspx hjt hit hjoin hlen hpt hfull hxl
            go_wp2_with fail
            refine HJN.out.mono ?_
            rintro e w4 ⟨rfl, hB4⟩
            have hsz4 : W.heap.size + 1 ≤ wr.heap.size := by have := hB.size; simpa using this
            have cR4 : w4.cell? ⟨w.heap.size + 1, 0, none⟩ = some (.string r0) := (hB4.cell (p := ⟨w.heap.size + 1, 0, none⟩) (by show w.heap.size + 1 < wr.heap.size; omega)).trans cRr
            have fR4 : w4.frozen? ⟨w.heap.size + 1, 0, none⟩ = false := (hB4.frozen (p := ⟨w.heap.size + 1, 0, none⟩) (by show w.heap.size + 1 < wr.heap.size; omega)).trans fRr
            have hcl4 : w4.cell? ⟨W.heap.size, sg.length - 1, none⟩ = some (.string xl) := (hB4.cell (p := ⟨W.heap.size, sg.length - 1, none⟩) (by show W.heap.size < wr.heap.size; omega)).trans hcl
            have hK4 : w4.heap[D]? = some (.deferred (some [])) := (hB4.block D (by omega)).trans hKr1
            have hBw4 : Below w.heap.size w w4 := hBw.trans (hB4.mono (by omega))
            have hsb : (0 : Int) ≤ (sg.length : Int) - 1 := by omega
            have hsb2 : (sg.length : Int) - 1 < (sg.length : Int) := by omega
            have htn : ((sg.length : Int) - 1).toNat = sg.length - 1 := by omega
            generalize hjn : (Lib.join ((z :: zs).map (·.data.toList)) [47]) = J at HJ hJb ⊢
            clear hjn HJN
            have e0 : xl.toList = xl.data.toList := Lib.toList_data xl
            have hs1 : ((⟨#[47]⟩ : ByteArray) ++ ⟨J.toArray⟩).size = 1 + J.length := by rw [Lib.size_eq, Joins.data_append]; simp; omega
            have hs2 : ((⟨#[47]⟩ : ByteArray) ++ ⟨J.toArray⟩ ++ ⟨#[47]⟩).size = 1 + J.length + 1 := by rw [Lib.size_eq, Joins.data_append, Joins.data_append]; simp; omega
            have HS1 : Hid (((⟨#[47]⟩ : ByteArray) ++ ⟨J.toArray⟩).size = 1 + J.length) := hs1
            have HS2 : Hid (((⟨#[47]⟩ : ByteArray) ++ ⟨J.toArray⟩ ++ ⟨#[47]⟩).size = 1 + J.length + 1) := hs2
            clear hs1 hs2
            have hkd := fun r => (KeepsOthers.setCell w4 ⟨w.heap.size + 1, 0, none⟩ (.string r)).same D _ hK4 rfl
            have HKD : Hid (∀ r : ByteArray, (w4.setCell ⟨w.heap.size + 1, 0, none⟩ (.string r)).heap[D]? = some (.deferred (some []))) := hkd
            clear hkd
            cases hq : spc xl with
            | false =>
              have hq' := hq
              unfold spc at hq
              rw [Bool.or_eq_false_iff, Bool.or_eq_false_iff, beq_eq_false_iff_ne, beq_eq_false_iff_ne, beq_eq_false_iff_ne] at hq
              obtain ⟨⟨q1, q2⟩, q3⟩ := hq
              have f1 : xl.toList.isEmpty = false := by rw [e0]; simpa using q1
              have f2 : (xl.toList == [46]) = false := by rw [e0]; simpa using q2
              have f3 : (xl.toList == [46, 46]) = false := by rw [e0]; simpa using q3
              clear q1 q2 q3 e0 hq'
              go_wp2
              exact fin18 rfl (HKD.out _) (World.cell?_setCell_same _ _ _ cR4) (hBw4.setCell (p := ⟨w.heap.size + 1, 0, none⟩) (by show w.heap.size ≤ w.heap.size + 1; omega) _) rfl (by omega) (by rw [HS1.out]; omega) (by rw [HS1.out]; have := HI.out; have := HJ.out; omega)
            | true =>
              have hmax := HSP.out hq
              have HM : Hid (tot (z :: zs) + 1 ≤ p.size) := hmax
              unfold spc at hq
              clear hmax HSP
              by_cases q1 : xl.data.toList = []
              · have f1 : xl.toList.isEmpty = true := by rw [e0, q1]; rfl
                clear q1 e0 hq
                go_wp2
                exact fin18 rfl (HKD.out _) (World.cell?_setCell_same _ _ _ cR4) (hBw4.setCell (p := ⟨w.heap.size + 1, 0, none⟩) (by show w.heap.size ≤ w.heap.size + 1; omega) _) rfl (by omega) (by rw [HS2.out]; omega) (by rw [HS2.out]; have := HM.out; have := HJ.out; omega)
              · by_cases q2 : xl.data.toList = [46]
                · have f1 : xl.toList.isEmpty = false := by rw [e0]; simpa using q1
                  have f2 : (xl.toList == [46]) = true := by rw [e0, q2]; rfl
                  clear q1 q2 e0 hq
                  go_wp2
                  exact fin18 rfl (HKD.out _) (World.cell?_setCell_same _ _ _ cR4) (hBw4.setCell (p := ⟨w.heap.size + 1, 0, none⟩) (by show w.heap.size ≤ w.heap.size + 1; omega) _) rfl (by omega) (by rw [HS2.out]; omega) (by rw [HS2.out]; have := HM.out; have := HJ.out; omega)
                · have q3 : xl.data.toList = [46, 46] := by
                    rw [Bool.or_eq_true, Bool.or_eq_true, beq_iff_eq, beq_iff_eq, beq_iff_eq] at hq
                    rcases hq with (h | h) | h
                    · exact absurd h q1
                    · exact absurd h q2
                    · exact h
                  have f1 : xl.toList.isEmpty = false := by rw [e0]; simpa using q1
                  have f2 : (xl.toList == [46]) = false := by rw [e0]; simpa using q2
                  have f3 : (xl.toList == [46, 46]) = true := by rw [e0, q3]; rfl
                  clear q1 q2 q3 e0 hq
                  go_wp2
                  exact fin18 rfl (HKD.out _) (World.cell?_setCell_same _ _ _ cR4) (hBw4.setCell (p := ⟨w.heap.size + 1, 0, none⟩) (by show w.heap.size ≤ w.heap.size + 1; omega) _) rfl (by omega) (by rw [HS2.out]; omega) (by rw [HS2.out]; have := HM.out; have := HJ.out; omega)
end Go.Proofs.Qxb6601943aDoor
