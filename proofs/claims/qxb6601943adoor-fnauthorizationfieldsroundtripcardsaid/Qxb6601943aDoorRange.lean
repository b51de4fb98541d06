/-
  A RANGE OVER A FUNCTION WHOSE ITERATOR KEEPS STATE OF ITS OWN IN A CELL (strings.SplitSeq: the captured text is cut at each round). The guide's law (Derived/RangeFuncWrites.lean) turned in three places: the rounds are counted (round k is handed enc k, there are N of them); the caller's invariants abide the iterator's own steps 'Stp' beside the law's book-keeping; a round knows its number.
-/
import Derived.RangeFuncNested
import Derived.RangeFuncBound
import Derived.RangeFuncCalls
namespace Go.Proofs.Qxb6601943aDoor.Rg
open Go Go.RowKit

/-- THE CONTRACT OF AN ITERATOR VALUE: N rounds, round k handed enc k; between the rounds the iterator steps by Stp; what a round must keep for it: Kp. -/
def Seqs (n : Nat) (P : Program) (g : Nat) (lb : Array Value) (enc : Nat → Value) (N : Nat) (Stp Kp : World → World → Prop) (w : World) : Prop :=
  ∀ (l : Nat) (J Jx : Nat → World → Prop) (W : World), Kp w W → (∀ k A B, J k A → Stp A B → J k B) → (∀ k A B, Jx k A → Stp A B → Jx k B) →
    (∀ k W1, k < N → J k W1 → YieldAt Fence.wide (n - 1) P l #[enc k] W1 fun e W' =>
      (e = .returned (.bool true) ∧ J (k + 1) W' ∧ Kp W1 W') ∨ (e = .returned (.bool false) ∧ Jx (k + 1) W')) →
    J 0 W →
    CallsIn Fence.wide n P g (#[.func (.yield l) #[] #[]] ++ lb) W fun e W' => (∃ v, e = .returned v) ∧ (J N W' ∨ (∃ k, k < N ∧ Jx (k + 1) W'))

/-- HOW THE BODY OF A ROUND MAY BE LEFT. -/
def post (B : Nat) (Kp : World → World → Prop) (I : Nat → World → Prop) (Ix : Code → Nat → World → Prop) (k : Nat) (W : World) : Exit → Act → World → Prop
  | .normal, _, W' => KeepsFrom B W W' ∧ Kp W W' ∧ I k W'
  | .ret, _, W' => KeepsFrom B W W' ∧ Ix .ret k W'
  | .exit id, _, W' => KeepsFrom B W W' ∧ Ix (.exit id) k W'
  | .goto t, _, W' => KeepsFrom B W W' ∧ Ix (.goto t) k W'
  | .panic _, _, _ => False
  | .outgrown, _, _ => False

theorem wide_depth : Fence.wide.depth.isSome = true → ∀ p : Prop, p := fun h => by simp [Fence.wide] at h

variable {n : Nat} {P : Program}

theorem wp_range {g : Operand} {ps : Array Tmp} {assign body : Code} {Q : Exit → Act → World → Prop} {a : Act} {w : World}
    {gf : Nat} {lb : Array Value} (hg : a.eval g = .func (.func gf) #[] lb) (eg : ∀ args w, (callFunc gf args).run P w = .ok (.enter gf args) w)
    {enc : Nat → Value} {N : Nat} {Stp Kp : World → World → Prop} (hseq : Seqs (n - 1) P gf lb enc N Stp Kp w)
    (hStp : ∀ A B, Stp A B → KeepsOthers A B)
    (hKt : ∀ {A B C : World}, Kp A B → Kp B C → Kp A C) (hKb : ∀ (W : World) (l : Nat) (o o' : Obj), w.heap.size ≤ l → W.heap[l]? = some o → o.isCells = false → o.isWalk = false → Kp W (W.putObj l o'))
    (hKa : ∀ o1 o2, Kp w ((w.alloc o1).alloc o2)) (hps : ps.size = 1)
    (I : Nat → World → Prop) (Ix : Code → Nat → World → Prop) (hI : OwnFrom w.heap.size I) (hIx : ∀ c, OwnFrom w.heap.size (Ix c))
    (hIs : ∀ k A B, I k A → Stp A B → I k B) (hIxs : ∀ c k A B, Ix c k A → Stp A B → Ix c k B) (h0 : I 0 w) (a₁ : Nat → Act)
    (hassign : ∀ (l : Nat) (k : Nat) (W : World) (K : Act → World → Prop), K (a₁ k) W →
      assign.wpIn (Fence.wide.inRound l) (n - 1 - 1) P (Exit.then K (fun _ _ _ => False)) { tmps := (ps.zip #[enc k]).foldl (fun t (p, v) => t.setIfInBounds p v) a.tmps, defers := [] } W)
    (hbody : ∀ (l : Nat) (k : Nat) (W : World), k < N → I k W → body.wpIn (Fence.wide.inRound l) (n - 1 - 1) P (post w.heap.size Kp I Ix (k + 1) W) (a₁ k) W)
    (hdone : ∀ (D : Nat) (W : World), w.heap.size ≤ D → I N W → W.heap[D]? = some (.deferred (some [])) → Q .normal { a with defers := { target := .collected D, args := #[] } :: a.defers } W)
    (hstop : ∀ (D : Nat) (c : Code) (k : Nat) (W : World), w.heap.size ≤ D → k < N → Ix c (k + 1) W → W.heap[D]? = some (.deferred (some [])) → c.wpIn Fence.wide n P Q { a with defers := { target := .collected D, args := #[] } :: a.defers } W) :
    (Code.rangeFunc g ps assign body).wpIn Fence.wide n P Q a w := by
  refine wpIn_rangeFunc ?_
  intro fn hfn
  rw [show Fence.wide.round = none from rfl]
  obtain ⟨rec, hrec⟩ : ∃ rec : LoopState → Option Code → Loop, rec = fun st pe => { state := st, pending := pe, fn, tmps := a.tmps, params := ps, assign, body, defers := w.heap.size } := ⟨_, rfl⟩
  obtain ⟨W1, hW1⟩ : ∃ W1, (w.alloc (.deferred (some []))).alloc (.loop (rec .ready none)) = W1 := ⟨_, rfl⟩
  have hL1 : W1.heap[w.heap.size + 1]? = some (.loop (rec .ready none)) := by
    rw [← hW1]; have := World.alloc_heap_new (w.alloc (.deferred (some []))) (.loop (rec .ready none)); rwa [World.size_alloc] at this
  have hK1 : W1.heap[w.heap.size]? = some (.deferred (some [])) := by
    rw [← hW1]; exact (Below.heap_alloc _ _ _ (by simp)).trans (World.alloc_heap_new w _)
  have hI1 : I 0 W1 := by rw [← hW1]; exact hI.alloc _ (hI.alloc _ h0)
  have hb1 : Kp w W1 := by rw [← hW1]; exact hKa _ _
  refine ⟨w.heap.size + 1, [{ target := .collected w.heap.size, args := #[] }], W1, { target := .fn (.func gf) lb, args := #[.func (.yield (w.heap.size + 1)) #[] #[]] }, W1, gf,
    #[.func (.yield (w.heap.size + 1)) #[] #[]] ++ lb, W1, ?_, ?_, ?_, ?_, fun h => wide_depth h _, ?_⟩
  · rw [← hW1, hrec]; exact run_enterLoop_outer _ _ _ _ _
  · simp only [resolve, hg]
    simp [go_sem]
  · intro f' _; exact trivial
  · simp [invoke, go_sem, eg]
  · refine (hseq (w.heap.size + 1)
      (fun k W => I k W ∧ W.heap[w.heap.size + 1]? = some (.loop (rec .ready none)) ∧ W.heap[w.heap.size]? = some (.deferred (some [])))
      (fun k W => ∃ c, Ix c k W ∧ W.heap[w.heap.size + 1]? = some (.loop (rec .done (some c))) ∧ W.heap[w.heap.size]? = some (.deferred (some [])))
      W1 hb1
      (fun k A B hs hst => ⟨hIs k A B hs.1 hst, (hStp A B hst).same _ _ hs.2.1 rfl, (hStp A B hst).same _ _ hs.2.2 rfl⟩)
      (fun k A B hs hst => by
        obtain ⟨c, hc, hl, hk⟩ := hs
        exact ⟨c, hIxs c k A B hc hst, (hStp A B hst).same _ _ hl rfl, (hStp A B hst).same _ _ hk rfl⟩)
      ?_ ⟨hI1, hL1, hK1⟩).mono ?_
    · rintro k W hkN ⟨hi, hl, hk⟩
      have hlt : w.heap.size + 1 < W.heap.size := (Array.getElem?_eq_some_iff.1 hl).1
      have hy := run_yield (P := P) (args := #[enc k]) hl (by rw [hrec]; simp [hps])
      rw [hrec] at hy
      refine ⟨fn, _, assign, body, hy, roundIn_of_wpIn hfn (hassign _ k W _ ⟨_, run_beginRound hl (by rw [hrec]), ?_⟩)⟩
      have hl2 : (W.putObj (w.heap.size + 1) (.loop { rec .ready none with state := .busy })).heap[w.heap.size + 1]? = some (.loop { rec .ready none with state := .busy }) := World.putObj_heap_same hlt
      have hk2 : (W.putObj (w.heap.size + 1) (.loop { rec .ready none with state := .busy })).heap[w.heap.size]? = some (.deferred (some [])) := (World.putObj_heap_other (by omega)).trans hk
      have hw2 : Kp W (W.putObj (w.heap.size + 1) (.loop { rec .ready none with state := .busy })) := hKb _ _ _ _ (by omega) hl rfl rfl
      refine wpIn_mono (hbody _ k _ hkN (hI.putObj _ hi (by omega) hl rfl)) ?_
      have fin : ∀ (jump : Option Code) (W3 : World), KeepsFrom w.heap.size (W.putObj (w.heap.size + 1) (.loop { rec .ready none with state := .busy })) W3 →
          (Instr.endRound (w.heap.size + 1) jump).run P W3 = .ok (.bool jump.isNone) (W3.putObj (w.heap.size + 1) (.loop (rec (if jump.isNone then .ready else .done) jump))) ∧
          W3.heap[w.heap.size + 1]? = some (.loop { rec .ready none with state := .busy }) ∧
          (W3.putObj (w.heap.size + 1) (.loop (rec (if jump.isNone then .ready else .done) jump))).heap[w.heap.size + 1]? = some (.loop (rec (if jump.isNone then .ready else .done) jump)) ∧
          (W3.putObj (w.heap.size + 1) (.loop (rec (if jump.isNone then .ready else .done) jump))).heap[w.heap.size]? = some (.deferred (some [])) := fun jump W3 hk3 => by
        have hl3 := hk3.same _ _ (by omega) hl2 rfl
        have := run_endRound (P := P) jump hl3
        rw [hrec] at this ⊢
        exact ⟨this, by rw [hrec] at hl3; exact hl3, World.putObj_heap_same (Array.getElem?_eq_some_iff.1 hl3).1, (World.putObj_heap_other (by omega)).trans (hk3.same _ _ (Nat.le_refl _) hk2 rfl)⟩
      rintro e a3 W3 hp
      cases e with
      | normal =>
        obtain ⟨hk3, hkp3, hi3⟩ := hp
        obtain ⟨hr, hl3, hl4, hk4⟩ := fin none W3 hk3
        exact ⟨_, _, hr, .inl ⟨rfl, ⟨hI.putObj _ hi3 (by omega) hl3 rfl, hl4, hk4⟩, hKt (hKt hw2 hkp3) (hKb _ _ _ _ (by omega) hl3 rfl rfl)⟩⟩
      | ret =>
        obtain ⟨hk3, hi3⟩ := hp
        obtain ⟨hr, hl3, hl4, hk4⟩ := fin (some .ret) W3 hk3
        exact ⟨_, _, hr, .inr ⟨rfl, .ret, (hIx _).putObj _ hi3 (by omega) hl3 rfl, hl4, hk4⟩⟩
      | exit id =>
        obtain ⟨hk3, hi3⟩ := hp
        obtain ⟨hr, hl3, hl4, hk4⟩ := fin (some (.exit id)) W3 hk3
        exact ⟨_, _, hr, .inr ⟨rfl, .exit id, (hIx _).putObj _ hi3 (by omega) hl3 rfl, hl4, hk4⟩⟩
      | goto t =>
        obtain ⟨hk3, hi3⟩ := hp
        obtain ⟨hr, hl3, hl4, hk4⟩ := fin (some (.goto t)) W3 hk3
        exact ⟨_, _, hr, .inr ⟨rfl, .goto t, (hIx _).putObj _ hi3 (by omega) hl3 rfl, hl4, hk4⟩⟩
      | panic ch => exact hp.elim
      | outgrown => exact hp.elim
    · rintro e W2 ⟨⟨v, rfl⟩, (⟨hi, hl, hk⟩ | ⟨k, hkN, c, hi, hl, hk⟩)⟩
      · exact ⟨none, _, by have := run_endLoop (P := P) hl (by rw [hrec]; simp); rw [hrec] at this; exact this, hdone _ _ (Nat.le_refl _) (hI.putObj _ hi (by omega) hl rfl) ((World.putObj_heap_other (by omega)).trans hk)⟩
      · exact ⟨some c, _, by have := run_endLoop (P := P) hl (by rw [hrec]; simp); rw [hrec] at this; exact this, hstop _ c k _ (Nat.le_refl _) hkN ((hIx c).putObj _ hi (by omega) hl rfl) ((World.putObj_heap_other (by omega)).trans hk)⟩

end Go.Proofs.Qxb6601943aDoor.Rg
