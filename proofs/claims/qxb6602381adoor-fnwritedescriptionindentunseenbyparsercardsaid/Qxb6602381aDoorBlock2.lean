/-
  wdBlockValue, walked.
-/
import Derived.Test.Qxb6602381aDoorBlock
import Derived.Deep.AppendLies
import Derived.Deep.RegionLaw
import Derived.Deep.QuietTactic
import Derived.BigQuiet
import Derived.Deep.Cut
import Derived.Deep.CutBlock
namespace Go.Proofs.Qxb6602381aDoor
open Go Go.RowKit Go.PlainAid

def num (n : Nat) : Value := .int .i64 (n : Int)
def nums (l : List Nat) : List Value := l.map num
/-- The slice value v owns a row of just the numbers l. -/
abbrev IRow (w : World) (B : Nat) (v : Value) (l : List Nat) : Prop := w.ownsRow B 3 1 v l.length (nums l)
theorem info3 : (Tryd.prog.info? 3).map (fun i => (i.zero, i.size, i.bytes)) = some (some (.int .i64 0), 1, 8) := by kernel_rfl
/-- Two slices lie in no common block. -/
def Dis (a b : Value) : Prop := ∀ g, a.ownBlock = some g → b.ownBlock = some g → False
theorem Dis.symm {a b : Value} (h : Dis a b) : Dis b a := fun g h1 h2 => h g h2 h1
theorem Dis.or {a b : Value} (h : Dis a b) : a.ownBlock = none ∨ a.ownBlock ≠ b.ownBlock := by
  cases e : a.ownBlock with
  | none => exact .inl rfl
  | some g => exact .inr fun e' => h g e e'.symm

theorem push {W w w1 : World} {B : Nat} {va vb v' : Value} {a b : List Nat} {o : Obj} {n : Nat} {xs : List Value} (hB : Below B W w) (hz : B ≤ w.heap.size) (Ra : IRow w B va a) (Rb : IRow w B vb b) (D : Dis va vb)
    (hown : w1.ownsRow B 3 1 v' (b.length + 1) (nums b ++ xs)) (hxs : xs = nums [n]) (hgrow : (w.alloc o).grownBy w1 vb.ownBlock) (hat : v'.ownBlock = vb.ownBlock ∨ v'.ownBlock = some (w.alloc o).heap.size) :
    IRow w1 B va a ∧ IRow w1 B v' (b ++ [n]) ∧ Dis va v' ∧ Below B W w1 ∧ B ≤ w1.heap.size := by
  subst hxs
  have h1 := hgrow.size
  rw [World.size_alloc] at h1
  refine ⟨(Ra.alloc o).kept hgrow D.or, ?_, ?_, (hB.alloc hz _).grown hgrow (by simp; omega) (fun j e => (Rb.lt j e).1), by omega⟩
  · have e1 : nums b ++ nums [n] = nums (b ++ [n]) := by simp [nums]
    have e2 : b.length + 1 = (b ++ [n]).length := by simp
    rw [e1, e2] at hown
    exact hown
  · intro g h2 h3
    rcases hat with hat | hat
    · exact D g h2 (hat.symm.trans h3)
    · have h4 := (Ra.lt g h2).2
      rw [hat, World.size_alloc] at h3
      have := Option.some.inj h3
      omega
theorem IRow.shape {w : World} {B : Nat} {v : Value} {l : List Nat} (h : IRow w B v l) (hl : l ≠ []) :
    ∃ g cap, v = .slice (some ⟨g, 0, none⟩) l.length cap ∧ B ≤ g ∧ g < w.heap.size ∧ l.length ≤ cap := by
  rcases h.2 with ⟨_, h0⟩ | ⟨g, cap, cur, hv, hB, hg, hn, _⟩
  · exact absurd (List.eq_nil_of_length_eq_zero h0) hl
  · subst hv
    exact ⟨g, cap, rfl, hB, (Array.getElem?_eq_some_iff.1 hg).1, hn⟩
/-- Behind the scan: both rows, and the world but for them as it was. -/
structure St (w wr : World) (B gs cs ge ce n : Nat) (SS EE : List Nat) : Prop where
  s : wr.ownsRow B 3 1 (.slice (some ⟨gs, 0, none⟩) n cs) n (nums SS)
  e : wr.ownsRow B 3 1 (.slice (some ⟨ge, 0, none⟩) n ce) n (nums EE)
  ne : gs ≠ ge
  b : Below B w wr
  z : B ≤ wr.heap.size
theorem St.drew {w wr : World} {B gs cs ge ce n : Nat} {SS EE : List Nat} (h : St w wr B gs cs ge ce n SS EE) (q : Nat) : St w (wr.drewN q) B gs cs ge ce n SS EE := ⟨h.s, h.e, h.ne, below_drewN h.b q, h.z⟩
theorem row_get {w : World} {B g cap n : Nat} {l : List Nat} (h : w.ownsRow B 3 1 (.slice (some ⟨g, 0, none⟩) n cap) n (nums l)) {j m : Nat} (hj : l[j]? = some m) : w.cell? ⟨g, j, none⟩ = some (.int .i64 (m : Int)) := by
  have hl : l.length = n * 1 := by simpa [nums] using h.1
  rw [h.cellAt j (by have := (List.getElem?_eq_some_iff.1 hj).1; omega)]
  simp [nums, hj, num]
theorem addr_add' (g s j : Nat) : ((⟨g, s, none⟩ : Addr).add j) = ⟨g, s + j, none⟩ := by unfold Addr.add; split <;> simp_all
theorem addr_block (a : Addr) (j : Nat) : (a.add j).block = a.block := by unfold Addr.add; split <;> rfl
theorem Row.conv_any {w : World} {B : Nat} {v : Value} {l : List UInt8} (h : Row w B v l) : (convert 29 9 v).run Tryd.prog w = .ok (.string ⟨l.toArray⟩) w := by
  by_cases hl : l = []
  · subst hl
    rcases h.2 with ⟨rfl, _⟩ | ⟨g, cap, cur, rfl, _⟩
    · rw [run_convert_bytes_string w 29 9 5 none 0 0 Tryd.underlying29 Tryd.underlying5 Tryd.underlying9]
      rfl
    · exact run_convert_bytes_back w 29 9 5 ⟨g, 0, none⟩ cap [] Tryd.underlying29 Tryd.underlying5 Tryd.underlying9 (fun j hj => absurd hj (Nat.not_lt_zero _))
  · exact h.conv hl
/-- append onto a row of the call's own, at a step of a region that draws its order. -/
theorem step_append_own {P : Program} (w : World) {ops : Array Oper} {o : Oper} {a : Act} {K : Act → World → Prop} {Q : Exit → Act → World → Prop} {X : Prop} (hgd : o.guard = none) (s x : Operand) (t : TypeId)
    (ho : o.op = .call { callee := .builtin .append, args := #[s, x], argTypes := #[t, t] })
    (base : Nat) (e : TypeId) (i : TypeInfo) (z : Value) (size bytes : Nat) (ht : P.underlying t = some (.slice e)) (hi : P.info? e = some i) (hz : i.zero = some z)
    (hsize : i.size = size) (hby : i.bytes = bytes) (hzs : z.cells.size = size) (hsz : 0 < size)
    (v : Value) (n : Nat) (xs : List Value) (hs : a.eval s = v) (hown : w.ownsRow base e size v n xs)
    (ad : Addr) (m c : Nat) (news : List Value) (hx : a.eval x = .slice (some ad) m c) (hl : news.length = m * size) (hnews : ∀ j u, news[j]? = some u → w.cell? (ad.add j) = some u) (h1 : ∀ u ∈ news, u.oneCell' = true)
    (h63 : n + m ≤ maxLen) (hbytes : (n + m) * bytes ≤ 140737488355328) (hbase : base ≤ w.heap.size)
    (h : ∀ v' w', w'.ownsRow base e size v' (n + m) (xs ++ news) → w.grownBy w' v.ownBlock → K (a.put o.dst v') w') :
    if Region.wanted o (yielded ops a.tmps) = true then Oper.wp P o a w K Q else X := by
  have hw : Region.wanted o (yielded ops a.tmps) = true := by simp [Region.wanted, hgd]
  rw [if_pos hw]
  obtain ⟨v', w', hr, h2, h3, _⟩ := run_append_own_at (P := P) w base t o.type e i z size bytes ht hi hz hsize hby hzs hsz v n xs hown ad m c news hl hnews h1 h63 hbytes hbase
  unfold Oper.wp execOp
  simp only [ho, resolve, invoke, builtin, Sem.run_bind, Sem.run_pure, Result.andThen_ok, List.map_toArray, List.map_cons, List.map_nil, hs, hx, hr]
  exact h v' w' h2 h3
/-- The common indent as the program holds it. -/
def ci : Option Nat → Int
  | none => -1
  | some c => (c : Int)

set_option maxRecDepth 10000 in
set_option maxHeartbeats 4000000 in
theorem blockValue (raw : List UInt8) (g cap : Nat) (w : World) (hr : RawAt w g raw) (hg : g < w.heap.size) (hcap : raw.length ≤ cap) (hn : raw.length ≤ 8796093022208) :
    Calls Tryd.prog 17 #[.slice (some ⟨g, 0, none⟩) raw.length cap] w fun r w' => r = .returned (.string ⟨(Pl.bv raw).toArray⟩) ∧ Below w.heap.size w w' := by
  obtain ⟨i0, hi0, hz0, hz1, hz2⟩ := info_parts info3
  have HR : Hid (RawAt w g raw) := hr
  obtain ⟨B, hB⟩ : ∃ B, w.heap.size = B := ⟨_, rfl⟩
  have HBB : Hid (w.heap.size = B) := hB
  rw [hB] at hg
  have hB0 : Below B w (w.alloc (.cells #[.int .i64 0] 3)) := (Below.refl _ w).alloc (by omega) _
  have hS0 : IRow (w.alloc (.cells #[.int .i64 0] 3)) B (.slice (some ⟨w.heap.size, 0, none⟩) 1 1) (0 :: Pl.sts 0 (raw.take 0)) := World.ownsRow_lit w #[.int .i64 0] 1 (by omega) (by decide) rfl
  rw [hB] at hS0
  have hZ0 : B ≤ (w.alloc (.cells #[.int .i64 0] 3)).heap.size := by simp; omega
  have HSL : Hid (∀ k, (Pl.sts 0 (raw.take k)).length ≤ 8796093022208) := by
    show ∀ k, _
    intro k
    have := Pl.sts_len (raw.take k) 0
    rw [List.length_take] at this
    omega
  have HEL : Hid (∀ k, (Pl.ens 0 (raw.take k)).length ≤ 8796093022208) := by
    show ∀ k, _
    intro k
    rw [Pl.ens_len]
    exact HSL.out k
  clear hr
  go_enter Tryd.func17, Tryd.ntmps17
  go_wp2
  go_loopw [3, 4, 5] (fun vs ve i wr => ∃ k : Nat, k ≤ raw.length ∧ i = .int .i64 k ∧ IRow wr B vs (0 :: Pl.sts 0 (raw.take k)) ∧ IRow wr B ve (Pl.ens 0 (raw.take k)) ∧ Dis vs ve ∧ Below B w wr ∧ B ≤ wr.heap.size) (fun _ _ i _ => raw.length - (RowKit.intOf i).toNat)
  case atStart => exact ⟨0, Nat.zero_le _, rfl, hS0, World.ownsRow_nil _ _ _ _, (fun _ _ h => by cases h), hB0, hZ0⟩
  case round =>
    obtain ⟨k, hk, rfl, hS, hE, hD, hBw, hz⟩ := hrel
    clear hS0 hB0 hZ0
    by_cases hlt : k < raw.length
    · obtain ⟨b, hb⟩ : ∃ b, raw[k]? = some b := ⟨_, List.getElem?_eq_getElem hlt⟩
      have hcell : wr.cell? ⟨g, k, none⟩ = some (.int .u8 (b.toNat : Int)) := (hBw.cell (p := ⟨g, k, none⟩) hg).trans (HR.out.get hb)
      have hsl := HSL.out k
      have hel := HEL.out k
      have htk : raw.take (k + 1) = raw.take k ++ [b] := by rw [List.take_add_one, hb]; rfl
      have hkl : (raw.take k).length = k := by rw [List.length_take]; omega
      by_cases h10 : b = 10
      · subst h10
        have HS1 : Hid (Pl.sts 0 (raw.take (k + 1)) = Pl.sts 0 (raw.take k) ++ [k + 1]) := by
          show _ = _
          rw [htk, Pl.sts_snoc, if_pos rfl, hkl, Nat.zero_add]
        have HE1 : Hid (Pl.ens 0 (raw.take (k + 1)) = Pl.ens 0 (raw.take k) ++ [k]) := by
          show _ = _
          rw [htk, Pl.ens_snoc, if_pos rfl, hkl, Nat.zero_add]
        rw [show (((10 : UInt8).toNat : Nat) : Int) = 10 from rfl] at hcell
        clear hb htk hkl
        generalize Pl.sts 0 (raw.take k) = S at hS HS1 hsl
        generalize Pl.ens 0 (raw.take k) = E at hE HE1 hel
        go_wp2_with (first
          | (at_builtin; refine wpList_append_own_at _ rfl (.tmp 27) (.tmp 29) 44 rfl B 3 i0 (.int .i64 0) 1 8 Tryd.underlying44 hi0 hz0 hz1 hz2 rfl (by decide) _ _ _ rfl (hE.alloc _) ⟨wr.heap.size, 0, none⟩ 1 1 [.int .i64 (k : Int)] rfl rfl (cells_new _ _ _) (by simp [Value.oneCell']) (by unfold maxLen; omega) (by omega) (by simp; omega) ?_; intro v1 w1 hown hgrow _ hat; obtain ⟨hS1, hE1, hD1, hB1, hz1'⟩ := push hBw hz hS hE hD hown (n := k) rfl hgrow hat; clear hown hgrow hat)
          | (at_builtin; refine wpList_append_own_at _ rfl (.tmp 31) (.tmp 34) 44 rfl B 3 i0 (.int .i64 0) 1 8 Tryd.underlying44 hi0 hz0 hz1 hz2 rfl (by decide) _ _ _ rfl (hS1.alloc _) ⟨w1.heap.size, 0, none⟩ 1 1 [.int .i64 ((k : Int) + 1)] rfl rfl (cells_new _ _ _) (by simp [Value.oneCell']) (by unfold maxLen; simp only [List.length_cons]; omega) (by simp only [List.length_cons]; omega) (by simp; omega) ?_; intro v2 w2 hown hgrow _ hat; obtain ⟨hE2, hS2, hD2, hB2, hz2'⟩ := push hB1 hz1' hE1 hS1 hD1.symm hown (n := k + 1) (by simp [nums, num]) hgrow hat; clear hown hgrow hat))
        go_roundw
        case rel => exact ⟨k + 1, by omega, by go_num, by rw [HS1.out]; exact hS2, by rw [HE1.out]; exact hE2, hD2.symm, hB2, hz2'⟩
        case measure => simp [RowKit.intOf]; omega
      · have hd : ((b.toNat : Int) == 10) = false := beq_eq_false_iff_ne.2 (fun e => h10 (UInt8.toNat_inj.1 (by rw [show (10 : UInt8).toNat = 10 from rfl]; omega)))
        have HS1 : Hid (Pl.sts 0 (raw.take (k + 1)) = Pl.sts 0 (raw.take k)) := by
          show _ = _
          rw [htk, Pl.sts_snoc, if_neg h10, List.append_nil]
        have HE1 : Hid (Pl.ens 0 (raw.take (k + 1)) = Pl.ens 0 (raw.take k)) := by
          show _ = _
          rw [htk, Pl.ens_snoc, if_neg h10, List.append_nil]
        clear hb htk hkl h10
        go_wp2
        go_roundw
        case rel => exact ⟨k + 1, by omega, by go_num, by rw [HS1.out]; exact hS, by rw [HE1.out]; exact hE, hD, hBw, hz⟩
        case measure => simp [RowKit.intOf]; omega
    · have hfull : raw.take k = raw := List.take_of_length_le (by omega)
      have hel := HEL.out k
      have hsl := HSL.out k
      rw [hfull] at hS hE hel hsl
      clear hfull HSL HEL
      have HT : Hid (Pl.Tiles raw (0 :: Pl.sts 0 raw) (Pl.ens 0 raw ++ [raw.length]) (Pl.segs 10 raw)) := Pl.tiles_raw raw
      generalize Pl.sts 0 raw = S at hS HT hsl
      generalize Pl.ens 0 raw = E at hE HT hel
      go_wp2_with (at_builtin; refine wpList_append_own_at _ rfl (.tmp 36) (.tmp 39) 44 rfl B 3 i0 (.int .i64 0) 1 8 Tryd.underlying44 hi0 hz0 hz1 hz2 rfl (by decide) _ _ _ rfl (hE.alloc _) ⟨wr.heap.size, 0, none⟩ 1 1 [.int .i64 (raw.length : Int)] rfl rfl (cells_new _ _ _) (by simp [Value.oneCell']) (by unfold maxLen; omega) (by omega) (by simp; omega) ?_; intro v1 w1 hown hgrow _ hat; obtain ⟨hS1, hE1, hD1, hB1, hz1'⟩ := push hBw hz hS hE hD hown (n := raw.length) rfl hgrow hat; clear hown hgrow hat)
      have hlen := HT.out.lens
      obtain ⟨gs, cs, rfl, hgs1, hgs2, hgs3⟩ := hS1.shape (by simp)
      obtain ⟨ge, ce, rfl, hge1, hge2, hge3⟩ := hE1.shape (by simp)
      have hne : gs ≠ ge := fun e => hD1 gs rfl (by rw [e]; rfl)
      have hnn : (Pl.segs 10 raw).length ≤ 8796093022209 := by rw [← hlen.1, List.length_cons]; omega
      have hn0 : 1 ≤ (Pl.segs 10 raw).length := by rw [← hlen.1, List.length_cons]; omega
      unfold IRow at hS1 hE1
      rw [hlen.1] at hS1 hgs3 ⊢
      rw [hlen.2] at hE1 hge3 ⊢
      generalize (0 :: S) = SS at hS1 HT
      generalize (E ++ [raw.length]) = EE at hE1 HT
      have HB : Hid (Pl.bv raw = Pl.joinLines (Pl.cutLines (Pl.segs 10 raw))) := rfl
      have HJL : Hid (∀ q lo, (Pl.jn (((Pl.cutLines (Pl.segs 10 raw)).take q).drop lo)).length ≤ raw.length + 1) := Pl.jn_mid_len raw
      generalize hls : Pl.segs 10 raw = ls at *
      obtain ⟨n, hln⟩ : ∃ n, ls.length = n := ⟨_, rfl⟩
      rw [hln] at hS1 hgs3 hE1 hge3 hnn hn0 ⊢
      have hst : St w w1 B gs cs ge ce n SS EE := ⟨hS1, hE1, hne, hB1, hz1'⟩
      have HLN : Hid (ls.length = n) := hln
      clear hS1 hE1 hB1 hz1' hD1 hS hE hD hBw hz hel hsl hlen hne hln hls
      go_loopw [6, 7] (fun c i wr => ∃ k : Nat, 1 ≤ k ∧ k ≤ n ∧ i = .int .i64 k ∧ c = .int .i64 (ci (((ls.drop 1).take (k - 1)).foldl Pl.stepc none)) ∧ St w wr B gs cs ge ce n SS EE) (fun _ i _ => n - (RowKit.intOf i).toNat)
      case atStart => exact ⟨1, by omega, by omega, rfl, rfl, hst⟩
      case round =>
        obtain ⟨k, hk1, hk, rfl, rfl, hst'⟩ := hrel
        clear hst
        by_cases hlt : k < n
        · obtain ⟨s, e, l, hs, he, hl, hp⟩ := HT.out.at (i := k) (by rw [HLN.out]; exact hlt)
          have hcs := row_get hst'.s hs
          have hce := row_get hst'.e he
          have hp1 := hp.1
          have hp2 := hp.2.1
          have hraw : RawAt wr g raw := fun j hj => (hst'.b.cell (p := ⟨g, j, none⟩) hg).trans (HR.out j hj)
          have HRW : Hid (RawAt wr g raw) := hraw
          have HP : Hid (Pl.Piece raw s e l) := hp
          have hnx : ((ls.drop 1).take (k + 1 - 1)).foldl Pl.stepc none = Pl.stepc (((ls.drop 1).take (k - 1)).foldl Pl.stepc none) l := by
            have e1 : k + 1 - 1 = (k - 1) + 1 := by omega
            have e2 : (ls.drop 1)[k - 1]? = some l := by
              rw [List.getElem?_drop, show 1 + (k - 1) = k by omega]; exact hl
            rw [e1, List.take_add_one, e2]
            simp
          have HNX : Hid (((ls.drop 1).take (k + 1 - 1)).foldl Pl.stepc none = Pl.stepc (((ls.drop 1).take (k - 1)).foldl Pl.stepc none) l) := hnx
          generalize ((ls.drop 1).take (k - 1)).foldl Pl.stepc none = o at HNX
          have hll := Pl.lead_le l
          have j1 : (k : Int) < n := by omega
          have hwr : IntKind.i64.wrap ((e : Int) - (s : Int)) = (e : Int) - (s : Int) := IntWalk.i64_in _ ⟨by omega, by omega⟩
          clear hnx hs he hl hp hraw
          go_wp2
          go_quiet ((go_at_call 23; exact Calls.quiet_of_same (leadWS raw g cap s e l _ HRW.out HP.out (by omega))))
          have key : (decide ((Pl.lead l : Int) < (e : Int) - (s : Int)) = false ∧ Pl.stepc o l = o) ∨
              (decide ((Pl.lead l : Int) < (e : Int) - (s : Int)) = true ∧ decide (ci o < 0) = true ∧ Pl.stepc o l = some (Pl.lead l)) ∨
              (decide ((Pl.lead l : Int) < (e : Int) - (s : Int)) = true ∧ decide (ci o < 0) = false ∧ decide ((Pl.lead l : Int) < ci o) = true ∧ Pl.stepc o l = some (Pl.lead l)) ∨
              (decide ((Pl.lead l : Int) < (e : Int) - (s : Int)) = true ∧ decide (ci o < 0) = false ∧ decide ((Pl.lead l : Int) < ci o) = false ∧ Pl.stepc o l = o) := by
            by_cases q1 : Pl.lead l < l.length
            · have d1 : decide ((Pl.lead l : Int) < (e : Int) - (s : Int)) = true := decide_eq_true (by omega)
              cases o with
              | none => exact .inr (.inl ⟨d1, rfl, by unfold Pl.stepc; rw [if_pos ⟨q1, fun c h => by cases h⟩]⟩)
              | some c =>
                have d2 : decide (ci (some c) < 0) = false := decide_eq_false (by show ¬ (c : Int) < 0; omega)
                by_cases q2 : Pl.lead l < c
                · exact .inr (.inr (.inl ⟨d1, d2, decide_eq_true (by show (Pl.lead l : Int) < (c : Int); omega), by unfold Pl.stepc; rw [if_pos ⟨q1, fun c' h => by cases h; exact q2⟩]⟩))
                · exact .inr (.inr (.inr ⟨d1, d2, decide_eq_false (by show ¬ (Pl.lead l : Int) < (c : Int); omega), by unfold Pl.stepc; rw [if_neg (fun h => q2 (h.2 c rfl))]⟩))
            · exact .inl ⟨decide_eq_false (by omega), by unfold Pl.stepc; rw [if_neg (fun h => q1 h.1)]⟩
          rcases key with ⟨d1, hc⟩ | ⟨d1, d2, hc⟩ | ⟨d1, d2, d3, hc⟩ | ⟨d1, d2, d3, hc⟩
          all_goals
           have HC := HNX.out.trans hc
           have HCC : Hid (((ls.drop 1).take (k + 1 - 1)).foldl Pl.stepc none = _) := HC
           clear hc HC HNX hwr
           have hwr : IntKind.i64.wrap ((e : Int) - (s : Int)) = (e : Int) - (s : Int) := IntWalk.i64_in _ ⟨by omega, by omega⟩
           generalize hci : ci o = co at *
           have HCI : Hid (ci o = co) := hci
           clear hci
           go_wp2
           go_quiet (fail)
           go_wp2
           go_roundw
           case rel => exact ⟨k + 1, by omega, by omega, by go_num, by rw [HCC.out]; first | rw [HCI.out] | rfl, hst'.drew _⟩
           case measure => simp [RowKit.intOf]; omega
        · have hkn : k = n := by omega
          have hful : (ls.drop 1).take (k - 1) = ls.drop 1 := List.take_of_length_le (by rw [List.length_drop, HLN.out]; omega)
          rw [hful]
          have HO : Hid (Pl.common (ls.drop 1) = (ls.drop 1).foldl Pl.stepc none) := rfl
          generalize (ls.drop 1).foldl Pl.stepc none = o at HO
          clear hful hkn hk1
          obtain ⟨co, hco⟩ : ∃ co, ci o = co := ⟨_, rfl⟩
          rw [hco]
          have hcc : (decide (0 < co) = false ∧ Pl.cutLines ls = ls) ∨ ∃ c : Nat, co = (c : Int) ∧ decide (0 < co) = true ∧ Pl.common (ls.drop 1) = some c := by
            cases o with
            | none => exact .inl ⟨by rw [← hco]; rfl, Pl.cutLines_id (by rw [HO.out]; rfl)⟩
            | some c =>
              cases c with
              | zero => exact .inl ⟨by rw [← hco]; rfl, Pl.cutLines_id (by rw [HO.out]; rfl)⟩
              | succ c => exact .inr ⟨c + 1, hco.symm, decide_eq_true (by rw [← hco]; show (0 : Int) < ((c + 1 : Nat) : Int); omega), HO.out⟩
          have HCC : Hid ((decide (0 < co) = false ∧ Pl.cutLines ls = ls) ∨ ∃ c : Nat, co = (c : Int) ∧ decide (0 < co) = true ∧ Pl.common (ls.drop 1) = some c) := hcc
          clear hco hcc HO
          go_upto_if 79 with fail
          go_cut [9] from 15 (fun _ wc => ∃ SS', St w wc B gs cs ge ce n SS' EE ∧ Pl.Tiles raw SS' EE (Pl.cutLines ls))
          case first =>
            rcases HCC.out with ⟨hd, hcl⟩ | ⟨c, hco, hd, hcm⟩
            · have HCL : Hid (Pl.cutLines ls = ls) := hcl
              have hle : ¬ 0 < co := of_decide_eq_false hd
              clear hcl hd
              go_wp2
              go_meet
              case rel => exact ⟨SS, hst', by rw [HCL.out]; exact HT.out⟩
            · have HCM : Hid (Pl.common (ls.drop 1) = some c) := hcm
              clear hcm
              have HCO : Hid (co = (c : Int)) := hco
              have hco1 : 0 < co := of_decide_eq_true hd
              clear hco
              go_wp2
              go_loopw [9] (fun i wx => ∃ (j : Nat) (SS' : List Nat) (L' : List (List UInt8)), 1 ≤ j ∧ j ≤ n ∧ i = .int .i64 j ∧ St w wx B gs cs ge ce n SS' EE ∧ Pl.Tiles raw SS' EE L' ∧ (∀ q, q < j → L'[q]? = (Pl.cutLines ls)[q]?) ∧ (∀ q, j ≤ q → L'[q]? = ls[q]?)) (fun i _ => n - (RowKit.intOf i).toNat)
              case atStart => exact ⟨1, SS, ls, by omega, by omega, rfl, hst', HT.out, fun q hq => by rw [show q = 0 by omega, Pl.cutLines_zero], fun q _ => rfl⟩
              case round =>
                obtain ⟨j, SS', L', hj1, hj, rfl, hsx, hTx, hq1, hq2⟩ := hrel
                clear hst'
                have hlx : L'.length = n := by
                  have h1 := hTx.lens
                  have h2 := HT.out.lens
                  rw [← h1.2, h2.2]; exact HLN.out
                by_cases hlt : j < n
                · obtain ⟨s, e, l, hs, he, hl, hp⟩ := hTx.at (i := j) (by rw [hlx]; exact hlt)
                  have hcs := row_get hsx.s hs
                  have hce := row_get hsx.e he
                  have hfr := hsx.s.frozenAt j
                  have hp1 := hp.1
                  have hp2 := hp.2.1
                  have j1 : (j : Int) < n := by omega
                  have hwr : IntKind.i64.wrap ((e : Int) - (s : Int)) = (e : Int) - (s : Int) := IntWalk.i64_in _ ⟨by omega, by omega⟩
                  have HF : Hid (∀ q0 u, u = num (s + min c l.length) → St w ((wr.drewN q0).setCell ⟨gs, j, none⟩ u) B gs cs ge ce n (SS'.set j (s + min c l.length)) EE ∧ Pl.Tiles raw (SS'.set j (s + min c l.length)) EE (L'.set j (l.drop c)) ∧ (∀ q, q < j + 1 → (L'.set j (l.drop c))[q]? = (Pl.cutLines ls)[q]?) ∧ (∀ q, j + 1 ≤ q → (L'.set j (l.drop c))[q]? = ls[q]?)) := by
                    show ∀ q0 u, _
                    intro q0 u hu
                    subst hu
                    replace hsx := hsx.drew q0
                    have h1 := hsx.s.stored j (num (s + min c l.length))
                    refine ⟨⟨?_, hsx.e.kept h1.2 (.inr (by simp [Value.ownBlock]; exact Ne.symm hsx.ne)), hsx.ne, hsx.b.grown h1.2 hsx.z (fun q e => ?_), by have := h1.2.size; have := hsx.z; omega⟩, hTx.put he (Pl.piece_cut hp c), ?_, ?_⟩
                    · have e1 : (nums SS').set j (num (s + min c l.length)) = nums (SS'.set j (s + min c l.length)) := by simp [nums]
                      rw [← e1]; exact h1.1
                    · cases e; exact hgs1
                    · intro q hq
                      by_cases e1 : q = j
                      · subst e1
                        rw [Pl.cutLines_at ls q (by omega), HCM.out, ← hq2 q (Nat.le_refl _), hl, List.getElem?_set_self (by omega)]
                        rfl
                      · rw [List.getElem?_set_ne (Ne.symm e1)]; exact hq1 q (by omega)
                    · intro q hq
                      rw [List.getElem?_set_ne (by omega)]; exact hq2 q (by omega)
                  clear hs he hl hp hq1 hq2 hTx
                  by_cases hbig : l.length < c
                  · have hg1 : decide ((e : Int) - (s : Int) < co) = true := decide_eq_true (by rw [HCO.out]; omega)
                    have hsum : (s : Int) + ((e : Int) - (s : Int)) = (e : Int) := by omega
                    have HU : Hid (Value.int .i64 (e : Int) = num (s + min c l.length)) := by
                      show _ = Value.int .i64 ((s + min c l.length : Nat) : Int)
                      congr 1; omega
                    go_wp2
                    go_quiet (fail)
                    go_wp2
                    go_quiet (fail)
                    go_wp2
                    go_roundw
                    case rel =>
                      obtain ⟨f1, f2, f3, f4⟩ := HF.out (_ + nq) _ HU.out
                      exact ⟨j + 1, _, _, by omega, by omega, by go_num, f1, f2, f3, f4⟩
                    case measure => simp [RowKit.intOf]; omega
                  · have hg1 : decide ((e : Int) - (s : Int) < co) = false := decide_eq_false (by rw [HCO.out]; omega)
                    have HU : Hid (Value.int .i64 ((s : Int) + co) = num (s + min c l.length)) := by
                      show _ = Value.int .i64 ((s + min c l.length : Nat) : Int)
                      rw [HCO.out]
                      congr 1; omega
                    have hcb : co ≤ 8796093022208 := by rw [HCO.out]; omega
                    go_wp2
                    go_quiet (fail)
                    go_wp2
                    go_roundw
                    case rel =>
                      obtain ⟨f1, f2, f3, f4⟩ := HF.out nq _ HU.out
                      exact ⟨j + 1, _, _, by omega, by omega, by go_num, f1, f2, f3, f4⟩
                    case measure => simp [RowKit.intOf]; omega
                · have hL : L' = Pl.cutLines ls := by
                    apply List.ext_getElem?
                    intro q
                    by_cases hq : q < j
                    · exact hq1 q hq
                    · rw [List.getElem?_eq_none (by omega), List.getElem?_eq_none (by rw [Pl.cutLines_len, HLN.out]; omega)]
                  rw [hL] at hTx
                  have HTX : Hid (Pl.Tiles raw SS' EE (Pl.cutLines ls)) := hTx
                  clear hL hTx hq1 hq2 hlx
                  go_wp2
                  go_meet
                  case rel => exact ⟨SS', hsx, HTX.out⟩
          case rest =>
            obtain ⟨SS', hsc, hTc⟩ := hcut
            clear hst' HCC
            have hMl : (Pl.cutLines ls).length = n := by rw [Pl.cutLines_len]; exact HLN.out
            have HMB : Hid (Pl.bv raw = Pl.joinLines (Pl.cutLines ls)) := HB.out
            have HTC : Hid (Pl.Tiles raw SS' EE (Pl.cutLines ls)) := hTc
            have HML : Hid ((Pl.cutLines ls).length = n) := hMl
            clear hTc hMl HT HLN HB
            generalize Pl.cutLines ls = M at HMB HTC HML HJL
            go_upto_block 6 with fail
            go_cut [11] from 15 (fun lo wc => lo = .int .i64 (Pl.loF M : Int) ∧ St w wc B gs cs ge ce n SS' EE)
            case first =>
              go_wp2
              go_loopw [11] (fun i wx => ∃ m : Nat, m ≤ n ∧ i = .int .i64 m ∧ St w wx B gs cs ge ce n SS' EE ∧ Pl.loF M = m + Pl.loF (M.drop m)) (fun i _ => n - (RowKit.intOf i).toNat)
              case atStart => exact ⟨0, Nat.zero_le _, rfl, hsc, by simp⟩
              case round =>
                obtain ⟨m, hm, rfl, hsx, hlo⟩ := hrel
                clear hsc
                have HLO : Hid (Pl.loF M = m + Pl.loF (M.drop m)) := hlo
                clear hlo
                by_cases hlt : m < n
                · obtain ⟨s, e, l, hs, he, hl, hp⟩ := HTC.out.at (i := m) (by rw [HML.out]; exact hlt)
                  have hcs := row_get hsx.s hs
                  have hce := row_get hsx.e he
                  have hp1 := hp.1
                  have hp2 := hp.2.1
                  have HRW : Hid (RawAt wr g raw) := fun j hj => (hsx.b.cell (p := ⟨g, j, none⟩) hg).trans (HR.out j hj)
                  have HP : Hid (Pl.Piece raw s e l) := hp
                  have HD : Hid (M.drop m = l :: M.drop (m + 1)) := by
                    show _ = _
                    rw [List.drop_eq_getElem_cons (by rw [HML.out]; exact hlt)]
                    congr 1
                    exact (List.getElem?_eq_some_iff.1 hl).2
                  have hll := Pl.lead_le l
                  have j1 : (m : Int) < n := by omega
                  have hwr : IntKind.i64.wrap ((e : Int) - (s : Int)) = (e : Int) - (s : Int) := IntWalk.i64_in _ ⟨by omega, by omega⟩
                  clear hs he hl hp
                  by_cases hbl : Pl.lead l = l.length
                  · have hd : ((Pl.lead l : Int) == (e : Int) - (s : Int)) = true := beq_iff_eq.2 (by omega)
                    have HN : Hid (Pl.loF M = (m + 1) + Pl.loF (M.drop (m + 1))) := by
                      show _ = _
                      rw [HLO.out, HD.out, Pl.loF, if_pos (by unfold Pl.blank; rw [hbl]; simp)]; omega
                    clear hbl
                    go_wp2
                    go_quiet ((go_at_call 23; exact Calls.quiet_of_same (leadWS raw g cap s e l _ HRW.out HP.out (by omega))))
                    go_wp2
                    go_roundw
                    case rel => exact ⟨m + 1, by omega, by go_num, hsx.drew _, HN.out⟩
                    case measure => simp [RowKit.intOf]; omega
                  · have hd : ((Pl.lead l : Int) == (e : Int) - (s : Int)) = false := beq_eq_false_iff_ne.2 (by omega)
                    have HN : Hid (Pl.loF M = m) := by
                      show _ = _
                      rw [HLO.out, HD.out, Pl.loF, if_neg (by unfold Pl.blank; simpa using hbl)]; rfl
                    clear hbl
                    go_wp2
                    go_quiet ((go_at_call 23; exact Calls.quiet_of_same (leadWS raw g cap s e l _ HRW.out HP.out (by omega))))
                    go_wp2
                    go_meet
                    case rel => exact ⟨by rw [HN.out], hsx.drew _⟩
                · have HN : Hid (Pl.loF M = m) := by
                    show _ = _
                    rw [HLO.out, List.drop_of_length_le (by rw [HML.out]; omega)]; rfl
                  have hd : ¬ (m : Int) < n := by omega
                  go_wp2
                  go_quiet (fail)
                  go_wp2
                  go_meet
                  case rel => exact ⟨by rw [HN.out], hsx.drew _⟩
            case rest =>
              obtain ⟨rfl, hsd⟩ := hcut
              clear hsc
              obtain ⟨lo, hlo⟩ : ∃ lo, Pl.loF M = lo := ⟨_, rfl⟩
              have HLO : Hid (Pl.loF M = lo) := hlo
              rw [hlo]
              have hlon : lo ≤ n := by rw [← hlo, ← HML.out]; exact Pl.loF_le M
              clear hlo
              go_upto_block 8 with fail
              go_cut [12] from 15 (fun hi wc => hi = .int .i64 ((Pl.hF M lo n : Int) - 1) ∧ St w wc B gs cs ge ce n SS' EE)
              case first =>
                go_wp2
                go_loopw [12] (fun i wx => ∃ h : Nat, h ≤ n ∧ i = .int .i64 ((h : Int) - 1) ∧ St w wx B gs cs ge ce n SS' EE ∧ Pl.hF M lo n = Pl.hF M lo h) (fun i _ => (RowKit.intOf i + 1).toNat)
                case atStart => exact ⟨n, Nat.le_refl _, rfl, hsd, rfl⟩
                case round =>
                  obtain ⟨h, hh, rfl, hsx, hhf⟩ := hrel
                  clear hsd
                  have HHF : Hid (Pl.hF M lo n = Pl.hF M lo h) := hhf
                  clear hhf
                  obtain ⟨z, hz⟩ : ∃ z : Int, (h : Int) - 1 = z := ⟨_, rfl⟩
                  rw [hz]
                  by_cases hlt : lo < h
                  · obtain ⟨h', rfl⟩ : ∃ h', h = h' + 1 := ⟨h - 1, by omega⟩
                    obtain ⟨s, e, l, hs, he, hl, hp⟩ := HTC.out.at (i := h') (by rw [HML.out]; omega)
                    have hcs := row_get hsx.s hs
                    have hce := row_get hsx.e he
                    have hp1 := hp.1
                    have hp2 := hp.2.1
                    have HRW : Hid (RawAt wr g raw) := fun j hj => (hsx.b.cell (p := ⟨g, j, none⟩) hg).trans (HR.out j hj)
                    have HP : Hid (Pl.Piece raw s e l) := hp
                    have hgd : M.getD h' [] = l := by rw [List.getD_eq_getElem?_getD, hl]; rfl
                    have HGD : Hid (M.getD h' [] = l) := hgd
                    have hll := Pl.lead_le l
                    have z1 : z.toNat = h' := by omega
                    have z2 : 0 ≤ z := by omega
                    have z3 : z < n := by omega
                    have z4 : (lo : Int) ≤ z := by omega
                    have hwr : IntKind.i64.wrap ((e : Int) - (s : Int)) = (e : Int) - (s : Int) := IntWalk.i64_in _ ⟨by omega, by omega⟩
                    have HZ : Hid (((h' + 1 : Nat) : Int) - 1 = z) := hz
                    clear hs he hl hp hgd hz
                    by_cases hbl : Pl.lead l = l.length
                    · have hd : ((Pl.lead l : Int) == (e : Int) - (s : Int)) = true := beq_iff_eq.2 (by omega)
                      have HN : Hid (Pl.hF M lo n = Pl.hF M lo h') := by
                        show _ = _
                        rw [HHF.out, Pl.hF, if_pos ⟨by omega, by rw [HGD.out]; unfold Pl.blank; rw [hbl]; simp⟩]
                      clear hbl
                      go_wp2
                      go_quiet ((go_at_call 23; exact Calls.quiet_of_same (leadWS raw g cap s e l _ HRW.out HP.out (by omega))))
                      go_wp2
                      go_roundw
                      case rel => exact ⟨h', by omega, by have := HZ.out; congr 1; omega, hsx.drew _, HN.out⟩
                      case measure => have := HZ.out; simp [RowKit.intOf]; omega
                    · have hd : ((Pl.lead l : Int) == (e : Int) - (s : Int)) = false := beq_eq_false_iff_ne.2 (by omega)
                      have HN : Hid (Pl.hF M lo n = h' + 1) := by
                        show _ = _
                        rw [HHF.out, Pl.hF, if_neg (fun h => hbl (by have := h.2; rw [HGD.out] at this; unfold Pl.blank at this; simpa using this))]
                      clear hbl
                      go_wp2
                      go_quiet ((go_at_call 23; exact Calls.quiet_of_same (leadWS raw g cap s e l _ HRW.out HP.out (by omega))))
                      go_wp2
                      go_meet
                      case rel => exact ⟨by rw [HN.out, HZ.out], hsx.drew _⟩
                  · have hd : ¬ (lo : Int) ≤ z := by omega
                    have HN : Hid (Pl.hF M lo n = h) := by
                      show _ = _
                      rw [HHF.out]
                      cases h with
                      | zero => rfl
                      | succ h' => rw [Pl.hF, if_neg (fun q => hlt (by omega))]
                    have HZ : Hid ((h : Int) - 1 = z) := hz
                    have hdd : decide ((lo : Int) ≤ z) = false := decide_eq_false hd
                    clear hz hd
                    go_wp2
                    go_quiet (fail)
                    go_wp2
                    go_meet
                    case rel => exact ⟨by rw [HN.out, HZ.out], hsx.drew _⟩
              case rest =>
                obtain ⟨rfl, hse⟩ := hcut
                clear hsd
                obtain ⟨H, hH⟩ : ∃ H, Pl.hF M lo n = H := ⟨_, rfl⟩
                have hHn : H ≤ n := by rw [← hH]; exact Pl.hF_le M lo n
                have HRES : Hid (Pl.bv raw = Pl.jn ((M.take H).drop lo)) := by
                  show _ = _
                  rw [HMB.out]
                  unfold Pl.joinLines
                  rw [HLO.out, HML.out, hH]
                rw [hH]
                clear hH HMB HLO
                obtain ⟨z, hz⟩ : ∃ z : Int, (H : Int) - 1 = z := ⟨_, rfl⟩
                rw [hz]
                obtain ⟨j0, hj0, hy0, hy1, hy2⟩ := info_parts info5
                obtain ⟨B2, hB2⟩ : ∃ B2, wc.heap.size = B2 := ⟨_, rfl⟩
                have hgs4 : gs < B2 := by
                  rw [← hB2]; exact (hse.s.lt gs rfl).2
                have hge4 : ge < B2 := by
                  rw [← hB2]; exact (hse.e.lt ge rfl).2
                have hg4 : g < B2 := by have := hse.z; omega
                have hB4 : B ≤ B2 := by have := hse.z; omega
                have hz2 : B2 ≤ wc.heap.size := by omega
                have HCS : Hid (∀ i s : Nat, SS'[i]? = some s → wc.cell? ⟨gs, i, none⟩ = some (.int .i64 (s : Int))) := fun i s h => row_get hse.s h
                have HCE : Hid (∀ i e : Nat, EE[i]? = some e → wc.cell? ⟨ge, i, none⟩ = some (.int .i64 (e : Int))) := fun i e h => row_get hse.e h
                have HRW : Hid (RawAt wc g raw) := fun j hj => (hse.b.cell (p := ⟨g, j, none⟩) hg).trans (HR.out j hj)
                have HBW : Hid (Below B w wc) := hse.b
                clear hse hB2
                go_wp2
                go_loopw [13, 14] (fun v i wx => ∃ q : Nat, lo ≤ q ∧ q ≤ n ∧ (q ≤ H ∨ q = lo) ∧ i = .int .i64 q ∧ Row wx B2 v (Pl.jn ((M.take q).drop lo)) ∧ Below B2 wc wx ∧ B2 ≤ wx.heap.size) (fun _ i _ => n - (RowKit.intOf i).toNat)
                case atStart =>
                  refine ⟨lo, Nat.le_refl _, hlon, .inr rfl, rfl, ?_, Below.refl _ _, hz2⟩
                  rw [(Pl.mid_nil (by rw [HML.out]; exact hlon) (Nat.le_refl _)).2 rfl]
                  exact World.ownsRow_nil _ _ _ _
                case round =>
                  obtain ⟨q, hq1, hq2, hq3, rfl, hRo, hBx, hzx⟩ := hrel
                  have hjl := HJL.out q lo
                  have hjl2 := HJL.out (q + 1) lo
                  by_cases hlt : q < H
                  · obtain ⟨s, e, l, hs, he, hl, hp⟩ := HTC.out.at (i := q) (by rw [HML.out]; omega)
                    have hcs : wr.cell? ⟨gs, q, none⟩ = some (.int .i64 (s : Int)) := (hBx.cell (p := ⟨gs, q, none⟩) hgs4).trans (HCS.out q s hs)
                    have hce : wr.cell? ⟨ge, q, none⟩ = some (.int .i64 (e : Int)) := (hBx.cell (p := ⟨ge, q, none⟩) hge4).trans (HCE.out q e he)
                    have hp1 := hp.1
                    have hp2 := hp.2.1
                    have hnx := Pl.mid_next hl hq1
                    have hmn := Pl.mid_nil (M := M) (q := q) (lo := lo) (by rw [HML.out]; exact hq2) hq1
                    rw [hnx, Pl.jn_snoc] at hjl2
                    have HN : Hid (Pl.jn ((M.take (q + 1)).drop lo) = Pl.jn ((M.take q).drop lo) ++ (if (M.take q).drop lo = [] then [] else [10]) ++ l) := by
                      show _ = _
                      rw [hnx, Pl.jn_snoc]
                    obtain ⟨A, hA, hnews⟩ : ∃ A : Addr, (if cap = s then some (⟨g, 0, none⟩ : Addr) else some ⟨g, s, none⟩) = some A ∧ (∀ j u, (Lib.byteCells l)[j]? = some u → wc.cell? (A.add j) = some u) := by
                      by_cases hcp : cap = s
                      · refine ⟨⟨g, 0, none⟩, by rw [if_pos hcp], fun j u hj => ?_⟩
                        have : l = [] := List.eq_nil_of_length_eq_zero (by omega)
                        rw [this] at hj
                        simp [Lib.byteCells] at hj
                      · refine ⟨⟨g, s, none⟩, by rw [if_neg hcp], fun j u hj => ?_⟩
                        rw [addr_add', ← hj]
                        have hjl : j < l.length := by
                          have := (List.getElem?_eq_some_iff.1 hj).1
                          simpa [Lib.byteCells] using this
                        obtain ⟨b, hb, hd⟩ := hp.get hjl
                        rw [HRW.out.get hb]
                        have hlj : l[j]? = some b := by
                          have := congrArg (·[0]?) hd
                          simpa using this
                        simp [Lib.byteCells, hlj]
                    have HNW : Hid (∀ j u, (Lib.byteCells l)[j]? = some u → wc.cell? (A.add j) = some u) := hnews
                    have hAb : A.block < B2 := by
                      split at hA <;> (cases hA; exact hg4)
                    have s1 : (0 : Int) ≤ s := by omega
                    have s2 : (s : Int) ≤ e := by omega
                    have s3 : (e : Int) ≤ cap := by omega
                    have s4 : e - s = l.length := by omega
                    have hqz : (q : Int) ≤ z := by omega
                    have hqn : q < n := by omega
                    have s5 : s ≤ e := by omega
                    have s6 : e ≤ cap := by omega
                    clear hs he hl hp hnx hnews
                    generalize Pl.jn ((M.take q).drop lo) = acc at hRo HN hjl hjl2
                    rcases Nat.eq_or_lt_of_le hq1 with heq | hgt
                    · have h35 : ¬ (lo : Int) < (q : Int) := by omega
                      have HN' : Hid (Pl.jn ((M.take (q + 1)).drop lo) = acc ++ l) := by
                        show _ = _
                        rw [HN.out, if_pos (hmn.2 heq.symm), List.append_nil]
                      rw [if_pos (hmn.2 heq.symm), List.append_nil, List.length_append] at hjl2
                      clear heq hmn HN
                      have hcs' : wr.drew.cell? ⟨gs, q, none⟩ = some (.int .i64 (s : Int)) := hcs
                      have hce' : wr.drew.cell? ⟨ge, q, none⟩ = some (.int .i64 (e : Int)) := hce
                      go_wp2
                      go_region_law (refine step_append_own _ rfl (.tmp 186) (.tmp 196) 29 rfl B2 5 j0 (.int .u8 0) 1 1 Tryd.underlying29 hj0 hy0 hy1 hy2 rfl (by decide) u13 acc.length (Lib.byteCells acc) (by simp [Act.eval, Act.put]) hRo A l.length (cap - s) (Lib.byteCells l) (by simp [Act.eval, Act.put]) (by simp [Lib.byteCells]) (fun j u hj => (hBx.cell (p := A.add j) (by rw [addr_block]; exact hAb)).trans (HNW.out j u hj)) (bytes_one _) (by unfold maxLen; omega) (by omega) hzx ?_; intro v6 w7 hown hgrow)
                      all_goals
                       have hown' : Row w7 B2 v6 (acc ++ l) := Row.app hown (by simp) rfl
                       have hB7 : Below B2 wc w7 := hBx.trans (show Below B2 wr w7 from ⟨hgrow.os, hgrow.tape, hgrow.output, hgrow.size, fun k hk => hgrow.block k (by show k < wr.heap.size; omega) (fun e => by have := (hRo.lt k e.symm).1; omega)⟩)
                       have hz7 : B2 ≤ w7.heap.size := by have := hB7.size; omega
                       clear hown hgrow
                       go_wp2
                       go_roundw
                       case rel => exact ⟨q + 1, by omega, by omega, .inl (by omega), by go_num, by rw [HN'.out]; exact hown', hB7, hz7⟩
                       case measure => simp [RowKit.intOf]; omega
                    · have h35 : (lo : Int) < (q : Int) := by omega
                      have HN' : Hid (Pl.jn ((M.take (q + 1)).drop lo) = acc ++ [10] ++ l) := by
                        show _ = _
                        rw [HN.out, if_neg (fun h => by have := hmn.1 h; omega)]
                      rw [if_neg (fun h => by have := hmn.1 h; omega), List.length_append, List.length_append] at hjl2
                      simp only [List.length_cons, List.length_nil] at hjl2
                      clear hmn HN hgt
                      go_wp2_with (at_builtin; refine wpList_append_own _ rfl (.tmp 183) (.tmp 184) 29 rfl B2 5 j0 (.int .u8 0) 1 1 Tryd.underlying29 hj0 hy0 hy1 hy2 rfl (by decide) _ _ _ rfl (hRo.alloc _) ⟨wr.heap.size, 0, none⟩ 1 1 (Lib.byteCells [10]) rfl rfl (cells_new _ _ _) (bytes_one _) (by unfold maxLen; omega) (by omega) (by simp; omega) ?_; intro v5 w6 hown hgrow _; obtain ⟨R5, b5, z5⟩ := step_lit (b := [10]) hBx hzx hRo hown hgrow rfl rfl; clear hown hgrow)
                      have hal : (acc ++ [10]).length = acc.length + 1 := by simp
                      generalize acc ++ [10] = ac at R5 HN' hal
                      have hcs6 : w6.cell? ⟨gs, q, none⟩ = some (.int .i64 (s : Int)) := (b5.cell (p := ⟨gs, q, none⟩) hgs4).trans ((hBx.cell (p := ⟨gs, q, none⟩) hgs4).symm.trans hcs)
                      have hce6 : w6.cell? ⟨ge, q, none⟩ = some (.int .i64 (e : Int)) := (b5.cell (p := ⟨ge, q, none⟩) hge4).trans ((hBx.cell (p := ⟨ge, q, none⟩) hge4).symm.trans hce)
                      have hcs' : w6.drew.cell? ⟨gs, q, none⟩ = some (.int .i64 (s : Int)) := hcs6
                      have hce' : w6.drew.cell? ⟨ge, q, none⟩ = some (.int .i64 (e : Int)) := hce6
                      go_region_law (refine step_append_own _ rfl (.tmp 186) (.tmp 196) 29 rfl B2 5 j0 (.int .u8 0) 1 1 Tryd.underlying29 hj0 hy0 hy1 hy2 rfl (by decide) v5 ac.length (Lib.byteCells ac) (by simp [Act.eval, Act.put]) R5 A l.length (cap - s) (Lib.byteCells l) (by simp [Act.eval, Act.put]) (by simp [Lib.byteCells]) (fun j u hj => (b5.cell (p := A.add j) (by rw [addr_block]; exact hAb)).trans (HNW.out j u hj)) (bytes_one _) (by unfold maxLen; omega) (by omega) z5 ?_; intro v6 w7 hown hgrow)
                      all_goals
                       have hown' : Row w7 B2 v6 (ac ++ l) := Row.app hown (by simp) rfl
                       have hB7 : Below B2 wc w7 := b5.trans (show Below B2 w6 w7 from ⟨hgrow.os, hgrow.tape, hgrow.output, hgrow.size, fun k hk => hgrow.block k (by show k < w6.heap.size; omega) (fun e => by have := (R5.lt k e.symm).1; omega)⟩)
                       have hz7 : B2 ≤ w7.heap.size := by have := hB7.size; omega
                       clear hown hgrow
                       go_wp2
                       go_roundw
                       case rel => exact ⟨q + 1, by omega, by omega, .inl (by omega), by go_num, by rw [HN'.out]; exact hown', hB7, hz7⟩
                       case measure => simp [RowKit.intOf]; omega
                  · have hqz : ¬ (q : Int) ≤ z := by omega
                    have HE : Hid (Pl.bv raw = Pl.jn ((M.take q).drop lo)) := by
                      show _ = _
                      rw [HRES.out]
                      rcases hq3 with h | h
                      · rw [show q = H by omega]
                      · subst h
                        rw [(Pl.mid_nil (by rw [HML.out]; exact hq2) (Nat.le_refl _)).2 rfl, List.drop_of_length_le (by rw [List.length_take]; omega)]
                    have hconv := Row.conv_any hRo
                    clear hq3
                    go_wp2
                    go_ret
                    refine ⟨by rw [HE.out]; rfl, ?_⟩
                    exact HBW.out.trans (hBx.mono hB4)
end Go.Proofs.Qxb6602381aDoor
