/-
  slices.Clone (28) at []span, union (25).
-/
import Derived.Test.Qxb6000858aSort
import Derived.RegionTactic
import Derived.StillTailTactics
import Derived.Outline
namespace Go.Proofs.Qxb6000858a
open Go.RowKit
set_option linter.unusedVariables false

theorem info42 : (Try.prog.info? 42).map (fun i => (i.zero, i.size, i.bytes)) = some (some (.agg #[.int .i64 0, .int .i64 0]), 2, 16) := by kernel_rfl

/-- the cells of a list of spans -/
def spCells (ps : List (Int × Int)) : List Value := ps.flatMap fun p => [.int .i64 p.1, .int .i64 p.2]

theorem spCells_len (ps : List (Int × Int)) : (spCells ps).length = ps.length * 2 := by
  induction ps with
  | nil => rfl
  | cons p r ih =>
    unfold spCells at ih ⊢
    rw [List.flatMap_cons, List.length_append, ih]
    simp only [List.length_cons, List.length_nil]
    omega

theorem spCells_get (ps : List (Int × Int)) (i : Nat) (h : i < ps.length) : (spCells ps)[i * 2]? = some (.int .i64 (ps.getD i (0, 0)).1) ∧ (spCells ps)[i * 2 + 1]? = some (.int .i64 (ps.getD i (0, 0)).2) := by
  induction ps generalizing i with
  | nil => simp at h
  | cons p r ih =>
    have e : spCells (p :: r) = .int .i64 p.1 :: .int .i64 p.2 :: spCells r := by simp [spCells]
    rw [e]
    cases i with
    | zero => simp
    | succ i =>
      have := ih i (by simpa using h)
      rw [show (i + 1) * 2 = i * 2 + 1 + 1 by omega]
      simpa using this

theorem spCells_one (ps : List (Int × Int)) : ∀ u ∈ spCells ps, u.oneCell' = true := by
  intro u hu
  simp only [spCells, List.mem_flatMap] at hu
  obtain ⟨p, _, hu⟩ := hu
  simp at hu
  rcases hu with rfl | rfl <;> rfl

theorem spCells_snoc (ps : List (Int × Int)) (p : Int × Int) : spCells (ps ++ [p]) = spCells ps ++ [.int .i64 p.1, .int .i64 p.2] := by simp [spCells]

theorem Sp.cells {w : World} {g : Nat} {ps : List (Int × Int)} (h : Sp w g ps) : ∀ j u, (spCells ps)[j]? = some u → w.cell? ⟨g, j, none⟩ = some u := by
  intro j u hu
  have hj : j < ps.length * 2 := by
    have := (List.getElem?_eq_some_iff.1 hu).1
    rwa [spCells_len] at this
  have hi : j / 2 < ps.length := by omega
  obtain ⟨h1, h2⟩ := h (j / 2) hi
  obtain ⟨h3, h4⟩ := spCells_get ps (j / 2) hi
  rcases Nat.mod_two_eq_zero_or_one j with h0 | h0
  · have e : j / 2 * 2 = j := by omega
    rw [e] at h1 h3
    rw [h1, ← h3, hu]
  · have e : j / 2 * 2 + 1 = j := by omega
    rw [e] at h2 h4
    rw [h2, ← h4, hu]

theorem sp_of_owns {w : World} {base g cap : Nat} {ps : List (Int × Int)} (h : w.ownsRow base 42 2 (.slice (some ⟨g, 0, none⟩) ps.length cap) ps.length (spCells ps)) : Sp w g ps := by
  intro i hi
  obtain ⟨h3, h4⟩ := spCells_get ps i hi
  exact ⟨by rw [h.cellAt _ (by omega), h3], by rw [h.cellAt _ (by omega), h4]⟩

theorem owns_form {w : World} {base e size n : Nat} {v : Value} {xs : List Value} (h : w.ownsRow base e size v n xs) (hv : ¬ v = .slice none 0 0) :
    ∃ g cap, v = .slice (some ⟨g, 0, none⟩) n cap ∧ base ≤ g ∧ g < w.heap.size := by
  rcases h.2 with ⟨h1, _⟩ | ⟨g, cap, cur, rfl, hb, hg, _⟩
  · exact absurd h1 hv
  · exact ⟨g, cap, rfl, hb, (Array.getElem?_eq_some_iff.1 hg).1⟩

set_option maxHeartbeats 400000 in
/-- slices.Clone: the same spans in a new row -/
theorem clone_sp (g n cap : Nat) (ps : List (Int × Int)) (w : World) (hn : n ≤ 4096) (hl : ps.length = n) (hs : Sp w g ps) (hg : g < w.heap.size) :
    Calls Try.prog 28 #[.slice (some ⟨g, 0, none⟩) n cap] w fun e w' => ∃ g' cap', e = .returned (.slice (some ⟨g', 0, none⟩) n cap') ∧ w.heap.size ≤ g' ∧ g' < w'.heap.size ∧ Sp w' g' ps ∧ (∀ j, j < n * 2 → w'.frozen? ⟨g', j, none⟩ = false) ∧ Below w.heap.size w w' := by
  obtain ⟨i0, hi, hz0, hz1, hz2⟩ := info_parts info42
  have q40 : ∀ (w : World) (a : Option Addr) (n c n' c' : Nat), (binOp .eql 40 (.slice a n c) (.slice none n' c')).run Try.prog w = .ok (.bool a.isNone) w := fun w a n c n' c' => Lib.run_eql_slice_nil w _ _ a n c n' c' Try.underlying40
  have HS : Hid (Sp w g ps) := hs
  have HL : Hid (ps.length = n) := hl
  clear hs hl
  go_enter Try.func28, Try.ntmps28
  have hown : (w.alloc (.cells #[] 42)).ownsRow w.heap.size 42 2 (.slice (some ⟨w.heap.size, 0, none⟩) 0 0) 0 [] := World.ownsRow_lit (base := w.heap.size) (e := 42) (size := 2) w #[] 0 (Nat.le_refl _) (by unfold maxLen; omega) rfl
  go_wp2_with (at_builtin; refine wpList_append_own _ rfl _ _ 40 rfl w.heap.size 42 i0 (.agg #[.int .i64 0, .int .i64 0]) 2 16 Try.underlying40 hi hz0 hz1 hz2 rfl (by decide) _ _ _ rfl hown ⟨g, 0, none⟩ n cap (spCells ps) rfl ?c0 ?c1 ?c2 ?b1 ?b2 ?b3 ?_)
  case c0 => rw [spCells_len, HL.out]
  case c1 =>
    intro j u hu
    rw [Addr.add_lit, Nat.zero_add, World.cell?_alloc_lt _ _ _ (show g < w.heap.size from hg)]
    exact HS.out.cells j u hu
  case c2 => exact spCells_one ps
  case b1 => unfold maxLen; omega
  case b2 => omega
  case b3 => simp
  intro v' w2 hown' hgrow' hv'
  obtain ⟨g', cap', rfl, hgb, hgl⟩ := owns_form hown' hv'
  have hbel : Below w.heap.size w w2 := ((Below.refl w.heap.size w).alloc (Nat.le_refl _) _).grown hgrow' (by simp) (fun k h => by simp [Value.ownBlock] at h; omega)
  have hsp : Sp w2 g' ps := by
    have h2 := hown'
    rw [← HL.out] at h2
    exact sp_of_owns h2
  have hfr : ∀ j, j < n * 2 → w2.frozen? ⟨g', j, none⟩ = false := fun j _ => hown'.frozenAt j
  have HSP : Hid (Sp w2 g' ps) := hsp
  have HFR : Hid (∀ j, j < n * 2 → w2.frozen? ⟨g', j, none⟩ = false) := hfr
  clear hown hown' hgrow' hsp hfr
  go_wp2
  go_ret
  exact ⟨_, _, rfl, hgb, hgl, HSP.out, HFR.out, hbel⟩

theorem Sp.below {B : Nat} {w w' : World} {g : Nat} {ps : List (Int × Int)} (h : Sp w g ps) (hg : g < B) (hb : Below B w w') : Sp w' g ps := by
  intro i hi
  obtain ⟨h1, h2⟩ := h i hi
  exact ⟨(hb.cell (p := ⟨g, i * 2, none⟩) hg).trans h1, (hb.cell (p := ⟨g, i * 2 + 1, none⟩) hg).trans h2⟩

/-- the state at a round's head: k spans have been read; B: the heap's size behind the sort -/
def UAt (B : Nat) (w2 : World) (qs : List (Int × Int)) (k : Nat) (wr : World) (v : Value) : Prop :=
  wr.ownsRow B 42 2 v (un (qs.take k)).length (spCells (un (qs.take k))) ∧ Below B w2 wr ∧ B ≤ wr.heap.size

/-- a region whose last operation alone writes: the rest in the order of the text -/
theorem region_tail {P : Program} {id : Nat} {Q : Exit → Act → World → Prop} {a : Act} {w : World} {l : List Oper} (n : Nat) (hm : P.follows .mixedOrders = true) (hB : Region.lexTailB .any l.toArray n = true)
    (h : wpStill P l.toArray w.drew (fun a' => wpList P l.toArray Q (l.drop n) a' w.drew) (l.take n) a) : (Code.region id l.toArray true).wp P Q a w :=
  wp_region_still_tail n hm hB h

theorem spCells_last (I : List (Int × Int)) (l : Int × Int) (x l1 : Int) (h : l.1 = l1) : (spCells (I ++ [l])).set (I.length * 2 + 1) (.int .i64 x) = spCells (I ++ [(l1, x)]) := by
  rw [spCells_snoc, spCells_snoc, List.set_append_right _ _ (by rw [spCells_len]; omega), spCells_len, show I.length * 2 + 1 - I.length * 2 = 1 by omega, h]
  rfl

theorem cells2 (W : World) (a b : Value) {q : Nat} (hq : q = W.heap.size) : ∀ j u, [a, b][j]? = some u → (W.alloc (.cells #[a, b] 42)).cell? ((⟨q, 0, none⟩ : Addr).add j) = some u := by
  subst hq
  intro j u hj
  rw [Addr.add_lit, Nat.zero_add, World.cell?_alloc_new]
  simpa using hj

theorem one2 (a b : Int) : ∀ u ∈ [Value.int .i64 a, .int .i64 b], u.oneCell' = true := by
  intro u hu
  simp at hu
  rcases hu with rfl | rfl <;> rfl

theorem below_drewN {B : Nat} {a w : World} (h : Below B a w) (q : Nat) : Below B a (w.drewN q) := ⟨h.os, h.tape, h.output, h.size, h.block⟩

theorem UAt.push {B : Nat} {w2 wr wX w3 : World} {qs U : List (Int × Int)} {k : Nat} {v v' : Value} {lo hi : Int} (hown : wr.ownsRow B 42 2 v U.length (spCells U)) (hbel : Below B w2 wX) (hsz : B ≤ wX.heap.size) (hg : wX.grownBy w3 v.ownBlock)
    (hown3 : w3.ownsRow B 42 2 v' (U.length + 1) (spCells U ++ [.int .i64 lo, .int .i64 hi])) (e : un (qs.take (k + 1)) = U ++ [(lo, hi)]) : UAt B w2 qs (k + 1) w3 v' := by
  have hb : Below B w2 w3 := hbel.grown hg hsz (fun q hq => (hown.lt q hq).1)
  refine ⟨?_, hb, Nat.le_trans hsz hg.size⟩
  rw [e, spCells_snoc, List.length_append]
  exact hown3

set_option maxHeartbeats 1000000 in
theorem union_any (g n cap : Nat) (ps : List (Int × Int)) (w : World) (hn : n ≤ 4096) (hl : ps.length = n) (hs : Sp w g ps) (hg : g < w.heap.size) (hb : ∀ p ∈ ps, -1073741823 ≤ p.1 ∧ p.1 ≤ 1073741823) :
    Calls Try.prog 25 #[.slice (some ⟨g, 0, none⟩) n cap] w fun e w' => ∃ (v : Value) (qs : List (Int × Int)), e = .returned v ∧ qs.Perm ps ∧ qs.Pairwise (fun a b => a.1 ≤ b.1) ∧ w'.ownsRow w.heap.size 42 2 v (un qs).length (spCells (un qs)) ∧ Below w.heap.size w w' := by
  obtain ⟨i0, hi, hz0, hz1, hz2⟩ := info_parts info42
  have C1 : Hid (Calls Try.prog 28 #[.slice (some ⟨g, 0, none⟩) n cap] w fun e w' => ∃ g' cap', e = .returned (.slice (some ⟨g', 0, none⟩) n cap') ∧ w.heap.size ≤ g' ∧ g' < w'.heap.size ∧ Sp w' g' ps ∧ (∀ j, j < n * 2 → w'.frozen? ⟨g', j, none⟩ = false) ∧ Below w.heap.size w w') :=
    clone_sp g n cap ps w hn hl hs hg
  have HL : Hid (ps.length = n) := hl
  have HB : Hid (∀ p ∈ ps, -1073741823 ≤ p.1 ∧ p.1 ≤ 1073741823) := hb
  clear hl hs hb
  go_enter Try.func25, Try.ntmps25
  go_wp2_with fail
  refine Calls.mono C1.out ?_
  rintro e w1 ⟨gs, cs, rfl, hgs1, hgs2, hsp1, hfr1, hbel1⟩
  have C2 : Hid (Calls Try.prog 29 #[.slice (some ⟨gs, 0, none⟩) n cs, .func (.func 30) #[] #[]] w1 fun e w' => e = .returned (.tuple #[]) ∧ ∃ qs : List (Int × Int), qs.Perm ps ∧ qs.Pairwise (fun a b => a.1 ≤ b.1) ∧ Sp w' gs qs ∧ Below gs w1 w' ∧ gs < w'.heap.size) := by
    have := sort_any gs cs ps w1 hgs2 (by rw [HL.out]; exact hn) HB.out hsp1 (by rw [HL.out]; exact hfr1)
    rw [HL.out] at this
    exact this
  clear C1 hsp1 hfr1
  go_wp2_with fail
  refine Calls.mono C2.out ?_
  rintro e w2 ⟨rfl, qs, hperm, hsort, hsp2, hbel2, hgs3⟩
  clear C2
  have HQ : Hid (qs.length = n) := by rw [hperm.length_eq]; exact HL.out
  have HP : Hid (qs.Perm ps ∧ qs.Pairwise (fun a b => a.1 ≤ b.1)) := ⟨hperm, hsort⟩
  have HB2 : Hid (Below w.heap.size w w2) := hbel1.trans (hbel2.mono hgs1)
  obtain ⟨B, hB⟩ : ∃ B, B = w2.heap.size := ⟨_, rfl⟩
  have hat0 : UAt B w2 qs 0 w2 (.slice none 0 0) := ⟨World.ownsRow_nil _ _ _ _, Below.refl _ _, by omega⟩
  have hBl : w2.heap.size ≤ B ∧ B ≤ w2.heap.size := by omega
  have hgsB : gs < B := by omega
  have HSP : Hid (Sp w2 gs qs) := hsp2
  clear hperm hsort hbel2 hsp2 hB
  go_wp2
  go_loopw [4, 14] (fun v i wr => ∃ k : Nat, k ≤ n ∧ i = .int .i64 k ∧ UAt B w2 qs k wr v) (fun _ i _ => n - (intOf i).toNat)
  case atStart => exact ⟨0, Nat.zero_le _, rfl, hat0⟩
  case round =>
    obtain ⟨k, hk, rfl, hat⟩ := hrel
    clear hat0
    by_cases hlt : k < n
    · obtain ⟨p, hp⟩ : ∃ p, p = qs.getD k (0, 0) := ⟨_, rfl⟩
      obtain ⟨lo, hlo⟩ : ∃ lo, lo = p.1 := ⟨_, rfl⟩
      obtain ⟨hi', hhi⟩ : ∃ hi', hi' = p.2 := ⟨_, rfl⟩
      have hsp := (HSP.out.below hgsB hat.2.1) k (by rw [HQ.out]; exact hlt)
      rw [← hp, ← hlo, ← hhi] at hsp
      obtain ⟨r1, r2⟩ := hsp
      obtain ⟨U, hU⟩ : ∃ U, U = un (qs.take k) := ⟨_, rfl⟩
      have hUn : un (qs.take (k + 1)) = stp1 U p := by rw [hU, hp]; exact un_take qs k (by rw [HQ.out]; exact hlt)
      have hUl : U.length ≤ 4096 := by have := un_len qs k (by rw [HQ.out]; omega); rw [← hU] at this; omega
      have hat1 := hat
      unfold UAt at hat1
      rw [← hU] at hat1
      obtain ⟨hown, hbelr, hszr⟩ := hat1
      have HBR : Hid (Below B w2 wr) := hbelr
      have HUN : Hid (un (qs.take (k + 1)) = stp1 U p) := hUn
      have HPE : Hid (p = (lo, hi')) := by show p = (lo, hi'); rw [hlo, hhi]
      clear hp hlo hhi hU hUn hat hbelr
      obtain ⟨ao, cu, hv, hao⟩ : ∃ ao cu, u4 = .slice ao U.length cu ∧ (0 < U.length → ∃ gu, ao = some ⟨gu, 0, none⟩ ∧ B ≤ gu) := by
        rcases hown.2 with ⟨h1, h2⟩ | ⟨gu, cap', cur, h1, h2, _⟩
        · exact ⟨none, 0, by rw [h1, h2], fun h => by omega⟩
        · exact ⟨_, _, h1, fun _ => ⟨gu, rfl, h2⟩⟩
      rw [hv]
      rw [hv] at hown
      clear hv
      by_cases c1 : hi' ≤ lo
      · have hat' : ∀ o, UAt B w2 qs (k + 1) (wr.alloc o) (.slice ao U.length cu) := by
          intro o
          unfold UAt
          rw [HUN.out, show stp1 U p = U by rw [HPE.out]; simp [stp1, c1]]
          exact ⟨hown.alloc _, HBR.out.alloc hszr _, by simp; omega⟩
        have HA : Hid (∀ o, UAt B w2 qs (k + 1) (wr.alloc o) (.slice ao U.length cu)) := hat'
        clear hat' hown hao
        go_wp2
        go_roundw
        case rel => exact ⟨k + 1, by omega, by go_num, HA.out _⟩
        case measure => simp [intOf]; omega
      by_cases c2 : U.length = 0
      · obtain rfl : U = [] := List.eq_nil_of_length_eq_zero c2
        clear hao c2
        have HNX : Hid (un (qs.take (k + 1)) = [] ++ [(lo, hi')]) := by
          show _ = _
          rw [HUN.out, HPE.out]
          simp [stp1, show ¬ hi' ≤ lo by omega]
        simp only [List.length_nil] at hown
        go_wp2
        go_quiet (fail)
        go_wp2_with (at_builtin; refine wpList_append_own _ rfl _ _ 43 rfl B 42 i0 (.agg #[.int .i64 0, .int .i64 0]) 2 16 Try.underlying43 hi hz0 hz1 hz2 rfl (by decide) _ _ _ rfl (by exact (hown.alloc _).alloc _) ⟨wr.heap.size + 1, 0, none⟩ 1 1 [.int .i64 lo, .int .i64 hi'] rfl rfl ?zc1 ?zc2 ?zb1 ?zb2 ?zb3 ?_)
        case zc1 => exact cells2 ((wr.alloc (.cells #[.int .i64 lo, .int .i64 hi'] 42)).drewN nq) _ _ (by simp)
        case zc2 => exact one2 _ _
        case zb1 => unfold maxLen; omega
        case zb2 => omega
        case zb3 => simp; omega
        intro v' w3 hown' hgrow' _
        have hat' : UAt B w2 qs (k + 1) w3 v' := UAt.push (U := []) hown ((below_drewN (HBR.out.alloc hszr _) _).alloc (by simp; omega) _) (by simp; omega) hgrow' hown' HNX.out
        clear hown' hgrow' hown
        go_wp2
        go_roundw
        case rel => exact ⟨k + 1, by omega, by go_num, hat'⟩
        case measure => simp [intOf]; omega
      · obtain ⟨gu, rfl, hgu⟩ := hao (by omega)
        obtain ⟨I, l, hIl⟩ : ∃ I l, U = I ++ [l] := by
          rcases List.eq_nil_or_concat U with h | ⟨I, l, h⟩
          · rw [h] at c2; simp at c2
          · exact ⟨I, l, by rw [h]; simp⟩
        obtain ⟨l1, hl1⟩ : ∃ l1, l1 = l.1 := ⟨_, rfl⟩
        obtain ⟨l2, hl2⟩ : ∃ l2, l2 = l.2 := ⟨_, rfl⟩
        have hUI : U.length = I.length + 1 := by rw [hIl]; simp
        have hq := sp_of_owns hown I.length (by omega)
        have hgetl : U.getD I.length (0, 0) = l := by rw [hIl]; simp
        rw [hgetl, ← hl1, ← hl2] at hq
        obtain ⟨_, r4⟩ := hq
        obtain ⟨M, hM⟩ : ∃ M, M = I.length := ⟨_, rfl⟩
        rw [← hM] at hUI r4
        have HIL : Hid (U = I ++ [l]) := hIl
        have HLL : Hid (l = (l1, l2)) := by show l = (l1, l2); rw [hl1, hl2]
        have HMI : Hid (M = I.length) := hM
        have hown' := hown
        have hgul : gu < wr.heap.size := (hown.lt gu rfl).2
        obtain ⟨m, hm⟩ : ∃ m, m = U.length := ⟨_, rfl⟩
        rw [← hm] at hUI hUl c2 hown'
        rw [← hm]
        have HM : Hid (m = U.length) := hm
        have e1 : ((m : Int) - 1).toNat = M := by omega
        have b0 : (1 : Int) ≤ (m : Int) := by omega
        have b1 : (m : Int) - 1 < (m : Int) := by omega
        have b2 : 0 < m := by omega
        have hmM : m ≤ M + 1 ∧ M + 1 ≤ m := by omega
        have hwr : IntKind.i64.wrap ((m : Int) - 1) = (m : Int) - 1 := by rw [IntKind.wrap_i64]; omega
        clear hUI hm hown
        clear hao hl1 hl2 hM hgetl hIl
        by_cases c3 : lo ≤ l2
        · go_wp2
          go_quiet (fail)
          go_wp2
          have hfz : wr.frozen? ⟨gu, M * 2 + 1, none⟩ = false := hown'.frozenAt _
          have HNX : Hid (un (qs.take (k + 1)) = I ++ [(l1, max l2 hi')]) := by
            show _ = _
            rw [HUN.out, HPE.out, HIL.out, HLL.out]
            simp [stp1, show ¬ hi' ≤ lo by omega, c3]
          have HAT : Hid (∀ (o : Obj) (q : Nat), UAt B w2 qs (k + 1) (((wr.alloc o).drewN q).setCell ⟨gu, M * 2 + 1, none⟩ (.int .i64 (max l2 hi'))) (.slice (some ⟨gu, 0, none⟩) m cu)) := by
            intro o q
            have h1 : ((wr.alloc o).drewN q).ownsRow B 42 2 (.slice (some ⟨gu, 0, none⟩) m cu) m (spCells U) := hown'.alloc o
            have h2 := (h1.stored (M * 2 + 1) (.int .i64 (max l2 hi'))).1
            have h3 : Below B w2 (((wr.alloc o).drewN q).setCell ⟨gu, M * 2 + 1, none⟩ (.int .i64 (max l2 hi'))) := (below_drewN (HBR.out.alloc hszr o) q).setCell hgu _
            refine ⟨?_, h3, ?_⟩
            · rw [HNX.out, ← spCells_last I l (max l2 hi') l1 (by rw [HLL.out]), ← HIL.out, ← HMI.out]
              have e : (I ++ [(l1, max l2 hi')]).length = m := by
                have := HMI.out
                simp only [List.length_append, List.length_cons, List.length_nil]
                omega
              rw [e]
              exact h2
            · have : (((wr.alloc o).drewN q).setCell ⟨gu, M * 2 + 1, none⟩ (.int .i64 (max l2 hi'))).heap.size = wr.heap.size + 1 := by simp
              omega
          clear hown'
          refine region_tail 14 (by kernel_rfl) (by kernel_rfl) ?_
          simp only [List.take_succ_cons, List.take_zero, List.drop_succ_cons, List.drop_zero]
          repeat still_step
          refine wpStill_nil ?_
          go_wp2
          go_roundw
          case rel => exact ⟨k + 1, by omega, by go_num, HAT.out _ _⟩
          case measure => simp [intOf]; omega
        · have HNX : Hid (un (qs.take (k + 1)) = U ++ [(lo, hi')]) := by
            show _ = _
            rw [HUN.out, HPE.out, HIL.out, HLL.out]
            simp [stp1, show ¬ hi' ≤ lo by omega, c3]
          have hd3 : decide (lo ≤ l2) = false := by simpa using c3
          have hmx : m + 1 ≤ maxLen := by unfold maxLen; omega
          have hmb : (m + 1) * 16 ≤ 140737488355328 := by omega
          go_wp2
          go_quiet (fail)
          go_wp2_with (at_builtin; refine wpList_append_own _ rfl _ _ 43 rfl B 42 i0 (.agg #[.int .i64 0, .int .i64 0]) 2 16 Try.underlying43 hi hz0 hz1 hz2 rfl (by decide) _ _ _ rfl (by exact (hown'.alloc _).alloc _) ⟨wr.heap.size + 1, 0, none⟩ 1 1 [.int .i64 lo, .int .i64 hi'] rfl rfl ?yc1 ?yc2 hmx hmb ?yb3 ?_)
          case yc1 => exact cells2 ((wr.alloc (.cells #[.int .i64 lo, .int .i64 hi'] 42)).drewN nq) _ _ (by simp)
          case yc2 => exact one2 _ _
          case yb3 => simp; omega
          intro v' w3 hown3 hgrow3 _
          have hat' : UAt B w2 qs (k + 1) w3 v' := by
            rw [HM.out] at hown3
            have h1 := hown'
            rw [HM.out] at h1 hgrow3
            exact UAt.push h1 ((below_drewN (HBR.out.alloc hszr _) _).alloc (by simp; omega) _) (by simp; omega) hgrow3 hown3 HNX.out
          clear hown3 hgrow3 hown'
          go_wp2
          go_roundw
          case rel => exact ⟨k + 1, by omega, by go_num, hat'⟩
          case measure => simp [intOf]; omega
    · have hkn : k = n := by omega
      have ek : qs.take k = qs := List.take_of_length_le (by rw [HQ.out, hkn]; exact Nat.le_refl _)
      unfold UAt at hat
      rw [ek] at hat
      obtain ⟨h1, h2, h3⟩ := hat
      have hwB : w.heap.size ≤ B := by have := HB2.out.size; omega
      have h4 : wr.ownsRow w.heap.size 42 2 u4 (un qs).length (spCells (un qs)) := by
        obtain ⟨h5, h6⟩ := h1
        refine ⟨h5, ?_⟩
        rcases h6 with h6 | ⟨g', cap', cur, hv, hg', r⟩
        · exact .inl h6
        · exact .inr ⟨g', cap', cur, hv, by omega, r⟩
      have h7 : Below w.heap.size w wr := HB2.out.trans (h2.mono hwB)
      clear h1 h2 ek hkn
      go_wp2
      go_ret
      exact ⟨_, qs, rfl, HP.out.1, HP.out.2, h4, h7⟩

end Go.Proofs.Qxb6000858a
