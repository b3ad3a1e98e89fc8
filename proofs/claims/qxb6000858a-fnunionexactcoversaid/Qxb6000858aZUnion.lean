/-
  ZZUnion (11): the spans are laid, united, and taken apart again.
-/
import Derived.Test.Qxb6000858aUnion
namespace Go.Proofs.Qxb6000858a
open Go.RowKit
set_option linter.unusedVariables false

theorem made_sp (n : Nat) : (madeCells #[Value.int .i64 0, Value.int .i64 0] (n * 2)).toList = spCells (List.replicate n (0, 0)) := by
  apply List.ext_getElem?
  intro j
  by_cases hj : j < n * 2
  · have hi : j / 2 < (List.replicate n ((0, 0) : Int × Int)).length := by simp; omega
    obtain ⟨h1, h2⟩ := spCells_get (List.replicate n (0, 0)) (j / 2) hi
    have e : (List.replicate n ((0, 0) : Int × Int)).getD (j / 2) (0, 0) = (0, 0) := by
      rw [List.getD_eq_getElem?_getD, List.getElem?_replicate]
      split <;> rfl
    rw [e] at h1 h2
    have hL : (madeCells #[Value.int .i64 0, Value.int .i64 0] (n * 2)).toList[j]? = some (Value.int .i64 0) := by
      rcases Nat.mod_two_eq_zero_or_one j with h0 | h0 <;> simp [madeCells, hj, h0]
    rw [hL]
    rcases Nat.mod_two_eq_zero_or_one j with h0 | h0
    · rw [show j / 2 * 2 = j by omega] at h1
      exact h1.symm
    · rw [show j / 2 * 2 + 1 = j by omega] at h2
      exact h2.symm
  · rw [List.getElem?_eq_none (by rw [Array.length_toList, size_madeCells]; omega), List.getElem?_eq_none (by rw [spCells_len]; simp; omega)]

/-- one span laid -/
theorem spCells_set (L : List (Int × Int)) (k : Nat) (hk : k < L.length) (p : Int × Int) : ((spCells L).set (k * 2) (.int .i64 p.1)).set (k * 2 + 1) (.int .i64 p.2) = spCells (L.set k p) := by
  induction L generalizing k with
  | nil => simp at hk
  | cons q r ih =>
    have e : ∀ (x : Int × Int) (l : List (Int × Int)), spCells (x :: l) = .int .i64 x.1 :: .int .i64 x.2 :: spCells l := fun x l => by simp [spCells]
    cases k with
    | zero => simp [e]
    | succ k =>
      rw [List.set_cons_succ, e, e, show (k + 1) * 2 = k * 2 + 1 + 1 by omega]
      simp only [List.set_cons_succ]
      rw [ih k (by simpa using hk)]

theorem set_pad (A : List (Int × Int)) (n k : Nat) (hA : A.length = n) (hk : k < n) :
    (A.take k ++ List.replicate (n - k) (0, 0)).set k (A.getD k (0, 0)) = A.take (k + 1) ++ List.replicate (n - (k + 1)) (0, 0) := by
  have e : n - k = (n - (k + 1)) + 1 := by omega
  rw [e, List.replicate_succ, List.set_append_right _ _ (by simp; omega)]
  rw [show k - (A.take k).length = 0 by simp; omega, List.set_cons_zero, List.take_succ_eq_append_getElem (by omega),
    List.getD_eq_getElem?_getD, List.getElem?_eq_getElem (by omega), Option.getD_some, List.append_assoc, List.singleton_append]

/-- the state at a round's head: k spans are laid -/
def LAt (w : World) (n : Nat) (ps : List (Int × Int)) (k : Nat) (wr : World) : Prop :=
  wr.ownsRow w.heap.size 42 2 (.slice (some ⟨w.heap.size, 0, none⟩) n n) n (spCells (ps.take k ++ List.replicate (n - k) (0, 0))) ∧ Below w.heap.size w wr

theorem rd_row {w : World} {base g m : Nat} {xs : List Int} (h : w.ownsRow base 3 1 (.slice (some ⟨g, 0, none⟩) m m) m (cellsOf (xs.take m ++ List.replicate (m - m) 0))) (hl : xs.length = m) : Rd w (some ⟨g, 0, none⟩) xs := by
  rw [List.take_of_length_le (by omega), Nat.sub_self, List.replicate_zero, List.append_nil] at h
  refine .inr ⟨g, rfl, (h.lt g rfl).2, fun i hi => ?_⟩
  rw [h.cellAt i (by omega), cellsOf_get xs i hi]

/-- the state at a round's head: k spans are taken apart -/
def PAt (G1 G2 m : Nat) (w2 : World) (us : List (Int × Int)) (k : Nat) (wr : World) : Prop :=
  wr.ownsRow G1 3 1 (.slice (some ⟨G1, 0, none⟩) m m) m (cellsOf ((us.map (·.1)).take k ++ List.replicate (m - k) 0)) ∧
  wr.ownsRow G1 3 1 (.slice (some ⟨G2, 0, none⟩) m m) m (cellsOf ((us.map (·.2)).take k ++ List.replicate (m - k) 0)) ∧ Below G1 w2 wr

set_option maxHeartbeats 1000000 in
theorem zz_union (la ha : Option Addr) (n c1 c2 : Nat) (ps : List (Int × Int)) (w : World) (hn : n ≤ 4096) (hl : ps.length = n) (h1 : Rd w la (ps.map (·.1))) (h2 : Rd w ha (ps.map (·.2)))
    (hb : ∀ p ∈ ps, -1073741823 ≤ p.1 ∧ p.1 ≤ 1073741823) :
    Calls Try.prog 11 #[.slice la n c1, .slice ha n c2] w fun e w' => ∃ (a1 a2 : Option Addr) (us qs : List (Int × Int)), e = .returned (.tuple #[.slice a1 us.length us.length, .slice a2 us.length us.length]) ∧ Rd w' a1 (us.map (·.1)) ∧ Rd w' a2 (us.map (·.2)) ∧ Below w.heap.size w w' ∧ qs.Perm ps ∧ qs.Pairwise (fun a b => a.1 ≤ b.1) ∧ us = un qs := by
  obtain ⟨i0, hi, hz0, hz1, hz2⟩ := info_parts info42
  have HL : Hid (ps.length = n) := hl
  have HB : Hid (∀ p ∈ ps, -1073741823 ≤ p.1 ∧ p.1 ≤ 1073741823) := hb
  clear hl hb
  go_enter Try.func11, Try.ntmps11
  go_wp2_with (at_make; refine wpList_make_full _ rfl _ _ 40 rfl w.heap.size 42 i0 (.agg #[.int .i64 0, .int .i64 0]) 2 Try.underlying40 hi hz0 hz1 _ _ _ _ n rfl rfl rfl rfl ?b1 ?b2 ?b3 ?_)
  case b1 => rw [hz2]; omega
  case b2 => unfold maxLen; omega
  case b3 => exact Nat.le_refl _
  intro w1 hown hgrow
  have hbel1 : Below w.heap.size w w1 := (Below.refl w.heap.size w).grown hgrow (Nat.le_refl _) (fun k h => by cases h)
  have hat0 : LAt w n ps 0 w1 := by
    refine ⟨?_, hbel1⟩
    rw [List.take_zero, List.nil_append, Nat.sub_zero, ← made_sp]
    exact hown
  clear hown hgrow hbel1
  go_wp2
  go_loopw [17] (fun i wr => ∃ k : Nat, k ≤ n ∧ i = .int .i64 k ∧ LAt w n ps k wr) (fun i _ => n - (intOf i).toNat)
  case atStart => exact ⟨0, Nat.zero_le _, rfl, hat0⟩
  case round =>
    obtain ⟨k, hk, rfl, hat⟩ := hrel
    clear hat0
    by_cases hlt : k < n
    · rcases h1 with h | ⟨g1, rfl, hg1, hc1⟩
      · exact absurd HL.out (by have := congrArg List.length h; simp at this; subst this; simp; omega)
      rcases h2 with h | ⟨g2, rfl, hg2, hc2⟩
      · exact absurd HL.out (by have := congrArg List.length h; simp at this; subst this; simp; omega)
      have hkl : k < ps.length := by rw [HL.out]; exact hlt
      obtain ⟨p, hp⟩ : ∃ p, p = ps.getD k (0, 0) := ⟨_, rfl⟩
      obtain ⟨lo, hlo⟩ : ∃ lo, lo = p.1 := ⟨_, rfl⟩
      obtain ⟨hi', hhi⟩ : ∃ hi', hi' = p.2 := ⟨_, rfl⟩
      have r1 : wr.cell? ⟨g1, k, none⟩ = some (.int .i64 lo) := by
        rw [hat.2.cell (p := ⟨g1, k, none⟩) hg1, hc1 k (by simpa using hkl), hlo, hp]; simp [hkl]
      have r2 : wr.cell? ⟨g2, k, none⟩ = some (.int .i64 hi') := by
        rw [hat.2.cell (p := ⟨g2, k, none⟩) hg2, hc2 k (by simpa using hkl), hhi, hp]; simp [hkl]
      obtain ⟨x0, hx0⟩ : ∃ o, wr.cell? ⟨w.heap.size, k * 2, none⟩ = some o := by
        rw [hat.1.cellAt _ (by omega)]
        exact ⟨_, List.getElem?_eq_getElem (by rw [hat.1.1]; omega)⟩
      obtain ⟨x1, hx1⟩ : ∃ o, wr.cell? ⟨w.heap.size, k * 2 + 1, none⟩ = some o := by
        rw [hat.1.cellAt _ (by omega)]
        exact ⟨_, List.getElem?_eq_getElem (by rw [hat.1.1]; omega)⟩
      have f0 := hat.1.frozenAt (k * 2)
      have f1 := hat.1.frozenAt (k * 2 + 1)
      have l1 : (k : Int) < (n : Int) := by omega
      have HAT : Hid (LAt w n ps (k + 1) (((wr.setCell ⟨w.heap.size, k * 2, none⟩ (.int .i64 lo)).setCell ⟨w.heap.size, k * 2 + 1, none⟩ (.int .i64 hi')).drew)) := by
        have h3 := (hat.1.stored (k * 2) (.int .i64 lo)).1
        have h4 := (h3.stored (k * 2 + 1) (.int .i64 hi')).1
        refine ⟨?_, ((hat.2.setCell (Nat.le_refl _) _).setCell (Nat.le_refl _) _).drew⟩
        have e1 := spCells_set (ps.take k ++ List.replicate (n - k) (0, 0)) k (by simp; omega) p
        rw [hp, set_pad ps n k HL.out hlt, ← hp, ← hlo, ← hhi] at e1
        rw [← e1]
        exact h4
      clear hc1 hc2 hp hlo hhi hat
      go_wp2
      refine region_tail 12 (by kernel_rfl) (by kernel_rfl) ?_
      simp only [List.take_succ_cons, List.take_zero, List.drop_succ_cons, List.drop_zero]
      repeat still_step
      refine wpStill_nil ?_
      go_wp2
      go_roundw
      case rel => exact ⟨k + 1, by omega, by go_num, HAT.out⟩
      case measure => simp [intOf]; omega
    · have hkn : k = n := by omega
      subst hkn
      have hown := hat.1
      rw [List.take_of_length_le (by rw [HL.out]; exact Nat.le_refl _), Nat.sub_self, List.replicate_zero, List.append_nil] at hown
      have hgl : w.heap.size < wr.heap.size := (hown.lt w.heap.size rfl).2
      have hsp : Sp wr w.heap.size ps := by
        have h3 := hown
        rw [← HL.out] at h3
        exact sp_of_owns h3
      have C1 : Hid (Calls Try.prog 25 #[.slice (some ⟨w.heap.size, 0, none⟩) k k] wr fun e w' => ∃ (v : Value) (qs : List (Int × Int)), e = .returned v ∧ qs.Perm ps ∧ qs.Pairwise (fun a b => a.1 ≤ b.1) ∧ w'.ownsRow wr.heap.size 42 2 v (un qs).length (spCells (un qs)) ∧ Below wr.heap.size wr w') :=
        union_any w.heap.size k k ps wr hn HL.out hsp hgl HB.out
      have HBW : Hid (Below w.heap.size w wr) := hat.2
      clear hat hown hsp h1 h2
      go_wp2_with fail
      refine Calls.mono C1.out ?_
      rintro e w2 ⟨v, qs, rfl, hperm, hsort, hown2, hbel2⟩
      clear C1
      have HP : Hid (qs.Perm ps ∧ qs.Pairwise (fun a b => a.1 ≤ b.1)) := ⟨hperm, hsort⟩
      have hul : (un qs).length ≤ 4096 := by
        have h3 := un_len qs qs.length (Nat.le_refl _)
        rw [List.take_length] at h3
        have h4 := hperm.length_eq
        rw [HL.out] at h4
        omega
      obtain ⟨us, hus⟩ : ∃ us, us = un qs := ⟨_, rfl⟩
      have HUS : Hid (us = un qs) := hus
      rw [← hus] at hown2 hul
      have HB2 : Hid (Below w.heap.size w w2) := HBW.out.trans (hbel2.mono HBW.out.size)
      obtain ⟨m, hm⟩ : ∃ m, m = us.length := ⟨_, rfl⟩
      have HM : Hid (m = us.length) := hm
      rw [← hm] at hown2 hul
      obtain ⟨ao, cu, hv, hao⟩ : ∃ ao cu, v = .slice ao m cu ∧ (0 < m → ∃ gu, ao = some ⟨gu, 0, none⟩ ∧ gu < w2.heap.size ∧ Sp w2 gu us) := by
        rcases hown2.2 with ⟨h3, h4⟩ | ⟨gu, cap', cur, h3, h4, h5, _⟩
        · exact ⟨none, 0, by rw [h3, h4], fun h => by omega⟩
        · refine ⟨_, _, h3, fun _ => ⟨gu, rfl, (Array.getElem?_eq_some_iff.1 h5).1, ?_⟩⟩
          have h6 := hown2
          rw [h3, HM.out] at h6
          exact sp_of_owns h6
      rw [hv]
      have HAO : Hid (0 < m → ∃ gu, ao = some ⟨gu, 0, none⟩ ∧ gu < w2.heap.size ∧ Sp w2 gu us) := hao
      clear hv hao hown2 hbel2 hperm hsort hus hm HBW
      obtain ⟨i3, hi3, hy0, hy1, hy2⟩ := info_parts info3
      go_wp2_with (at_make; refine wpList_make_full _ rfl _ _ 22 rfl w2.heap.size 3 i3 (.int .i64 0) 1 Try.underlying22 hi3 hy0 hy1 _ _ _ _ m rfl rfl rfl rfl ?d1 ?d2 ?d3 ?_)
      case d1 => rw [hy2]; omega
      case d2 => unfold maxLen; omega
      case d3 => exact Nat.le_refl _
      intro w3 hownA hgrowA
      have hbelA : Below w2.heap.size w2 w3 := (Below.refl w2.heap.size w2).grown hgrowA (Nat.le_refl _) (fun k h => by cases h)
      have hsA : w2.heap.size < w3.heap.size := (hownA.lt w2.heap.size rfl).2
      go_wp2_with (at_make; refine wpList_make_full _ rfl _ _ 22 rfl w2.heap.size 3 i3 (.int .i64 0) 1 Try.underlying22 hi3 hy0 hy1 _ _ _ _ m rfl rfl rfl rfl ?e1 ?e2 ?e3 ?_)
      case e1 => rw [hy2]; omega
      case e2 => unfold maxLen; omega
      case e3 => omega
      intro w4 hownB hgrowB
      have hownA4 := hownA.kept hgrowB (.inr (by simp [Value.ownBlock]))
      have hbelB : Below w2.heap.size w2 w4 := hbelA.trans ((Below.refl w2.heap.size w3).grown hgrowB (by omega) (fun k h => by cases h))
      obtain ⟨G1, hG1⟩ : ∃ G1, G1 = w2.heap.size := ⟨_, rfl⟩
      obtain ⟨G2, hG2⟩ : ∃ G2, G2 = w3.heap.size := ⟨_, rfl⟩
      rw [← hG1] at hownA4 hownB hbelB hsA
      rw [← hG2] at hownB hsA
      have hat0 : PAt G1 G2 m w2 us 0 w4 := by
        refine ⟨?_, ?_, hbelB⟩
        · have e : (madeCells #[Value.int .i64 0] m).toList = cellsOf ((us.map (·.1)).take 0 ++ List.replicate (m - 0) 0) := by
            rw [toList_madeCells_one]; simp [cellsOf]
          rw [← e]; exact hownA4
        · have e : (madeCells #[Value.int .i64 0] m).toList = cellsOf ((us.map (·.2)).take 0 ++ List.replicate (m - 0) 0) := by
            rw [toList_madeCells_one]; simp [cellsOf]
          rw [← e]; exact hownB
      rw [← hG1, ← hG2]
      have HG1 : Hid (G1 = w2.heap.size) := hG1
      clear hownA hgrowA hbelA hownB hgrowB hownA4 hbelB hG1 hG2
      go_wp2
      go_loopw [43] (fun i wr => ∃ k : Nat, k ≤ m ∧ i = .int .i64 k ∧ PAt G1 G2 m w2 us k wr) (fun i _ => m - (intOf i).toNat)
      case atStart => exact ⟨0, Nat.zero_le _, rfl, hat0⟩
      case round =>
        obtain ⟨k2, hk2, rfl, hat⟩ := hrel
        clear hat0
        by_cases hlt2 : k2 < m
        · obtain ⟨gu, rfl, hgu, hsp⟩ := HAO.out (by omega)
          rw [← HG1.out] at hgu
          obtain ⟨p, hp⟩ : ∃ p, p = us.getD k2 (0, 0) := ⟨_, rfl⟩
          obtain ⟨lo, hlo⟩ : ∃ lo, lo = p.1 := ⟨_, rfl⟩
          obtain ⟨hi', hhi⟩ : ∃ hi', hi' = p.2 := ⟨_, rfl⟩
          have hku : k2 < us.length := by rw [← HM.out]; exact hlt2
          have hs2 := (hsp.below hgu hat.2.2) k2 hku
          rw [← hp, ← hlo, ← hhi] at hs2
          obtain ⟨r1, r2⟩ := hs2
          obtain ⟨x1, hx1⟩ : ∃ o, wr.cell? ⟨G1, k2, none⟩ = some o := by
            rw [hat.1.cellAt _ (by omega)]
            exact ⟨_, List.getElem?_eq_getElem (by rw [hat.1.1]; omega)⟩
          obtain ⟨x2, hx2⟩ : ∃ o, wr.cell? ⟨G2, k2, none⟩ = some o := by
            rw [hat.2.1.cellAt _ (by omega)]
            exact ⟨_, List.getElem?_eq_getElem (by rw [hat.2.1.1]; omega)⟩
          have f1 := hat.1.frozenAt k2
          have f2 := hat.2.1.frozenAt k2
          have n1 : ¬ gu = G1 := by omega
          have n2 : ¬ gu = G2 := by omega
          have n3 : ¬ G2 = G1 := by omega
          have HAT : Hid (PAt G1 G2 m w2 us (k2 + 1) ((wr.setCell ⟨G1, k2, none⟩ (.int .i64 lo)).setCell ⟨G2, k2, none⟩ (.int .i64 hi'))) := by
            obtain ⟨h3, h4, h5⟩ := hat
            obtain ⟨s1, t1⟩ := h3.stored k2 (.int .i64 lo)
            have h4' := h4.kept t1 (.inr (by simp [Value.ownBlock]; omega))
            obtain ⟨s2, t2⟩ := h4'.stored k2 (.int .i64 hi')
            have s1' := s1.kept t2 (.inr (by simp [Value.ownBlock]; omega))
            have e1 := set_step (us.map (·.1)) m k2 (by rw [List.length_map, HM.out]) hlt2
            have e2 := set_step (us.map (·.2)) m k2 (by rw [List.length_map, HM.out]) hlt2
            have g1 : (us.map (·.1)).getD k2 0 = lo := by rw [hlo, hp]; simp [hku]
            have g2 : (us.map (·.2)).getD k2 0 = hi' := by rw [hhi, hp]; simp [hku]
            rw [g1] at e1
            rw [g2] at e2
            refine ⟨by rw [← e1]; exact s1', by rw [← e2]; exact s2, (h5.setCell (Nat.le_refl _) _).setCell (show G1 ≤ G2 by omega) _⟩
          clear hp hlo hhi hat hsp
          go_wp2
          go_roundw
          case rel => exact ⟨k2 + 1, by omega, by go_num, HAT.out⟩
          case measure => simp [intOf]; omega
        · have hkn : k2 = m := by omega
          subst hkn
          obtain ⟨h3, h4, h5⟩ := hat
          have R1 : Rd wr (some ⟨G1, 0, none⟩) (us.map (·.1)) := rd_row h3 (by rw [List.length_map, HM.out])
          have R2 : Rd wr (some ⟨G2, 0, none⟩) (us.map (·.2)) := rd_row h4 (by rw [List.length_map, HM.out])
          have hb4 : Below w.heap.size w wr := by
            rw [HG1.out] at h5
            exact HB2.out.trans (h5.mono HB2.out.size)
          have HR1 : Hid (Rd wr (some ⟨G1, 0, none⟩) (us.map (·.1))) := R1
          have HR2 : Hid (Rd wr (some ⟨G2, 0, none⟩) (us.map (·.2))) := R2
          clear h3 h4 h5 R1 R2
          go_wp2
          go_ret2
          refine ⟨some ⟨G1, 0, none⟩, some ⟨G2, 0, none⟩, us, qs, ?_, HR1.out, HR2.out, hb4, HP.out.1, HP.out.2, HUS.out⟩
          rw [← HM.out]
          rfl

end Go.Proofs.Qxb6000858a
