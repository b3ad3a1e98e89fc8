/-
  sameBytes (13), lowerHexDigit (21), hasShortName (22), decodeCanonical (16) at what appendString writes.
-/
import Derived.Test.Qxb6600657aLaw
import Derived.Outline
namespace Go.Proofs.Qxb6600657a
open Go.RowKit
set_option linter.unusedVariables false

theorem same_any (a b : Option Addr) (n c1 c2 : Nat) (xs : List Int) (w : World) (hn : n ≤ 8000000) (hl : xs.length = n) (ha : Rd w a xs) (hb : Rd w b xs) :
    Calls Try.prog 13 #[.slice a n c1, .slice b n c2] w fun e w' => e = .returned (.bool true) ∧ ∃ q, w' = w.drewN q := by
  have HL : Hid (xs.length = n) := hl
  clear hl
  go_enter Try.func13, Try.ntmps13
  go_wp2
  go_loopw [5] (fun i wr => ∃ k : Nat, k ≤ n ∧ i = .int .i64 k ∧ ∃ q, wr = w.drewN q) (fun i _ => n - (intOf i).toNat)
  case atStart => exact ⟨0, Nat.zero_le _, rfl, 0, rfl⟩
  case round =>
    obtain ⟨k, hk, rfl, q, rfl⟩ := hrel
    by_cases hlt : k < n
    · rcases ha with h | ⟨g1, rfl, _, h1⟩
      · exact absurd HL.out (by rw [h]; simp; omega)
      rcases hb with h | ⟨g2, rfl, _, h2⟩
      · exact absurd HL.out (by rw [h]; simp; omega)
      have r1 := h1 k (by rw [HL.out]; exact hlt)
      have r2 := h2 k (by rw [HL.out]; exact hlt)
      obtain ⟨x, hx⟩ : ∃ x, x = xs.getD k 0 := ⟨_, rfl⟩
      rw [← hx] at r1 r2
      have l1 : (k : Int) < (n : Int) := by omega
      clear hx h1 h2
      go_wp2
      go_quiet (fail)
      go_wp2
      go_roundw
      case rel => exact ⟨k + 1, by omega, by go_num, _, rfl⟩
      case measure => simp [intOf]; omega
    · clear ha hb
      go_wp2
      go_ret
      exact ⟨rfl, _, rfl⟩

/-- lowerHexDigit at the digit of d -/
theorem hex_back (d x : Int) (w : World) (h : 0 ≤ d ∧ d < 10 ∧ x ≤ 48 + d ∧ 48 + d ≤ x ∨ 10 ≤ d ∧ d < 16 ∧ x ≤ 87 + d ∧ 87 + d ≤ x) :
    Calls Try.prog 21 #[.int .u8 x] w fun e w' => e = .returned (.int .i64 d) ∧ w' = w := by
  rcases h with ⟨h1, h2, h3, h4⟩ | ⟨h1, h2, h3, h4⟩
  · obtain rfl : d = x - 48 := by omega
    go_enter Try.func21, Try.ntmps21
    go_wp2
    go_ret
    exact ⟨rfl, rfl⟩
  · obtain rfl : d = x - 97 + 10 := by omega
    go_enter Try.func21, Try.ntmps21
    go_wp2
    go_ret
    exact ⟨rfl, rfl⟩

/-- hasShortName at a value that has none -/
theorem short_no (v : Int) (w : World) (h : v < 8 ∨ v = 11 ∨ 14 ≤ v) :
    Calls Try.prog 22 #[.int .i64 v] w fun e w' => e = .returned (.bool false) ∧ w' = w := by
  have e8 : (v == 8) = false := by simp; omega
  have e9 : (v == 9) = false := by simp; omega
  have e10 : (v == 10) = false := by simp; omega
  have e12 : (v == 12) = false := by simp; omega
  have e13 : (v == 13) = false := by simp; omega
  clear h
  go_enter Try.func22, Try.ntmps22
  go_wp2
  go_ret
  exact ⟨rfl, rfl⟩

/-- where the byte c of s is written, its signs stand -/
theorem text_esc (xb xs : List Int) (t i : Nat) (ht : t < xs.length) (hi : i < (esc (xs.getD t 0)).length) :
    (text xb xs).getD (xb.length + 1 + (body (xs.take t)).length + i) 0 = (esc (xs.getD t 0)).getD i 0 := by
  have e : body xs = body (xs.take t) ++ (esc (xs.getD t 0) ++ body (xs.drop (t + 1))) := by
    have h1 := body_take xs t ht
    have h2 : body xs = body (xs.take (t + 1)) ++ body (xs.drop (t + 1)) := by
      unfold body
      rw [← List.flatMap_append, List.take_append_drop]
    rw [h2, h1, List.append_assoc]
  rw [Nat.add_assoc, text_body xb xs _ (by rw [e]; simp only [List.length_append]; omega), e]
  rw [List.getD_eq_getElem?_getD, List.getElem?_append_right (by omega), Nat.add_sub_cancel_left, List.getElem?_append_left hi]
  rw [← List.getD_eq_getElem?_getD]

/-- how far the writing has come at byte t -/
theorem body_grow (xs : List Int) (t : Nat) (ht : t < xs.length) : (body (xs.take t)).length + (esc (xs.getD t 0)).length ≤ (body xs).length := by
  have h2 : body xs = body (xs.take (t + 1)) ++ body (xs.drop (t + 1)) := by
    unfold body
    rw [← List.flatMap_append, List.take_append_drop]
  have h1 := body_take xs t ht
  rw [h2, h1]
  simp only [List.length_append]
  omega

theorem cells1 (W : World) (a : Value) : ∀ j u, [a][j]? = some u → (W.alloc (.cells #[a] 5)).cell? ((⟨W.heap.size, 0, none⟩ : Addr).add j) = some u := by
  intro j u hj
  rw [Addr.add_lit, Nat.zero_add, World.cell?_alloc_new]
  simpa using hj

theorem one1 (a : Int) : ∀ u ∈ [Value.int .u8 a], u.oneCell' = true := by
  intro u hu
  simp at hu
  subst hu
  rfl

/-- the state at a round's head: t bytes have been read back; the next sign stands at J -/
def DAt (w : World) (len0 : Nat) (xs : List Int) (t J : Nat) (wr : World) (v : Value) : Prop :=
  J = len0 + 1 + (body (xs.take t)).length ∧ wr.ownsRow w.heap.size 5 1 v t (cellsOf (xs.take t)) ∧ Below w.heap.size w wr ∧ w.heap.size ≤ wr.heap.size

theorem DAt.step {w wr w2 : World} {len0 t J : Nat} {xs : List Int} {v v' : Value} {o : Obj} (h : DAt w len0 xs t J wr v) (ht : t < xs.length)
    (hown : w2.ownsRow w.heap.size 5 1 v' (t + 1) (cellsOf (xs.take t) ++ [.int .u8 (xs.getD t 0)])) (hg : (wr.alloc o).grownBy w2 v.ownBlock) :
    DAt w len0 xs (t + 1) (J + (esc (xs.getD t 0)).length) w2 v' := by
  obtain ⟨h1, h2, h3, h4⟩ := h
  have hb : Below w.heap.size w w2 := (h3.alloc h4 _).grown hg (by simp; omega) (fun q hq => (h2.lt q hq).1)
  refine ⟨?_, ?_, hb, hb.size⟩
  · rw [h1, body_take xs t ht, List.length_append]
    omega
  · have e : cellsOf (xs.take (t + 1)) = cellsOf (xs.take t) ++ [.int .u8 (xs.getD t 0)] := by
      unfold cellsOf
      rw [List.take_succ_eq_append_getElem ht, List.map_append, List.getD_eq_getElem?_getD, List.getElem?_eq_getElem ht]
      rfl
    rw [e]
    exact hown

set_option maxHeartbeats 1000000 in
set_option maxRecDepth 100000 in
theorem decode_text (g m cap len0 n : Nat) (xb xs : List Int) (w : World) (h0 : len0 ≤ 524288) (h1 : n ≤ 524288) (hxb : xb.length = len0) (hxs : xs.length = n) (hm : m = len0 + 1 + (body xs).length + 1)
    (hg : g < w.heap.size) (hout : ∀ i, i < m → w.cell? ⟨g, i, none⟩ = some (.int .u8 ((text xb xs).getD i 0))) (hbd : Hid (∀ c ∈ xs, 0 ≤ c ∧ c ≤ 255)) :
    Calls Try.prog 16 #[.slice (some ⟨g, 0, none⟩) m cap, .int .i64 len0] w fun e w' => ∃ ao cap', e = .returned (.tuple #[.slice ao n cap', .bool true]) ∧ Rd w' ao xs ∧ Below w.heap.size w w' := by
  obtain ⟨i0, hi, hz0, hz1, hz2⟩ := info_parts info5
  have hbl := body_len xs
  rw [hxs] at hbl
  have hm1 : len0 + n + 2 ≤ m := by omega
  have hm2 : m ≤ len0 + 6 * n + 2 := by omega
  have r1 : w.cell? ⟨g, len0, none⟩ = some (.int .u8 34) := by
    rw [hout len0 (by omega)]
    have := text_open xb xs
    rw [hxb] at this
    rw [this]
  have r2 : w.cell? ⟨g, m - 1, none⟩ = some (.int .u8 34) := by
    rw [hout (m - 1) (by omega), text_close xb xs (m - 1) (by omega)]
  have e1 : ((m : Int) - 1).toNat = m - 1 := by omega
  have l1 : (len0 : Int) < (m : Int) := by omega
  have HM : Hid (m = len0 + 1 + (body xs).length + 1) := hm
  have HXB : Hid (xb.length = len0) := hxb
  have HXS : Hid (xs.length = n) := hxs
  clear hm hxb hxs hbl
  go_enter Try.func16, Try.ntmps16
  go_wp2_with (at_make; refine wpList_make_own _ rfl _ _ 22 rfl w.heap.size 5 i0 (.int .u8 0) 1 Try.underlying22 hi hz0 hz1 _ _ _ (m - 1 - len0) rfl rfl (by omega) ?mb1 ?mb2 ?mb3 ?_)
  case mb1 => rw [hz2]; omega
  case mb2 => unfold maxLen; omega
  case mb3 => exact Nat.le_refl _
  intro w1 hown hgrow
  have hbel1 : Below w.heap.size w w1 := (Below.refl w.heap.size w).grown hgrow (Nat.le_refl _) (fun k h => by cases h)
  have hat0 : DAt w len0 xs 0 (len0 + 1) w1 (.slice (some ⟨w.heap.size, 0, none⟩) 0 (m - 1 - len0)) :=
    ⟨by simp [body], hown, hbel1, hbel1.size⟩
  clear r1 r2 hown hgrow hbel1
  go_wp2
  go_loopw [7, 8] (fun v j wr => ∃ t J : Nat, t ≤ n ∧ j = .int .i64 J ∧ DAt w len0 xs t J wr v) (fun _ j _ => m - (intOf j).toNat)
  case atStart => exact ⟨0, len0 + 1, Nat.zero_le _, by go_num, hat0⟩
  case round =>
    obtain ⟨t, J, ht, rfl, hat⟩ := hrel
    clear hat0
    by_cases hlt : t < n
    · obtain ⟨c, hcu⟩ : ∃ c, c = xs.getD t 0 := ⟨_, rfl⟩
      have htx : t < xs.length := by rw [HXS.out]; exact hlt
      have hJ : J + (esc c).length + 1 ≤ m := by
        have h2 := body_grow xs t htx
        have h3 := hat.1
        have h4 := HM.out
        rw [← hcu] at h2
        omega
      have hcell : ∀ i, i < (esc c).length → wr.cell? ⟨g, J + i, none⟩ = some (.int .u8 ((esc c).getD i 0)) := by
        intro i hi
        have h2 := hat.2.2.1.cell (p := ⟨g, J + i, none⟩) hg
        rw [h2, hout (J + i) (by omega)]
        have h3 := text_esc xb xs t i htx (by rw [← hcu]; exact hi)
        rw [HXB.out, ← hat.1, ← hcu] at h3
        rw [h3]
      have hcb : 0 ≤ c ∧ c ≤ 255 := by
        have hmem : xs[t] ∈ xs := List.getElem_mem _
        have := hbd.out _ hmem
        rw [hcu, List.getD_eq_getElem?_getD, List.getElem?_eq_getElem htx]
        exact this
      obtain ⟨hc0, hc1⟩ := hcb
      obtain ⟨C, hC⟩ : ∃ C, C = cellsOf (xs.take t) := ⟨_, rfl⟩
      have hown := hat.2.1
      have HN : Hid (∀ (o : Obj) (w2 : World) (v' : Value), w2.ownsRow w.heap.size 5 1 v' (t + 1) (C ++ [.int .u8 c]) → (wr.alloc o).grownBy w2 u7.ownBlock → DAt w len0 xs (t + 1) (J + (esc c).length) w2 v') := by
        intro o w2 v' h2 h3
        rw [hcu]
        rw [hC, hcu] at h2
        exact hat.step htx h2 h3
      rw [← hC] at hown
      have hsz := hat.2.2.2
      clear hat hcu hC hout htx hbd
      have hb1 : t + 1 ≤ maxLen := by unfold maxLen; omega
      have hb2 : (t + 1) * 1 ≤ 140737488355328 := by omega
      by_cases c34 : c = 34
      · subst c34
        have r0 : wr.cell? ⟨g, J, none⟩ = some (.int .u8 92) := hcell 0 (by decide)
        have r1 : wr.cell? ⟨g, J + 1, none⟩ = some (.int .u8 34) := hcell 1 (by decide)
        have hJ2 : J + 2 + 1 ≤ m := hJ
        have e2 : ((J : Int) + 1).toNat = J + 1 := by omega
        clear hcell hJ
        go_wp2_with (at_builtin; refine wpList_append_own _ rfl _ _ 22 rfl w.heap.size 5 i0 (.int .u8 0) 1 1 Try.underlying22 hi hz0 hz1 hz2 rfl (by decide) _ _ _ rfl (hown.alloc _) ⟨wr.heap.size, 0, none⟩ 1 1 [.int .u8 34] rfl rfl (by exact cells1 _ _) (by exact one1 _) hb1 hb2 (by simp; omega) ?k34)
        intro v' w2 hown' hgrow' _
        have hat' : DAt w len0 xs (t + 1) (J + 2) w2 v' := HN.out _ w2 v' hown' hgrow'
        clear hown' hgrow' hown
        go_wp2
        go_roundw
        case rel => exact ⟨t + 1, J + 2, by omega, by go_num, hat'⟩
        case measure => simp [intOf]; omega
      by_cases c92 : c = 92
      · subst c92
        have r0 : wr.cell? ⟨g, J, none⟩ = some (.int .u8 92) := hcell 0 (by decide)
        have r1 : wr.cell? ⟨g, J + 1, none⟩ = some (.int .u8 92) := hcell 1 (by decide)
        have hJ2 : J + 2 + 1 ≤ m := hJ
        have e2 : ((J : Int) + 1).toNat = J + 1 := by omega
        clear hcell hJ
        go_wp2_with (at_builtin; refine wpList_append_own _ rfl _ _ 22 rfl w.heap.size 5 i0 (.int .u8 0) 1 1 Try.underlying22 hi hz0 hz1 hz2 rfl (by decide) _ _ _ rfl (hown.alloc _) ⟨wr.heap.size, 0, none⟩ 1 1 [.int .u8 92] rfl rfl (by exact cells1 _ _) (by exact one1 _) hb1 hb2 (by simp; omega) ?k92)
        intro v' w2 hown' hgrow' _
        have hat' : DAt w len0 xs (t + 1) (J + 2) w2 v' := HN.out _ w2 v' hown' hgrow'
        clear hown' hgrow' hown
        go_wp2
        go_roundw
        case rel => exact ⟨t + 1, J + 2, by omega, by go_num, hat'⟩
        case measure => simp [intOf]; omega
      by_cases c8 : c = 8
      · subst c8
        have r0 : wr.cell? ⟨g, J, none⟩ = some (.int .u8 92) := hcell 0 (by decide)
        have r1 : wr.cell? ⟨g, J + 1, none⟩ = some (.int .u8 98) := hcell 1 (by decide)
        have hJ2 : J + 2 + 1 ≤ m := hJ
        have e2 : ((J : Int) + 1).toNat = J + 1 := by omega
        clear hcell hJ
        go_wp2_with (at_builtin; refine wpList_append_own _ rfl _ _ 22 rfl w.heap.size 5 i0 (.int .u8 0) 1 1 Try.underlying22 hi hz0 hz1 hz2 rfl (by decide) _ _ _ rfl (hown.alloc _) ⟨wr.heap.size, 0, none⟩ 1 1 [.int .u8 8] rfl rfl (by exact cells1 _ _) (by exact one1 _) hb1 hb2 (by simp; omega) ?k8)
        intro v' w2 hown' hgrow' _
        have hat' : DAt w len0 xs (t + 1) (J + 2) w2 v' := HN.out _ w2 v' hown' hgrow'
        clear hown' hgrow' hown
        go_wp2
        go_roundw
        case rel => exact ⟨t + 1, J + 2, by omega, by go_num, hat'⟩
        case measure => simp [intOf]; omega
      by_cases c9 : c = 9
      · subst c9
        have r0 : wr.cell? ⟨g, J, none⟩ = some (.int .u8 92) := hcell 0 (by decide)
        have r1 : wr.cell? ⟨g, J + 1, none⟩ = some (.int .u8 116) := hcell 1 (by decide)
        have hJ2 : J + 2 + 1 ≤ m := hJ
        have e2 : ((J : Int) + 1).toNat = J + 1 := by omega
        clear hcell hJ
        go_wp2_with (at_builtin; refine wpList_append_own _ rfl _ _ 22 rfl w.heap.size 5 i0 (.int .u8 0) 1 1 Try.underlying22 hi hz0 hz1 hz2 rfl (by decide) _ _ _ rfl (hown.alloc _) ⟨wr.heap.size, 0, none⟩ 1 1 [.int .u8 9] rfl rfl (by exact cells1 _ _) (by exact one1 _) hb1 hb2 (by simp; omega) ?k9)
        intro v' w2 hown' hgrow' _
        have hat' : DAt w len0 xs (t + 1) (J + 2) w2 v' := HN.out _ w2 v' hown' hgrow'
        clear hown' hgrow' hown
        go_wp2
        go_roundw
        case rel => exact ⟨t + 1, J + 2, by omega, by go_num, hat'⟩
        case measure => simp [intOf]; omega
      by_cases c10 : c = 10
      · subst c10
        have r0 : wr.cell? ⟨g, J, none⟩ = some (.int .u8 92) := hcell 0 (by decide)
        have r1 : wr.cell? ⟨g, J + 1, none⟩ = some (.int .u8 110) := hcell 1 (by decide)
        have hJ2 : J + 2 + 1 ≤ m := hJ
        have e2 : ((J : Int) + 1).toNat = J + 1 := by omega
        clear hcell hJ
        go_wp2_with (at_builtin; refine wpList_append_own _ rfl _ _ 22 rfl w.heap.size 5 i0 (.int .u8 0) 1 1 Try.underlying22 hi hz0 hz1 hz2 rfl (by decide) _ _ _ rfl (hown.alloc _) ⟨wr.heap.size, 0, none⟩ 1 1 [.int .u8 10] rfl rfl (by exact cells1 _ _) (by exact one1 _) hb1 hb2 (by simp; omega) ?k10)
        intro v' w2 hown' hgrow' _
        have hat' : DAt w len0 xs (t + 1) (J + 2) w2 v' := HN.out _ w2 v' hown' hgrow'
        clear hown' hgrow' hown
        go_wp2
        go_roundw
        case rel => exact ⟨t + 1, J + 2, by omega, by go_num, hat'⟩
        case measure => simp [intOf]; omega
      by_cases c12 : c = 12
      · subst c12
        have r0 : wr.cell? ⟨g, J, none⟩ = some (.int .u8 92) := hcell 0 (by decide)
        have r1 : wr.cell? ⟨g, J + 1, none⟩ = some (.int .u8 102) := hcell 1 (by decide)
        have hJ2 : J + 2 + 1 ≤ m := hJ
        have e2 : ((J : Int) + 1).toNat = J + 1 := by omega
        clear hcell hJ
        go_wp2_with (at_builtin; refine wpList_append_own _ rfl _ _ 22 rfl w.heap.size 5 i0 (.int .u8 0) 1 1 Try.underlying22 hi hz0 hz1 hz2 rfl (by decide) _ _ _ rfl (hown.alloc _) ⟨wr.heap.size, 0, none⟩ 1 1 [.int .u8 12] rfl rfl (by exact cells1 _ _) (by exact one1 _) hb1 hb2 (by simp; omega) ?k12)
        intro v' w2 hown' hgrow' _
        have hat' : DAt w len0 xs (t + 1) (J + 2) w2 v' := HN.out _ w2 v' hown' hgrow'
        clear hown' hgrow' hown
        go_wp2
        go_roundw
        case rel => exact ⟨t + 1, J + 2, by omega, by go_num, hat'⟩
        case measure => simp [intOf]; omega
      by_cases c13 : c = 13
      · subst c13
        have r0 : wr.cell? ⟨g, J, none⟩ = some (.int .u8 92) := hcell 0 (by decide)
        have r1 : wr.cell? ⟨g, J + 1, none⟩ = some (.int .u8 114) := hcell 1 (by decide)
        have hJ2 : J + 2 + 1 ≤ m := hJ
        have e2 : ((J : Int) + 1).toNat = J + 1 := by omega
        clear hcell hJ
        go_wp2_with (at_builtin; refine wpList_append_own _ rfl _ _ 22 rfl w.heap.size 5 i0 (.int .u8 0) 1 1 Try.underlying22 hi hz0 hz1 hz2 rfl (by decide) _ _ _ rfl (hown.alloc _) ⟨wr.heap.size, 0, none⟩ 1 1 [.int .u8 13] rfl rfl (by exact cells1 _ _) (by exact one1 _) hb1 hb2 (by simp; omega) ?k13)
        intro v' w2 hown' hgrow' _
        have hat' : DAt w len0 xs (t + 1) (J + 2) w2 v' := HN.out _ w2 v' hown' hgrow'
        clear hown' hgrow' hown
        go_wp2
        go_roundw
        case rel => exact ⟨t + 1, J + 2, by omega, by go_num, hat'⟩
        case measure => simp [intOf]; omega
      by_cases c32 : c < 32
      · have he : esc c = [92, 117, 48, 48, hx (c / 16), hx (c % 16)] := by simp [esc, c34, c92, c8, c12, c10, c13, c9, c32]
        rw [he] at HN hJ hcell
        have r0 : wr.cell? ⟨g, J, none⟩ = some (.int .u8 92) := hcell 0 (by simp)
        have r1 : wr.cell? ⟨g, J + 1, none⟩ = some (.int .u8 117) := hcell 1 (by simp)
        have r2 : wr.cell? ⟨g, J + 2, none⟩ = some (.int .u8 48) := hcell 2 (by simp)
        have r3 : wr.cell? ⟨g, J + 3, none⟩ = some (.int .u8 48) := hcell 3 (by simp)
        have r4 : wr.cell? ⟨g, J + 4, none⟩ = some (.int .u8 (hx (c / 16))) := hcell 4 (by simp)
        have r5 : wr.cell? ⟨g, J + 5, none⟩ = some (.int .u8 (hx (c % 16))) := hcell 5 (by simp)
        obtain ⟨H, hH⟩ : ∃ H, H = c / 16 := ⟨_, rfl⟩
        obtain ⟨Lw, hLw⟩ : ∃ Lw, Lw = c % 16 := ⟨_, rfl⟩
        rw [← hH] at r4
        rw [← hLw] at r5
        obtain ⟨X1, hX1⟩ : ∃ X1, X1 = hx H := ⟨_, rfl⟩
        obtain ⟨X2, hX2⟩ : ∃ X2, X2 = hx Lw := ⟨_, rfl⟩
        have k1 : 0 ≤ H ∧ H < 10 ∧ X1 ≤ 48 + H ∧ 48 + H ≤ X1 ∨ 10 ≤ H ∧ H < 16 ∧ X1 ≤ 87 + H ∧ 87 + H ≤ X1 := by
          rw [hX1]; unfold hx; split <;> omega
        have k2 : 0 ≤ Lw ∧ Lw < 10 ∧ X2 ≤ 48 + Lw ∧ 48 + Lw ≤ X2 ∨ 10 ≤ Lw ∧ Lw < 16 ∧ X2 ≤ 87 + Lw ∧ 87 + Lw ≤ X2 := by
          rw [hX2]; unfold hx; split <;> omega
        rw [← hX1] at r4
        rw [← hX2] at r5
        have K1 : Hid _ := hex_back H X1 wr k1
        have K2 : Hid _ := hex_back Lw X2 wr k2
        have K3 : Hid _ := short_no (H * 16 + Lw) wr (by omega)
        have hHl : 0 ≤ H ∧ H ≤ 1 := by omega
        have hLl : 0 ≤ Lw ∧ Lw ≤ 15 := by omega
        obtain ⟨hH0, hH1⟩ := hHl
        obtain ⟨hL0, hL1⟩ := hLl
        have hv : H * 16 + Lw < 32 := by omega
        have HV : Hid (H * 16 + Lw = c) := by show _ = _; omega
        have hJ6 : J + 6 + 1 ≤ m := hJ
        have e2 : ((J : Int) + 1).toNat = J + 1 := by omega
        have e3 : ((J : Int) + 2).toNat = J + 2 := by omega
        have e4 : ((J : Int) + 3).toNat = J + 3 := by omega
        have e5 : ((J : Int) + 4).toNat = J + 4 := by omega
        have e6 : ((J : Int) + 5).toNat = J + 5 := by omega
        clear hcell hJ c34 c92 c8 c12 c10 c13 c9 he hX1 hX2 hH hLw k1 k2
        go_wp2_with fail
        refine Calls.mono K1.out ?_
        rintro e w' ⟨rfl, hw⟩
        have hw := hw.symm
        subst hw
        go_wp2_with fail
        refine Calls.mono K2.out ?_
        rintro e w' ⟨rfl, hw⟩
        have hw := hw.symm
        subst hw
        go_wp2_with fail
        refine Calls.mono K3.out ?_
        rintro e w' ⟨rfl, hw⟩
        have hw := hw.symm
        subst hw
        clear K1 K2 K3
        go_wp2_with (at_builtin; refine wpList_append_own _ rfl _ _ 22 rfl w.heap.size 5 i0 (.int .u8 0) 1 1 Try.underlying22 hi hz0 hz1 hz2 rfl (by decide) _ _ _ rfl (hown.alloc _) ⟨wr.heap.size, 0, none⟩ 1 1 [.int .u8 (H * 16 + Lw)] rfl rfl (by exact cells1 _ _) (by exact one1 _) hb1 hb2 (by simp; omega) ?kh)
        intro v' w2 hown' hgrow' _
        rw [HV.out] at hown'
        have hat' : DAt w len0 xs (t + 1) (J + 6) w2 v' := HN.out _ w2 v' hown' hgrow'
        clear hown' hgrow' hown
        go_wp2
        go_roundw
        case rel => exact ⟨t + 1, J + 6, by omega, by go_num, hat'⟩
        case measure => simp [intOf]; omega
      · have he : esc c = [c] := by simp [esc, c34, c92, c8, c12, c10, c13, c9, c32]
        rw [he] at HN hJ hcell
        have r0 : wr.cell? ⟨g, J, none⟩ = some (.int .u8 c) := hcell 0 (by simp)
        have e34 : (c == 34) = false := by simpa using c34
        have e92 : (c == 92) = false := by simpa using c92
        have hJ2 : J + 1 + 1 ≤ m := hJ
        clear hcell hJ c34 c92 c8 c12 c10 c13 c9 he
        go_wp2_with (at_builtin; refine wpList_append_own _ rfl _ _ 22 rfl w.heap.size 5 i0 (.int .u8 0) 1 1 Try.underlying22 hi hz0 hz1 hz2 rfl (by decide) _ _ _ rfl (hown.alloc _) ⟨wr.heap.size, 0, none⟩ 1 1 [.int .u8 c] rfl rfl (by exact cells1 _ _) (by exact one1 _) hb1 hb2 (by simp; omega) ?kc)
        intro v' w2 hown' hgrow' _
        have hat' : DAt w len0 xs (t + 1) (J + 1) w2 v' := HN.out _ w2 v' hown' hgrow'
        clear hown' hgrow' hown
        go_wp2
        go_roundw
        case rel => exact ⟨t + 1, J + 1, by omega, by go_num, hat'⟩
        case measure => simp [intOf]; omega
    · have htn : t = n := by omega
      have hown := hat.2.1
      have HB : Hid (Below w.heap.size w wr) := hat.2.2.1
      have hJ : J + 1 = m := by
        have h2 := hat.1
        rw [htn, List.take_of_length_le (by rw [HXS.out]; exact Nat.le_refl _)] at h2
        have := HM.out
        omega
      have hJ' : m ≤ J + 1 := by omega
      have hex : ∃ ao cap', u7 = .slice ao n cap' ∧ Rd wr ao xs := by
        rw [htn, List.take_of_length_le (by rw [HXS.out]; exact Nat.le_refl _)] at hown
        have h2 : wr.ownsRow w.heap.size 5 1 u7 xs.length (cellsOf xs) := by rw [HXS.out]; exact hown
        obtain ⟨ao, cap', h3, h4, _⟩ := rd_of_owns h2
        exact ⟨ao, cap', by rw [h3, HXS.out], h4⟩
      obtain ⟨ao, cap', hu, hrd⟩ := hex
      rw [hu]
      clear hat hown htn hJ hu hout hbd
      go_wp2
      go_ret2
      exact ⟨_, _, rfl, hrd, HB.out⟩

end Go.Proofs.Qxb6600657a
