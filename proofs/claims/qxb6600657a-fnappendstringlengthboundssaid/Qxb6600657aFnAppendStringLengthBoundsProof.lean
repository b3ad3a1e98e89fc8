/-
  Proof of 'Rows.FnAppendStringLengthBoundsSaid' (the frame: written by proof-skeleton.mjs for this function).
-/
import Derived.Test.Qxb6600657aLaw
import Derived.WalkKit
import Derived.ProofKit
import Derived.OpenShut
import Derived.ShutString
import Derived.ChangeOld
import Derived.Below
namespace Go.Proofs.Qxb6600657a.fnAppendStringLengthBounds
open Go.ChangeShapes Go.WideShapes Go.ChangeAt Go.RowKit
open Go.ChangeMaps (open_string shut_string)
set_option linter.unusedVariables false

theorem own : ownKnob Try.prog.godebug = none := by kernel_rfl
theorem laidOut : laidOutB Try.prog = true := by kernel_rfl

/-! ### The walk -/
theorem zz18 (a0 a1 : Option Addr) (n0 c0 n1 c1 : Nat) (w : World) (h0 : n0 ≤ 524288) (h1 : n1 ≤ 524288) :
    Calls Try.prog 18 #[.slice a0 n0 c0, .slice a1 n1 c1] w fun e w' => e = .returned (.bool true) ∧ w' = w := by
  go_enter Try.func18, Try.ntmps18
  go_wp2
  go_ret
  exact ⟨rfl, rfl⟩

set_option maxHeartbeats 1000000 in
theorem main (a0 : Option Addr) (len0 cap0 : Nat) (z0 : List Int) (a1 : Option Addr) (len1 cap1 : Nat) (z1 : List Int) (w : World) (w0 : IsRow .u8 w a0 len0 cap0 z0) (w1 : IsRow .u8 w a1 len1 cap1 z1) (h0 : len0 ≤ 524288) (h1 : len1 ≤ 524288) :
    Calls Try.prog 7 #[.slice a0 len0 cap0, .slice a1 len1 cap1] w fun e w' => e = .returned (.bool true) ∧ Below w.heap.size w w' := by
  obtain ⟨xb, hxb⟩ : ∃ xb, xb = z0.take len0 := ⟨_, rfl⟩
  obtain ⟨xs, hxs⟩ : ∃ xs, xs = z1.take len1 := ⟨_, rfl⟩
  have HXB : Hid (xb.length = len0) := by rw [hxb]; exact w0.len.1
  have HXS : Hid (xs.length = len1) := by rw [hxs]; exact w1.len.1
  have HBD : Hid (∀ c ∈ xs, 0 ≤ c ∧ c ≤ 255) := by rw [hxs]; exact w1.bytes
  have HC0 : Hid (Calls Try.prog 9 #[.slice a0 len0 cap0] w fun e w'' => ∃ ao, e = .returned (.slice ao len0 len0) ∧ Rd w'' ao xb ∧ (ao = none → len0 = 0) ∧ Below w.heap.size w w'') := by
    rw [hxb]
    exact clone_any a0 len0 cap0 z0 w (by omega) w0
  have C1 : Hid (∀ w', Below w.heap.size w w' → Calls Try.prog 9 #[.slice a1 len1 cap1] w' fun e w'' => ∃ ao, e = .returned (.slice ao len1 len1) ∧ Rd w'' ao xs ∧ (ao = none → len1 = 0) ∧ Below w'.heap.size w' w'') := by
    intro w' hb
    rw [hxs]
    exact clone_any a1 len1 cap1 z1 w' (by omega) (w1.below hb)
  clear hxb hxs w0 w1
  go_enter Try.func7, Try.ntmps7
  go_wp2_with (go_at_call 18; refine (zz18 _ _ _ _ _ _ _ (by omega) (by omega)).mono ?_; rintro e w' ⟨rfl, hw⟩; have hw := hw.symm; subst hw)
  refine Calls.mono HC0.out ?_
  rintro e w1 ⟨b1, rfl, hrb, hnb, hbel1⟩
  clear HC0
  go_wp2_with fail
  refine Calls.mono (C1.out w1 hbel1) ?_
  rintro e w2 ⟨b2, rfl, hrs, hns, hbel2⟩
  clear C1
  go_wp2
  go_loop [5, 6] (fun s i => ∃ k : Nat, k ≤ len1 ∧ i = .int .i64 k ∧ s = .bool (spec (xs.take k))) (fun _ i => len1 - (intOf i).toNat)
  case atStart => exact ⟨0, Nat.zero_le _, rfl, rfl⟩
  case round =>
    obtain ⟨k, hk, rfl, rfl⟩ := hrel
    by_cases hlt : k < len1
    · rcases hrs with h | ⟨g, rfl, hg, hc⟩
      · exact absurd HXS.out (by rw [h]; simp; omega)
      obtain ⟨c, hcu⟩ : ∃ c, c = xs.getD k 0 := ⟨_, rfl⟩
      have g1 : w2.cell? ⟨g, k, none⟩ = some (.int .u8 c) := by
        rw [hcu, hc k (by rw [HXS.out]; exact hlt)]
      have HT : Hid (spec (xs.take (k + 1)) = (spec (xs.take k) || sp c)) := by
        rw [hcu]; exact spec_take xs k (by rw [HXS.out]; exact hlt)
      obtain ⟨S, hS⟩ : ∃ S, S = spec (xs.take k) := ⟨_, rfl⟩
      rw [← hS] at HT
      rw [← hS]
      clear hcu hc hS hrb
      by_cases c1 : c < 32
      · go_wp2
        go_round
        case rel => exact ⟨k + 1, by omega, by go_num, by rw [HT.out]; simp [sp, c1]⟩
        case measure => simp [intOf]; omega
      by_cases c2 : (c == 34) = true
      · go_wp2
        go_round
        case rel => exact ⟨k + 1, by omega, by go_num, by rw [HT.out]; simp [sp, c2]⟩
        case measure => simp [intOf]; omega
      by_cases c3 : (c == 92) = true
      · have c2' : (c == 34) = false := by simpa using c2
        go_wp2
        go_round
        case rel => exact ⟨k + 1, by omega, by go_num, by rw [HT.out]; simp [sp, c3]⟩
        case measure => simp [intOf]; omega
      · have c2' : (c == 34) = false := by simpa using c2
        have c3' : (c == 92) = false := by simpa using c3
        have c1' : decide (c < 32) = false := by simpa using c1
        have HS : Hid (sp c = false) := by simp only [sp, c1', c2', c3']; rfl
        go_wp2
        go_round
        case rel => exact ⟨k + 1, by omega, by go_num, by rw [HT.out, HS.out]; simp⟩
        case measure => simp [intOf]; omega
    · have ek : xs.take k = xs := List.take_of_length_le (by rw [HXS.out]; omega)
      rw [ek]
      clear ek
      obtain ⟨S, hS⟩ : ∃ S, S = spec xs := ⟨_, rfl⟩
      rw [← hS]
      have HS : Hid (S = spec xs) := hS
      clear hS
      have hrb2 : Rd w2 b1 xb := hrb.below (Nat.le_refl _) hbel2
      have HCS : Hid (Calls Try.prog 15 #[.slice b1 len0 len0, .slice b2 len1 len1] w2 fun e w' => ∃ ao cap', e = .returned (.slice ao (len0 + 1 + (body xs).length + 1) cap') ∧ Rd w' ao (text xb xs) ∧ Below w2.heap.size w2 w') :=
        zz_append_str b1 len0 b2 len1 len1 xb xs w2 (by omega) (by omega) HXB.out HXS.out hnb hrb2 hrs HBD.out
      have hbw : Below w.heap.size w w2 := hbel1.trans (hbel2.mono hbel1.size)
      have HBW : Hid (Below w.heap.size w w2) := hbw
      clear hrb hbel1 hbel2 hbw
      go_wp2_with fail
      refine Calls.mono HCS.out ?_
      rintro e w3 ⟨ao, cap', rfl, hrt, hbel3⟩
      clear HCS
      obtain ⟨m, hm⟩ : ∃ m, m = len0 + 1 + (body xs).length + 1 := ⟨_, rfl⟩
      rw [← hm]
      have hbl := body_len xs
      rw [HXS.out] at hbl
      have hm1 : len0 + len1 + 2 ≤ m := by omega
      have hm2 : m ≤ len0 + 6 * len1 + 2 := by omega
      have HM : Hid (m = len0 + 1 + (body xs).length + 1) := hm
      have hrb3 : Rd w3 b1 xb := hrb2.below (Nat.le_refl _) hbel3
      have hrs3 : Rd w3 b2 xs := hrs.below (Nat.le_refl _) hbel3
      have HB3 : Hid (Below w.heap.size w w3) := HBW.out.trans (hbel3.mono HBW.out.size)
      have hex : ∃ g, ao = some ⟨g, 0, none⟩ ∧ ∀ i, i < m → w3.cell? ⟨g, i, none⟩ = some (.int .u8 ((text xb xs).getD i 0)) := by
        have hl := text_len xb xs
        rw [HXB.out] at hl
        rcases hrt with h | ⟨g, h1, h2, h3⟩
        · rw [h] at hl; simp at hl
        · exact ⟨g, h1, fun i hi => h3 i (by omega)⟩
      obtain ⟨g, hao, hout⟩ := hex
      rw [hao]
      clear hm hbl hbel3 hrt hrb2 hrs HBW hnb hns hao
      go_wp2
      go_loopw [9] (fun i wr => ∃ k : Nat, k ≤ len0 ∧ i = .int .i64 k ∧ ∃ q, wr = w3.drewN q) (fun i _ => len0 - (intOf i).toNat)
      case atStart => exact ⟨0, Nat.zero_le _, rfl, 0, rfl⟩
      case round =>
        obtain ⟨k2, hk2, rfl, q, rfl⟩ := hrel
        by_cases hlt2 : k2 < len0
        · rcases hrb3 with h | ⟨g', rfl, hg', hc'⟩
          · exact absurd HXB.out (by rw [h]; simp; omega)
          have r1 : w3.cell? ⟨g', k2, none⟩ = some (.int .u8 (xb.getD k2 0)) := hc' k2 (by rw [HXB.out]; exact hlt2)
          have r2 : w3.cell? ⟨g, k2, none⟩ = some (.int .u8 (xb.getD k2 0)) := by
            rw [hout k2 (by omega), text_old xb xs k2 (by rw [HXB.out]; exact hlt2)]
          obtain ⟨x, hx⟩ : ∃ x, x = xb.getD k2 0 := ⟨_, rfl⟩
          rw [← hx] at r1 r2
          have l1 : (k2 : Int) < (len0 : Int) := by omega
          have l2 : (k2 : Int) < (m : Int) := by omega
          clear hx hc' hout hrs3
          go_wp2
          go_quiet (fail)
          go_wp2
          go_roundw
          case rel => exact ⟨k2 + 1, by omega, by go_num, _, rfl⟩
          case measure => simp [intOf]; omega
        · have r1 : w3.cell? ⟨g, len0, none⟩ = some (.int .u8 34) := by
            rw [hout len0 (by omega)]
            have := text_open xb xs
            rw [HXB.out] at this
            rw [this]
          have r2 : w3.cell? ⟨g, m - 1, none⟩ = some (.int .u8 34) := by
            rw [hout (m - 1) (by omega), text_close xb xs (m - 1) (by rw [HXB.out, HM.out]; omega)]
          have e1 : ((m : Int) - 1).toNat = m - 1 := by omega
          have l1 : (len0 : Int) < (m : Int) := by omega
          cases S with
          | true =>
            have hlb := body_special xs HS.out.symm
            rw [HXS.out] at hlb
            have hgt : len0 + len1 + 3 ≤ m := by have := HM.out; omega
            clear hlb hout
            go_wp2
            go_ret
            exact ⟨ret_true (by simp only [decide_eq_true_eq]; omega), below_drewN HB3.out _⟩
          | false =>
            have hbp := body_plain xs HS.out.symm
            have hle : m ≤ len0 + len1 + 2 := by have := HM.out; rw [hbp, HXS.out] at this; omega
            have HBP : Hid (body xs = xs) := hbp
            clear hbp
            go_wp2
            go_loopw [11] (fun i wr => ∃ k : Nat, k ≤ len1 ∧ i = .int .i64 k ∧ ∃ q, wr = w3.drewN q) (fun i _ => len1 - (intOf i).toNat)
            case atStart => exact ⟨0, Nat.zero_le _, rfl, _, rfl⟩
            case round =>
              obtain ⟨k3, hk3, rfl, q3, rfl⟩ := hrel
              clear r1 r2 e1 l1
              by_cases hlt3 : k3 < len1
              · rcases hrs3 with h | ⟨g', rfl, hg', hc'⟩
                · exact absurd HXS.out (by rw [h]; simp; omega)
                have r1 : w3.cell? ⟨g', k3, none⟩ = some (.int .u8 (xs.getD k3 0)) := hc' k3 (by rw [HXS.out]; exact hlt3)
                have r2 : w3.cell? ⟨g, len0 + 1 + k3, none⟩ = some (.int .u8 (xs.getD k3 0)) := by
                  rw [hout (len0 + 1 + k3) (by omega)]
                  have := text_body xb xs k3 (by rw [HBP.out, HXS.out]; exact hlt3)
                  rw [HXB.out, HBP.out] at this
                  rw [this]
                obtain ⟨x, hx⟩ : ∃ x, x = xs.getD k3 0 := ⟨_, rfl⟩
                rw [← hx] at r1 r2
                have e1 : ((len0 : Int) + 1 + (k3 : Int)).toNat = len0 + 1 + k3 := by omega
                have l1 : (k3 : Int) < (len1 : Int) := by omega
                have l2 : (len0 : Int) + 1 + (k3 : Int) < (m : Int) := by omega
                clear hx hc' hout
                go_wp2
                go_quiet (fail)
                go_wp2
                go_roundw
                case rel => exact ⟨k3 + 1, by omega, by go_num, _, rfl⟩
                case measure => simp [intOf]; omega
              · clear hout
                go_wp2
                go_ret
                exact ⟨rfl, below_drewN HB3.out _⟩

theorem early (a0 : Option Addr) (len0 cap0 : Nat) (a1 : Option Addr) (len1 cap1 : Nat) (w : World) (hl0 : len0 ≤ 9223372036854775807) (hl1 : len1 ≤ 9223372036854775807) (h : 524288 < len0 ∨ len0 ≤ 524288 ∧ 524288 < len1) :
    Calls Try.prog 7 #[.slice a0 len0 cap0, .slice a1 len1 cap1] w fun e w' => e = .returned (.bool true) ∧ w' = w := by
  rcases h with h | ⟨h, h'⟩
  all_goals
    go_enter Try.func7, Try.ntmps7
    go_wp2
    all_goals go_ret
    all_goals exact ⟨rfl, rfl⟩

theorem walk (a0 : Option Addr) (len0 cap0 : Nat) (z0 : List Int) (a1 : Option Addr) (len1 cap1 : Nat) (z1 : List Int) (w : World) (w0 : IsRow .u8 w a0 len0 cap0 z0) (w1 : IsRow .u8 w a1 len1 cap1 z1) :
    Calls Try.prog 7 #[.slice a0 len0 cap0, .slice a1 len1 cap1] w fun e w' => e = .returned (.bool true) ∧ Below w.heap.size w w' := by
  by_cases h : 524288 < len0 ∨ len0 ≤ 524288 ∧ 524288 < len1
  · refine (early a0 len0 cap0 a1 len1 cap1 w (by have := w0.len.2; unfold maxLen at this; omega) (by have := w1.len.2; unfold maxLen at this; omega) h).mono ?_
    rintro e w' ⟨rfl, rfl⟩
    exact ⟨rfl, Below.refl _ _⟩
  · exact main a0 len0 cap0 z0 a1 len1 cap1 z1 w w0 w1 (by omega) (by omega)

/-! ### THE ROW's STEP: WRITTEN OUT: LEAVE IT -/
set_option maxRecDepth 100000 in
theorem lifted (os : Os) (started : os.Started) (H : Type) (enc : TypeId × Value → H) :
    ReturnsInHanded {} Try.checked os 7 .any (Rows.fnAppendStringLengthBoundsSpec.pre6 enc Try.prog Try.f7 Rows.fnAppendStringLengthBoundsRow.domain false) (Rows.fnAppendStringLengthBoundsSpec.post enc Try.prog Try.f7 false true false false) := by
  refine returnsInHanded_of_change (C := Try.checked) own started (by kernel_rfl) Try.func7
    (ChangeSpec.witness6 (enc := enc) (C := Try.checked) false ⟨#[], #[.slice none 0 0, .slice none 0 0], []⟩ 8 (by kernel_rfl) (by kernel_rfl) (by kernel_rfl) (by kernel_rfl)) ?_
  intro W base args ds gs before hval0 hW hcnd _
  have hval : ∀ (j : Nat) t v, Try.f7.params[j]? = some t → args[j]? = some v → Value.okWide Try.prog W .any base t v := hval0
  have hW' := hW
  obtain ⟨p, q, hA0, hV, rfl, hfz, hnd⟩ := hW
  have hA : DataW.TrodAll enc Try.prog W 0 (fun _ => true) true Try.f7.params.toList args.toList ds p := hA0
  rw [Try.params7] at hA hval
  obtain ⟨v0, vs0, d0, ds0, p0, q0, hargs, rfl, rfl, h0, r0⟩ := trodAll_cons hA
  obtain ⟨v1, vs1, d1, ds1, p1, q1, rfl, rfl, rfl, h1, r1⟩ := trodAll_cons r0
  obtain ⟨rfl, rfl, rfl⟩ := trodAll_nil r1
  obtain rfl : args = #[v0, v1] := by cases args; simp_all
  obtain ⟨rfl, rfl⟩ := trodVars_none hV
  obtain ⟨a0, len0, cap0, rfl⟩ := okWide_slice Try.underlying22 (hval 0 22 v0 rfl rfl)
  have k0 := h0
  have lt0 : ∀ x ∈ p0, x.block < W.heap.size := by obtain ⟨m, hm⟩ := k0; exact DataW.trod_lt m _ _ _ hm
  obtain ⟨z0, w0⟩ : ∃ zs, IsRow .u8 W a0 len0 cap0 zs := by
    obtain ⟨fuel, hf⟩ := h0
    rcases open_ints Try.underlying22 Try.underlying5 (by kernel_rfl) hf with ⟨hcs, _⟩ | ⟨x, l, c, zs, hcs, _, hl, hm, hz, _, hcell, hwz⟩
    · simp [Value.cells] at hcs
      obtain ⟨rfl, rfl, rfl⟩ := hcs
      exact ⟨[], .inl ⟨rfl, rfl, rfl, rfl⟩⟩
    · simp [Value.cells] at hcs
      obtain ⟨rfl, rfl, rfl⟩ := hcs
      exact ⟨zs, .inr ⟨_, rfl, hl, hm, by simpa using hz, hcell, hwz⟩⟩
  obtain ⟨a1, len1, cap1, rfl⟩ := okWide_slice Try.underlying22 (hval 1 22 v1 rfl rfl)
  have k1 := h1
  have lt1 : ∀ x ∈ p1, x.block < W.heap.size := by obtain ⟨m, hm⟩ := k1; exact DataW.trod_lt m _ _ _ hm
  obtain ⟨z1, w1⟩ : ∃ zs, IsRow .u8 W a1 len1 cap1 zs := by
    obtain ⟨fuel, hf⟩ := h1
    rcases open_ints Try.underlying22 Try.underlying5 (by kernel_rfl) hf with ⟨hcs, _⟩ | ⟨x, l, c, zs, hcs, _, hl, hm, hz, _, hcell, hwz⟩
    · simp [Value.cells] at hcs
      obtain ⟨rfl, rfl, rfl⟩ := hcs
      exact ⟨[], .inl ⟨rfl, rfl, rfl, rfl⟩⟩
    · simp [Value.cells] at hcs
      obtain ⟨rfl, rfl, rfl⟩ := hcs
      exact ⟨zs, .inr ⟨_, rfl, hl, hm, by simpa using hz, hcell, hwz⟩⟩
  clear hA0 hval0
  refine (walk a0 len0 cap0 z0 a1 len1 cap1 z1 W w0 w1).mono fun e W' ⟨he, bel⟩ => ?_
  subst he
  exact ⟨_, rfl, _, _, _, [], _, [], hW', trodAll_mk1 (shut_bool Try.underlying4 _), (trodAll_cons_mk (Below.trod laidOut (by kernel_rfl) (of_decide_eq_true (by kernel_rfl)) k0 bel lt0) (trodAll_cons_mk (Below.trod laidOut (by kernel_rfl) (of_decide_eq_true (by kernel_rfl)) k1 bel lt1) trodAll_mk0)), rfl, bel.frame _, fun h => by cases h⟩

theorem over : Rows.fnAppendStringLengthBoundsRow.holds Try.pinned (OpenSpec.ofChange Rows.fnAppendStringLengthBoundsSpec) :=
  OpenClaim.holds_of_wide 7 Try.f7 rfl rfl rfl rfl rfl rfl rfl ⟨rfl, rfl, rfl, rfl, rfl⟩ rfl rfl rfl rfl rfl (by kernel_rfl) Try.func7 (by kernel_rfl)
    (of_decide_eq_true (by kernel_rfl)) (by unfold Func.isWrapper; first | (rw [if_pos (by decide +kernel)]; kernel_rfl) | (rw [if_neg (by decide +kernel)]; exact ⟨rfl, rfl⟩))
    (fun os started H enc _ => lifted os started H enc)

/-- ████ THE STATEMENT ████ -/
theorem proved : Rows.FnAppendStringLengthBoundsSaid := over
#print axioms proved
end Go.Proofs.Qxb6600657a.fnAppendStringLengthBounds
