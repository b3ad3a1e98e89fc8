/-
  Proof of 'Rows.FnAppendStringCanonicalDecodeSaid' (the frame: written by proof-skeleton.mjs for this function).
-/
import Derived.Test.Qxb6600657aDec
import Derived.WalkKit
import Derived.ProofKit
import Derived.OpenShut
import Derived.ShutString
import Derived.ChangeOld
import Derived.Below
namespace Go.Proofs.Qxb6600657a.fnAppendStringCanonicalDecode
open Go.ChangeShapes Go.WideShapes Go.ChangeAt Go.RowKit
open Go.ChangeMaps (open_string shut_string)
set_option linter.unusedVariables false

theorem own : ownKnob Try.prog.godebug = none := by kernel_rfl
theorem laidOut : laidOutB Try.prog = true := by kernel_rfl

/-! ### The walk -/
theorem zz14 (a0 a1 : Option Addr) (n0 c0 n1 c1 : Nat) (w : World) (h0 : n0 ≤ 524288) (h1 : n1 ≤ 524288) :
    Calls Try.prog 14 #[.slice a0 n0 c0, .slice a1 n1 c1] w fun e w' => e = .returned (.bool true) ∧ w' = w := by
  go_enter Try.func14, Try.ntmps14
  go_wp2
  go_ret
  exact ⟨rfl, rfl⟩

set_option maxHeartbeats 1000000 in
theorem main (a0 : Option Addr) (len0 cap0 : Nat) (z0 : List Int) (a1 : Option Addr) (len1 cap1 : Nat) (z1 : List Int) (w : World) (w0 : IsRow .u8 w a0 len0 cap0 z0) (w1 : IsRow .u8 w a1 len1 cap1 z1) (h0 : len0 ≤ 524288) (h1 : len1 ≤ 524288) :
    Calls Try.prog 5 #[.slice a0 len0 cap0, .slice a1 len1 cap1] w fun e w' => e = .returned (.bool true) ∧ Below w.heap.size w w' := by
  obtain ⟨xb, hxb⟩ : ∃ xb, xb = z0.take len0 := ⟨_, rfl⟩
  obtain ⟨xs, hxs⟩ : ∃ xs, xs = z1.take len1 := ⟨_, rfl⟩
  have HXB : Hid (xb.length = len0) := by rw [hxb]; exact w0.len.1
  have HXS : Hid (xs.length = len1) := by rw [hxs]; exact w1.len.1
  have HBD : Hid (∀ c ∈ xs, 0 ≤ c ∧ c ≤ 255) := by rw [hxs]; exact w1.bytes
  have HC0 : Hid (Calls Try.prog 9 #[.slice a0 len0 cap0] w fun e w'' => ∃ ao, e = .returned (.slice ao len0 len0) ∧ Rd w'' ao xb ∧ (ao = none → len0 = 0) ∧ Below w.heap.size w w'') := by
    rw [hxb]
    exact clone_any a0 len0 cap0 z0 w (by omega) w0
  have C1 : Hid (∀ w', Below w.heap.size w w' → Calls Try.prog 9 #[.slice a1 len1 cap1] w' fun e w'' => ∃ ao, e = .returned (.slice ao len1 len1) ∧ Rd w'' ao xs ∧ (ao = none → len1 = 0) ∧ Below w'.heap.size w' w'') := by
    intro w' hb
    rw [hxs]
    exact clone_any a1 len1 cap1 z1 w' (by omega) (w1.below hb)
  clear hxb hxs w0 w1
  go_enter Try.func5, Try.ntmps5
  go_wp2_with (go_at_call 14; refine (zz14 _ _ _ _ _ _ _ (by omega) (by omega)).mono ?_; rintro e w' ⟨rfl, hw⟩; have hw := hw.symm; subst hw)
  refine Calls.mono HC0.out ?_
  rintro e w1 ⟨b1, rfl, hrb, hnb, hbel1⟩
  clear HC0
  go_wp2_with fail
  refine Calls.mono (C1.out w1 hbel1) ?_
  rintro e w2 ⟨b2, rfl, hrs, hns, hbel2⟩
  clear C1
  have hrb2 : Rd w2 b1 xb := hrb.below (Nat.le_refl _) hbel2
  have HCS : Hid (Calls Try.prog 15 #[.slice b1 len0 len0, .slice b2 len1 len1] w2 fun e w' => ∃ ao cap', e = .returned (.slice ao (len0 + 1 + (body xs).length + 1) cap') ∧ Rd w' ao (text xb xs) ∧ Below w2.heap.size w2 w') :=
    zz_append_str b1 len0 b2 len1 len1 xb xs w2 (by omega) (by omega) HXB.out HXS.out hnb hrb2 hrs HBD.out
  have hbw : Below w.heap.size w w2 := hbel1.trans (hbel2.mono hbel1.size)
  have HBW : Hid (Below w.heap.size w w2) := hbw
  clear hrb hbel1 hbel2 hbw
  go_wp2_with fail
  refine Calls.mono HCS.out ?_
  rintro e w3 ⟨ao, cap', rfl, hrt, hbel3⟩
  clear HCS
  obtain ⟨m, hm⟩ : ∃ m, m = len0 + 1 + (body xs).length + 1 := ⟨_, rfl⟩
  rw [← hm]
  have hbl := body_len xs
  rw [HXS.out] at hbl
  have hm1 : len0 + len1 + 2 ≤ m := by omega
  have hm2 : m ≤ len0 + 6 * len1 + 2 := by omega
  have HM : Hid (m = len0 + 1 + (body xs).length + 1) := hm
  have hrb3 : Rd w3 b1 xb := hrb2.below (Nat.le_refl _) hbel3
  have hrs3 : Rd w3 b2 xs := hrs.below (Nat.le_refl _) hbel3
  have HB3 : Hid (Below w.heap.size w w3) := HBW.out.trans (hbel3.mono HBW.out.size)
  have hex : ∃ g, ao = some ⟨g, 0, none⟩ ∧ g < w3.heap.size ∧ ∀ i, i < m → w3.cell? ⟨g, i, none⟩ = some (.int .u8 ((text xb xs).getD i 0)) := by
    have hl := text_len xb xs
    rw [HXB.out] at hl
    rcases hrt with h | ⟨g, h1, h2, h3⟩
    · rw [h] at hl; simp at hl
    · exact ⟨g, h1, h2, fun i hi => h3 i (by omega)⟩
  obtain ⟨g, hao, hgs, hout⟩ := hex
  rw [hao]
  clear hm hbl hbel3 hrt hrb2 hrs HBW hnb hns hao
  go_wp2
  go_loopw [6] (fun i wr => ∃ k : Nat, k ≤ len0 ∧ i = .int .i64 k ∧ ∃ q, wr = w3.drewN q) (fun i _ => len0 - (intOf i).toNat)
  case atStart => exact ⟨0, Nat.zero_le _, rfl, 0, rfl⟩
  case round =>
    obtain ⟨k2, hk2, rfl, q, rfl⟩ := hrel
    by_cases hlt2 : k2 < len0
    · rcases hrb3 with h | ⟨g', rfl, hg', hc'⟩
      · exact absurd HXB.out (by rw [h]; simp; omega)
      have r1 : w3.cell? ⟨g', k2, none⟩ = some (.int .u8 (xb.getD k2 0)) := hc' k2 (by rw [HXB.out]; exact hlt2)
      have r2 : w3.cell? ⟨g, k2, none⟩ = some (.int .u8 (xb.getD k2 0)) := by
        rw [hout k2 (by omega), text_old xb xs k2 (by rw [HXB.out]; exact hlt2)]
      obtain ⟨x, hx⟩ : ∃ x, x = xb.getD k2 0 := ⟨_, rfl⟩
      rw [← hx] at r1 r2
      have l1 : (k2 : Int) < (len0 : Int) := by omega
      have l2 : (k2 : Int) < (m : Int) := by omega
      clear hx hc' hout hrs3
      go_wp2
      go_quiet (fail)
      go_wp2
      go_roundw
      case rel => exact ⟨k2 + 1, by omega, by go_num, _, rfl⟩
      case measure => simp [intOf]; omega
    · have D : Hid (Calls Try.prog 16 #[.slice (some ⟨g, 0, none⟩) m cap', .int .i64 len0] (w3.drewN q) fun e w' => ∃ ao cap', e = .returned (.tuple #[.slice ao len1 cap', .bool true]) ∧ Rd w' ao xs ∧ Below w3.heap.size w3 w') :=
        (decode_text g m cap' len0 len1 xb xs (w3.drewN q) h0 h1 HXB.out HXS.out HM.out hgs hout HBD).mono (by
          rintro e w' ⟨ao, cap2, rfl, h2, h3⟩
          exact ⟨ao, cap2, rfl, h2, (below_drewN (Below.refl _ w3) q).trans h3⟩)
      clear hout hrb3
      go_wp2_with fail
      refine Calls.mono D.out ?_
      rintro e w4 ⟨ad, capd, rfl, hrd, hbel4⟩
      clear D
      have hrs4 : Rd w4 b2 xs := hrs3.below (Nat.le_refl _) hbel4
      have HB4 : Hid (Below w.heap.size w w4) := HB3.out.trans (hbel4.mono HB3.out.size)
      have S : Hid (Calls Try.prog 13 #[.slice ad len1 capd, .slice b2 len1 len1] w4 fun e w' => e = .returned (.bool true) ∧ ∃ q, w' = w4.drewN q) :=
        same_any ad b2 len1 capd len1 xs w4 (by omega) HXS.out hrd hrs4
      clear hrs3 hrs4 hrd hbel4
      go_wp2_with fail
      refine Calls.mono S.out ?_
      rintro e w5 ⟨rfl, q5, rfl⟩
      clear S
      go_wp2
      go_ret
      exact ⟨rfl, below_drewN HB4.out _⟩

theorem early (a0 : Option Addr) (len0 cap0 : Nat) (a1 : Option Addr) (len1 cap1 : Nat) (w : World) (hl0 : len0 ≤ 9223372036854775807) (hl1 : len1 ≤ 9223372036854775807) (h : 524288 < len0 ∨ len0 ≤ 524288 ∧ 524288 < len1) :
    Calls Try.prog 5 #[.slice a0 len0 cap0, .slice a1 len1 cap1] w fun e w' => e = .returned (.bool true) ∧ w' = w := by
  rcases h with h | ⟨h, h'⟩
  all_goals
    go_enter Try.func5, Try.ntmps5
    go_wp2
    all_goals go_ret
    all_goals exact ⟨rfl, rfl⟩

theorem walk (a0 : Option Addr) (len0 cap0 : Nat) (z0 : List Int) (a1 : Option Addr) (len1 cap1 : Nat) (z1 : List Int) (w : World) (w0 : IsRow .u8 w a0 len0 cap0 z0) (w1 : IsRow .u8 w a1 len1 cap1 z1) :
    Calls Try.prog 5 #[.slice a0 len0 cap0, .slice a1 len1 cap1] w fun e w' => e = .returned (.bool true) ∧ Below w.heap.size w w' := by
  by_cases h : 524288 < len0 ∨ len0 ≤ 524288 ∧ 524288 < len1
  · refine (early a0 len0 cap0 a1 len1 cap1 w (by have := w0.len.2; unfold maxLen at this; omega) (by have := w1.len.2; unfold maxLen at this; omega) h).mono ?_
    rintro e w' ⟨rfl, rfl⟩
    exact ⟨rfl, Below.refl _ _⟩
  · exact main a0 len0 cap0 z0 a1 len1 cap1 z1 w w0 w1 (by omega) (by omega)

/-! ### THE ROW's STEP: WRITTEN OUT: LEAVE IT -/
set_option maxRecDepth 100000 in
theorem lifted (os : Os) (started : os.Started) (H : Type) (enc : TypeId × Value → H) :
    ReturnsInHanded {} Try.checked os 5 .any (Rows.fnAppendStringCanonicalDecodeSpec.pre6 enc Try.prog Try.f5 Rows.fnAppendStringCanonicalDecodeRow.domain false) (Rows.fnAppendStringCanonicalDecodeSpec.post enc Try.prog Try.f5 false true false false) := by
  refine returnsInHanded_of_change (C := Try.checked) own started (by kernel_rfl) Try.func5
    (ChangeSpec.witness6 (enc := enc) (C := Try.checked) false ⟨#[], #[.slice none 0 0, .slice none 0 0], []⟩ 8 (by kernel_rfl) (by kernel_rfl) (by kernel_rfl) (by kernel_rfl)) ?_
  intro W base args ds gs before hval0 hW hcnd _
  have hval : ∀ (j : Nat) t v, Try.f5.params[j]? = some t → args[j]? = some v → Value.okWide Try.prog W .any base t v := hval0
  have hW' := hW
  obtain ⟨p, q, hA0, hV, rfl, hfz, hnd⟩ := hW
  have hA : DataW.TrodAll enc Try.prog W 0 (fun _ => true) true Try.f5.params.toList args.toList ds p := hA0
  rw [Try.params5] at hA hval
  obtain ⟨v0, vs0, d0, ds0, p0, q0, hargs, rfl, rfl, h0, r0⟩ := trodAll_cons hA
  obtain ⟨v1, vs1, d1, ds1, p1, q1, rfl, rfl, rfl, h1, r1⟩ := trodAll_cons r0
  obtain ⟨rfl, rfl, rfl⟩ := trodAll_nil r1
  obtain rfl : args = #[v0, v1] := by cases args; simp_all
  obtain ⟨rfl, rfl⟩ := trodVars_none hV
  obtain ⟨a0, len0, cap0, rfl⟩ := okWide_slice Try.underlying22 (hval 0 22 v0 rfl rfl)
  have k0 := h0
  have lt0 : ∀ x ∈ p0, x.block < W.heap.size := by obtain ⟨m, hm⟩ := k0; exact DataW.trod_lt m _ _ _ hm
  obtain ⟨z0, w0⟩ : ∃ zs, IsRow .u8 W a0 len0 cap0 zs := by
    obtain ⟨fuel, hf⟩ := h0
    rcases open_ints Try.underlying22 Try.underlying5 (by kernel_rfl) hf with ⟨hcs, _⟩ | ⟨x, l, c, zs, hcs, _, hl, hm, hz, _, hcell, hwz⟩
    · simp [Value.cells] at hcs
      obtain ⟨rfl, rfl, rfl⟩ := hcs
      exact ⟨[], .inl ⟨rfl, rfl, rfl, rfl⟩⟩
    · simp [Value.cells] at hcs
      obtain ⟨rfl, rfl, rfl⟩ := hcs
      exact ⟨zs, .inr ⟨_, rfl, hl, hm, by simpa using hz, hcell, hwz⟩⟩
  obtain ⟨a1, len1, cap1, rfl⟩ := okWide_slice Try.underlying22 (hval 1 22 v1 rfl rfl)
  have k1 := h1
  have lt1 : ∀ x ∈ p1, x.block < W.heap.size := by obtain ⟨m, hm⟩ := k1; exact DataW.trod_lt m _ _ _ hm
  obtain ⟨z1, w1⟩ : ∃ zs, IsRow .u8 W a1 len1 cap1 zs := by
    obtain ⟨fuel, hf⟩ := h1
    rcases open_ints Try.underlying22 Try.underlying5 (by kernel_rfl) hf with ⟨hcs, _⟩ | ⟨x, l, c, zs, hcs, _, hl, hm, hz, _, hcell, hwz⟩
    · simp [Value.cells] at hcs
      obtain ⟨rfl, rfl, rfl⟩ := hcs
      exact ⟨[], .inl ⟨rfl, rfl, rfl, rfl⟩⟩
    · simp [Value.cells] at hcs
      obtain ⟨rfl, rfl, rfl⟩ := hcs
      exact ⟨zs, .inr ⟨_, rfl, hl, hm, by simpa using hz, hcell, hwz⟩⟩
  clear hA0 hval0
  refine (walk a0 len0 cap0 z0 a1 len1 cap1 z1 W w0 w1).mono fun e W' ⟨he, bel⟩ => ?_
  subst he
  exact ⟨_, rfl, _, _, _, [], _, [], hW', trodAll_mk1 (shut_bool Try.underlying4 _), (trodAll_cons_mk (Below.trod laidOut (by kernel_rfl) (of_decide_eq_true (by kernel_rfl)) k0 bel lt0) (trodAll_cons_mk (Below.trod laidOut (by kernel_rfl) (of_decide_eq_true (by kernel_rfl)) k1 bel lt1) trodAll_mk0)), rfl, bel.frame _, fun h => by cases h⟩

theorem over : Rows.fnAppendStringCanonicalDecodeRow.holds Try.pinned (OpenSpec.ofChange Rows.fnAppendStringCanonicalDecodeSpec) :=
  OpenClaim.holds_of_wide 5 Try.f5 rfl rfl rfl rfl rfl rfl rfl ⟨rfl, rfl, rfl, rfl, rfl⟩ rfl rfl rfl rfl rfl (by kernel_rfl) Try.func5 (by kernel_rfl)
    (of_decide_eq_true (by kernel_rfl)) (by unfold Func.isWrapper; first | (rw [if_pos (by decide +kernel)]; kernel_rfl) | (rw [if_neg (by decide +kernel)]; exact ⟨rfl, rfl⟩))
    (fun os started H enc _ => lifted os started H enc)

/-- ████ THE STATEMENT ████ -/
theorem proved : Rows.FnAppendStringCanonicalDecodeSaid := over
#print axioms proved
end Go.Proofs.Qxb6600657a.fnAppendStringCanonicalDecode
