/-
  Proof of 'Rows.FnAppendZerosExactSpecSaid' (the frame: written by proof-skeleton.mjs for this function).
-/
import Derived.Test.Qxb6600657aZeros
import Derived.WalkKit
import Derived.ProofKit
import Derived.OpenShut
import Derived.ShutString
import Derived.ChangeOld
import Derived.Below
namespace Go.Proofs.Qxb6600657a.fnAppendZerosExactSpec
open Go.ChangeShapes Go.WideShapes Go.ChangeAt Go.RowKit
open Go.ChangeMaps (open_string shut_string)
set_option linter.unusedVariables false

theorem own : ownKnob Try.prog.godebug = none := by kernel_rfl
theorem laidOut : laidOutB Try.prog = true := by kernel_rfl

/-! ### The walk -/
theorem zeros_any (ab : Option Addr) (nb : Nat) (n : Int) (xb : List Int) (w : World) (hnb : nb ≤ 1048576) (hn2 : n ≤ 65536) (hxb : xb.length = nb)
    (hab : ab = none → nb = 0) (hb : Rd w ab xb) :
    Calls Try.prog 11 #[.slice ab nb nb, .int .i64 n] w fun e w' => ∃ ao cap', e = .returned (.slice ao (nb + n.toNat) cap') ∧ Rd w' ao (xb ++ List.replicate n.toNat 48) ∧ Below w.heap.size w w' := by
  by_cases h : n ≤ 0
  · refine (zeros_none ab nb nb n w h).mono ?_
    rintro e w' ⟨rfl, rfl⟩
    have e0 : n.toNat = 0 := by omega
    rw [e0]
    exact ⟨ab, nb, rfl, by simpa using hb, Below.refl _ _⟩
  · obtain ⟨k, rfl⟩ : ∃ k : Nat, n = k := ⟨n.toNat, by omega⟩
    exact zeros_some ab nb k xb w hnb (by omega) (by omega) hxb hab hb

theorem clamp_any (n : Int) (w : World) :
    Calls Try.prog 10 #[.int .i64 n] w fun e w' => e = .returned (.int .i64 (n.toNat : Int)) ∧ w' = w := by
  by_cases h : n < 0
  · rw [show ((n.toNat : Nat) : Int) = 0 by omega]
    go_enter Try.func10, Try.ntmps10
    go_wp2
    go_ret
    exact ⟨rfl, rfl⟩
  · rw [show ((n.toNat : Nat) : Int) = n by omega]
    go_enter Try.func10, Try.ntmps10
    go_wp2
    go_ret
    exact ⟨rfl, rfl⟩

theorem zz8 (a0 : Option Addr) (n0 c0 : Nat) (n : Int) (w : World) (h0 : n0 ≤ 524288) :
    Calls Try.prog 8 #[.slice a0 n0 c0, .int .i64 n] w fun e w' => e = .returned (.bool true) ∧ w' = w := by
  go_enter Try.func8, Try.ntmps8
  go_wp2
  go_ret
  exact ⟨rfl, rfl⟩

theorem zeros_old (xb : List Int) (K i : Nat) (h : i < xb.length) : (xb ++ List.replicate K 48).getD i 0 = xb.getD i 0 := by
  rw [List.getD_eq_getElem?_getD, List.getElem?_append_left h, ← List.getD_eq_getElem?_getD]

theorem zeros_new (xb : List Int) (K i : Nat) (h : xb.length ≤ i) (h2 : i < xb.length + K) : (xb ++ List.replicate K 48).getD i 0 = 48 := by
  rw [List.getD_eq_getElem?_getD, List.getElem?_append_right h, List.getElem?_replicate, if_pos (by omega)]
  rfl

set_option maxHeartbeats 1000000 in
theorem main (a0 : Option Addr) (len0 cap0 : Nat) (z0 : List Int) (a1 : Int) (w : World) (w0 : IsRow .u8 w a0 len0 cap0 z0) (h0 : len0 ≤ 524288) (h1 : a1 ≤ 65536) :
    Calls Try.prog 3 #[.slice a0 len0 cap0, .int .i64 a1] w fun e w' => e = .returned (.bool true) ∧ Below w.heap.size w w' := by
  obtain ⟨xb, hxb⟩ : ∃ xb, xb = z0.take len0 := ⟨_, rfl⟩
  have HXB : Hid (xb.length = len0) := by rw [hxb]; exact w0.len.1
  have HC0 : Hid (Calls Try.prog 9 #[.slice a0 len0 cap0] w fun e w'' => ∃ ao, e = .returned (.slice ao len0 len0) ∧ Rd w'' ao xb ∧ (ao = none → len0 = 0) ∧ Below w.heap.size w w'') := by
    rw [hxb]
    exact clone_any a0 len0 cap0 z0 w (by omega) w0
  have HCL : Hid (∀ W : World, Calls Try.prog 10 #[.int .i64 a1] W fun e w' => e = .returned (.int .i64 (a1.toNat : Int)) ∧ w' = W) := fun W => clamp_any a1 W
  have HZ : Hid (∀ (W : World) (ab : Option Addr), (ab = none → len0 = 0) → Rd W ab xb → Calls Try.prog 11 #[.slice ab len0 len0, .int .i64 a1] W fun e w' => ∃ ao cap', e = .returned (.slice ao (len0 + a1.toNat) cap') ∧ Rd w' ao (xb ++ List.replicate a1.toNat 48) ∧ Below W.heap.size W w') :=
    fun W ab h2 h3 => zeros_any ab len0 a1 xb W (by omega) h1 HXB.out h2 h3
  have hK : a1.toNat ≤ 65536 := by omega
  clear hxb w0
  generalize a1.toNat = K at *
  go_enter Try.func3, Try.ntmps3
  go_wp2_with (go_at_call 8; refine (zz8 _ _ _ _ _ (by omega)).mono ?_; rintro e w' ⟨rfl, hw⟩; have hw := hw.symm; subst hw)
  refine Calls.mono HC0.out ?_
  rintro e w1 ⟨b1, rfl, hrb, hnb, hbel1⟩
  clear HC0
  go_wp2_with fail
  refine Calls.mono (HCL.out _) ?_
  rintro e w' ⟨rfl, hw⟩
  have hw := hw.symm
  subst hw
  clear HCL
  go_wp2_with fail
  refine Calls.mono (HZ.out _ _ hnb hrb) ?_
  rintro e w3 ⟨ao, cap', rfl, hrt, hbel3⟩
  clear HZ
  have hrb3 : Rd w3 b1 xb := hrb.below (Nat.le_refl _) hbel3
  have HB3 : Hid (Below w.heap.size w w3) := hbel1.trans (hbel3.mono hbel1.size)
  clear hrb hnb hbel1 hbel3
  go_wp2
  go_loopw [7] (fun i wr => ∃ k : Nat, k ≤ len0 ∧ i = .int .i64 k ∧ ∃ q, wr = w3.drewN q) (fun i _ => len0 - (intOf i).toNat)
  case atStart => exact ⟨0, Nat.zero_le _, rfl, 0, rfl⟩
  case round =>
    obtain ⟨k2, hk2, rfl, q, rfl⟩ := hrel
    by_cases hlt2 : k2 < len0
    · rcases hrb3 with h | ⟨g', rfl, hg', hc'⟩
      · exact absurd HXB.out (by rw [h]; simp; omega)
      rcases hrt with h | ⟨g, rfl, hg, hout⟩
      · have h3 : (xb ++ List.replicate K 48).length = 0 := by rw [h]; rfl
        rw [List.length_append, HXB.out] at h3
        omega
      have r1 : w3.cell? ⟨g', k2, none⟩ = some (.int .u8 (xb.getD k2 0)) := hc' k2 (by rw [HXB.out]; exact hlt2)
      have r2 : w3.cell? ⟨g, k2, none⟩ = some (.int .u8 (xb.getD k2 0)) := by
        rw [hout k2 (by rw [List.length_append, HXB.out]; omega), zeros_old xb K k2 (by rw [HXB.out]; exact hlt2)]
      obtain ⟨x, hx⟩ : ∃ x, x = xb.getD k2 0 := ⟨_, rfl⟩
      rw [← hx] at r1 r2
      have l1 : (k2 : Int) < (len0 : Int) := by omega
      have l2 : (k2 : Int) < (len0 : Int) + (K : Int) := by omega
      clear hx hc' hout
      go_wp2
      go_quiet (fail)
      go_wp2
      go_roundw
      case rel => exact ⟨k2 + 1, by omega, by go_num, _, rfl⟩
      case measure => simp [intOf]; omega
    · clear hrb3
      go_wp2
      go_loopw [8] (fun i wr => ∃ k : Nat, len0 ≤ k ∧ k ≤ len0 + K ∧ i = .int .i64 k ∧ ∃ q, wr = w3.drewN q) (fun i _ => len0 + K - (intOf i).toNat)
      case atStart => exact ⟨len0, Nat.le_refl _, by omega, rfl, _, rfl⟩
      case round =>
        obtain ⟨k3, hk3a, hk3, rfl, q3, rfl⟩ := hrel
        by_cases hlt3 : k3 < len0 + K
        · rcases hrt with h | ⟨g, rfl, hg, hout⟩
          · have h3 : (xb ++ List.replicate K 48).length = 0 := by rw [h]; rfl
            rw [List.length_append, HXB.out, List.length_replicate] at h3
            omega
          have r2 : w3.cell? ⟨g, k3, none⟩ = some (.int .u8 48) := by
            rw [hout k3 (by rw [List.length_append, HXB.out, List.length_replicate]; exact hlt3), zeros_new xb K k3 (by rw [HXB.out]; exact hk3a) (by rw [HXB.out]; exact hlt3)]
          have l2 : (k3 : Int) < (len0 : Int) + (K : Int) := by omega
          clear hout
          go_wp2
          go_roundw
          case rel => exact ⟨k3 + 1, by omega, by omega, by go_num, _, rfl⟩
          case measure => simp [intOf]; omega
        · clear hrt
          have l3 : (len0 : Int) + (K : Int) ≤ (k3 : Int) := by omega
          go_wp2
          go_ret
          exact ⟨rfl, below_drewN HB3.out _⟩

theorem early (a0 : Option Addr) (len0 cap0 : Nat) (a1 : Int) (w : World) (hl0 : len0 ≤ 9223372036854775807) (h : 524288 < len0 ∨ len0 ≤ 524288 ∧ 65536 < a1) :
    Calls Try.prog 3 #[.slice a0 len0 cap0, .int .i64 a1] w fun e w' => e = .returned (.bool true) ∧ w' = w := by
  rcases h with h | ⟨h, h'⟩
  all_goals
    go_enter Try.func3, Try.ntmps3
    go_wp2
    all_goals go_ret
    all_goals exact ⟨rfl, rfl⟩

theorem walk (a0 : Option Addr) (len0 cap0 : Nat) (z0 : List Int) (a1 : Int) (w : World) (w0 : IsRow .u8 w a0 len0 cap0 z0) (w1 : (Lit.int .i64 a1).wf = true) :
    Calls Try.prog 3 #[.slice a0 len0 cap0, .int .i64 a1] w fun e w' => e = .returned (.bool true) ∧ Below w.heap.size w w' := by
  by_cases h : 524288 < len0 ∨ len0 ≤ 524288 ∧ 65536 < a1
  · refine (early a0 len0 cap0 a1 w (by have := w0.len.2; unfold maxLen at this; omega) h).mono ?_
    rintro e w' ⟨rfl, rfl⟩
    exact ⟨rfl, Below.refl _ _⟩
  · exact main a0 len0 cap0 z0 a1 w w0 (by omega) (by omega)

/-! ### THE ROW's STEP: WRITTEN OUT: LEAVE IT -/
set_option maxRecDepth 100000 in
theorem lifted (os : Os) (started : os.Started) (H : Type) (enc : TypeId × Value → H) :
    ReturnsInHanded {} Try.checked os 3 .any (Rows.fnAppendZerosExactSpecSpec.pre6 enc Try.prog Try.f3 Rows.fnAppendZerosExactSpecRow.domain false) (Rows.fnAppendZerosExactSpecSpec.post enc Try.prog Try.f3 false true false false) := by
  refine returnsInHanded_of_change (C := Try.checked) own started (by kernel_rfl) Try.func3
    (ChangeSpec.witness6 (enc := enc) (C := Try.checked) false ⟨#[], #[.slice none 0 0, .int .i64 0], []⟩ 8 (by kernel_rfl) (by kernel_rfl) (by kernel_rfl) (by kernel_rfl)) ?_
  intro W base args ds gs before hval0 hW hcnd _
  have hval : ∀ (j : Nat) t v, Try.f3.params[j]? = some t → args[j]? = some v → Value.okWide Try.prog W .any base t v := hval0
  have hW' := hW
  obtain ⟨p, q, hA0, hV, rfl, hfz, hnd⟩ := hW
  have hA : DataW.TrodAll enc Try.prog W 0 (fun _ => true) true Try.f3.params.toList args.toList ds p := hA0
  rw [Try.params3] at hA hval
  obtain ⟨v0, vs0, d0, ds0, p0, q0, hargs, rfl, rfl, h0, r0⟩ := trodAll_cons hA
  obtain ⟨v1, vs1, d1, ds1, p1, q1, rfl, rfl, rfl, h1, r1⟩ := trodAll_cons r0
  obtain ⟨rfl, rfl, rfl⟩ := trodAll_nil r1
  obtain rfl : args = #[v0, v1] := by cases args; simp_all
  obtain ⟨rfl, rfl⟩ := trodVars_none hV
  obtain ⟨a0, len0, cap0, rfl⟩ := okWide_slice Try.underlying22 (hval 0 22 v0 rfl rfl)
  have k0 := h0
  have lt0 : ∀ x ∈ p0, x.block < W.heap.size := by obtain ⟨m, hm⟩ := k0; exact DataW.trod_lt m _ _ _ hm
  obtain ⟨z0, w0⟩ : ∃ zs, IsRow .u8 W a0 len0 cap0 zs := by
    obtain ⟨fuel, hf⟩ := h0
    rcases open_ints Try.underlying22 Try.underlying5 (by kernel_rfl) hf with ⟨hcs, _⟩ | ⟨x, l, c, zs, hcs, _, hl, hm, hz, _, hcell, hwz⟩
    · simp [Value.cells] at hcs
      obtain ⟨rfl, rfl, rfl⟩ := hcs
      exact ⟨[], .inl ⟨rfl, rfl, rfl, rfl⟩⟩
    · simp [Value.cells] at hcs
      obtain ⟨rfl, rfl, rfl⟩ := hcs
      exact ⟨zs, .inr ⟨_, rfl, hl, hm, by simpa using hz, hcell, hwz⟩⟩
  obtain ⟨a1, rfl, rfl, rfl, w1⟩ := open_int Try.underlying3 (hval 1 3 v1 rfl rfl) h1
  clear hA0 hval0
  refine (walk a0 len0 cap0 z0 a1 W w0 w1).mono fun e W' ⟨he, bel⟩ => ?_
  subst he
  exact ⟨_, rfl, _, _, _, [], _, [], hW', trodAll_mk1 (shut_bool Try.underlying4 _), (trodAll_cons_mk (Below.trod laidOut (by kernel_rfl) (of_decide_eq_true (by kernel_rfl)) k0 bel lt0) (trodAll_cons_mk (shut_int Try.underlying3 w1) trodAll_mk0)), rfl, bel.frame _, fun h => by cases h⟩

theorem over : Rows.fnAppendZerosExactSpecRow.holds Try.pinned (OpenSpec.ofChange Rows.fnAppendZerosExactSpecSpec) :=
  OpenClaim.holds_of_wide 3 Try.f3 rfl rfl rfl rfl rfl rfl rfl ⟨rfl, rfl, rfl, rfl, rfl⟩ rfl rfl rfl rfl rfl (by kernel_rfl) Try.func3 (by kernel_rfl)
    (of_decide_eq_true (by kernel_rfl)) (by unfold Func.isWrapper; first | (rw [if_pos (by decide +kernel)]; kernel_rfl) | (rw [if_neg (by decide +kernel)]; exact ⟨rfl, rfl⟩))
    (fun os started H enc _ => lifted os started H enc)

/-- ████ THE STATEMENT ████ -/
theorem proved : Rows.FnAppendZerosExactSpecSaid := over
#print axioms proved
end Go.Proofs.Qxb6600657a.fnAppendZerosExactSpec
