/-
  Proof of 'Rows.FnStepRoundsAQuotientAsItsModeSaysSaid' (the frame: written by proof-skeleton.mjs for this function).
-/
import Derived.Test.Qxb6600135aStep
import Derived.WalkKit
import Derived.ProofKit
import Derived.OpenShut
import Derived.ShutString
namespace Go.Proofs.Qxb6600135a.fnStepRoundsAQuotientAsItsModeSays
open Go.ChangeShapes Go.WideShapes Go.ChangeAt Go.RowKit
open Go.ChangeMaps (open_string shut_string)
set_option linter.unusedVariables false      -- a walk need not use every 'w<i>' (that an integer argument fits its kind)

theorem own : ownKnob Try.prog.godebug = none := by kernel_rfl

/-! ### The plain facts -/
theorem ret_true {b : Bool} (h : b = true) : Ending.returned (.bool b) = .returned (.bool true) := by rw [h]

theorem wrap_u64 (P : Int) (h0 : 0 ≤ P) (h : P ≤ 18446744073709551615) : IntKind.u64.wrap P = P := by
  simp [IntKind.wrap, IntKind.bits, IntKind.signed]
  omega

/-! ### zzMag (8) and zzRoundedOK (5) -/

/-- zzMag at x, X its magnitude -/
theorem mag_at (x X : Int) (w : World) (h : 0 ≤ x ∧ X ≤ x ∧ x ≤ X ∨ x < 0 ∧ X ≤ -x ∧ -x ≤ X) (h1 : -9223372036854775808 ≤ x) (h2 : x ≤ 9223372036854775807) :
    Calls Try.prog 8 #[.int .i64 x] w fun e w' => e = .returned (.int .u64 X) ∧ w' = w := by
  rcases h with ⟨h, ha, hb⟩ | ⟨h, ha, hb⟩
  · obtain rfl : X = x := by omega
    go_enter Try.func8, Try.ntmps8
    go_wp2
    go_ret
    exact ⟨rfl, rfl⟩
  · rw [show X = -(x + 1) + 1 by omega]
    go_enter Try.func8, Try.ntmps8
    go_wp2
    go_ret
    exact ⟨rfl, rfl⟩

/-- n = 0 -/
theorem zero_at (m d : Int) (w : World) (hm : m = 0 ∨ m = 1 ∨ m = 2) (hd0 : 0 < d) (hd : d ≤ 9223372036854775807) :
    Calls Try.prog 5 #[.int .i64 m, .int .i64 0, .int .i64 d] w fun e w' => e = .returned (.bool true) ∧ w' = w := by
  rcases hm with rfl | rfl | rfl
  all_goals
    go_enter Try.func5, Try.ntmps5
    go_wp2_with (first | (go_at_call 6; refine (step_r0 _ _ _ _).mono ?_; rintro e w' ⟨rfl, rfl⟩) | (go_at_call 8; refine (mag_at _ 0 _ (by omega) (by omega) (by omega)).mono ?_; rintro e w' ⟨rfl, rfl⟩) | go_in)
    all_goals go_ret
    all_goals exact ⟨ret_true (by first | rfl | (simp only [decide_eq_true_eq]; omega)), rfl⟩

set_option maxHeartbeats 1000000 in
/-- 0 < n: q the quotient cut towards zero, r the remainder, t the step, P = (q + t) * d -/
theorem pos_at (m n d q r t P : Int) (w : World) (hm : m = 0 ∨ m = 1 ∨ m = 2) (hd0 : 0 < d) (hd : d ≤ 9223372036854775807) (hn : 0 < n) (hn2 : n ≤ 9223372036854775807) (hq : n / d = q) (hr : n % d = r) (hq0 : 0 ≤ q) (hqn : q ≤ n) (hr0 : 0 ≤ r) (hrd : r < d)
    (hst : stp m 1 r d = t) (ht : t = 0 ∨ t = 1 ∧ q < n) (hP : (q + t) * d = P) (hP0 : 0 ≤ P) (hPn : P ≤ n - r + t * d) (hPn' : n - r + t * d ≤ P)
    (h1 : m = 1 → t ≤ 0) (h2 : m = 2 → t ≤ 0 ∧ r ≤ 0 ∨ 1 ≤ t ∧ 0 < r) (h0 : m = 0 → t ≤ 0 ∧ 2 * r < d ∨ 1 ≤ t ∧ d ≤ 2 * r) (hW : IntKind.u64.wrap P = P) :
    Calls Try.prog 5 #[.int .i64 m, .int .i64 n, .int .i64 d] w fun e w' => e = .returned (.bool true) ∧ w' = w := by
  rcases ht with rfl | ⟨rfl, hqn'⟩
  · rw [Int.add_zero] at hP
    rw [Int.zero_mul] at hPn hPn'
    rcases hm with rfl | rfl | rfl
    all_goals
      try have h0 := h0 rfl
      try have h2 := h2 rfl
      clear h1
      go_enter Try.func5, Try.ntmps5
      go_wp2_with (first | (go_at_call 6; refine (step_any _ _ _ _ _ (by omega) (by omega) (by omega) (by omega)).mono ?_; rintro e w' ⟨rfl, rfl⟩) | (go_at_call 8; refine (mag_at _ n _ (by omega) (by omega) (by omega)).mono ?_; rintro e w' ⟨rfl, rfl⟩) | (go_at_call 8; refine (mag_at _ q _ (by omega) (by omega) (by omega)).mono ?_; rintro e w' ⟨rfl, rfl⟩) | go_in)
      all_goals go_ret
      all_goals exact ⟨ret_true (by first | rfl | (simp only [decide_eq_true_eq]; omega)), rfl⟩
  · rw [Int.one_mul] at hPn hPn'
    rcases hm with rfl | rfl | rfl
    all_goals
      try (exfalso; have h1 := h1 rfl; omega)
    all_goals
      try have h0 := h0 rfl
      try have h2 := h2 rfl
      clear h1
      go_enter Try.func5, Try.ntmps5
      go_wp2_with (first | (go_at_call 6; refine (step_any _ _ _ _ _ (by omega) (by omega) (by omega) (by omega)).mono ?_; rintro e w' ⟨rfl, rfl⟩) | (go_at_call 8; refine (mag_at _ n _ (by omega) (by omega) (by omega)).mono ?_; rintro e w' ⟨rfl, rfl⟩) | (go_at_call 8; refine (mag_at _ (q + 1) _ (by omega) (by omega) (by omega)).mono ?_; rintro e w' ⟨rfl, rfl⟩) | go_in)
      all_goals go_ret
      all_goals exact ⟨ret_true (by first | rfl | (simp only [decide_eq_true_eq]; omega)), rfl⟩

set_option maxHeartbeats 1000000 in
/-- n < 0: N its magnitude, q the magnitude of the quotient, r that of the remainder, t that of the step, P = (q + t) * d -/
theorem neg_at (m n N d q r t P : Int) (w : World) (hm : m = 0 ∨ m = 1 ∨ m = 2) (hd0 : 0 < d) (hd : d ≤ 9223372036854775807) (hn : n < 0) (hN : N ≤ -n) (hN' : -n ≤ N) (hn2 : N ≤ 9223372036854775808) (hq : n.tdiv d = -q) (hr : n.tmod d = -r) (hNq : N / d = q) (hq0 : 0 ≤ q) (hqn : q ≤ N) (hr0 : 0 ≤ r) (hrd : r < d)
    (hst : stp m (-1) (-r) d = -t) (ht : t = 0 ∨ t = 1 ∧ q + 1 ≤ N) (hP : (q + t) * d = P) (hP0 : 0 ≤ P) (hPn : P ≤ N - r + t * d) (hPn' : N - r + t * d ≤ P)
    (h1 : m = 1 → t ≤ 0) (h2 : m = 2 → t ≤ 0 ∧ r ≤ 0 ∨ 1 ≤ t ∧ 0 < r) (h0 : m = 0 → t ≤ 0 ∧ 2 * r < d ∨ 1 ≤ t ∧ d ≤ 2 * r) (hW : IntKind.u64.wrap P = P) :
    Calls Try.prog 5 #[.int .i64 m, .int .i64 n, .int .i64 d] w fun e w' => e = .returned (.bool true) ∧ w' = w := by
  rcases ht with rfl | ⟨rfl, hqn'⟩
  · rw [Int.add_zero] at hP
    rw [Int.zero_mul] at hPn hPn'
    rw [Int.neg_zero] at hst
    rcases hm with rfl | rfl | rfl
    all_goals
      try have h0 := h0 rfl
      try have h2 := h2 rfl
      clear h1
      go_enter Try.func5, Try.ntmps5
      go_wp2_with (first | (go_at_call 6; refine (step_any _ _ _ _ _ (by omega) (by omega) (by omega) (by omega)).mono ?_; rintro e w' ⟨rfl, rfl⟩) | (go_at_call 8; refine (mag_at _ N _ (by omega) (by omega) (by omega)).mono ?_; rintro e w' ⟨rfl, rfl⟩) | (go_at_call 8; refine (mag_at _ q _ (by omega) (by omega) (by omega)).mono ?_; rintro e w' ⟨rfl, rfl⟩) | go_in)
      all_goals go_ret
      all_goals exact ⟨ret_true (by first | rfl | (simp only [decide_eq_true_eq]; omega)), rfl⟩
  · rw [Int.one_mul] at hPn hPn'
    rcases hm with rfl | rfl | rfl
    all_goals
      try (exfalso; have h1 := h1 rfl; omega)
    all_goals
      try have h0 := h0 rfl
      try have h2 := h2 rfl
      clear h1
      go_enter Try.func5, Try.ntmps5
      go_wp2_with (first | (go_at_call 6; refine (step_any _ _ _ _ _ (by omega) (by omega) (by omega) (by omega)).mono ?_; rintro e w' ⟨rfl, rfl⟩) | (go_at_call 8; refine (mag_at _ N _ (by omega) (by omega) (by omega)).mono ?_; rintro e w' ⟨rfl, rfl⟩) | (go_at_call 8; refine (mag_at _ (q + 1) _ (by omega) (by omega) (by omega)).mono ?_; rintro e w' ⟨rfl, rfl⟩) | go_in)
      all_goals go_ret
      all_goals exact ⟨ret_true (by first | rfl | (simp only [decide_eq_true_eq]; omega)), rfl⟩

/-- zzRoundedOK answers true at every mode, every n and every d > 0 -/
theorem rounded_ok (m n d : Int) (w : World) (hm : m = 0 ∨ m = 1 ∨ m = 2) (hd0 : 0 < d) (hd : d ≤ 9223372036854775807) (hn1 : -9223372036854775808 ≤ n) (hn2 : n ≤ 9223372036854775807) :
    Calls Try.prog 5 #[.int .i64 m, .int .i64 n, .int .i64 d] w fun e w' => e = .returned (.bool true) ∧ w' = w := by
  by_cases hz : n = 0
  · subst hz
    exact zero_at m d w hm hd0 hd
  by_cases hp : 0 < n
  · have hr0 := Int.emod_nonneg n (show d ≠ 0 by omega)
    have hrd := Int.emod_lt_of_pos n hd0
    have hq0 : 0 ≤ n / d := Int.ediv_nonneg (by omega) (by omega)
    have he := Int.mul_ediv_add_emod n d
    have hle : n / d ≤ d * (n / d) := by
      have := Int.mul_le_mul_of_nonneg_right (show 1 ≤ d by omega) hq0
      omega
    have ht : stp m 1 (n % d) d = 0 ∨ stp m 1 (n % d) d = 1 ∧ n / d < n := by
      unfold stp
      repeat split
      all_goals omega
    have hP : (n / d + stp m 1 (n % d) d) * d = n - n % d + stp m 1 (n % d) d * d := by
      rw [Int.add_mul, Int.mul_comm (n / d) d]
      omega
    have hb : 0 ≤ stp m 1 (n % d) d * d ∧ stp m 1 (n % d) d * d ≤ d := by
      rcases ht with h | ⟨h, _⟩ <;> rw [h] <;> omega
    refine pos_at m n d (n / d) (n % d) (stp m 1 (n % d) d) _ w hm hd0 hd hp hn2 rfl rfl hq0 (by omega) hr0 hrd rfl ht hP (by omega) (by omega) (by omega) ?_ ?_ ?_ (wrap_u64 _ (by omega) (by omega))
    all_goals
      unfold stp
      intro hm'
      subst hm'
      repeat split
      all_goals omega
  · have e1 : n.tdiv d = -((-n) / d) := by
      rw [show n = -(-n) by omega, Int.neg_tdiv, Int.tdiv_eq_ediv_of_nonneg (by omega), Int.neg_neg]
    have e2 : n.tmod d = -((-n) % d) := by
      rw [show n = -(-n) by omega, Int.neg_tmod, Int.tmod_eq_emod_of_nonneg (by omega), Int.neg_neg]
    have hr0 := Int.emod_nonneg (-n) (show d ≠ 0 by omega)
    have hrd := Int.emod_lt_of_pos (-n) hd0
    have hq0 : 0 ≤ -n / d := Int.ediv_nonneg (by omega) (by omega)
    have he := Int.mul_ediv_add_emod (-n) d
    have hle : -n / d ≤ d * (-n / d) := by
      have := Int.mul_le_mul_of_nonneg_right (show 1 ≤ d by omega) hq0
      omega
    have ht : -stp m (-1) (-(-n % d)) d = 0 ∨ -stp m (-1) (-(-n % d)) d = 1 ∧ -n / d + 1 ≤ -n := by
      unfold stp
      repeat split
      all_goals omega
    have hP : (-n / d + -stp m (-1) (-(-n % d)) d) * d = -n - -n % d + -stp m (-1) (-(-n % d)) d * d := by
      rw [Int.add_mul, Int.mul_comm (-n / d) d]
      omega
    have hb : 0 ≤ -stp m (-1) (-(-n % d)) d * d ∧ -stp m (-1) (-(-n % d)) d * d ≤ d := by
      rcases ht with h | ⟨h, _⟩ <;> rw [h] <;> omega
    refine neg_at m n (-n) d (-n / d) (-n % d) (-stp m (-1) (-(-n % d)) d) _ w hm hd0 hd (by omega) (by omega) (by omega) (by omega) e1 e2 rfl hq0 (by omega) hr0 hrd (by omega) ht hP (by omega) (by omega) (by omega) ?_ ?_ ?_ (wrap_u64 _ (by omega) (by omega))
    all_goals
      unfold stp
      intro hm'
      subst hm'
      repeat split
      all_goals omega

/-! ### The walk -/
theorem walk_no (n d : Int) (w : World) (h : d ≤ 0) :
    Calls Try.prog 3 #[.int .i64 n, .int .i64 d] w fun e w' => e = .returned (.bool true) ∧ w' = w := by
  go_enter Try.func3, Try.ntmps3
  go_wp2
  go_ret
  exact ⟨rfl, rfl⟩

theorem walk_yes (n d : Int) (w : World) (hd0 : 0 < d) (hd : d ≤ 9223372036854775807) (hn1 : -9223372036854775808 ≤ n) (hn2 : n ≤ 9223372036854775807) :
    Calls Try.prog 3 #[.int .i64 n, .int .i64 d] w fun e w' => e = .returned (.bool true) ∧ w' = w := by
  go_enter Try.func3, Try.ntmps3
  go_wp2_with (go_at_call 5; refine (rounded_ok _ _ _ _ (by omega) (by omega) (by omega) (by omega) (by omega)).mono ?_; rintro e w' ⟨rfl, rfl⟩)
  go_ret
  exact ⟨rfl, rfl⟩

theorem walk (a0 : Int) (a1 : Int) (w0 : (Lit.int .i64 a0).wf = true) (w1 : (Lit.int .i64 a1).wf = true) (w : World) :
    Calls Try.prog 3 #[.int .i64 a0, .int .i64 a1] w fun e w' => e = .returned (.bool true) ∧ Grown w w' := by
  have b0 := bounds_i64 w0
  have b1 := bounds_i64 w1
  have fin : ∀ (e : Ending) (w' : World), e = .returned (.bool true) ∧ w' = w → e = .returned (.bool true) ∧ Grown w w' := by
    rintro e w' ⟨rfl, rfl⟩
    exact ⟨rfl, Grown.refl _⟩
  by_cases c : a1 ≤ 0
  · exact (walk_no a0 a1 w c).mono fin
  · exact (walk_yes a0 a1 w (by omega) b1.2 b0.1 b0.2).mono fin

/-! ### THE ROW's STEP: WRITTEN OUT: LEAVE IT -/
set_option maxRecDepth 100000 in
theorem lifted (os : Os) (started : os.Started) (H : Type) (enc : TypeId × Value → H) :
    ReturnsInHanded {} Try.checked os 3 .any (Rows.fnStepRoundsAQuotientAsItsModeSaysSpec.pre6 enc Try.prog Try.f3 Rows.fnStepRoundsAQuotientAsItsModeSaysRow.domain false) (Rows.fnStepRoundsAQuotientAsItsModeSaysSpec.post enc Try.prog Try.f3 false true false false) := by
  refine returnsInHanded_of_change (C := Try.checked) own started (by kernel_rfl) Try.func3
    (ChangeSpec.witness6 (enc := enc) (C := Try.checked) false ⟨#[], #[.int .i64 0, .int .i64 0], []⟩ 8 (by kernel_rfl) (by kernel_rfl) (by kernel_rfl) (by kernel_rfl)) ?_
  intro W base args ds gs before hval0 hW hcnd _
  have hval : ∀ (j : Nat) t v, Try.f3.params[j]? = some t → args[j]? = some v → Value.okWide Try.prog W .any base t v := hval0
  have hW' := hW
  obtain ⟨p, q, hA0, hV, rfl, hfz, hnd⟩ := hW
  have hA : DataW.TrodAll enc Try.prog W 0 (fun _ => true) true Try.f3.params.toList args.toList ds p := hA0
  rw [Try.params3] at hA hval
  obtain ⟨v0, vs0, d0, ds0, p0, q0, hargs, rfl, rfl, h0, r0⟩ := trodAll_cons hA
  obtain ⟨v1, vs1, d1, ds1, p1, q1, rfl, rfl, rfl, h1, r1⟩ := trodAll_cons r0
  obtain ⟨rfl, rfl, rfl⟩ := trodAll_nil r1
  obtain rfl : args = #[v0, v1] := by cases args; simp_all
  obtain ⟨rfl, rfl⟩ := trodVars_none hV
  obtain ⟨a0, rfl, rfl, rfl, w0⟩ := open_int Try.underlying2 (hval 0 2 v0 rfl rfl) h0
  obtain ⟨a1, rfl, rfl, rfl, w1⟩ := open_int Try.underlying2 (hval 1 2 v1 rfl rfl) h1
  clear hA0 hval0
  simp only [List.append_nil] at hW'
  refine (walk a0 a1 w0 w1 W).mono fun e W' ⟨he, hg⟩ => ?_
  subst he
  exact ⟨_, rfl, post_of_same (pa := []) (pv := []) hW' (fun _ _ _ => (trodAll_cons_mk (shut_bool Try.underlying4 _) trodAll_mk0)) (fun sp _ => (trodAll_cons_mk (shut_int Try.underlying2 w0) (trodAll_cons_mk (shut_int Try.underlying2 w1) trodAll_mk0))) (fun _ _ => rfl) rfl
    (hg.frame _) hg.2.1 (ok_one (by kernel_rfl) rfl (okWide_bool_mk Try.underlying4 _))⟩

theorem over : Rows.fnStepRoundsAQuotientAsItsModeSaysRow.holds Try.pinned (OpenSpec.ofChange Rows.fnStepRoundsAQuotientAsItsModeSaysSpec) :=
  OpenClaim.holds_of_wide 3 Try.f3 rfl rfl rfl rfl rfl rfl rfl ⟨rfl, rfl, rfl, rfl, rfl⟩ rfl rfl rfl rfl rfl (by kernel_rfl) Try.func3 (by kernel_rfl)
    (of_decide_eq_true (by kernel_rfl)) (by unfold Func.isWrapper; first | (rw [if_pos (by decide +kernel)]; kernel_rfl) | (rw [if_neg (by decide +kernel)]; exact ⟨rfl, rfl⟩))
    (fun os started H enc _ => lifted os started H enc)

/-- ████ THE STATEMENT ████ -/
theorem proved : Rows.FnStepRoundsAQuotientAsItsModeSaysSaid :=
  over
#print axioms proved
end Go.Proofs.Qxb6600135a.fnStepRoundsAQuotientAsItsModeSays
