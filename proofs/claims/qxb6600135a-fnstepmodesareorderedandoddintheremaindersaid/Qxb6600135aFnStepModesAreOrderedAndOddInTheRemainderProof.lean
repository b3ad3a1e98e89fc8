/-
  Proof of 'Rows.FnStepModesAreOrderedAndOddInTheRemainderSaid' (the frame: written by proof-skeleton.mjs for this function).
-/
import Derived.Test.Qxb6600135aStep
import Derived.WalkKit
import Derived.ProofKit
import Derived.OpenShut
import Derived.ShutString
namespace Go.Proofs.Qxb6600135a.fnStepModesAreOrderedAndOddInTheRemainder
open Go.ChangeShapes Go.WideShapes Go.ChangeAt Go.RowKit
open Go.ChangeMaps (open_string shut_string)
set_option linter.unusedVariables false      -- a walk need not use every 'w<i>' (that an integer argument fits its kind)

theorem own : ownKnob Try.prog.godebug = none := by kernel_rfl

/-! ### The walk -/
set_option maxHeartbeats 400000 in
/-- the six answers of 'step' are known: the law's text returns true -/
theorem walk_at (s r d u h p : Int) (w : World) (hd0 : 0 < d) (hd : d ≤ 9223372036854775807) (h1 : r < d) (h2 : -r < d) (hs2 : s ≤ 9223372036854775807) (hs3 : -9223372036854775807 ≤ s)
    (hu : s < 0 ∧ u = -1 ∨ 0 ≤ s ∧ u = 1) (hg : 0 < r ∧ 0 < s ∧ (h = 0 ∨ h = u) ∧ p = u ∨ r < 0 ∧ s < 0 ∧ (h = 0 ∨ h = u) ∧ p = u ∨ r = 0 ∧ h = 0 ∧ p = 0)
    (e1 : stp 1 s r d = 0) (e0 : stp 0 s r d = h) (e2 : stp 2 s r d = p) (f1 : stp 1 (-s) (-r) d = 0) (f0 : stp 0 (-s) (-r) d = -h) (f2 : stp 2 (-s) (-r) d = -p) :
    Calls Try.prog 4 #[.int .i64 s, .int .i64 r, .int .i64 d] w fun e w' => e = .returned (.bool true) ∧ w' = w := by
  rcases hu with ⟨hs, rfl⟩ | ⟨hs, rfl⟩ <;> rcases hg with ⟨hr, hs', hh, rfl⟩ | ⟨hr, hs', hh, rfl⟩ | ⟨rfl, rfl, rfl⟩
  all_goals first
    | (exfalso; omega)
    | (try (rcases hh with rfl | rfl))
  all_goals
    try have hz : (r != 0) = true := by simp; omega
    go_enter Try.func4, Try.ntmps4
    go_wp2_with (first | (go_at_call 6; refine (step_any _ _ _ _ _ (by omega) (by omega) (by omega) (by omega)).mono ?_; rintro e w' ⟨rfl, rfl⟩) | go_in)
    all_goals go_ret
    all_goals exact ⟨rfl, rfl⟩

set_option maxHeartbeats 400000 in
/-- the least int64 as the sign: the law asks no more behind its first tests -/
theorem walk_least (s r d h p : Int) (w : World) (hd0 : 0 < d) (hd : d ≤ 9223372036854775807) (h1 : r < d) (h2 : -r < d) (hs : s < 0) (hs3 : (s == -9223372036854775808) = true)
    (hg : r < 0 ∧ (h = 0 ∨ h = -1) ∧ p = -1 ∨ r = 0 ∧ h = 0 ∧ p = 0)
    (e1 : stp 1 s r d = 0) (e0 : stp 0 s r d = h) (e2 : stp 2 s r d = p) :
    Calls Try.prog 4 #[.int .i64 s, .int .i64 r, .int .i64 d] w fun e w' => e = .returned (.bool true) ∧ w' = w := by
  rcases hg with ⟨hr, hh, rfl⟩ | ⟨rfl, rfl, rfl⟩
  all_goals try (rcases hh with rfl | rfl)
  all_goals
    try have hz : (r != 0) = true := by simp; omega
    go_enter Try.func4, Try.ntmps4
    go_wp2_with (first | (go_at_call 6; refine (step_any _ _ _ _ _ (by omega) (by omega) (by omega) (by omega)).mono ?_; rintro e w' ⟨rfl, rfl⟩) | go_in)
    all_goals go_ret
    all_goals exact ⟨rfl, rfl⟩

/-- behind the law's tests -/
theorem walk_main (s r d : Int) (w : World) (hd0 : 0 < d) (hd : d ≤ 9223372036854775807) (h1 : r < d) (h2 : -r < d) (hs2 : s ≤ 9223372036854775807) (hs3 : -9223372036854775808 ≤ s)
    (ha : 0 < r → 0 < s) (hb : r < 0 → s < 0) :
    Calls Try.prog 4 #[.int .i64 s, .int .i64 r, .int .i64 d] w fun e w' => e = .returned (.bool true) ∧ w' = w := by
  by_cases hm : s = -9223372036854775808
  · refine walk_least s r d (stp 0 s r d) (stp 2 s r d) w hd0 hd h1 h2 (by omega) (by simpa using hm) ?_ (by simp [stp]) rfl rfl
    unfold stp
    repeat split
    all_goals omega
  · refine walk_at s r d (if s < 0 then -1 else 1) (stp 0 s r d) (stp 2 s r d) w hd0 hd h1 h2 hs2 (by omega) ?_ ?_ (by simp [stp]) rfl rfl (by simp [stp]) ?_ ?_
    all_goals try unfold stp
    all_goals repeat split
    all_goals omega

theorem first_no (s r d : Int) (w : World) (h : d ≤ 0 ∨ 0 < d ∧ (r == -9223372036854775808) = true) :
    Calls Try.prog 4 #[.int .i64 s, .int .i64 r, .int .i64 d] w fun e w' => e = .returned (.bool true) ∧ w' = w := by
  rcases h with h | ⟨h, h'⟩
  all_goals
    go_enter Try.func4, Try.ntmps4
    go_wp2
    go_ret
    exact ⟨rfl, rfl⟩

theorem second_no (s r d : Int) (w : World) (hd0 : 0 < d) (hr : -9223372036854775807 ≤ r) (hr2 : r ≤ 9223372036854775807) (h : d ≤ r ∨ r < d ∧ d ≤ -r) :
    Calls Try.prog 4 #[.int .i64 s, .int .i64 r, .int .i64 d] w fun e w' => e = .returned (.bool true) ∧ w' = w := by
  rcases h with h | ⟨h, h'⟩
  all_goals
    go_enter Try.func4, Try.ntmps4
    go_wp2
    all_goals go_ret
    all_goals exact ⟨rfl, rfl⟩

theorem third_no (s r d : Int) (w : World) (hd0 : 0 < d) (hd : d ≤ 9223372036854775807) (h1 : r < d) (h2 : -r < d) (h : 0 < r ∧ s ≤ 0 ∨ r < 0 ∧ 0 ≤ s) :
    Calls Try.prog 4 #[.int .i64 s, .int .i64 r, .int .i64 d] w fun e w' => e = .returned (.bool true) ∧ w' = w := by
  rcases h with ⟨h, h'⟩ | ⟨h, h'⟩
  all_goals
    go_enter Try.func4, Try.ntmps4
    go_wp2
    all_goals go_ret
    all_goals exact ⟨rfl, rfl⟩

theorem walk (a0 : Int) (a1 : Int) (a2 : Int) (w0 : (Lit.int .i64 a0).wf = true) (w1 : (Lit.int .i64 a1).wf = true) (w2 : (Lit.int .i64 a2).wf = true) (w : World) :
    Calls Try.prog 4 #[.int .i64 a0, .int .i64 a1, .int .i64 a2] w fun e w' => e = .returned (.bool true) ∧ Grown w w' := by
  have b0 : -9223372036854775808 ≤ a0 ∧ a0 ≤ 9223372036854775807 := bounds_i64 w0
  have b1 : -9223372036854775808 ≤ a1 ∧ a1 ≤ 9223372036854775807 := bounds_i64 w1
  have b2 : -9223372036854775808 ≤ a2 ∧ a2 ≤ 9223372036854775807 := bounds_i64 w2
  have fin : ∀ (e : Ending) (w' : World), e = .returned (.bool true) ∧ w' = w → e = .returned (.bool true) ∧ Grown w w' := by
    rintro e w' ⟨rfl, rfl⟩
    exact ⟨rfl, Grown.refl _⟩
  by_cases c1 : a2 ≤ 0 ∨ 0 < a2 ∧ (a1 == -9223372036854775808) = true
  · exact (first_no a0 a1 a2 w c1).mono fin
  have c1' : 0 < a2 ∧ a1 ≠ -9223372036854775808 := by
    refine ⟨by omega, fun h => c1 (.inr ⟨by omega, by simpa using h⟩)⟩
  clear c1
  by_cases c2 : a2 ≤ a1 ∨ a1 < a2 ∧ a2 ≤ -a1
  · exact (second_no a0 a1 a2 w c1'.1 (by omega) b1.2 c2).mono fin
  by_cases c3 : 0 < a1 ∧ a0 ≤ 0 ∨ a1 < 0 ∧ 0 ≤ a0
  · exact (third_no a0 a1 a2 w c1'.1 b2.2 (by omega) (by omega) c3).mono fin
  exact (walk_main a0 a1 a2 w c1'.1 b2.2 (by omega) (by omega) b0.2 b0.1 (by omega) (by omega)).mono fin

/-! ### THE ROW's STEP: WRITTEN OUT: LEAVE IT -/
set_option maxRecDepth 100000 in
theorem lifted (os : Os) (started : os.Started) (H : Type) (enc : TypeId × Value → H) :
    ReturnsInHanded {} Try.checked os 4 .any (Rows.fnStepModesAreOrderedAndOddInTheRemainderSpec.pre6 enc Try.prog Try.f4 Rows.fnStepModesAreOrderedAndOddInTheRemainderRow.domain false) (Rows.fnStepModesAreOrderedAndOddInTheRemainderSpec.post enc Try.prog Try.f4 false true false false) := by
  refine returnsInHanded_of_change (C := Try.checked) own started (by kernel_rfl) Try.func4
    (ChangeSpec.witness6 (enc := enc) (C := Try.checked) false ⟨#[], #[.int .i64 0, .int .i64 0, .int .i64 0], []⟩ 8 (by kernel_rfl) (by kernel_rfl) (by kernel_rfl) (by kernel_rfl)) ?_
  intro W base args ds gs before hval0 hW hcnd _
  have hval : ∀ (j : Nat) t v, Try.f4.params[j]? = some t → args[j]? = some v → Value.okWide Try.prog W .any base t v := hval0
  have hW' := hW
  obtain ⟨p, q, hA0, hV, rfl, hfz, hnd⟩ := hW
  have hA : DataW.TrodAll enc Try.prog W 0 (fun _ => true) true Try.f4.params.toList args.toList ds p := hA0
  rw [Try.params4] at hA hval
  obtain ⟨v0, vs0, d0, ds0, p0, q0, hargs, rfl, rfl, h0, r0⟩ := trodAll_cons hA
  obtain ⟨v1, vs1, d1, ds1, p1, q1, rfl, rfl, rfl, h1, r1⟩ := trodAll_cons r0
  obtain ⟨v2, vs2, d2, ds2, p2, q2, rfl, rfl, rfl, h2, r2⟩ := trodAll_cons r1
  obtain ⟨rfl, rfl, rfl⟩ := trodAll_nil r2
  obtain rfl : args = #[v0, v1, v2] := by cases args; simp_all
  obtain ⟨rfl, rfl⟩ := trodVars_none hV
  obtain ⟨a0, rfl, rfl, rfl, w0⟩ := open_int Try.underlying2 (hval 0 2 v0 rfl rfl) h0
  obtain ⟨a1, rfl, rfl, rfl, w1⟩ := open_int Try.underlying2 (hval 1 2 v1 rfl rfl) h1
  obtain ⟨a2, rfl, rfl, rfl, w2⟩ := open_int Try.underlying2 (hval 2 2 v2 rfl rfl) h2
  clear hA0 hval0
  simp only [List.append_nil] at hW'
  refine (walk a0 a1 a2 w0 w1 w2 W).mono fun e W' ⟨he, hg⟩ => ?_
  subst he
  exact ⟨_, rfl, post_of_same (pa := []) (pv := []) hW' (fun _ _ _ => (trodAll_cons_mk (shut_bool Try.underlying4 _) trodAll_mk0)) (fun sp _ => (trodAll_cons_mk (shut_int Try.underlying2 w0) (trodAll_cons_mk (shut_int Try.underlying2 w1) (trodAll_cons_mk (shut_int Try.underlying2 w2) trodAll_mk0)))) (fun _ _ => rfl) rfl
    (hg.frame _) hg.2.1 (ok_one (by kernel_rfl) rfl (okWide_bool_mk Try.underlying4 _))⟩

theorem over : Rows.fnStepModesAreOrderedAndOddInTheRemainderRow.holds Try.pinned (OpenSpec.ofChange Rows.fnStepModesAreOrderedAndOddInTheRemainderSpec) :=
  OpenClaim.holds_of_wide 4 Try.f4 rfl rfl rfl rfl rfl rfl rfl ⟨rfl, rfl, rfl, rfl, rfl⟩ rfl rfl rfl rfl rfl (by kernel_rfl) Try.func4 (by kernel_rfl)
    (of_decide_eq_true (by kernel_rfl)) (by unfold Func.isWrapper; first | (rw [if_pos (by decide +kernel)]; kernel_rfl) | (rw [if_neg (by decide +kernel)]; exact ⟨rfl, rfl⟩))
    (fun os started H enc _ => lifted os started H enc)

/-- ████ THE STATEMENT ████ -/
theorem proved : Rows.FnStepModesAreOrderedAndOddInTheRemainderSaid :=
  over
#print axioms proved
end Go.Proofs.Qxb6600135a.fnStepModesAreOrderedAndOddInTheRemainder
