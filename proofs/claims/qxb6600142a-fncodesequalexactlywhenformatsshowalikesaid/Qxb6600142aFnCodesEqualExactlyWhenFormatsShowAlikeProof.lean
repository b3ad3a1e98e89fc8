/-
  Proof of 'Rows.FnCodesEqualExactlyWhenFormatsShowAlikeSaid' (the frame: written by proof-skeleton.mjs for this function; 'Below' for 'Grown': strings.Builder marks its own new bytes).
-/
import Derived.Test.Qxb6600142aCode
import Derived.WalkKit
import Derived.ProofKit
import Derived.OpenShut
import Derived.ShutString
import Derived.ChangeOld
namespace Go.Proofs.Qxb6600142a.fnCodesEqualExactlyWhenFormatsShowAlike
open Go.ChangeShapes Go.WideShapes Go.ChangeAt Go.RowKit
open Go.ChangeMaps (open_string shut_string)
set_option linter.unusedVariables false      -- a walk need not use every 'w<i>' (that an integer argument fits its kind)

theorem own : ownKnob Try.prog.godebug = none := by kernel_rfl

/-! ### The walk -/
theorem early (a0 : Bool) (a1 : Int) (a2 : Bool) (a3 : Bool) (a4 : Int) (a5 : Bool) (w : World) (h : 65536 < a1 ∨ a1 ≤ 65536 ∧ 65536 < a4) :
    Calls Try.prog 4 #[.bool a0, .int .i64 a1, .bool a2, .bool a3, .int .i64 a4, .bool a5] w fun e w' => e = .returned (.bool true) ∧ w' = w := by
  rcases h with h | ⟨h, h'⟩
  all_goals
    go_enter Try.func4, Try.ntmps4
    go_wp2
    go_ret
    exact ⟨rfl, rfl⟩

set_option maxHeartbeats 4000000 in
/-- the two texts are equal or not, as E says; E is what 'alike' comes to -/
theorem main_at (a0 : Bool) (a1 : Int) (a2 : Bool) (a3 : Bool) (a4 : Int) (a5 : Bool) (E A : Bool) (w : World) (h1 : a1 ≤ 65536) (h4 : a4 ≤ 65536)
    (hE : (codeL a0 a1 a2 == codeL a3 a4 a5) = E) (hA : (alz a1 == alz a4) = A) (hEA : E = (a0 == a3 && (a0 || (A && (a2 == a5))))) :
    Calls Try.prog 4 #[.bool a0, .int .i64 a1, .bool a2, .bool a3, .int .i64 a4, .bool a5] w fun e w' => e = .returned (.bool true) ∧ Below w.heap.size w w' := by
  have C1 : Hid (∀ W : World, Calls Try.prog 6 #[.bool a0, .int .i64 a1, .bool a2] W fun e w' => ∃ S : ByteArray, e = .returned (.string S) ∧ S.data.toList = codeL a0 a1 a2 ∧ Below W.heap.size W w') := fun W => code_any a0 a1 a2 W h1
  have C2 : Hid (∀ W : World, Calls Try.prog 6 #[.bool a3, .int .i64 a4, .bool a5] W fun e w' => ∃ S : ByteArray, e = .returned (.string S) ∧ S.data.toList = codeL a3 a4 a5 ∧ Below W.heap.size W w') := fun W => code_any a3 a4 a5 W h4
  have HE : Hid ((codeL a0 a1 a2 == codeL a3 a4 a5) = E) := hE
  have HEA : Hid (E = (a0 == a3 && (a0 || (A && (a2 == a5))))) := hEA
  clear hE hEA
  cases a0 <;> cases a3 <;> cases a2 <;> cases a5 <;> cases A <;> cases E
  all_goals try (exact absurd HEA.out (by decide))
  all_goals
    go_enter Try.func4, Try.ntmps4
    go_wp2_with fail
    refine Calls.mono (C1.out _) ?_
    rintro e w1 ⟨S1, rfl, hS1, hb1⟩
    go_wp2_with fail
    refine Calls.mono (C2.out _) ?_
    rintro e w2 ⟨S2, rfl, hS2, hb2⟩
    have heq := HE.out
    rw [← hS1, ← hS2, ← ByteArray.toList_eq S1, ← ByteArray.toList_eq S2] at heq
    have HB : Hid (Below w.heap.size w w2) := hb1.trans (hb2.mono hb1.size)
    clear hS1 hS2 hb1 hb2 C1 C2 HE HEA
    go_wp2_with (go_at_call 7; refine (alz_any _ _).mono ?_; rintro e w' ⟨rfl, hw⟩; have hw := hw.symm; subst hw)
    go_ret
    exact ⟨rfl, HB.out⟩

theorem walk (a0 : Bool) (a1 : Int) (a2 : Bool) (a3 : Bool) (a4 : Int) (a5 : Bool) (w1 : (Lit.int .i64 a1).wf = true) (w4 : (Lit.int .i64 a4).wf = true) (w : World) :
    Calls Try.prog 4 #[.bool a0, .int .i64 a1, .bool a2, .bool a3, .int .i64 a4, .bool a5] w fun e w' => e = .returned (.bool true) ∧ Below w.heap.size w w' := by
  by_cases h : 65536 < a1 ∨ a1 ≤ 65536 ∧ 65536 < a4
  · refine (early a0 a1 a2 a3 a4 a5 w h).mono ?_
    rintro e w' ⟨rfl, rfl⟩
    exact ⟨rfl, Below.refl _ _⟩
  · refine main_at a0 a1 a2 a3 a4 a5 _ _ w (by omega) (by omega) rfl rfl ?_
    cases a0 <;> cases a3
    · rw [Bool.eq_iff_iff]
      simp only [beq_iff_eq, Bool.and_eq_true, Bool.or_eq_true]
      constructor
      · intro h'
        have := codeL_eq _ _ _ _ h'
        exact ⟨trivial, .inr this⟩
      · rintro ⟨_, h' | ⟨h1, h2⟩⟩
        · cases h'
        · rw [← h2]
          exact codeL_alike _ _ _ h1
    · have := (codeL_ne a4 a1 a5 a2).symm
      simpa using this
    · have := codeL_ne a1 a4 a2 a5
      simpa using this
    · simp [codeL_date a1 a4 a2 a5]

/-! ### THE ROW's STEP: WRITTEN OUT: LEAVE IT -/
set_option maxRecDepth 100000 in
theorem lifted (os : Os) (started : os.Started) (H : Type) (enc : TypeId × Value → H) :
    ReturnsInHanded {} Try.checked os 4 .any (Rows.fnCodesEqualExactlyWhenFormatsShowAlikeSpec.pre6 enc Try.prog Try.f4 Rows.fnCodesEqualExactlyWhenFormatsShowAlikeRow.domain false) (Rows.fnCodesEqualExactlyWhenFormatsShowAlikeSpec.post enc Try.prog Try.f4 false true false false) := by
  refine returnsInHanded_of_change (C := Try.checked) own started (by kernel_rfl) Try.func4
    (ChangeSpec.witness6 (enc := enc) (C := Try.checked) false ⟨#[], #[.bool false, .int .i64 0, .bool false, .bool false, .int .i64 0, .bool false], []⟩ 8 (by kernel_rfl) (by kernel_rfl) (by kernel_rfl) (by kernel_rfl)) ?_
  intro W base args ds gs before hval0 hW hcnd _
  have hval : ∀ (j : Nat) t v, Try.f4.params[j]? = some t → args[j]? = some v → Value.okWide Try.prog W .any base t v := hval0
  have hW' := hW
  obtain ⟨p, q, hA0, hV, rfl, hfz, hnd⟩ := hW
  have hA : DataW.TrodAll enc Try.prog W 0 (fun _ => true) true Try.f4.params.toList args.toList ds p := hA0
  rw [Try.params4] at hA hval
  obtain ⟨v0, vs0, d0, ds0, p0, q0, hargs, rfl, rfl, h0, r0⟩ := trodAll_cons hA
  obtain ⟨v1, vs1, d1, ds1, p1, q1, rfl, rfl, rfl, h1, r1⟩ := trodAll_cons r0
  obtain ⟨v2, vs2, d2, ds2, p2, q2, rfl, rfl, rfl, h2, r2⟩ := trodAll_cons r1
  obtain ⟨v3, vs3, d3, ds3, p3, q3, rfl, rfl, rfl, h3, r3⟩ := trodAll_cons r2
  obtain ⟨v4, vs4, d4, ds4, p4, q4, rfl, rfl, rfl, h4, r4⟩ := trodAll_cons r3
  obtain ⟨v5, vs5, d5, ds5, p5, q5, rfl, rfl, rfl, h5, r5⟩ := trodAll_cons r4
  obtain ⟨rfl, rfl, rfl⟩ := trodAll_nil r5
  obtain rfl : args = #[v0, v1, v2, v3, v4, v5] := by cases args; simp_all
  obtain ⟨rfl, rfl⟩ := trodVars_none hV
  obtain ⟨a0, rfl, rfl, rfl⟩ := open_bool Try.underlying4 (hval 0 4 v0 rfl rfl) h0
  obtain ⟨a1, rfl, rfl, rfl, w1⟩ := open_int Try.underlying3 (hval 1 3 v1 rfl rfl) h1
  obtain ⟨a2, rfl, rfl, rfl⟩ := open_bool Try.underlying4 (hval 2 4 v2 rfl rfl) h2
  obtain ⟨a3, rfl, rfl, rfl⟩ := open_bool Try.underlying4 (hval 3 4 v3 rfl rfl) h3
  obtain ⟨a4, rfl, rfl, rfl, w4⟩ := open_int Try.underlying3 (hval 4 3 v4 rfl rfl) h4
  obtain ⟨a5, rfl, rfl, rfl⟩ := open_bool Try.underlying4 (hval 5 4 v5 rfl rfl) h5
  clear hA0 hval0
  simp only [List.append_nil] at hW'
  refine (walk a0 a1 a2 a3 a4 a5 w1 w4 W).mono fun e W' ⟨he, bel⟩ => ?_
  subst he
  exact ⟨_, rfl, _, _, _, [], [], [], hW', trodAll_mk1 (shut_bool Try.underlying4 _), (trodAll_cons_mk (shut_bool Try.underlying4 _) (trodAll_cons_mk (shut_int Try.underlying3 w1) (trodAll_cons_mk (shut_bool Try.underlying4 _) (trodAll_cons_mk (shut_bool Try.underlying4 _) (trodAll_cons_mk (shut_int Try.underlying3 w4) (trodAll_cons_mk (shut_bool Try.underlying4 _) trodAll_mk0)))))), rfl, bel.frame _, fun h => by cases h⟩

theorem over : Rows.fnCodesEqualExactlyWhenFormatsShowAlikeRow.holds Try.pinned (OpenSpec.ofChange Rows.fnCodesEqualExactlyWhenFormatsShowAlikeSpec) :=
  OpenClaim.holds_of_wide 4 Try.f4 rfl rfl rfl rfl rfl rfl rfl ⟨rfl, rfl, rfl, rfl, rfl⟩ rfl rfl rfl rfl rfl (by kernel_rfl) Try.func4 (by kernel_rfl)
    (of_decide_eq_true (by kernel_rfl)) (by unfold Func.isWrapper; first | (rw [if_pos (by decide +kernel)]; kernel_rfl) | (rw [if_neg (by decide +kernel)]; exact ⟨rfl, rfl⟩))
    (fun os started H enc _ => lifted os started H enc)

/-- ████ THE STATEMENT ████ -/
theorem proved : Rows.FnCodesEqualExactlyWhenFormatsShowAlikeSaid :=
  over
#print axioms proved
end Go.Proofs.Qxb6600142a.fnCodesEqualExactlyWhenFormatsShowAlike
