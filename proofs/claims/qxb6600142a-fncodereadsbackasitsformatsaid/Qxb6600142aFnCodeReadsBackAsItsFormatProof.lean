/-
  Proof of 'Rows.FnCodeReadsBackAsItsFormatSaid' (the frame: written by proof-skeleton.mjs for this function; 'Below' for 'Grown': strings.Builder marks its own new bytes).
-/
import Derived.Test.Qxb6600142aParse
import Derived.WalkKit
import Derived.ProofKit
import Derived.OpenShut
import Derived.ShutString
import Derived.ChangeOld
namespace Go.Proofs.Qxb6600142a.fnCodeReadsBackAsItsFormat
open Go.ChangeShapes Go.WideShapes Go.ChangeAt Go.RowKit
open Go.ChangeMaps (open_string shut_string)
set_option linter.unusedVariables false      -- a walk need not use every 'w<i>' (that an integer argument fits its kind)

theorem own : ownKnob Try.prog.godebug = none := by kernel_rfl

/-! ### The walk -/
theorem early (a0 : Bool) (a1 : Int) (a2 : Bool) (w : World) (h : 65536 < a1) :
    Calls Try.prog 3 #[.bool a0, .int .i64 a1, .bool a2] w fun e w' => e = .returned (.bool true) ∧ w' = w := by
  go_enter Try.func3, Try.ntmps3
  go_wp2
  go_ret
  exact ⟨rfl, rfl⟩

set_option maxHeartbeats 1000000 in
theorem main (a0 : Bool) (a1 : Int) (a2 : Bool) (w : World) (h1 : a1 ≤ 65536) :
    Calls Try.prog 3 #[.bool a0, .int .i64 a1, .bool a2] w fun e w' => e = .returned (.bool true) ∧ Below w.heap.size w w' := by
  have C1 : Hid (∀ W : World, Calls Try.prog 6 #[.bool a0, .int .i64 a1, .bool a2] W fun e w' => ∃ S : ByteArray, e = .returned (.string S) ∧ S.data.toList = codeL a0 a1 a2 ∧ Below W.heap.size W w') := fun W => code_any a0 a1 a2 W h1
  have C2 : Hid (∀ (S : ByteArray) (W : World), S.data.toList = codeL a0 a1 a2 → Calls Try.prog 5 #[.string S] W fun e w' => e = .returned (.tuple #[.bool true, .bool a0, .int .i64 (if a0 then 0 else alz a1), .bool (if a0 then false else a2)]) ∧ w' = W) := fun S W hS => parse_any a0 a1 a2 S W h1 hS
  cases a0 <;> cases a2
  all_goals
    go_enter Try.func3, Try.ntmps3
    go_wp2_with fail
    refine Calls.mono (C1.out _) ?_
    rintro e w1 ⟨S1, rfl, hS1, hb1⟩
    have C3 := C2.out S1 w1 hS1
    simp only [Bool.false_eq_true, if_false, if_true] at C3
    have HC3 : Hid _ := C3
    clear C1 C2 C3 hS1
    go_wp2_with fail
    refine Calls.mono HC3.out ?_
    rintro e w' ⟨rfl, hw⟩
    have hw := hw.symm
    subst hw
    clear HC3
    go_wp2_with (go_at_call 7; refine (alz_any _ _).mono ?_; rintro e w' ⟨rfl, hw⟩; have hw := hw.symm; subst hw)
    go_ret
    exact ⟨rfl, hb1⟩

theorem walk (a0 : Bool) (a1 : Int) (a2 : Bool) (w1 : (Lit.int .i64 a1).wf = true) (w : World) :
    Calls Try.prog 3 #[.bool a0, .int .i64 a1, .bool a2] w fun e w' => e = .returned (.bool true) ∧ Below w.heap.size w w' := by
  by_cases h : 65536 < a1
  · refine (early a0 a1 a2 w h).mono ?_
    rintro e w' ⟨rfl, rfl⟩
    exact ⟨rfl, Below.refl _ _⟩
  · exact main a0 a1 a2 w (by omega)

/-! ### THE ROW's STEP: WRITTEN OUT: LEAVE IT -/
set_option maxRecDepth 100000 in
theorem lifted (os : Os) (started : os.Started) (H : Type) (enc : TypeId × Value → H) :
    ReturnsInHanded {} Try.checked os 3 .any (Rows.fnCodeReadsBackAsItsFormatSpec.pre6 enc Try.prog Try.f3 Rows.fnCodeReadsBackAsItsFormatRow.domain false) (Rows.fnCodeReadsBackAsItsFormatSpec.post enc Try.prog Try.f3 false true false false) := by
  refine returnsInHanded_of_change (C := Try.checked) own started (by kernel_rfl) Try.func3
    (ChangeSpec.witness6 (enc := enc) (C := Try.checked) false ⟨#[], #[.bool false, .int .i64 0, .bool false], []⟩ 8 (by kernel_rfl) (by kernel_rfl) (by kernel_rfl) (by kernel_rfl)) ?_
  intro W base args ds gs before hval0 hW hcnd _
  have hval : ∀ (j : Nat) t v, Try.f3.params[j]? = some t → args[j]? = some v → Value.okWide Try.prog W .any base t v := hval0
  have hW' := hW
  obtain ⟨p, q, hA0, hV, rfl, hfz, hnd⟩ := hW
  have hA : DataW.TrodAll enc Try.prog W 0 (fun _ => true) true Try.f3.params.toList args.toList ds p := hA0
  rw [Try.params3] at hA hval
  obtain ⟨v0, vs0, d0, ds0, p0, q0, hargs, rfl, rfl, h0, r0⟩ := trodAll_cons hA
  obtain ⟨v1, vs1, d1, ds1, p1, q1, rfl, rfl, rfl, h1, r1⟩ := trodAll_cons r0
  obtain ⟨v2, vs2, d2, ds2, p2, q2, rfl, rfl, rfl, h2, r2⟩ := trodAll_cons r1
  obtain ⟨rfl, rfl, rfl⟩ := trodAll_nil r2
  obtain rfl : args = #[v0, v1, v2] := by cases args; simp_all
  obtain ⟨rfl, rfl⟩ := trodVars_none hV
  obtain ⟨a0, rfl, rfl, rfl⟩ := open_bool Try.underlying4 (hval 0 4 v0 rfl rfl) h0
  obtain ⟨a1, rfl, rfl, rfl, w1⟩ := open_int Try.underlying3 (hval 1 3 v1 rfl rfl) h1
  obtain ⟨a2, rfl, rfl, rfl⟩ := open_bool Try.underlying4 (hval 2 4 v2 rfl rfl) h2
  clear hA0 hval0
  simp only [List.append_nil] at hW'
  refine (walk a0 a1 a2 w1 W).mono fun e W' ⟨he, bel⟩ => ?_
  subst he
  exact ⟨_, rfl, _, _, _, [], [], [], hW', trodAll_mk1 (shut_bool Try.underlying4 _), (trodAll_cons_mk (shut_bool Try.underlying4 _) (trodAll_cons_mk (shut_int Try.underlying3 w1) (trodAll_cons_mk (shut_bool Try.underlying4 _) trodAll_mk0))), rfl, bel.frame _, fun h => by cases h⟩

theorem over : Rows.fnCodeReadsBackAsItsFormatRow.holds Try.pinned (OpenSpec.ofChange Rows.fnCodeReadsBackAsItsFormatSpec) :=
  OpenClaim.holds_of_wide 3 Try.f3 rfl rfl rfl rfl rfl rfl rfl ⟨rfl, rfl, rfl, rfl, rfl⟩ rfl rfl rfl rfl rfl (by kernel_rfl) Try.func3 (by kernel_rfl)
    (of_decide_eq_true (by kernel_rfl)) (by unfold Func.isWrapper; first | (rw [if_pos (by decide +kernel)]; kernel_rfl) | (rw [if_neg (by decide +kernel)]; exact ⟨rfl, rfl⟩))
    (fun os started H enc _ => lifted os started H enc)

/-- ████ THE STATEMENT ████ -/
theorem proved : Rows.FnCodeReadsBackAsItsFormatSaid :=
  over
#print axioms proved
end Go.Proofs.Qxb6600142a.fnCodeReadsBackAsItsFormat
