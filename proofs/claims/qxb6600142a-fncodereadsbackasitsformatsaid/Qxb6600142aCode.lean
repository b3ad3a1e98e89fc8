/-
  The code of a number format: (numberFormat).code (8), ZZNumberFormatCode (6), xlsxB1AtLeastZero (7).
-/
import Derived.Test.Qxb6600142aRows
import Derived.Test.Qxb6600142aShelf
import Derived.WalkKit
import Derived.WalkSpells
import Derived.Below
namespace Go.Proofs.Qxb6600142a
open Go.RowKit
set_option linter.unusedVariables false

/-- the text of the code, as bytes -/
def codeL (date : Bool) (n : Int) (pct : Bool) : List UInt8 :=
  if date then [121, 121, 121, 121, 45, 109, 109, 45, 100, 100]
  else [48] ++ (if 0 < n then 46 :: List.replicate n.toNat 48 else []) ++ (if pct then [37] else [])

theorem repeat_zeros (c : Nat) : Lib.repeatL [48] c = List.replicate c 48 := by
  induction c with
  | zero => rfl
  | succ c ih => rw [Lib.repeatL, ih]; rfl

theorem bcell {W w1 : World} (hb : Below W.heap.size W w1) : (∀ b o, b < W.heap.size → w1.cell? ⟨b, o, none⟩ = W.cell? ⟨b, o, none⟩) :=
  fun b o h => hb.cell (p := ⟨b, o, none⟩) h

theorem code_date (n : Int) (pct : Bool) (w : World) :
    Calls Try.prog 6 #[.bool true, .int .i64 n, .bool pct] w fun e w' => ∃ S : ByteArray, e = .returned (.string S) ∧ S.data.toList = codeL true n pct ∧ Below w.heap.size w w' := by
  go_enter Try.func6, Try.ntmps6
  go_wp2
  go_ret
  exact ⟨_, rfl, rfl, (Below.refl _ _).alloc (Nat.le_refl _) _⟩

theorem code_plain (n : Int) (pct : Bool) (w : World) (hn : n ≤ 0) :
    Calls Try.prog 6 #[.bool false, .int .i64 n, .bool pct] w fun e w' => ∃ S : ByteArray, e = .returned (.string S) ∧ S.data.toList = codeL false n pct ∧ Below w.heap.size w w' := by
  have e : codeL false n pct = [48] ++ (if pct then [37] else []) := by simp [codeL, show ¬ 0 < n by omega]
  rw [e]
  clear e
  cases pct
  all_goals
    go_enter Try.func6, Try.ntmps6
    go_wp2
    go_ret
    exact ⟨_, rfl, rfl, (Below.refl _ _).alloc (Nat.le_refl _) _⟩

theorem code_dec (n : Nat) (pct : Bool) (w : World) (hn : 0 < n) (hn2 : n ≤ 65536) :
    Calls Try.prog 6 #[.bool false, .int .i64 n, .bool pct] w fun e w' => ∃ S : ByteArray, e = .returned (.string S) ∧ S.data.toList = codeL false n pct ∧ Below w.heap.size w w' := by
  have e : codeL false n pct = [48] ++ (46 :: List.replicate n 48) ++ (if pct then [37] else []) := by
    simp only [codeL, show (0 : Int) < (n : Int) by omega, if_true, Bool.false_eq_true, if_false, Int.toNat_natCast]
  rw [e]
  clear e
  have R : Hid (∀ W : World, Calls Try.prog 9 #[.string ⟨#[48]⟩, .int .i64 n] W fun e w' => ∃ S : ByteArray, e = .returned (.string S) ∧ S.data.toList = List.replicate n 48 ∧ S.size = n ∧ Below W.heap.size W w') := by
    intro W
    refine (Try.strings_Repeat ⟨#[48]⟩ n W (by omega) (by show 1 * n ≤ _; omega)).mono ?_
    rintro e w' ⟨rfl, hb⟩
    refine ⟨_, rfl, ?_, ?_, hb⟩
    · show Lib.repeatL [48] n = _
      exact repeat_zeros n
    · show (Lib.repeatL [48] n).length = n
      rw [repeat_zeros, List.length_replicate]
  cases pct
  all_goals
    go_enter Try.func6, Try.ntmps6
    go_wp2_with (first | (go_at_call 8; go_in))
    refine Calls.mono (R.out _) ?_
    rintro e w1 ⟨S, rfl, hS, hsz, hb⟩
    have hc := bcell hb
    have HS : Hid (S.data.toList = List.replicate n 48) := hS
    have hz : w.heap.size < w1.heap.size := by have := hb.size; simp at this; omega
    have hs1 : S.size ≤ 65536 := by omega
    clear hS hsz R
    go_wp2
    go_ret
    refine ⟨_, rfl, ?_, ((Below.refl w.heap.size w).alloc (Nat.le_refl _) _).trans (hb.mono (by simp))⟩
    simp [HS.out]

/-- ZZNumberFormatCode: the text of the code -/
theorem code_any (date : Bool) (n : Int) (pct : Bool) (w : World) (hn : n ≤ 65536) :
    Calls Try.prog 6 #[.bool date, .int .i64 n, .bool pct] w fun e w' => ∃ S : ByteArray, e = .returned (.string S) ∧ S.data.toList = codeL date n pct ∧ Below w.heap.size w w' := by
  cases date with
  | true => exact code_date n pct w
  | false =>
    by_cases h : n ≤ 0
    · exact code_plain n pct w h
    · obtain ⟨k, rfl⟩ : ∃ k : Nat, n = k := ⟨n.toNat, by omega⟩
      exact code_dec k pct w (by omega) (by omega)

/-- at least zero -/
def alz (n : Int) : Int := if n < 0 then 0 else n

theorem alz_any (n : Int) (w : World) : Calls Try.prog 7 #[.int .i64 n] w fun e w' => e = .returned (.int .i64 (alz n)) ∧ w' = w := by
  by_cases h : n < 0
  · rw [show alz n = 0 by simp [alz, h]]
    go_enter Try.func7, Try.ntmps7
    go_wp2
    go_ret
    exact ⟨rfl, rfl⟩
  · rw [show alz n = n by simp [alz, h]]
    go_enter Try.func7, Try.ntmps7
    go_wp2
    go_ret
    exact ⟨rfl, rfl⟩

/-! ### the plain law: which codes are equal -/
theorem codeL_date (n m : Int) (p q : Bool) : codeL true n p = codeL true m q := rfl

theorem codeL_ne (n m : Int) (p q : Bool) : codeL true n p ≠ codeL false m q := by
  intro h
  have := congrArg List.head? h
  simp [codeL] at this

theorem codeL_alike (n m : Int) (p : Bool) (h : alz n = alz m) : codeL false n p = codeL false m p := by
  unfold alz at h
  unfold codeL
  by_cases h1 : 0 < n
  · have : n = m := by
      split at h <;> split at h <;> omega
    rw [this]
  · have h2 : ¬ 0 < m := by
      split at h <;> split at h <;> omega
    simp [h1, h2]

theorem count_dec (n : Int) (p : Bool) : (codeL false n p).count 48 = 1 + (alz n).toNat := by
  unfold codeL alz
  by_cases h1 : 0 < n
  · cases p <;> simp [h1, show ¬ n < 0 by omega] <;> omega
  · cases p <;> simp [h1] <;> omega

theorem count_pct (n : Int) (p : Bool) : (codeL false n p).count 37 = if p then 1 else 0 := by
  unfold codeL
  by_cases h1 : 0 < n
  · cases p <;> simp [h1, List.count_replicate]
  · cases p <;> simp [h1]

theorem alz_nonneg (n : Int) : 0 ≤ alz n := by unfold alz; split <;> omega

theorem codeL_eq (n m : Int) (p q : Bool) (h : codeL false n p = codeL false m q) : alz n = alz m ∧ p = q := by
  have h1 := count_dec n p
  have h2 := count_dec m q
  have h3 := count_pct n p
  have h4 := count_pct m q
  rw [h] at h1 h3
  have a1 := alz_nonneg n
  have a2 := alz_nonneg m
  refine ⟨by omega, ?_⟩
  cases p <;> cases q <;> simp_all

end Go.Proofs.Qxb6600142a
