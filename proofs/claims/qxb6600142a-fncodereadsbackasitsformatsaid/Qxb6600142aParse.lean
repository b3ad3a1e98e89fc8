/-
  xlsxB1ParseCode (5) at the code of a format.
-/
import Derived.Test.Qxb6600142aCode
namespace Go.Proofs.Qxb6600142a
open Go.RowKit
set_option linter.unusedVariables false

theorem parse_date (w : World) :
    Calls Try.prog 5 #[.string ⟨#[121, 121, 121, 121, 45, 109, 109, 45, 100, 100]⟩] w fun e w' => e = .returned (.tuple #[.bool true, .bool true, .int .i64 0, .bool false]) ∧ w' = w := by
  go_enter Try.func5, Try.ntmps5
  go_wp2
  exact bodyPost_ret (v := .tuple #[.bool true, .bool true, .int .i64 0, .bool false]) (by simp [results, Try.results5, go_sem]) rfl ⟨rfl, rfl⟩

theorem parse_0 (w : World) :
    Calls Try.prog 5 #[.string ⟨#[48]⟩] w fun e w' => e = .returned (.tuple #[.bool true, .bool false, .int .i64 0, .bool false]) ∧ w' = w := by
  go_enter Try.func5, Try.ntmps5
  go_wp2
  exact bodyPost_ret (v := .tuple #[.bool true, .bool false, .int .i64 0, .bool false]) (by simp [results, Try.results5, go_sem]) rfl ⟨rfl, rfl⟩

theorem parse_0p (w : World) :
    Calls Try.prog 5 #[.string ⟨#[48, 37]⟩] w fun e w' => e = .returned (.tuple #[.bool true, .bool false, .int .i64 0, .bool true]) ∧ w' = w := by
  go_enter Try.func5, Try.ntmps5
  go_wp2
  exact bodyPost_ret (v := .tuple #[.bool true, .bool false, .int .i64 0, .bool true]) (by simp [results, Try.results5, go_sem]) rfl ⟨rfl, rfl⟩

theorem results_tmp4 {fn : Func} {t u v x : Tmp} (h : fn.results = #[.tmp t, .tmp u, .tmp v, .tmp x]) (tmps : Array Value) (P : Program) (w : World) :
    (results fn tmps).run P w = .ok (.tuple #[tmps.getD t undef, tmps.getD u undef, tmps.getD v undef, tmps.getD x undef]) w := by
  simp [results, h]

theorem ret4 {x y z : Value} {a b : Int} (h : a = b) : Ending.returned (.tuple #[x, y, .int .i64 a, z]) = .returned (.tuple #[x, y, .int .i64 b, z]) := by rw [h]

/-- a byte of a string whose text is known -/
theorem byte_at (S : ByteArray) (l : List UInt8) (h : S.data.toList = l) (i : Nat) (hi : i < S.size) : (S[i]'hi).toNat = (l.getD i 0).toNat := by
  have hi' : i < S.data.toList.length := by rw [Array.length_toList]; exact hi
  have e : S[i]'hi = S.data.toList[i]'hi' := rfl
  rw [e]
  subst h
  simp [List.getD_eq_getElem?_getD, List.getElem?_eq_getElem hi']

set_option maxHeartbeats 1000000 in
theorem parse_dec (K : Nat) (pct : Bool) (S : ByteArray) (w : World) (hK : 0 < K) (hK2 : K ≤ 65536) (hS : S.data.toList = [48] ++ (46 :: List.replicate K 48) ++ (if pct then [37] else [])) :
    Calls Try.prog 5 #[.string S] w fun e w' => e = .returned (.tuple #[.bool true, .bool false, .int .i64 K, .bool pct]) ∧ w' = w := by
  have hsize : S.size = 2 + K + (if pct then 1 else 0) := by
    have : S.size = S.data.toList.length := by rw [Array.length_toList]; rfl
    rw [this, hS]
    cases pct <;> simp <;> omega
  have b0 : ∀ h, (S[0]'h).toNat = 48 := fun h => by rw [byte_at S _ hS]; rfl
  have b1 : ∀ h, (S[1]'h).toNat = 46 := fun h => by rw [byte_at S _ hS]; rfl
  have HZ : Hid (∀ k, 2 ≤ k → k < 2 + K → ∀ h, (S[k]'h).toNat = 48) := by
    intro k hk1 hk2 h
    rw [byte_at S _ hS]
    obtain ⟨j, rfl⟩ : ∃ j, k = j + 2 := ⟨k - 2, by omega⟩
    have : ([48] ++ (46 :: List.replicate K 48) ++ (if pct then [37] else []) : List UInt8).getD (j + 2) 0 = 48 := by
      simp only [List.cons_append, List.nil_append, List.getD_cons_succ]
      rw [List.getD_eq_getElem?_getD, List.getElem?_append_left (by simp; omega), List.getElem?_replicate, if_pos (by omega)]
      rfl
    rw [this]
    rfl
  have HP : Hid (pct = true → ∀ h, (S[2 + K]'h).toNat = 37) := by
    intro hp h
    rw [byte_at S _ hS, hp]
    have : ([48] ++ (46 :: List.replicate K 48) ++ (if true then [37] else []) : List UInt8).getD (2 + K) 0 = 37 := by
      rw [Nat.add_comm]
      simp only [List.cons_append, List.nil_append, List.getD_cons_succ]
      rw [List.getD_eq_getElem?_getD, List.getElem?_append_right (by simp)]
      simp
    rw [this]
    rfl
  have hne : (S.toList == [121, 121, 121, 121, 45, 109, 109, 45, 100, 100]) = false := by
    rw [ByteArray.toList_eq, hS]
    rfl
  have hem : ¬ S = ByteArray.empty := by
    intro h
    rw [h] at hsize
    simp at hsize
    omega
  have hem2 : ((S.size : Int) == 0) = false := by simp; omega
  cases pct with
  | false =>
    have hs1 : S.size ≤ 2 + K := by simp at hsize; omega
    have hs2 : 2 + K ≤ S.size := by simp at hsize; omega
    clear hsize hS HP
    go_enter Try.func5, Try.ntmps5
    go_wp2
    go_loop [6] (fun i => ∃ k : Nat, 2 ≤ k ∧ k ≤ 2 + K ∧ i = .int .i64 k) (fun i => 2 + K - (intOf i).toNat)
    case atStart => exact ⟨2, Nat.le_refl _, by omega, rfl⟩
    case round =>
      obtain ⟨k, hk1, hk2, rfl⟩ := hrel
      clear b0 b1
      by_cases hlt : k < 2 + K
      · have b2 : ∀ h, (S[k]'h).toNat = 48 := HZ.out k hk1 hlt
        have l1 : (k : Int) < (S.size : Int) := by omega
        go_wp2
        go_round
        case rel => exact ⟨k + 1, by omega, by omega, by go_num⟩
        case measure => simp [intOf]; omega
      · have l1 : (S.size : Int) ≤ (k : Int) := by omega
        go_wp2
        refine bodyPost_ret (results_tmp4 rfl _ _ _) rfl ⟨ret4 (by omega), rfl⟩
  | true =>
    have hs1 : S.size ≤ 3 + K := by simp at hsize; omega
    have hs2 : 3 + K ≤ S.size := by simp at hsize; omega
    clear hsize hS
    go_enter Try.func5, Try.ntmps5
    go_wp2
    go_loop [6] (fun i => ∃ k : Nat, 2 ≤ k ∧ k ≤ 2 + K ∧ i = .int .i64 k) (fun i => 2 + K - (intOf i).toNat)
    case atStart => exact ⟨2, Nat.le_refl _, by omega, rfl⟩
    case round =>
      obtain ⟨k, hk1, hk2, rfl⟩ := hrel
      clear b0 b1
      by_cases hlt : k < 2 + K
      · have b2 : ∀ h, (S[k]'h).toNat = 48 := HZ.out k hk1 hlt
        have l1 : (k : Int) < (S.size : Int) := by omega
        go_wp2
        go_round
        case rel => exact ⟨k + 1, by omega, by omega, by go_num⟩
        case measure => simp [intOf]; omega
      · obtain rfl : k = 2 + K := by omega
        have b2 : ∀ h, (S[2 + K]'h).toNat = 37 := HP.out trivial
        have l1 : ((2 + K : Nat) : Int) < (S.size : Int) := by omega
        go_wp2
        refine bodyPost_ret (results_tmp4 rfl _ _ _) rfl ⟨ret4 (by omega), rfl⟩

/-- xlsxB1ParseCode reads the code of a format back -/
theorem parse_any (date : Bool) (n : Int) (pct : Bool) (S : ByteArray) (w : World) (hn : n ≤ 65536) (hS : S.data.toList = codeL date n pct) :
    Calls Try.prog 5 #[.string S] w fun e w' => e = .returned (.tuple #[.bool true, .bool date, .int .i64 (if date then 0 else alz n), .bool (if date then false else pct)]) ∧ w' = w := by
  cases date with
  | true =>
    obtain rfl : S = ⟨#[121, 121, 121, 121, 45, 109, 109, 45, 100, 100]⟩ := WideShapes.bytes_inj hS
    exact parse_date w
  | false =>
    by_cases h : n ≤ 0
    · have ha : alz n = 0 := by unfold alz; split <;> omega
      have e : codeL false n pct = [48] ++ (if pct then [37] else []) := by simp [codeL, show ¬ 0 < n by omega]
      rw [e] at hS
      simp only [Bool.false_eq_true, if_false, ha]
      cases pct with
      | true =>
        obtain rfl : S = ⟨#[48, 37]⟩ := WideShapes.bytes_inj hS
        exact parse_0p w
      | false =>
        obtain rfl : S = ⟨#[48]⟩ := WideShapes.bytes_inj hS
        exact parse_0 w
    · obtain ⟨K, rfl⟩ : ∃ K : Nat, n = K := ⟨n.toNat, by omega⟩
      have ha : alz (K : Int) = K := by unfold alz; split <;> omega
      have e : codeL false K pct = [48] ++ (46 :: List.replicate K 48) ++ (if pct then [37] else []) := by
        simp only [codeL, show (0 : Int) < (K : Int) by omega, if_true, Bool.false_eq_true, if_false, Int.toNat_natCast]
      rw [e] at hS
      simp only [Bool.false_eq_true, if_false, ha]
      exact parse_dec K pct S w (by omega) (by omega) hS

end Go.Proofs.Qxb6600142a
