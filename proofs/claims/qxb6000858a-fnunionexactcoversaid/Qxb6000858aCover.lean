/-
  coveredByB1 (13): the walk from a lands on b.
-/
import Derived.Test.Qxb6000858aRead
namespace Go.Proofs.Qxb6000858a
open Go.RowKit
set_option linter.unusedVariables false

set_option maxHeartbeats 1000000 in
theorem covered_any (a b : Int) (la ha : Option Addr) (n c1 c2 : Nat) (ps : List (Int × Int)) (w : World) (hn : n ≤ 4096) (hl : ps.length = n) (h1 : Rd w la (ps.map (·.1))) (h2 : Rd w ha (ps.map (·.2)))
    (hab : a < b) (hcov : Cov ps a b) :
    Calls Try.prog 13 #[.int .i64 a, .int .i64 b, .slice la n c1, .slice ha n c2] w fun e w' => e = .returned (.bool true) ∧ w' = w := by
  have hne : 0 < ps.length := by
    obtain ⟨⟨p, hp, _⟩, _⟩ := hcov a (by omega) hab
    exact List.length_pos_of_mem hp
  rcases h1 with h | ⟨g1, rfl, hg1, hc1⟩
  · have := congrArg List.length h; simp at this; subst this; simp at hne
  rcases h2 with h | ⟨g2, rfl, hg2, hc2⟩
  · have := congrArg List.length h; simp at this; subst this; simp at hne
  have K1 : Hid (∀ i, i < ps.length → w.cell? ⟨g1, i, none⟩ = some (.int .i64 (ps.getD i (0, 0)).1)) := fun i hi => by rw [hc1 i (by simpa using hi)]; simp [hi]
  have K2 : Hid (∀ i, i < ps.length → w.cell? ⟨g2, i, none⟩ = some (.int .i64 (ps.getD i (0, 0)).2)) := fun i hi => by rw [hc2 i (by simpa using hi)]; simp [hi]
  have HL : Hid (ps.length = n) := hl
  have HC : Hid (Cov ps a b) := hcov
  clear hc1 hc2 hl hcov hne
  go_enter Try.func13, Try.ntmps13
  go_wp2
  go_loop [9, 10] (fun cu st => ∃ (c : Int) (s : Nat), cu = .int .i64 c ∧ st = .int .i64 s ∧ a ≤ c ∧ c ≤ b ∧ s ≤ n ∧ Hid (s ≤ cnt ps c)) (fun cu _ => (b - intOf cu).toNat)
  case atStart => exact ⟨a, 0, rfl, rfl, by omega, by omega, by omega, Nat.zero_le _⟩
  case round =>
    obtain ⟨c, s, rfl, rfl, hca, hcb, hsn, hcnt⟩ := hrel
    by_cases hlt : c < b
    · obtain ⟨q1, q2, q3⟩ := cov_step ps a b c HC.out hca hlt
      have HQ : Hid (s + 1 ≤ cnt ps (bst c ps)) := by have := hcnt.out; show _ ≤ _; omega
      have HQ2 : Hid (cnt ps (bst c ps) ≤ n) := by have := cnt_le ps (bst c ps); rw [HL.out] at this; exact this
      clear q3 hcnt
      go_wp2
      go_loop [11, 12] (fun be j => ∃ k : Nat, k ≤ n ∧ j = .int .i64 k ∧ be = .int .i64 (bst c (ps.take k))) (fun _ j => n - (intOf j).toNat)
      case atStart => exact ⟨0, Nat.zero_le _, rfl, by simp [bst]⟩
      case round =>
        obtain ⟨k, hk, rfl, rfl⟩ := hrel
        by_cases hltk : k < n
        · have hkl : k < ps.length := by rw [HL.out]; exact hltk
          obtain ⟨x, hx⟩ : ∃ x, x = (ps.getD k (0, 0)).1 := ⟨_, rfl⟩
          obtain ⟨y, hy⟩ : ∃ y, y = (ps.getD k (0, 0)).2 := ⟨_, rfl⟩
          have r1 : w.cell? ⟨g1, k, none⟩ = some (.int .i64 x) := by rw [hx]; exact K1.out k hkl
          have r2 : w.cell? ⟨g2, k, none⟩ = some (.int .i64 y) := by rw [hy]; exact K2.out k hkl
          have HB : Hid (bst c (ps.take (k + 1)) = if x ≤ c ∧ c < y ∧ bst c (ps.take k) < y then y else bst c (ps.take k)) := by
            rw [hx, hy]; exact bst_take c ps k hkl
          obtain ⟨B, hB⟩ : ∃ B, B = bst c (ps.take k) := ⟨_, rfl⟩
          rw [← hB] at HB
          rw [← hB]
          clear hx hy hB
          by_cases t1 : x ≤ c
          · by_cases t2 : c < y
            · by_cases t3 : B < y
              · go_wp2
                go_round
                case rel => exact ⟨k + 1, by omega, by go_num, by rw [HB.out, if_pos ⟨t1, t2, t3⟩]⟩
                case measure => simp [intOf]; omega
              · go_wp2
                go_round
                case rel => exact ⟨k + 1, by omega, by go_num, by rw [HB.out, if_neg (by omega)]⟩
                case measure => simp [intOf]; omega
            · go_wp2
              go_round
              case rel => exact ⟨k + 1, by omega, by go_num, by rw [HB.out, if_neg (by omega)]⟩
              case measure => simp [intOf]; omega
          · go_wp2
            go_round
            case rel => exact ⟨k + 1, by omega, by go_num, by rw [HB.out, if_neg (by omega)]⟩
            case measure => simp [intOf]; omega
        · have ek : ps.take k = ps := List.take_of_length_le (by rw [HL.out]; omega)
          rw [ek]
          clear ek
          obtain ⟨B, hB⟩ : ∃ B, B = bst c ps := ⟨_, rfl⟩
          rw [← hB] at q1 q2 HQ HQ2
          rw [← hB]
          have hbc : (B == c) = false := by simp; omega
          have hs1 : s + 1 ≤ n := by have := HQ.out; have := HQ2.out; omega
          clear hB
          go_wp2
          go_round
          case rel => exact ⟨B, s + 1, rfl, by go_num, by omega, by omega, by omega, HQ⟩
          case measure => simp [intOf]; omega
    · obtain rfl : c = b := by omega
      go_wp2
      go_ret
      exact ⟨rfl, rfl⟩

end Go.Proofs.Qxb6000858a
