/-
  What only reads: losInBoundB1 (9), insideSomeB1 (12), coveredByB1 (13).
-/
import Derived.Test.Qxb6000858aKit
import Derived.OpenShut
import Derived.Outline
namespace Go.Proofs.Qxb6000858a
open Go.RowKit
set_option linter.unusedVariables false

def losOK (xs : List Int) : Bool := xs.all fun x => decide (-1073741823 ≤ x) && decide (x ≤ 1073741823)

theorem losOK_iff (xs : List Int) : losOK xs = true ↔ ∀ x ∈ xs, -1073741823 ≤ x ∧ x ≤ 1073741823 := by
  simp [losOK]

theorem los_loop (b off n cap : Nat) (xs : List Int) (w : World) (hn : n ≤ 4096) (hl : xs.length = n) (hc : ∀ i, i < n → w.cell? ⟨b, off + i, none⟩ = some (.int .i64 (xs.getD i 0))) :
    Calls Try.prog 9 #[.slice (some ⟨b, off, none⟩) n cap] w fun e w' => e = .returned (.bool (losOK xs)) ∧ w' = w := by
  have HL : Hid (xs.length = n) := hl
  clear hl
  go_enter Try.func9, Try.ntmps9
  go_wp2
  go_loop [3] (fun i => ∃ k : Nat, k ≤ n ∧ i = .int .i64 k ∧ Hid (∀ j, j < k → -1073741823 ≤ xs.getD j 0 ∧ xs.getD j 0 ≤ 1073741823)) (fun i => n - (intOf i).toNat)
  case atStart => exact ⟨0, Nat.zero_le _, rfl, fun j hj => by omega⟩
  case round =>
    obtain ⟨k, hk, rfl, hall⟩ := hrel
    by_cases hlt : k < n
    · obtain ⟨x, hx⟩ : ∃ x, x = xs.getD k 0 := ⟨_, rfl⟩
      have r1 : w.cell? ⟨b, off + k, none⟩ = some (.int .i64 x) := by rw [hx]; exact hc k hlt
      have HX : Hid (x = xs.getD k 0) := hx
      have hbad : x < -1073741823 ∨ 1073741823 < x → losOK xs = false := by
        intro h
        have hm : xs[k]'(by rw [HL.out]; exact hlt) ∈ xs := List.getElem_mem _
        have e : xs[k]'(by rw [HL.out]; exact hlt) = x := by
          rw [hx, List.getD_eq_getElem?_getD, List.getElem?_eq_getElem (by rw [HL.out]; exact hlt)]; rfl
        rw [← Bool.not_eq_true, losOK_iff]
        intro h2
        have := h2 _ hm
        omega
      have HBAD : Hid (x < -1073741823 ∨ 1073741823 < x → losOK xs = false) := hbad
      clear hx hbad hc
      by_cases h1 : x < -1073741823
      · have he := HBAD.out (.inl h1)
        go_wp2
        go_ret
        exact ⟨rfl, rfl⟩
      by_cases h2 : 1073741823 < x
      · have he := HBAD.out (.inr h2)
        go_wp2
        go_ret
        exact ⟨rfl, rfl⟩
      · go_wp2
        go_round
        case rel =>
          refine ⟨k + 1, by omega, by go_num, ?_⟩
          intro j hj
          by_cases hjk : j = k
          · subst hjk
            rw [← HX.out]
            omega
          · exact hall.out j (by omega)
        case measure => simp [intOf]; omega
    · have he : losOK xs = true := by
        rw [losOK_iff]
        intro x hx
        obtain ⟨j, hj, rfl⟩ := List.mem_iff_getElem.1 hx
        have := hall.out j (by rw [HL.out] at hj; omega)
        rw [List.getD_eq_getElem?_getD, List.getElem?_eq_getElem hj] at this
        exact this
      clear hc hall
      go_wp2
      go_ret
      exact ⟨rfl, rfl⟩

theorem los_none (ao : Option Addr) (cap : Nat) (w : World) :
    Calls Try.prog 9 #[.slice ao 0 cap] w fun e w' => e = .returned (.bool (losOK [])) ∧ w' = w := by
  rw [show losOK [] = true from rfl]
  go_enter Try.func9, Try.ntmps9
  go_wp2
  refine wp_loop_rounds 1 ?_
  rw [rounds_succ]
  go_wp2
  go_ret
  exact ⟨rfl, rfl⟩

theorem los_any (ao : Option Addr) (n cap : Nat) (zs : List Int) (w : World) (hn : n ≤ 4096) (h : IsRow .i64 w ao n cap zs) :
    Calls Try.prog 9 #[.slice ao n cap] w fun e w' => e = .returned (.bool (losOK (zs.take n))) ∧ w' = w := by
  rcases h with ⟨rfl, rfl, rfl, rfl⟩ | ⟨x, rfl, hl, hm, hz, hc, hwf⟩
  · exact los_none none 0 w
  · by_cases h0 : n = 0
    · subst h0
      exact los_none (some x) cap w
    · obtain ⟨b, off, spot⟩ := x
      have hspot : spot = none := by simpa [Addr.add] using World.cell?_spot (hc 0 (by omega))
      subst hspot
      refine los_loop b off n cap (zs.take n) w hn (by simp; omega) (fun i hi => ?_)
      have := hc i (by omega)
      rw [Addr.add_lit] at this
      rw [this]
      simp [hi]

/-- insideSomeB1: some span of us holds [lo, hi) -/
theorem inside_any (lo hi : Int) (ul uh : Option Addr) (m c1 c2 : Nat) (us : List (Int × Int)) (w : World) (hm : m ≤ 4096) (hl : us.length = m) (h1 : Rd w ul (us.map (·.1))) (h2 : Rd w uh (us.map (·.2)))
    (hex : ∃ s ∈ us, s.1 ≤ lo ∧ hi ≤ s.2) :
    Calls Try.prog 12 #[.int .i64 lo, .int .i64 hi, .slice ul m c1, .slice uh m c2] w fun e w' => e = .returned (.bool true) ∧ w' = w := by
  obtain ⟨s, hs, hs1, hs2⟩ := hex
  obtain ⟨i0, hi0, rfl⟩ := List.mem_iff_getElem.1 hs
  have hi0m : i0 < m := by omega
  rcases h1 with h | ⟨g1, rfl, hg1, hc1⟩
  · have := congrArg List.length h; simp at this; subst this; simp at hi0
  rcases h2 with h | ⟨g2, rfl, hg2, hc2⟩
  · have := congrArg List.length h; simp at this; subst this; simp at hi0
  have k1 : ∀ i (hi : i < us.length), w.cell? ⟨g1, i, none⟩ = some (.int .i64 us[i].1) := fun i hi => by rw [hc1 i (by simpa using hi)]; simp [hi]
  have k2 : ∀ i (hi : i < us.length), w.cell? ⟨g2, i, none⟩ = some (.int .i64 us[i].2) := fun i hi => by rw [hc2 i (by simpa using hi)]; simp [hi]
  have K1 : Hid (∀ i (hi : i < us.length), w.cell? ⟨g1, i, none⟩ = some (.int .i64 us[i].1)) := k1
  have K2 : Hid (∀ i (hi : i < us.length), w.cell? ⟨g2, i, none⟩ = some (.int .i64 us[i].2)) := k2
  have HS : Hid (us[i0].1 ≤ lo ∧ hi ≤ us[i0].2) := ⟨hs1, hs2⟩
  have HL : Hid (us.length = m) := hl
  clear hc1 hc2 k1 k2 hs hs1 hs2 hl
  go_enter Try.func12, Try.ntmps12
  go_wp2
  go_loop [9] (fun i => ∃ k : Nat, k ≤ i0 ∧ i = .int .i64 k) (fun i => m - (intOf i).toNat)
  case atStart => exact ⟨0, Nat.zero_le _, rfl⟩
  case round =>
    obtain ⟨k, hk, rfl⟩ := hrel
    have hkl : k < us.length := by rw [HL.out]; omega
    obtain ⟨x, hx⟩ : ∃ x, x = us[k].1 := ⟨_, rfl⟩
    obtain ⟨y, hy⟩ : ∃ y, y = us[k].2 := ⟨_, rfl⟩
    have r1 : w.cell? ⟨g1, k, none⟩ = some (.int .i64 x) := by rw [hx]; exact K1.out k hkl
    have r2 : w.cell? ⟨g2, k, none⟩ = some (.int .i64 y) := by rw [hy]; exact K2.out k hkl
    have hkm : k < m := by omega
    have HNE : Hid (¬ (x ≤ lo ∧ hi ≤ y) → k + 1 ≤ i0) := by
      intro hne
      by_cases e : k = i0
      · subst e
        exact absurd HS.out (by rw [← hx, ← hy]; exact hne)
      · omega
    clear hx hy
    by_cases t1 : x ≤ lo
    · by_cases t2 : hi ≤ y
      · go_wp2
        go_ret
        exact ⟨rfl, rfl⟩
      · have hk1 : k + 1 ≤ i0 := HNE.out (by omega)
        go_wp2
        go_round
        case rel => exact ⟨k + 1, hk1, by go_num⟩
        case measure => simp [intOf]; omega
    · have hk1 : k + 1 ≤ i0 := HNE.out (by omega)
      go_wp2
      go_round
      case rel => exact ⟨k + 1, hk1, by go_num⟩
      case measure => simp [intOf]; omega

end Go.Proofs.Qxb6000858a
