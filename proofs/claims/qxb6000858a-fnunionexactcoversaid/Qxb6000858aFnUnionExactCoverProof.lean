/-
  Proof of 'Rows.FnUnionExactCoverSaid' (the frame: written by proof-skeleton.mjs for this function).
-/
import Derived.Test.Qxb6000858aZUnion
import Derived.Test.Qxb6000858aCover
import Derived.WalkKit
import Derived.ProofKit
import Derived.OpenShut
import Derived.ShutString
import Derived.ChangeOld
import Derived.Below
namespace Go.Proofs.Qxb6000858a.fnUnionExactCover
open Go.ChangeShapes Go.WideShapes Go.ChangeAt Go.RowKit
open Go.ChangeMaps (open_string shut_string)
set_option linter.unusedVariables false

theorem own : ownKnob Try.prog.godebug = none := by kernel_rfl
theorem laidOut : laidOutB Try.prog = true := by kernel_rfl

/-! ### The walk -/
theorem isRow_below {w w' : World} {k : IntKind} {a : Option Addr} {len cap : Nat} {zs : List Int} (h : IsRow k w a len cap zs) (hb : Below w.heap.size w w') : IsRow k w' a len cap zs := by
  rcases h with h | ⟨x, rfl, hl, hm, hz, hc, hwf⟩
  · exact .inl h
  · refine .inr ⟨x, rfl, hl, hm, hz, fun i hi => ?_, hwf⟩
    have h1 := hc i hi
    rw [← h1]
    exact hb.cell (World.block_lt_of_cell? w _ h1)

theorem isRow_len {w : World} {k : IntKind} {a : Option Addr} {len cap : Nat} {zs : List Int} (h : IsRow k w a len cap zs) : (zs.take len).length = len ∧ len ≤ maxLen := by
  rcases h with ⟨_, rfl, _, rfl⟩ | ⟨x, rfl, hl, hm, hz, hc, hwf⟩
  · simp
  · refine ⟨by simp; omega, by omega⟩

theorem rd_heap {w W : World} {ao : Option Addr} {xs : List Int} (h : Rd w ao xs) (hW : W.heap = w.heap) : Rd W ao xs := by
  rcases h with h | ⟨g, rfl, hg, hc⟩
  · exact .inl h
  · refine .inr ⟨g, rfl, by rw [hW]; exact hg, fun i hi => ?_⟩
    rw [← hc i hi]
    exact World.cell?_of_block (w := w) (by rw [hW])

theorem zz8 (a0 a1 : Option Addr) (n0 c0 n1 c1 : Nat) (w : World) (h0 : n0 ≤ 4096) (h1 : n1 ≤ 4096) :
    Calls Try.prog 8 #[.slice a0 n0 c0, .slice a1 n1 c1] w fun e w' => e = .returned (.bool true) ∧ w' = w := by
  go_enter Try.func8, Try.ntmps8
  go_wp2
  go_ret
  exact ⟨rfl, rfl⟩

/-- lengths that the law does not ask about -/
theorem early (a0 : Option Addr) (len0 cap0 : Nat) (a1 : Option Addr) (len1 cap1 : Nat) (w : World) (hl0 : len0 ≤ 9223372036854775807) (hl1 : len1 ≤ 9223372036854775807) (h : 4096 < len0 ∨ len0 ≤ 4096 ∧ 4096 < len1) :
    Calls Try.prog 3 #[.slice a0 len0 cap0, .slice a1 len1 cap1] w fun e w' => e = .returned (.bool true) ∧ w' = w := by
  rcases h with h | ⟨h, h'⟩
  all_goals
    go_enter Try.func3, Try.ntmps3
    go_wp2
    all_goals go_ret
    all_goals exact ⟨rfl, rfl⟩

/-- unequal lengths -/
theorem uneven (a0 : Option Addr) (len0 cap0 : Nat) (a1 : Option Addr) (len1 cap1 : Nat) (w : World) (h0 : len0 ≤ 4096) (h1 : len1 ≤ 4096) (h : ((len0 : Int) != (len1 : Int)) = true) :
    Calls Try.prog 3 #[.slice a0 len0 cap0, .slice a1 len1 cap1] w fun e w' => e = .returned (.bool true) ∧ w' = w := by
  go_enter Try.func3, Try.ntmps3
  go_wp2_with (go_at_call 8; refine (zz8 _ _ _ _ _ _ _ (by omega) (by omega)).mono ?_; rintro e w' ⟨rfl, hw⟩; have hw := hw.symm; subst hw)
  go_ret
  exact ⟨rfl, rfl⟩

/-- a lo beyond the law's bound -/
theorem beyond (a0 : Option Addr) (n cap0 : Nat) (z0 : List Int) (a1 : Option Addr) (cap1 : Nat) (w : World) (w0 : IsRow .i64 w a0 n cap0 z0) (h0 : n ≤ 4096) (h : losOK (z0.take n) = false) :
    Calls Try.prog 3 #[.slice a0 n cap0, .slice a1 n cap1] w fun e w' => e = .returned (.bool true) ∧ w' = w := by
  have C : Hid (Calls Try.prog 9 #[.slice a0 n cap0] w fun e w' => e = .returned (.bool false) ∧ w' = w) := by
    have := los_any a0 n cap0 z0 w h0 w0
    rw [h] at this
    exact this
  clear h w0
  go_enter Try.func3, Try.ntmps3
  go_wp2_with (go_at_call 8; refine (zz8 _ _ _ _ _ _ _ (by omega) (by omega)).mono ?_; rintro e w' ⟨rfl, hw⟩; have hw := hw.symm; subst hw)
  refine Calls.mono C.out ?_
  rintro e w' ⟨rfl, hw⟩
  have hw := hw.symm
  subst hw
  go_wp2
  go_ret
  exact ⟨rfl, rfl⟩

set_option maxHeartbeats 2000000 in
theorem main (a0 : Option Addr) (n cap0 : Nat) (z0 : List Int) (a1 : Option Addr) (cap1 : Nat) (z1 : List Int) (w : World) (w0 : IsRow .i64 w a0 n cap0 z0) (w1 : IsRow .i64 w a1 n cap1 z1) (h0 : n ≤ 4096) (hok : losOK (z0.take n) = true) :
    Calls Try.prog 3 #[.slice a0 n cap0, .slice a1 n cap1] w fun e w' => e = .returned (.bool true) ∧ Below w.heap.size w w' := by
  obtain ⟨ps, hps⟩ : ∃ ps, ps = (z0.take n).zip (z1.take n) := ⟨_, rfl⟩
  have hl0 := (isRow_len w0).1
  have hl1 := (isRow_len w1).1
  have hf : ps.map (·.1) = z0.take n := by rw [hps]; exact List.map_fst_zip (by omega)
  have hs : ps.map (·.2) = z1.take n := by rw [hps]; exact List.map_snd_zip (by omega)
  have HPL : Hid (ps.length = n) := by show _ = _; rw [hps, List.length_zip, hl0, hl1]; omega
  have HPB : Hid (∀ p ∈ ps, -1073741823 ≤ p.1 ∧ p.1 ≤ 1073741823) := by
    intro p hp
    refine (losOK_iff _).1 hok p.1 ?_
    rw [← hf]
    exact List.mem_map_of_mem hp
  have CL : Hid (Calls Try.prog 9 #[.slice a0 n cap0] w fun e w' => e = .returned (.bool true) ∧ w' = w) := by
    have := los_any a0 n cap0 z0 w h0 w0
    rw [hok] at this
    exact this
  have C0 : Hid (Calls Try.prog 10 #[.slice a0 n cap0] w fun e w' => ∃ ao, e = .returned (.slice ao n n) ∧ Rd w' ao (ps.map (·.1)) ∧ (ao = none → n = 0) ∧ Below w.heap.size w w') := by
    rw [hf]
    exact clone_any a0 n cap0 z0 w (by omega) w0
  have C1 : Hid (∀ W, Below w.heap.size w W → Calls Try.prog 10 #[.slice a1 n cap1] W fun e w' => ∃ ao, e = .returned (.slice ao n n) ∧ Rd w' ao (ps.map (·.2)) ∧ (ao = none → n = 0) ∧ Below W.heap.size W w') := by
    intro W hW
    rw [hs]
    exact clone_any a1 n cap1 z1 W (by omega) (isRow_below w1 hW)
  clear hps hl0 hl1 hf hs w0 w1 hok
  go_enter Try.func3, Try.ntmps3
  go_wp2_with (go_at_call 8; refine (zz8 _ _ _ _ _ _ _ (by omega) (by omega)).mono ?_; rintro e w' ⟨rfl, hw⟩; have hw := hw.symm; subst hw)
  refine Calls.mono CL.out ?_
  rintro e w' ⟨rfl, hw⟩
  have hw := hw.symm
  subst hw
  clear CL
  go_wp2_with fail
  refine Calls.mono C0.out ?_
  rintro e w1 ⟨la, rfl, hra, hna, hbel1⟩
  clear C0
  go_wp2_with fail
  refine Calls.mono (C1.out w1 hbel1) ?_
  rintro e w2 ⟨ha, rfl, hrh, hnh, hbel2⟩
  clear C1
  have hra2 : Rd w2 la (ps.map (·.1)) := hra.below (Nat.le_refl _) hbel2
  have CU : Hid (Calls Try.prog 11 #[.slice la n n, .slice ha n n] w2 fun e w' => ∃ (a1 a2 : Option Addr) (us qs : List (Int × Int)), e = .returned (.tuple #[.slice a1 us.length us.length, .slice a2 us.length us.length]) ∧ Rd w' a1 (us.map (·.1)) ∧ Rd w' a2 (us.map (·.2)) ∧ Below w2.heap.size w2 w' ∧ qs.Perm ps ∧ qs.Pairwise (fun a b => a.1 ≤ b.1) ∧ us = un qs) :=
    zz_union la ha n n n ps w2 h0 HPL.out hra2 hrh HPB.out
  go_wp2_with fail
  refine Calls.mono CU.out ?_
  rintro e w3 ⟨ua, uh, us, qs, rfl, hru, hrv, hbel3, hperm, hsort, hus⟩
  clear CU
  have hgood : Good qs us := by
    have := un_good qs hsort qs.length (Nat.le_refl _)
    rw [List.take_length, ← hus] at this
    exact this
  have hul : us.length ≤ 4096 := by
    have h3 := un_len qs qs.length (Nat.le_refl _)
    rw [List.take_length, ← hus] at h3
    have h4 := hperm.length_eq
    rw [HPL.out] at h4
    omega
  have HG : Hid (Good qs us) := hgood
  have HMEM : Hid (∀ p, p ∈ qs ↔ p ∈ ps) := fun p => hperm.mem_iff
  have hra3 : Rd w3 la (ps.map (·.1)) := hra2.below (Nat.le_refl _) hbel3
  have hrh3 : Rd w3 ha (ps.map (·.2)) := hrh.below (Nat.le_refl _) hbel3
  have HB3 : Hid (Below w.heap.size w w3) := by
    have h5 := hbel1.trans (hbel2.mono hbel1.size)
    exact h5.trans (hbel3.mono h5.size)
  obtain ⟨m, hm⟩ : ∃ m, m = us.length := ⟨_, rfl⟩
  rw [← hm] at hul
  rw [← hm]
  have HM : Hid (us.length = m) := hm.symm
  clear hra hna hbel1 hrh hnh hbel2 hra2 hbel3 hperm hsort hus hgood hm
  go_wp2
  go_loopw [7] (fun i wr => ∃ k : Nat, k ≤ m ∧ i = .int .i64 k ∧ ∃ q, wr = w3.drewN q) (fun i _ => m - (intOf i).toNat)
  case atStart => exact ⟨0, Nat.zero_le _, rfl, 0, rfl⟩
  case round =>
    obtain ⟨k, hk, rfl, q, rfl⟩ := hrel
    by_cases hlt : k < m
    · have hku : k < us.length := by rw [HM.out]; exact hlt
      rcases hru with h | ⟨g1, rfl, hg1, hc1⟩
      · exact absurd hku (by have := congrArg List.length h; simp at this; subst this; simp)
      rcases hrv with h | ⟨g2, rfl, hg2, hc2⟩
      · exact absurd hku (by have := congrArg List.length h; simp at this; subst this; simp)
      obtain ⟨lo, hlo⟩ : ∃ lo, lo = us[k].1 := ⟨_, rfl⟩
      obtain ⟨hi, hhi⟩ : ∃ hi, hi = us[k].2 := ⟨_, rfl⟩
      have r1 : w3.cell? ⟨g1, k, none⟩ = some (.int .i64 lo) := by rw [hlo, hc1 k (by simpa using hku)]; simp [hku]
      have r2 : w3.cell? ⟨g2, k, none⟩ = some (.int .i64 hi) := by rw [hhi, hc2 k (by simpa using hku)]; simp [hku]
      have hpos : lo < hi := by rw [hlo, hhi]; exact HG.out.pos us[k] (List.getElem_mem _)
      have l1 : (k : Int) < (m : Int) := by omega
      have HPR : Hid (0 < k → ∃ ph, w3.cell? ⟨g2, k - 1, none⟩ = some (.int .i64 ph) ∧ ph < lo) := by
        intro h0
        refine ⟨us[k - 1].2, ?_, ?_⟩
        · rw [hc2 (k - 1) (by simp; omega)]; simp [show k - 1 < us.length by omega]
        · rw [hlo]
          exact (List.pairwise_iff_getElem.1 HG.out.sep) (k - 1) k (by omega) hku (by omega)
      clear hlo hhi hc1 hc2 hra3 hrh3
      by_cases hk0 : k = 0
      · subst hk0
        clear HPR
        go_wp2
        go_quiet (fail)
        go_wp2
        go_quiet (fail)
        go_wp2
        go_roundw
        case rel => exact ⟨1, by omega, by go_num, _, rfl⟩
        case measure => simp [intOf]; omega
      · obtain ⟨ph, r3, hph⟩ := HPR.out (by omega)
        have e1 : ((k : Int) - 1).toNat = k - 1 := by omega
        have b0 : (1 : Int) ≤ (k : Int) := by omega
        have b1 : (k : Int) - 1 < (m : Int) := by omega
        have b2 : 0 < k := by omega
        have hwr : IntKind.i64.wrap ((k : Int) - 1) = (k : Int) - 1 := by rw [IntKind.wrap_i64]; omega
        clear HPR hk0
        go_wp2
        go_quiet (fail)
        go_wp2
        go_quiet (fail)
        go_wp2
        go_roundw
        case rel => exact ⟨k + 1, by omega, by go_num, _, rfl⟩
        case measure => simp [intOf]; omega
    · go_wp2
      go_loopw [8] (fun i wr => ∃ k : Nat, k ≤ n ∧ i = .int .i64 k ∧ ∃ q, wr = w3.drewN q) (fun i _ => n - (intOf i).toNat)
      case atStart => exact ⟨0, Nat.zero_le _, rfl, _, rfl⟩
      case round =>
        obtain ⟨j, hj, rfl, q2, rfl⟩ := hrel
        by_cases hltj : j < n
        · have hjp : j < ps.length := by rw [HPL.out]; exact hltj
          have hra4 := hra3
          have hrh4 := hrh3
          rcases hra4 with h | ⟨g1, rfl, hg1, hc1⟩
          · exact absurd hjp (by have := congrArg List.length h; simp at this; subst this; simp)
          rcases hrh4 with h | ⟨g2, rfl, hg2, hc2⟩
          · exact absurd hjp (by have := congrArg List.length h; simp at this; subst this; simp)
          obtain ⟨lo, hlo⟩ : ∃ lo, lo = ps[j].1 := ⟨_, rfl⟩
          obtain ⟨hi, hhi⟩ : ∃ hi, hi = ps[j].2 := ⟨_, rfl⟩
          have r1 : w3.cell? ⟨g1, j, none⟩ = some (.int .i64 lo) := by rw [hlo, hc1 j (by simpa using hjp)]; simp [hjp]
          have r2 : w3.cell? ⟨g2, j, none⟩ = some (.int .i64 hi) := by rw [hhi, hc2 j (by simpa using hjp)]; simp [hjp]
          have l1 : (j : Int) < (n : Int) := by omega
          have HIN : Hid (lo < hi → ∀ W : World, W.heap = w3.heap → Calls Try.prog 12 #[.int .i64 lo, .int .i64 hi, .slice ua m m, .slice uh m m] W fun e w' => e = .returned (.bool true) ∧ w' = W) := by
            intro hlt2 W hW
            refine inside_any lo hi ua uh m m m us W hul HM.out (rd_heap hru hW) (rd_heap hrv hW) ?_
            have hmem : ps[j] ∈ qs := (HMEM.out _).2 (List.getElem_mem _)
            rw [hlo, hhi]
            exact HG.out.holds ps[j] hmem (by rw [← hlo, ← hhi]; exact hlt2)
          clear hlo hhi hc1 hc2 hra3 hrh3 hru hrv
          by_cases c1 : hi ≤ lo
          · clear HIN
            go_wp2
            go_quiet (fail)
            go_wp2
            go_roundw
            case rel => exact ⟨j + 1, by omega, by go_num, _, rfl⟩
            case measure => simp [intOf]; omega
          · have HIN2 : Hid (∀ W : World, W.heap = w3.heap → Calls Try.prog 12 #[.int .i64 lo, .int .i64 hi, .slice ua m m, .slice uh m m] W fun e w' => e = .returned (.bool true) ∧ w' = W) := HIN.out (by omega)
            clear HIN
            go_wp2
            go_quiet (fail)
            go_wp2
            go_quiet ((go_at_call 12; exact Calls.mono (HIN2.out _ rfl) (fun _ _ ⟨he, hw⟩ => ⟨he, _, hw⟩)))
            go_wp2
            go_roundw
            case rel => exact ⟨j + 1, by omega, by go_num, _, rfl⟩
            case measure => simp [intOf]; omega
        · go_wp2
          go_loopw [9] (fun i wr => ∃ k : Nat, k ≤ m ∧ i = .int .i64 k ∧ ∃ q, wr = w3.drewN q) (fun i _ => m - (intOf i).toNat)
          case atStart => exact ⟨0, Nat.zero_le _, rfl, _, rfl⟩
          case round =>
            obtain ⟨i3, hi3, rfl, q3, rfl⟩ := hrel
            by_cases hlti : i3 < m
            · have hiu : i3 < us.length := by rw [HM.out]; exact hlti
              rcases hru with h | ⟨g1, rfl, hg1, hc1⟩
              · exact absurd hiu (by have := congrArg List.length h; simp at this; subst this; simp)
              rcases hrv with h | ⟨g2, rfl, hg2, hc2⟩
              · exact absurd hiu (by have := congrArg List.length h; simp at this; subst this; simp)
              obtain ⟨lo, hlo⟩ : ∃ lo, lo = us[i3].1 := ⟨_, rfl⟩
              obtain ⟨hi, hhi⟩ : ∃ hi, hi = us[i3].2 := ⟨_, rfl⟩
              have r1 : w3.cell? ⟨g1, i3, none⟩ = some (.int .i64 lo) := by rw [hlo, hc1 i3 (by simpa using hiu)]; simp [hiu]
              have r2 : w3.cell? ⟨g2, i3, none⟩ = some (.int .i64 hi) := by rw [hhi, hc2 i3 (by simpa using hiu)]; simp [hiu]
              have l1 : (i3 : Int) < (m : Int) := by omega
              have HCV : Hid (∀ W : World, W.heap = w3.heap → Calls Try.prog 13 #[.int .i64 lo, .int .i64 hi, .slice la n n, .slice ha n n] W fun e w' => e = .returned (.bool true) ∧ w' = W) := by
                intro W hW
                have hmem : us[i3] ∈ us := List.getElem_mem _
                have hpos := HG.out.pos us[i3] hmem
                have hcov := HG.out.cov HMEM.out us[i3] hmem
                rw [← hlo, ← hhi] at hpos hcov
                exact covered_any lo hi la ha n n n ps W h0 HPL.out (rd_heap hra3 hW) (rd_heap hrh3 hW) hpos hcov
              clear hlo hhi hc1 hc2 hra3 hrh3
              go_wp2
              go_quiet ((go_at_call 13; exact Calls.mono (HCV.out _ rfl) (fun _ _ ⟨he, hw⟩ => ⟨he, _, hw⟩)))
              go_wp2
              go_roundw
              case rel => exact ⟨i3 + 1, by omega, by go_num, _, rfl⟩
              case measure => simp [intOf]; omega
            · clear hru hrv hra3 hrh3
              go_wp2
              go_ret
              exact ⟨rfl, below_drewN HB3.out _⟩

theorem walk (a0 : Option Addr) (len0 cap0 : Nat) (z0 : List Int) (a1 : Option Addr) (len1 cap1 : Nat) (z1 : List Int) (w : World) (w0 : IsRow .i64 w a0 len0 cap0 z0) (w1 : IsRow .i64 w a1 len1 cap1 z1) :
    Calls Try.prog 3 #[.slice a0 len0 cap0, .slice a1 len1 cap1] w fun e w' => e = .returned (.bool true) ∧ Below w.heap.size w w' := by
  have fin : ∀ (e : Ending) (w' : World), e = .returned (.bool true) ∧ w' = w → e = .returned (.bool true) ∧ Below w.heap.size w w' := by
    rintro e w' ⟨rfl, rfl⟩
    exact ⟨rfl, Below.refl _ _⟩
  by_cases h : 4096 < len0 ∨ len0 ≤ 4096 ∧ 4096 < len1
  · exact (early a0 len0 cap0 a1 len1 cap1 w (by have := (isRow_len w0).2; unfold maxLen at this; omega) (by have := (isRow_len w1).2; unfold maxLen at this; omega) h).mono fin
  by_cases hne : len0 = len1
  · subst hne
    by_cases hok : losOK (z0.take len0) = true
    · exact main a0 len0 cap0 z0 a1 cap1 z1 w w0 w1 (by omega) hok
    · exact (beyond a0 len0 cap0 z0 a1 cap1 w w0 (by omega) (by simpa using hok)).mono fin
  · exact (uneven a0 len0 cap0 a1 len1 cap1 w (by omega) (by omega) (by simp; omega)).mono fin

/-! ### THE ROW's STEP: WRITTEN OUT: LEAVE IT -/
set_option maxRecDepth 100000 in
theorem lifted (os : Os) (started : os.Started) (H : Type) (enc : TypeId × Value → H) :
    ReturnsInHanded {} Try.checked os 3 .any (Rows.fnUnionExactCoverSpec.pre6 enc Try.prog Try.f3 Rows.fnUnionExactCoverRow.domain false) (Rows.fnUnionExactCoverSpec.post enc Try.prog Try.f3 false true false false) := by
  refine returnsInHanded_of_change (C := Try.checked) own started (by kernel_rfl) Try.func3
    (ChangeSpec.witness6 (enc := enc) (C := Try.checked) false ⟨#[], #[.slice none 0 0, .slice none 0 0], []⟩ 8 (by kernel_rfl) (by kernel_rfl) (by kernel_rfl) (by kernel_rfl)) ?_
  intro W base args ds gs before hval0 hW hcnd _
  have hval : ∀ (j : Nat) t v, Try.f3.params[j]? = some t → args[j]? = some v → Value.okWide Try.prog W .any base t v := hval0
  have hW' := hW
  obtain ⟨p, q, hA0, hV, rfl, hfz, hnd⟩ := hW
  have hA : DataW.TrodAll enc Try.prog W 0 (fun _ => true) true Try.f3.params.toList args.toList ds p := hA0
  rw [Try.params3] at hA hval
  obtain ⟨v0, vs0, d0, ds0, p0, q0, hargs, rfl, rfl, h0, r0⟩ := trodAll_cons hA
  obtain ⟨v1, vs1, d1, ds1, p1, q1, rfl, rfl, rfl, h1, r1⟩ := trodAll_cons r0
  obtain ⟨rfl, rfl, rfl⟩ := trodAll_nil r1
  obtain rfl : args = #[v0, v1] := by cases args; simp_all
  obtain ⟨rfl, rfl⟩ := trodVars_none hV
  obtain ⟨a0, len0, cap0, rfl⟩ := okWide_slice Try.underlying22 (hval 0 22 v0 rfl rfl)
  have k0 := h0
  have lt0 : ∀ x ∈ p0, x.block < W.heap.size := by obtain ⟨m, hm⟩ := k0; exact DataW.trod_lt m _ _ _ hm
  obtain ⟨z0, w0⟩ : ∃ zs, IsRow .i64 W a0 len0 cap0 zs := by
    obtain ⟨fuel, hf⟩ := h0
    rcases open_ints Try.underlying22 Try.underlying3 (by kernel_rfl) hf with ⟨hcs, _⟩ | ⟨x, l, c, zs, hcs, _, hl, hm, hz, _, hcell, hwz⟩
    · simp [Value.cells] at hcs
      obtain ⟨rfl, rfl, rfl⟩ := hcs
      exact ⟨[], .inl ⟨rfl, rfl, rfl, rfl⟩⟩
    · simp [Value.cells] at hcs
      obtain ⟨rfl, rfl, rfl⟩ := hcs
      exact ⟨zs, .inr ⟨_, rfl, hl, hm, by simpa using hz, hcell, hwz⟩⟩
  obtain ⟨a1, len1, cap1, rfl⟩ := okWide_slice Try.underlying22 (hval 1 22 v1 rfl rfl)
  have k1 := h1
  have lt1 : ∀ x ∈ p1, x.block < W.heap.size := by obtain ⟨m, hm⟩ := k1; exact DataW.trod_lt m _ _ _ hm
  obtain ⟨z1, w1⟩ : ∃ zs, IsRow .i64 W a1 len1 cap1 zs := by
    obtain ⟨fuel, hf⟩ := h1
    rcases open_ints Try.underlying22 Try.underlying3 (by kernel_rfl) hf with ⟨hcs, _⟩ | ⟨x, l, c, zs, hcs, _, hl, hm, hz, _, hcell, hwz⟩
    · simp [Value.cells] at hcs
      obtain ⟨rfl, rfl, rfl⟩ := hcs
      exact ⟨[], .inl ⟨rfl, rfl, rfl, rfl⟩⟩
    · simp [Value.cells] at hcs
      obtain ⟨rfl, rfl, rfl⟩ := hcs
      exact ⟨zs, .inr ⟨_, rfl, hl, hm, by simpa using hz, hcell, hwz⟩⟩
  clear hA0 hval0
  refine (walk a0 len0 cap0 z0 a1 len1 cap1 z1 W w0 w1).mono fun e W' ⟨he, bel⟩ => ?_
  subst he
  exact ⟨_, rfl, _, _, _, [], _, [], hW', trodAll_mk1 (shut_bool Try.underlying4 _), (trodAll_cons_mk (Below.trod laidOut (by kernel_rfl) (of_decide_eq_true (by kernel_rfl)) k0 bel lt0) (trodAll_cons_mk (Below.trod laidOut (by kernel_rfl) (of_decide_eq_true (by kernel_rfl)) k1 bel lt1) trodAll_mk0)), rfl, bel.frame _, fun h => by cases h⟩

theorem over : Rows.fnUnionExactCoverRow.holds Try.pinned (OpenSpec.ofChange Rows.fnUnionExactCoverSpec) :=
  OpenClaim.holds_of_wide 3 Try.f3 rfl rfl rfl rfl rfl rfl rfl ⟨rfl, rfl, rfl, rfl, rfl⟩ rfl rfl rfl rfl rfl (by kernel_rfl) Try.func3 (by kernel_rfl)
    (of_decide_eq_true (by kernel_rfl)) (by unfold Func.isWrapper; first | (rw [if_pos (by decide +kernel)]; kernel_rfl) | (rw [if_neg (by decide +kernel)]; exact ⟨rfl, rfl⟩))
    (fun os started H enc _ => lifted os started H enc)

/-- ████ THE STATEMENT ████ -/
theorem proved : Rows.FnUnionExactCoverSaid := over
#print axioms proved
end Go.Proofs.Qxb6000858a.fnUnionExactCover
