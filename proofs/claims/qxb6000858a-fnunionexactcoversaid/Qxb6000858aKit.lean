/-
  Shared: how a slice of ints reads ('Rd'), and the contract of cloneIntsB1 (10).
-/
import Derived.Test.Qxb6000858aRows
import Derived.Test.Qxb6000858aShelf
import Derived.Test.Qxb6000858aPlain
import Derived.WalkKit
import Derived.WalkSpells
import Derived.ArgAppend
import Derived.Deep.QuietTactic
import Derived.BigQuiet
import Derived.Below
namespace Go.Proofs.Qxb6000858a
open Go.RowKit
set_option linter.unusedVariables false

theorem info3 : (Try.prog.info? 3).map (fun i => (i.zero, i.size, i.bytes)) = some (some (.int .i64 0), 1, 8) := by kernel_rfl

/-- the ints as cells -/
def cellsOf (xs : List Int) : List Value := xs.map (Value.int .i64)

theorem cellsOf_length (xs : List Int) : (cellsOf xs).length = xs.length := by simp [cellsOf]
theorem cellsOf_get (xs : List Int) (i : Nat) (h : i < xs.length) : (cellsOf xs)[i]? = some (.int .i64 (xs.getD i 0)) := by
  simp [cellsOf, h]

/-- the slice at 'ao' reads as the ints xs: it is empty, or its cells lie from a block's head on -/
def Rd (w : World) (ao : Option Addr) (xs : List Int) : Prop :=
  xs = [] ∨ ∃ g, ao = some ⟨g, 0, none⟩ ∧ g < w.heap.size ∧ ∀ i, i < xs.length → w.cell? ⟨g, i, none⟩ = some (.int .i64 (xs.getD i 0))

theorem Rd.below {B : Nat} {w w' : World} {ao : Option Addr} {xs : List Int} (h : Rd w ao xs) (hw : w.heap.size ≤ B) (hb : Below B w w') : Rd w' ao xs := by
  rcases h with h | ⟨g, rfl, hg, hc⟩
  · exact .inl h
  · exact .inr ⟨g, rfl, Nat.lt_of_lt_of_le hg hb.size, fun i hi => (hb.cell (p := ⟨g, i, none⟩) (show g < B by omega)).trans (hc i hi)⟩

/-- an owned row reads as its ints -/
theorem rd_of_owns {w : World} {base : Nat} {v : Value} {xs : List Int} (h : w.ownsRow base 3 1 v xs.length (cellsOf xs)) :
    ∃ ao cap, v = .slice ao xs.length cap ∧ Rd w ao xs ∧ (ao = none → xs.length = 0) := by
  rcases h.2 with ⟨rfl, hn⟩ | ⟨g, cap, cur, rfl, hb, hg, hnc, hcm, hcs, htake⟩
  · exact ⟨none, 0, by rw [hn], .inl (List.eq_nil_of_length_eq_zero hn), fun _ => hn⟩
  · refine ⟨_, cap, rfl, .inr ⟨g, rfl, ?_, fun i hi => ?_⟩, fun h => by cases h⟩
    · exact (Array.getElem?_eq_some_iff.1 hg).1
    · rw [h.cellAt i (by omega), cellsOf_get xs i hi]

/-- WHAT THE WALK IS TOLD OF A SLICE OF INTS THAT CAME IN (the shell's own words) -/
def IsRow (k : IntKind) (w : World) (a : Option Addr) (len cap : Nat) (zs : List Int) : Prop :=
  (a = none ∧ len = 0 ∧ cap = 0 ∧ zs = []) ∨
  ∃ x, a = some x ∧ len ≤ cap ∧ cap ≤ maxLen ∧ zs.length = cap ∧ (∀ i, i < zs.length → w.cell? (x.add i) = some (.int k (zs.getD i 0))) ∧ ∀ n ∈ zs, (Lit.int k n).wf = true

theorem set_step (A : List Int) (n k : Nat) (hA : A.length = n) (hk : k < n) :
    (cellsOf (A.take k ++ List.replicate (n - k) 0)).set k (.int .i64 (A.getD k 0)) = cellsOf (A.take (k + 1) ++ List.replicate (n - (k + 1)) 0) := by
  unfold cellsOf
  rw [← List.map_set]
  congr 1
  have e : n - k = (n - (k + 1)) + 1 := by omega
  rw [e, List.replicate_succ, List.set_append_right _ _ (by simp; omega)]
  rw [show k - (A.take k).length = 0 by simp; omega, List.set_cons_zero, List.take_succ_eq_append_getElem (by omega),
    List.getD_eq_getElem?_getD, List.getElem?_eq_getElem (by omega), Option.getD_some, List.append_assoc, List.singleton_append]

set_option maxHeartbeats 400000 in
theorem clone_loop (b off n cap : Nat) (zs : List Int) (w : World) (hn : n ≤ 1048576) (hz : n ≤ zs.length) (hc : ∀ i, i < n → w.cell? ⟨b, off + i, none⟩ = some (.int .i64 (zs.getD i 0))) (hb : b < w.heap.size) :
    Calls Try.prog 10 #[.slice (some ⟨b, off, none⟩) n cap] w fun e w' => ∃ ao, e = .returned (.slice ao n n) ∧ Rd w' ao (zs.take n) ∧ (ao = none → n = 0) ∧ Below w.heap.size w w' := by
  obtain ⟨i0, hi, hz0, hz1, hz2⟩ := info_parts info3
  have q22 : ∀ (w : World) (a : Option Addr) (n c n' c' : Nat), (binOp .eql 22 (.slice a n c) (.slice none n' c')).run Try.prog w = .ok (.bool a.isNone) w := fun w a n c n' c' => Lib.run_eql_slice_nil w _ _ a n c n' c' Try.underlying22
  go_enter Try.func10, Try.ntmps10
  go_wp2_with (at_make; refine wpList_make_full _ rfl _ _ 22 rfl w.heap.size 3 i0 (.int .i64 0) 1 Try.underlying22 hi hz0 hz1 _ _ _ _ n rfl rfl rfl rfl ?b1 ?b2 ?b3 ?_)
  case b1 => rw [hz2]; omega
  case b2 => unfold maxLen; omega
  case b3 => exact Nat.le_refl _
  intro w1 hown hgrow
  go_wp2
  have hB0 := (Below.refl w.heap.size w).grown hgrow (Nat.le_refl _) (fun k h => by cases h)
  have hown0 : w1.ownsRow w.heap.size 3 1 (.slice (some ⟨w.heap.size, 0, none⟩) n n) n (cellsOf ((zs.take n).take 0 ++ List.replicate (n - 0) 0)) := by
    have e : (madeCells #[Value.int .i64 0] n).toList = cellsOf ((zs.take n).take 0 ++ List.replicate (n - 0) 0) := by
      rw [toList_madeCells_one]
      simp [cellsOf]
    rw [← e]; exact hown
  clear hown hgrow
  go_loopw [4] (fun i wr => ∃ k : Nat, k ≤ n ∧ i = .int .i64 k ∧ wr.ownsRow w.heap.size 3 1 (.slice (some ⟨w.heap.size, 0, none⟩) n n) n (cellsOf ((zs.take n).take k ++ List.replicate (n - k) 0)) ∧ Below w.heap.size w wr) (fun i _ => n - (intOf i).toNat)
  case atStart => exact ⟨0, Nat.zero_le _, rfl, hown0, hB0⟩
  case round =>
    obtain ⟨k, hk, rfl, hown, hbel⟩ := hrel
    clear hown0 hB0
    by_cases hlt : k < n
    · obtain ⟨u, hu⟩ : ∃ u, u = (zs.take n).getD k 0 := ⟨_, rfl⟩
      have g1 : wr.cell? ⟨b, off + k, none⟩ = some (.int .i64 u) := by
        rw [hu, (hbel.cell (p := ⟨b, off + k, none⟩) hb), hc k hlt]
        simp [hlt]
      have hs := hown.stored k (.int .i64 u)
      rw [hu, set_step (zs.take n) n k (by simp; omega) hlt, ← hu] at hs
      obtain ⟨o, ho⟩ : ∃ o, wr.cell? ⟨w.heap.size, k, none⟩ = some o := by
        rw [hown.cellAt k (by omega)]
        exact ⟨_, List.getElem?_eq_getElem (by rw [hown.1]; omega)⟩
      have hf := hown.frozenAt k
      have HS : Hid ((wr.setCell ⟨w.heap.size, k, none⟩ (.int .i64 u)).ownsRow w.heap.size 3 1 (.slice (some ⟨w.heap.size, 0, none⟩) n n) n (cellsOf ((zs.take n).take (k + 1) ++ List.replicate (n - (k + 1)) 0))) := hs.1
      have HB : Hid (Below w.heap.size w (wr.setCell ⟨w.heap.size, k, none⟩ (.int .i64 u))) := hbel.setCell (Nat.le_refl _) _
      clear hs hown hbel hu
      go_wp2
      go_roundw
      case rel => exact ⟨k + 1, by omega, by go_num, HS.out, HB.out⟩
      case measure => simp [intOf]; omega
    · have hkn : k = n := by omega
      subst hkn
      have hrd : Rd wr (some ⟨w.heap.size, 0, none⟩) (zs.take k) := by
        refine .inr ⟨w.heap.size, rfl, ?_, fun i hi => ?_⟩
        · exact (hown.lt w.heap.size rfl).2
        · have hik : i < k := by simp at hi; omega
          rw [hown.cellAt i (by omega), cellsOf_get _ i (by simp; omega)]
          simp [hik]
      clear hown
      go_wp2
      go_ret
      exact ⟨_, rfl, hrd, (fun h => by cases h), hbel⟩

theorem clone_nil (w : World) :
    Calls Try.prog 10 #[.slice none 0 0] w fun e w' => e = .returned (.slice none 0 0) ∧ w' = w := by
  have q22 : ∀ (w : World) (a : Option Addr) (n c n' c' : Nat), (binOp .eql 22 (.slice a n c) (.slice none n' c')).run Try.prog w = .ok (.bool a.isNone) w := fun w a n c n' c' => Lib.run_eql_slice_nil w _ _ a n c n' c' Try.underlying22
  go_enter Try.func10, Try.ntmps10
  go_wp2
  go_ret
  exact ⟨rfl, rfl⟩

/-- an empty slice that is not nil -/
theorem clone_empty (x : Addr) (cap : Nat) (w : World) :
    Calls Try.prog 10 #[.slice (some x) 0 cap] w fun e w' => ∃ ao, e = .returned (.slice ao 0 0) ∧ Rd w' ao [] ∧ (ao = none → 0 = 0) ∧ Below w.heap.size w w' := by
  obtain ⟨i0, hi, hz0, hz1, hz2⟩ := info_parts info3
  have q22 : ∀ (w : World) (a : Option Addr) (n c n' c' : Nat), (binOp .eql 22 (.slice a n c) (.slice none n' c')).run Try.prog w = .ok (.bool a.isNone) w := fun w a n c n' c' => Lib.run_eql_slice_nil w _ _ a n c n' c' Try.underlying22
  go_enter Try.func10, Try.ntmps10
  go_wp2_with (at_make; refine wpList_make_full _ rfl _ _ 22 rfl w.heap.size 3 i0 (.int .i64 0) 1 Try.underlying22 hi hz0 hz1 _ _ _ _ 0 rfl rfl rfl rfl ?b1 ?b2 ?b3 ?_)
  case b1 => rw [hz2]; omega
  case b2 => unfold maxLen; omega
  case b3 => exact Nat.le_refl _
  intro w1 hown hgrow
  have hB0 := (Below.refl w.heap.size w).grown hgrow (Nat.le_refl _) (fun k h => by cases h)
  clear hown hgrow
  go_wp2
  refine wp_loop_rounds 1 ?_
  rw [rounds_succ]
  go_wp2
  go_ret
  exact ⟨_, rfl, .inl rfl, (fun _ => trivial), hB0⟩

/-- cloneIntsB1: a fresh copy whose capacity is its length -/
theorem clone_any (ao : Option Addr) (n cap : Nat) (zs : List Int) (w : World) (hn : n ≤ 1048576) (h : IsRow .i64 w ao n cap zs) :
    Calls Try.prog 10 #[.slice ao n cap] w fun e w' => ∃ ao, e = .returned (.slice ao n n) ∧ Rd w' ao (zs.take n) ∧ (ao = none → n = 0) ∧ Below w.heap.size w w' := by
  rcases h with ⟨rfl, rfl, rfl, rfl⟩ | ⟨x, rfl, hl, hm, hz, hc, hwf⟩
  · refine (clone_nil w).mono ?_
    rintro e w' ⟨rfl, rfl⟩
    exact ⟨_, rfl, .inl rfl, (fun _ => rfl), Below.refl _ _⟩
  · by_cases h0 : n = 0
    · subst h0
      exact clone_empty x cap w
    · obtain ⟨b, off, spot⟩ := x
      have hspot : spot = none := by simpa [Addr.add] using World.cell?_spot (hc 0 (by omega))
      subst hspot
      refine clone_loop b off n cap zs w hn (by omega) (fun i hi => ?_) ?_
      · have := hc i (by omega)
        rwa [Addr.add_lit] at this
      · exact World.block_lt_of_cell? w _ (hc 0 (by omega))

end Go.Proofs.Qxb6000858a
