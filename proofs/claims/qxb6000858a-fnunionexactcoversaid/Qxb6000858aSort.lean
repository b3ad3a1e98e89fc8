/-
  slices.SortFunc (29) with union's closure (30): a permutation, sorted by lo.
-/
import Derived.Test.Qxb6000858aKit
import Derived.Lib.OwnBridge
namespace Go.Proofs.Qxb6000858a
open Go.RowKit Go.Shelf Go.Sort
set_option linter.unusedVariables false

/-- lo, kept within the law's bound -/
def cl (a : Int) : Int := max (-1073741823) (min a 1073741823)
theorem cl_bd (a : Int) : -1073741823 ≤ cl a ∧ cl a ≤ 1073741823 := by unfold cl; omega
theorem cl_id (a : Int) (h1 : -1073741823 ≤ a) (h2 : a ≤ 1073741823) : cl a = a := by unfold cl; omega

/-- a span's two cells -/
def encS (x : Int × Int) : List Value := [.int .i64 (cl x.1), .int .i64 x.2]
def cf (x y : Int × Int) : Int := cl x.1 - cl y.1

theorem closure_at (c1 h1 c2 h2 : Int) (W : World) (b1 : -1073741823 ≤ c1) (b2 : c1 ≤ 1073741823) (b3 : -1073741823 ≤ c2) (b4 : c2 ≤ 1073741823) :
    Calls Try.prog 30 #[.agg #[.int .i64 c1, .int .i64 h1], .agg #[.int .i64 c2, .int .i64 h2]] W fun e w' => e = .returned (.int .i64 (c1 - c2)) ∧ ∃ q os', w' = grow (W.drewN q) os' := by
  go_enter Try.func30, Try.ntmps30
  go_wp2
  go_ret
  exact ⟨rfl, 0, _, by rw [alloc_eq_grow, alloc_eq_grow, grow_grow]; rfl⟩

theorem cmp_lays (blk off size : Nat) (w : World) : CmpLays Try.prog 30 #[] encS 2 cf blk off size w :=
  fun _ _ _ _ x y => closure_at (cl x.1) x.2 (cl y.1) y.2 _ (cl_bd _).1 (cl_bd _).2 (cl_bd _).1 (cl_bd _).2

theorem lt_cf (x y : Int × Int) : ltOf cf x y = decide (cl x.1 < cl y.1) := by
  unfold ltOf cf
  by_cases h : cl x.1 < cl y.1
  · simp [h]; omega
  · simp [h]; omega

theorem swo : SWO (ltOf cf) := by
  refine ⟨?_, ?_, ?_⟩
  · intro x
    rw [lt_cf]; simp
  · intro x y z h1 h2
    rw [lt_cf] at *; simp at *; omega
  · intro x y z h1 h2
    rw [lt_cf] at *; simp at *; omega

/-- the block g holds the spans ps, two cells each -/
def Sp (w : World) (g : Nat) (ps : List (Int × Int)) : Prop :=
  ∀ i, i < ps.length → w.cell? ⟨g, i * 2, none⟩ = some (.int .i64 (ps.getD i (0, 0)).1) ∧ w.cell? ⟨g, i * 2 + 1, none⟩ = some (.int .i64 (ps.getD i (0, 0)).2)

theorem size_sortWorldK_sub (enc : (Int × Int) → List Value) (k : Nat) (w : World) (g n : Nat) (d : Array (Int × Int)) (os : Array Obj) : (putRow id (Sort.ahead w n) g 0 (flatK enc k d)).heap.size ≤ (sortWorldK enc k w g 0 n d os).heap.size := by
  show _ ≤ ((putRow id (Sort.ahead w n) g 0 (flatK enc k d)).heap ++ os).size
  rw [Array.size_append]
  omega

theorem sort_any (g cap : Nat) (ps : List (Int × Int)) (w : World) (hg : g < w.heap.size) (hn : ps.length ≤ 4096) (hb : ∀ p ∈ ps, -1073741823 ≤ p.1 ∧ p.1 ≤ 1073741823) (hs : Sp w g ps)
    (hf : ∀ j, j < ps.length * 2 → w.frozen? ⟨g, j, none⟩ = false) :
    Calls Try.prog 29 #[.slice (some ⟨g, 0, none⟩) ps.length cap, .func (.func 30) #[] #[]] w fun e w' => e = .returned (.tuple #[]) ∧ ∃ qs : List (Int × Int), qs.Perm ps ∧ qs.Pairwise (fun a b => a.1 ≤ b.1) ∧ Sp w' g qs ∧ Below g w w' ∧ g < w'.heap.size := by
  have eg : ∀ args w, (callFunc 30 args).run Try.prog w = .ok (.enter 30 args) w := enters_of Try.func30 (by kernel_rfl) rfl
  have hH : HoldsK encS 2 w g 0 ps.toArray := by
    intro j hj
    rw [size_flatK] at hj
    have hj' : j < ps.length * 2 := by simpa using hj
    refine ⟨?_, by simpa using hf j hj'⟩
    rw [get_flatK _ _ _ _ hj]
    have hi : j / 2 < ps.length := by omega
    have hget : ps.toArray[j / 2]! = ps.getD (j / 2) (0, 0) := by
      simp [hi]
    have hbd := hb (ps.getD (j / 2) (0, 0)) (by rw [List.getD_eq_getElem?_getD, List.getElem?_eq_getElem hi]; exact List.getElem_mem _)
    obtain ⟨h1, h2⟩ := hs (j / 2) hi
    rw [hget]
    generalize ps.getD (j / 2) (0, 0) = p at h1 h2 hbd ⊢
    rcases Nat.mod_two_eq_zero_or_one j with h0 | h0
    · rw [h0, Nat.zero_add, show j = j / 2 * 2 by omega, h1]
      simp [encS, cl_id _ hbd.1 hbd.2]
    · rw [h0, Nat.zero_add]
      conv => lhs; rw [show j = j / 2 * 2 + 1 by omega]
      rw [h2]
      simp [encS]
  have hcon := AnyQ.slices_SortFunc Try.sortSp 2 Try.isAgg42 Try.sizeOf42 encS (fun _ => rfl) (fun x v hv => by simp [encS] at hv; rcases hv with rfl | rfl <;> rfl) cf swo 30 #[] g 0 cap ps.toArray w eg (cmp_lays g 0 _ w) hH hg (by simp; omega)
  change Calls Try.prog 29 _ _ _ at hcon
  have hsz : ps.toArray.size = ps.length := by simp
  rw [hsz] at hcon
  refine hcon.mono ?_
  rintro e w' ⟨rfl, d', n, os, ⟨hp1, _, hp2⟩, hsd, rfl⟩
  have hsize : d'.size = ps.length := by rw [hp1, hsz]
  have hperm : d'.toList.Perm ps := by
    have e1 : d'.extract 0 ps.length = d' := by rw [← hsize]; simp
    have e2 : ps.toArray.extract 0 ps.length = ps.toArray := by simp
    rw [e1, e2] at hp2
    simpa using hp2
  have hbd : ∀ p ∈ d'.toList, -1073741823 ≤ p.1 ∧ p.1 ≤ 1073741823 := fun p hp => hb p (hperm.mem_iff.1 hp)
  refine ⟨rfl, d'.toList, hperm, ?_, ?_, ?_, ?_⟩
  · rw [List.pairwise_iff_getElem]
    intro i j hi hj hij
    have hi' : i < d'.size := by simpa using hi
    have hj' : j < d'.size := by simpa using hj
    have := hsd i j (Nat.zero_le _) hij (by omega)
    rw [lt_cf, getElem!_pos d' i hi', getElem!_pos d' j hj'] at this
    have b1 := hbd d'[i] (by simp)
    have b2 := hbd d'[j] (by simp)
    rw [cl_id _ b1.1 b1.2, cl_id _ b2.1 b2.2] at this
    simp at this
    simpa using this
  · have hH' : HoldsK encS 2 (sortWorldK encS 2 w g 0 n d' os) g 0 d' := holdsK_sortWorldK_c encS 2 w g 0 ps.toArray d' n os hH hg (by rw [hp1])
    intro i hi
    have hi' : i < d'.size := by simpa using hi
    have c0 := (hH'.cell hi' (show 0 < 2 by omega)).1
    have c1 := (hH'.cell hi' (show 1 < 2 by omega)).1
    rw [getElem!_pos d' i hi'] at c0 c1
    have b1 := hbd d'[i] (by simp)
    have e : d'.toList.getD i (0, 0) = d'[i] := by simp [hi']
    rw [e]
    simp [encS, cl_id _ b1.1 b1.2] at c0 c1
    exact ⟨c0, c1⟩
  · refine (Go.Lib.below_putRow (enc := id) (d := flatK encS 2 d') (q := n) (Below.refl g w) (Nat.le_refl _)).trans ⟨rfl, rfl, rfl, ?_, ?_⟩
    · exact size_sortWorldK_sub encS 2 w g n d' os
    · intro k hk
      show ((putRow id (Sort.ahead w n) g 0 (flatK encS 2 d')).heap ++ os)[k]? = _
      rw [Array.getElem?_append_left]
      rw [size_putRow]
      exact Nat.lt_trans hk hg
  · exact Nat.lt_of_lt_of_le hg (size_sortWorldK_c encS 2 w g 0 n d' os)

end Go.Proofs.Qxb6000858a
