/-
  The plain law: no Go in sight. Spans are pairs (lo, hi); 'un' is what union makes of a list that is sorted by lo.
-/
namespace Go.Proofs.Qxb6000858a

/-- one round of union -/
def stp1 (u : List (Int × Int)) (p : Int × Int) : List (Int × Int) :=
  if p.2 ≤ p.1 then u
  else match u.getLast? with
    | some l => if p.1 ≤ l.2 then u.dropLast ++ [(l.1, max l.2 p.2)] else u ++ [p]
    | none => u ++ [p]

def un (ps : List (Int × Int)) : List (Int × Int) := ps.foldl stp1 []

/-- what holds of what has been read (qs) and what has been made of it (u) -/
structure Good (qs u : List (Int × Int)) : Prop where
  pos : ∀ s ∈ u, s.1 < s.2
  sep : u.Pairwise (fun a b => a.2 < b.1)
  holds : ∀ p ∈ qs, p.1 < p.2 → ∃ s ∈ u, s.1 ≤ p.1 ∧ p.2 ≤ s.2
  cover : ∀ s ∈ u, ∀ x, s.1 ≤ x → x < s.2 → ∃ p ∈ qs, p.1 ≤ x ∧ x < p.2
  low : ∀ s ∈ u, ∃ p ∈ qs, s.1 = p.1

theorem Good.nil : Good [] [] := ⟨by simp, by simp, by simp, by simp, by simp⟩

theorem Good.skip {qs u : List (Int × Int)} {p : Int × Int} (h : Good qs u) (hp : p.2 ≤ p.1) : Good (qs ++ [p]) u := by
  refine ⟨h.pos, h.sep, ?_, ?_, ?_⟩
  · intro q hq hlt
    rcases List.mem_append.1 hq with hq | hq
    · exact h.holds q hq hlt
    · simp at hq; subst hq; omega
  · intro s hs x h1 h2
    obtain ⟨q, hq, h3⟩ := h.cover s hs x h1 h2
    exact ⟨q, List.mem_append_left _ hq, h3⟩
  · intro s hs
    obtain ⟨q, hq, h3⟩ := h.low s hs
    exact ⟨q, List.mem_append_left _ hq, h3⟩

theorem Good.push {qs u : List (Int × Int)} {p : Int × Int} (h : Good qs u) (hp : p.1 < p.2) (hu : ∀ s ∈ u, s.2 < p.1) : Good (qs ++ [p]) (u ++ [p]) := by
  refine ⟨?_, ?_, ?_, ?_, ?_⟩
  · intro s hs
    rcases List.mem_append.1 hs with hs | hs
    · exact h.pos s hs
    · simp at hs; subst hs; exact hp
  · rw [List.pairwise_append]
    refine ⟨h.sep, by simp, ?_⟩
    intro a ha b hb
    simp at hb; subst hb
    exact hu a ha
  · intro q hq hlt
    rcases List.mem_append.1 hq with hq | hq
    · obtain ⟨s, hs, h3⟩ := h.holds q hq hlt
      exact ⟨s, List.mem_append_left _ hs, h3⟩
    · simp at hq; subst hq
      exact ⟨q, List.mem_append_right _ (by simp), by omega, by omega⟩
  · intro s hs x h1 h2
    rcases List.mem_append.1 hs with hs | hs
    · obtain ⟨q, hq, h3⟩ := h.cover s hs x h1 h2
      exact ⟨q, List.mem_append_left _ hq, h3⟩
    · simp at hs; subst hs
      exact ⟨s, List.mem_append_right _ (by simp), h1, h2⟩
  · intro s hs
    rcases List.mem_append.1 hs with hs | hs
    · obtain ⟨q, hq, h3⟩ := h.low s hs
      exact ⟨q, List.mem_append_left _ hq, h3⟩
    · simp at hs; subst hs
      exact ⟨s, List.mem_append_right _ (by simp), rfl⟩

theorem Good.join {qs i : List (Int × Int)} {l p : Int × Int} (h : Good qs (i ++ [l])) (hp : p.1 < p.2) (hl : l.1 ≤ p.1) (ht : p.1 ≤ l.2) : Good (qs ++ [p]) (i ++ [(l.1, max l.2 p.2)]) := by
  have hm1 : l.2 ≤ max l.2 p.2 := by omega
  have hm2 : p.2 ≤ max l.2 p.2 := by omega
  have hl1 : l.1 < l.2 := h.pos l (by simp)
  refine ⟨?_, ?_, ?_, ?_, ?_⟩
  · intro s hs
    rcases List.mem_append.1 hs with hs | hs
    · exact h.pos s (List.mem_append_left _ hs)
    · simp at hs; subst hs; show l.1 < max l.2 p.2; omega
  · have := h.sep
    rw [List.pairwise_append] at this ⊢
    refine ⟨this.1, by simp, ?_⟩
    intro a ha b hb
    simp at hb; subst hb
    exact this.2.2 a ha l (by simp)
  · intro q hq hlt
    rcases List.mem_append.1 hq with hq | hq
    · obtain ⟨s, hs, h3, h4⟩ := h.holds q hq hlt
      rcases List.mem_append.1 hs with hs | hs
      · exact ⟨s, List.mem_append_left _ hs, h3, h4⟩
      · simp at hs; subst hs
        exact ⟨(s.1, max s.2 p.2), List.mem_append_right _ (by simp), h3, by show q.2 ≤ max s.2 p.2; omega⟩
    · simp at hq; subst hq
      exact ⟨(l.1, max l.2 q.2), List.mem_append_right _ (by simp), hl, hm2⟩
  · intro s hs x h1 h2
    rcases List.mem_append.1 hs with hs | hs
    · obtain ⟨q, hq, h3⟩ := h.cover s (List.mem_append_left _ hs) x h1 h2
      exact ⟨q, List.mem_append_left _ hq, h3⟩
    · simp at hs; subst hs
      by_cases hx : x < l.2
      · obtain ⟨q, hq, h3⟩ := h.cover l (by simp) x h1 hx
        exact ⟨q, List.mem_append_left _ hq, h3⟩
      · have h2' : x < max l.2 p.2 := h2
        exact ⟨p, List.mem_append_right _ (by simp), by omega, by omega⟩
  · intro s hs
    rcases List.mem_append.1 hs with hs | hs
    · obtain ⟨q, hq, h3⟩ := h.low s (List.mem_append_left _ hs)
      exact ⟨q, List.mem_append_left _ hq, h3⟩
    · simp at hs; subst hs
      obtain ⟨q, hq, h3⟩ := h.low l (by simp)
      exact ⟨q, List.mem_append_left _ hq, h3⟩

/-- one round keeps it, if the next span begins no earlier than all that were read -/
theorem Good.step {qs u : List (Int × Int)} {p : Int × Int} (h : Good qs u) (hs : ∀ q ∈ qs, q.1 ≤ p.1) : Good (qs ++ [p]) (stp1 u p) := by
  unfold stp1
  by_cases hp : p.2 ≤ p.1
  · rw [if_pos hp]; exact h.skip hp
  rw [if_neg hp]
  rcases List.eq_nil_or_concat u with rfl | ⟨i, l, rfl⟩
  · exact h.push (by omega) (by simp)
  · have e1 : (i.concat l).getLast? = some l := by simp
    have e2 : i.concat l = i ++ [l] := by simp
    rw [e1]
    rw [e2] at h ⊢
    obtain ⟨q, hq, hlq⟩ := h.low l (by simp)
    have hl := hs q hq
    by_cases ht : p.1 ≤ l.2
    · simp only [ht, if_true, List.dropLast_concat]
      exact h.join (by omega) (by omega) ht
    · simp only [ht, if_false]
      refine h.push (by omega) ?_
      intro s hs'
      have hl1 : l.1 < l.2 := h.pos l (by simp)
      rcases List.mem_append.1 hs' with h1 | h1
      · have := h.sep
        rw [List.pairwise_append] at this
        have := this.2.2 s h1 l (by simp)
        omega
      · simp at h1; subst h1; omega

theorem un_snoc (qs : List (Int × Int)) (p : Int × Int) : un (qs ++ [p]) = stp1 (un qs) p := by simp [un]

theorem un_take (qs : List (Int × Int)) (k : Nat) (h : k < qs.length) : un (qs.take (k + 1)) = stp1 (un (qs.take k)) (qs.getD k (0, 0)) := by
  rw [List.take_succ_eq_append_getElem h, un_snoc, List.getD_eq_getElem?_getD, List.getElem?_eq_getElem h]
  rfl

/-- of a list that is sorted by lo -/
theorem un_good (qs : List (Int × Int)) (hs : qs.Pairwise (fun a b => a.1 ≤ b.1)) (k : Nat) (hk : k ≤ qs.length) : Good (qs.take k) (un (qs.take k)) := by
  induction k with
  | zero => exact Good.nil
  | succ k ih =>
    have hk' : k < qs.length := by omega
    rw [List.take_succ_eq_append_getElem hk', un_snoc]
    refine (ih (by omega)).step ?_
    intro q hq
    obtain ⟨j, hj, rfl⟩ := List.mem_iff_getElem.1 hq
    have hjk : j < k := by simp at hj; omega
    rw [List.getElem_take]
    exact (List.pairwise_iff_getElem.1 hs) j k (by omega) hk' hjk

theorem stp1_len (u : List (Int × Int)) (p : Int × Int) : (stp1 u p).length ≤ u.length + 1 := by
  unfold stp1
  split
  · omega
  · split
    · split
      · rw [List.length_append, List.length_dropLast]
        simp only [List.length_cons, List.length_nil]
        omega
      · simp
    · simp

theorem un_len (qs : List (Int × Int)) (k : Nat) (hk : k ≤ qs.length) : (un (qs.take k)).length ≤ k := by
  induction k with
  | zero => simp [un]
  | succ k ih =>
    rw [un_take qs k (by omega)]
    have h1 := stp1_len (un (qs.take k)) (qs.getD k (0, 0))
    have h2 := ih (by omega)
    omega

/-! ### the walk of coveredBy -/
/-- the farthest end of a span of ps that holds cur; cur itself if none does -/
def bst (cur : Int) (ps : List (Int × Int)) : Int := ps.foldl (fun b p => if p.1 ≤ cur ∧ cur < p.2 ∧ b < p.2 then p.2 else b) cur

theorem bst_snoc (cur : Int) (ps : List (Int × Int)) (p : Int × Int) : bst cur (ps ++ [p]) = if p.1 ≤ cur ∧ cur < p.2 ∧ bst cur ps < p.2 then p.2 else bst cur ps := by
  unfold bst
  rw [List.foldl_append]
  rfl

theorem bst_take (cur : Int) (ps : List (Int × Int)) (k : Nat) (h : k < ps.length) :
    bst cur (ps.take (k + 1)) = if (ps.getD k (0, 0)).1 ≤ cur ∧ cur < (ps.getD k (0, 0)).2 ∧ bst cur (ps.take k) < (ps.getD k (0, 0)).2 then (ps.getD k (0, 0)).2 else bst cur (ps.take k) := by
  rw [List.take_succ_eq_append_getElem h, bst_snoc, List.getD_eq_getElem?_getD, List.getElem?_eq_getElem h]
  rfl

theorem bst_is (cur : Int) (ps : List (Int × Int)) : bst cur ps = cur ∨ ∃ p ∈ ps, p.1 ≤ cur ∧ cur < p.2 ∧ bst cur ps = p.2 := by
  suffices h : ∀ k, k ≤ ps.length → bst cur (ps.take k) = cur ∨ ∃ p ∈ ps.take k, p.1 ≤ cur ∧ cur < p.2 ∧ bst cur (ps.take k) = p.2 by
    have := h ps.length (Nat.le_refl _)
    rwa [List.take_length] at this
  intro k
  induction k with
  | zero => intro _; left; simp [bst]
  | succ k ih =>
    intro hk
    rw [List.take_succ_eq_append_getElem (by omega), bst_snoc]
    split
    · rename_i h
      right
      exact ⟨ps[k], List.mem_append_right _ (by simp), h.1, h.2.1, rfl⟩
    · rcases ih (by omega) with h | ⟨p, hp, h⟩
      · exact .inl h
      · exact .inr ⟨p, List.mem_append_left _ hp, h⟩

theorem bst_ge (cur : Int) (ps : List (Int × Int)) (p : Int × Int) (hp : p ∈ ps) (h1 : p.1 ≤ cur) (h2 : cur < p.2) : p.2 ≤ bst cur ps := by
  suffices h : ∀ k, k ≤ ps.length → ∀ p ∈ ps.take k, p.1 ≤ cur → cur < p.2 → p.2 ≤ bst cur (ps.take k) by
    have := h ps.length (Nat.le_refl _)
    rw [List.take_length] at this
    exact this p hp h1 h2
  clear h1 h2 hp p
  intro k
  induction k with
  | zero => intro _ p hp; simp at hp
  | succ k ih =>
    intro hk p hp h1 h2
    rw [List.take_succ_eq_append_getElem (by omega)] at hp ⊢
    rw [bst_snoc]
    rcases List.mem_append.1 hp with hp | hp
    · have := ih (by omega) p hp h1 h2
      split
      · rename_i h; omega
      · exact this
    · have hp' : p = ps[k] := by simpa using hp
      rw [← hp']
      split
      · omega
      · rename_i h; omega

theorem bst_le_take (cur : Int) (ps : List (Int × Int)) (k : Nat) : cur ≤ bst cur (ps.take k) := by
  rcases bst_is cur (ps.take k) with h | ⟨p, _, _, h2, h3⟩ <;> omega

/-- every point of [a, b) is held by a span of ps, and whatever span holds it does not reach beyond b -/
def Cov (ps : List (Int × Int)) (a b : Int) : Prop :=
  ∀ x, a ≤ x → x < b → (∃ p ∈ ps, p.1 ≤ x ∧ x < p.2) ∧ ∀ p ∈ ps, p.1 ≤ x → x < p.2 → p.2 ≤ b

/-- how many spans end at or below c -/
def cnt (ps : List (Int × Int)) (c : Int) : Nat := ps.countP fun p => decide (p.2 ≤ c)

theorem cnt_le (ps : List (Int × Int)) (c : Int) : cnt ps c ≤ ps.length := List.countP_le_length

theorem cnt_mono (ps : List (Int × Int)) (c d : Int) (h : c ≤ d) : cnt ps c ≤ cnt ps d := by
  unfold cnt
  apply List.countP_mono_left
  intro p _ hp
  simp at hp ⊢
  omega

theorem cnt_up (ps : List (Int × Int)) (c : Int) (p : Int × Int) (hp : p ∈ ps) (h : c < p.2) : cnt ps c + 1 ≤ cnt ps p.2 := by
  induction ps with
  | nil => simp at hp
  | cons q r ih =>
    unfold cnt at ih ⊢
    rw [List.countP_cons, List.countP_cons]
    rcases List.mem_cons.1 hp with rfl | hp
    · have := cnt_mono r c p.2 (by omega)
      unfold cnt at this
      rw [if_neg (by simp; omega), if_pos (by simp)]
      omega
    · have := ih hp
      by_cases h1 : q.2 ≤ c
      · rw [if_pos (by simpa using h1), if_pos (by simp; omega)]
        omega
      · rw [if_neg (by simpa using h1)]
        omega

/-- one step of the walk -/
theorem cov_step (ps : List (Int × Int)) (a b c : Int) (h : Cov ps a b) (h1 : a ≤ c) (h2 : c < b) : c < bst c ps ∧ bst c ps ≤ b ∧ cnt ps c + 1 ≤ cnt ps (bst c ps) := by
  obtain ⟨⟨p, hp, hp1, hp2⟩, hle⟩ := h c h1 h2
  have hge := bst_ge c ps p hp hp1 hp2
  rcases bst_is c ps with h3 | ⟨q, hq, hq1, hq2, h3⟩
  · omega
  · rw [h3]
    exact ⟨by omega, hle q hq hq1 hq2, cnt_up ps c q hq (by omega)⟩

/-- what a good union covers -/
theorem Good.cov {ps qs u : List (Int × Int)} (h : Good qs u) (hm : ∀ p, p ∈ qs ↔ p ∈ ps) (s : Int × Int) (hs : s ∈ u) : Cov ps s.1 s.2 := by
  intro x h1 h2
  refine ⟨?_, ?_⟩
  · obtain ⟨p, hp, h3⟩ := h.cover s hs x h1 h2
    exact ⟨p, (hm p).1 hp, h3⟩
  · intro p hp h3 h4
    obtain ⟨t, ht, h5, h6⟩ := h.holds p ((hm p).2 hp) (by omega)
    obtain ⟨i, hi, rfl⟩ := List.mem_iff_getElem.1 hs
    obtain ⟨j, hj, rfl⟩ := List.mem_iff_getElem.1 ht
    have hsep := List.pairwise_iff_getElem.1 h.sep
    rcases Nat.lt_trichotomy i j with hij | hij | hij
    · have := hsep i j hi hj hij; omega
    · subst hij; exact h6
    · have := hsep j i hj hi hij; omega

end Go.Proofs.Qxb6000858a
