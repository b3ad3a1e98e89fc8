/-
  What the laws of this seat share: an argument in a later world; the bytes' bounds; plain laws on what is appended.
-/
import Derived.Test.Qxb6600657aZStr
import Derived.OpenShut
namespace Go.Proofs.Qxb6600657a
open Go.RowKit
set_option linter.unusedVariables false

theorem IsRow.below {w w' : World} {k : IntKind} {a : Option Addr} {len cap : Nat} {zs : List Int} (h : IsRow k w a len cap zs) (hb : Below w.heap.size w w') : IsRow k w' a len cap zs := by
  rcases h with h | ⟨x, rfl, hl, hm, hz, hc, hwf⟩
  · exact .inl h
  · refine .inr ⟨x, rfl, hl, hm, hz, fun i hi => ?_, hwf⟩
    have h1 := hc i hi
    rw [← h1]
    exact hb.cell (World.block_lt_of_cell? w _ h1)

theorem IsRow.len {w : World} {k : IntKind} {a : Option Addr} {len cap : Nat} {zs : List Int} (h : IsRow k w a len cap zs) : (zs.take len).length = len ∧ len ≤ maxLen := by
  rcases h with ⟨_, rfl, _, rfl⟩ | ⟨x, rfl, hl, hm, hz, hc, hwf⟩
  · simp
  · refine ⟨by simp; omega, by omega⟩

theorem IsRow.bytes {w : World} {a : Option Addr} {len cap : Nat} {zs : List Int} (h : IsRow .u8 w a len cap zs) : ∀ c ∈ zs.take len, 0 ≤ c ∧ c ≤ 255 := by
  intro c hc
  rcases h with ⟨_, rfl, _, rfl⟩ | ⟨x, rfl, hl, hm, hz, _, hwf⟩
  · simp at hc
  · exact bounds_u8 (hwf c (List.mem_of_mem_take hc))

theorem below_drewN {B : Nat} {a w : World} (h : Below B a w) (q : Nat) : Below B a (w.drewN q) := ⟨h.os, h.tape, h.output, h.size, h.block⟩

/-- is the byte written otherwise than as itself? -/
def sp (c : Int) : Bool := decide (c < 32) || c == 34 || c == 92
def spec (xs : List Int) : Bool := xs.any sp

theorem spec_take (xs : List Int) (k : Nat) (h : k < xs.length) : spec (xs.take (k + 1)) = (spec (xs.take k) || sp (xs.getD k 0)) := by
  rw [List.take_succ_eq_append_getElem h, spec, List.any_append, List.getD_eq_getElem?_getD, List.getElem?_eq_getElem h]
  simp [spec]

theorem esc_plain (c : Int) (h : sp c = false) : esc c = [c] := by
  simp [sp] at h
  obtain ⟨⟨h1, h2⟩, h3⟩ := h
  unfold esc
  rw [if_neg (by omega), if_neg (by omega), if_neg (by omega), if_neg (by omega), if_neg (by omega), if_neg (by omega), if_neg (by omega)]

theorem esc_sp (c : Int) (h : sp c = true) : 2 ≤ (esc c).length := by
  simp [sp] at h
  unfold esc
  repeat' split
  all_goals first | (simp only [List.length_cons, List.length_nil]; omega) | (exfalso; omega)

theorem body_plain (xs : List Int) (h : spec xs = false) : body xs = xs := by
  induction xs with
  | nil => rfl
  | cons c r ih =>
    simp [spec] at h
    have h1 : sp c = false := by simpa using h.1
    have h2 : spec r = false := by simpa [spec] using h.2
    have := ih h2
    unfold body at this ⊢
    rw [List.flatMap_cons, esc_plain c h1, this]
    rfl

theorem body_special (xs : List Int) (h : spec xs = true) : xs.length < (body xs).length := by
  induction xs with
  | nil => simp [spec] at h
  | cons c r ih =>
    have hr := body_len r
    have hc := esc_len c
    have e : (body (c :: r)).length = (esc c).length + (body r).length := by simp [body]
    rw [e, List.length_cons]
    by_cases h1 : sp c = true
    · have := esc_sp c h1
      omega
    · have h2 : spec r = true := by
        simp only [spec, List.any_cons, Bool.or_eq_true] at h ⊢
        rcases h with h | h
        · exact absurd h h1
        · exact h
      have := ih h2
      omega

/-- the whole text -/
def text (xb xs : List Int) : List Int := xb ++ [34] ++ body xs ++ [34]

theorem text_len (xb xs : List Int) : (text xb xs).length = xb.length + 1 + (body xs).length + 1 := by
  simp only [text, List.length_append, List.length_cons, List.length_nil]

theorem text_old (xb xs : List Int) (i : Nat) (h : i < xb.length) : (text xb xs).getD i 0 = xb.getD i 0 := by
  simp [text, h, List.getElem?_append]

theorem text_open (xb xs : List Int) : (text xb xs).getD xb.length 0 = 34 := by
  simp [text]

theorem text_close (xb xs : List Int) (m : Nat) (h : m = xb.length + 1 + (body xs).length) : (text xb xs).getD m 0 = 34 := by
  have e : m - (xb ++ [34] ++ body xs).length = 0 := by
    simp only [List.length_append, List.length_cons, List.length_nil]
    omega
  rw [text, List.getD_eq_getElem?_getD, List.getElem?_append_right (by simp; omega), e]
  rfl

theorem text_body (xb xs : List Int) (i : Nat) (h : i < (body xs).length) : (text xb xs).getD (xb.length + 1 + i) 0 = (body xs).getD i 0 := by
  rw [text, List.getD_eq_getElem?_getD, List.getElem?_append_left (by simp; omega), List.getElem?_append_right (by simp)]
  simp

theorem ret_true {b : Bool} (h : b = true) : Ending.returned (.bool b) = .returned (.bool true) := by rw [h]

end Go.Proofs.Qxb6600657a
