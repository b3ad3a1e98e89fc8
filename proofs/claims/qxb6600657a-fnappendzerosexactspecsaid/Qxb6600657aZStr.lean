/-
  appendString (20) at an empty s; ZZappendString (15): the contract at every s.
-/
import Derived.Test.Qxb6600657aStr
namespace Go.Proofs.Qxb6600657a
open Go.RowKit
set_option linter.unusedVariables false

set_option maxHeartbeats 400000 in
theorem append_str0 (ab : Option Addr) (nb : Nat) (sa : Option Addr) (cap : Nat) (xb : List Int) (w : World) (hnb : nb ≤ 1048576) (hxb : xb.length = nb)
    (hab : ab = none → nb = 0) (hb : Rd w ab xb) :
    Calls Try.prog 20 #[.slice ab nb nb, .slice sa 0 cap] w fun e w' => ∃ ao cap', e = .returned (.slice ao (nb + 1 + (body []).length + 1) cap') ∧ Rd w' ao (xb ++ [34] ++ body [] ++ [34]) ∧ Below w.heap.size w w' := by
  obtain ⟨i0, hi, hz0, hz1, hz2⟩ := info_parts info5
  go_enter Try.func20, Try.ntmps20
  go_wp2_with (at_builtin; refine wpList_append_grows _ rfl _ _ 22 rfl 5 i0 (.int .u8 0) 1 1 Try.underlying22 hi hz0 hz1 hz2 rfl (by decide) ab nb nb (cellsOf xb) rfl ?hnone ?hlo ?holds ⟨w.heap.size, 0, none⟩ 1 1 [.int .u8 34] rfl rfl ?c1 ?c2 (by omega) ?b1 ?b2 ?_)
  case hnone => exact fun h => ⟨hab h, hab h⟩
  case hlo => simp [cellsOf, hxb]
  case holds =>
    intro b hb' j u hu
    rcases hb with h | ⟨g', h1, h2, h3⟩
    · subst h; simp [cellsOf] at hu
    · have hj : j < xb.length := by
        have := (List.getElem?_eq_some_iff.1 hu).1
        simpa [cellsOf] using this
      rw [cellsOf_get xb j hj] at hu
      rw [h1] at hb'
      cases hb'
      rw [Addr.add_lit, Nat.zero_add]
      rw [World.cell?_alloc_lt _ _ _ h2, h3 j hj]
      exact hu
  case c1 =>
    intro j u hj
    match j, hj with
    | 0, hj => simp at hj; subst hj; simp [Addr.add]
  case c2 => intro u hu; simp at hu; subst hu; rfl
  case b1 => unfold maxLen; omega
  case b2 => omega
  intro v0 w1 hown hgrow
  have hat0 : At w xb [] 0 w1 v0 := by
    have hb1 : Below w.heap.size w w1 := ((Below.refl w.heap.size w).alloc (Nat.le_refl _) _).grown hgrow (by simp) (fun k h => by cases h)
    refine ⟨?_, hb1, hb1.size⟩
    have e : cellsOf (xb ++ [34] ++ body (([] : List Int).take 0)) = cellsOf xb ++ [.int .u8 34] := by simp [cellsOf, body]
    have e2 : (xb ++ [34] ++ body (([] : List Int).take 0)).length = nb + 1 := by simp [body, hxb]
    rw [e, e2]
    rcases hown with ⟨h1, h2⟩
    refine ⟨h1, ?_⟩
    rcases h2 with h2 | ⟨g', cap', cur, hv, hg', r⟩
    · exact .inl h2
    · exact .inr ⟨g', cap', cur, hv, by have : (w.alloc (.cells #[Value.int .u8 34] 5)).heap.size = w.heap.size + 1 := by simp
                                        omega, r⟩
  clear hown hgrow hb hab
  go_wp2
  refine wp_loop_rounds 1 ?_
  rw [rounds_succ]
  have hown := hat0.1
  have hsz := hat0.2.2
  have HB : Hid (Below w.heap.size w w1) := hat0.2.1
  obtain ⟨L, hL⟩ : ∃ L, L = (xb ++ [34] ++ body (([] : List Int).take 0)).length := ⟨_, rfl⟩
  have hLb : L ≤ 8000000 := by
    simp [body] at hL
    omega
  rw [← hL] at hown
  obtain ⟨C, hC⟩ : ∃ C, C = cellsOf (xb ++ [34] ++ body (([] : List Int).take 0)) := ⟨_, rfl⟩
  rw [← hC] at hown
  have HC : Hid (C = cellsOf (xb ++ [34] ++ body [])) := hC
  have HL : Hid (L = (xb ++ [34] ++ body []).length) := hL
  have HX : Hid (xb.length = nb) := hxb
  clear hat0 hL hC hxb
  go_wp2_with (at_builtin; refine wpList_append_own _ rfl _ _ 22 rfl w.heap.size 5 i0 (.int .u8 0) 1 1 Try.underlying22 hi hz0 hz1 hz2 rfl (by decide) _ _ _ rfl (hown.alloc _) ⟨w1.heap.size, 0, none⟩ 1 1 [.int .u8 34] rfl rfl ?zc1 ?zc2 ?zb1 ?zb2 ?zb3 ?_)
  case zc1 =>
    intro j u hj
    match j, hj with
    | 0, hj => simp at hj; subst hj; simp [Addr.add]
  case zc2 => intro u hu; simp at hu; subst hu; rfl
  case zb1 => unfold maxLen; omega
  case zb2 => omega
  case zb3 => simp; omega
  intro v' w2 hown' hgrow' _
  have hbel' : Below w.heap.size w w2 := (HB.out.alloc hsz _).grown hgrow' (by simp; omega) (fun q hq => (hown.lt q hq).1)
  obtain ⟨ao, cap', hv', hrd⟩ : ∃ ao cap', v' = .slice ao (nb + 1 + (body []).length + 1) cap' ∧ Rd w2 ao (xb ++ [34] ++ body [] ++ [34]) := by
    have e1 : (xb ++ [34] ++ body [] ++ [34]).length = nb + 1 + (body []).length + 1 := by
      have := HX.out
      simp only [List.length_append, List.length_cons, List.length_nil]
      omega
    have h' : w2.ownsRow w.heap.size 5 1 v' (xb ++ [34] ++ body [] ++ [34]).length (cellsOf (xb ++ [34] ++ body [] ++ [34])) := by
      have eC : C ++ [Value.int .u8 34] = cellsOf (xb ++ [34] ++ body [] ++ [34]) := by
        rw [HC.out]; simp [cellsOf]
      have eL : L + 1 = (xb ++ [34] ++ body [] ++ [34]).length := by
        rw [HL.out, List.length_append (bs := [34])]; rfl
      rw [← eC, ← eL]
      exact hown'
    obtain ⟨ao, cap', h1, h2, _⟩ := rd_of_owns h'
    exact ⟨ao, cap', by rw [h1, e1], h2⟩
  rw [hv']
  clear hown' hgrow' hown
  go_wp2
  go_ret
  exact ⟨_, _, rfl, hrd, hbel'⟩


/-- ZZappendString: b, a quote, what is written for each byte of s, a quote -/
theorem zz_append_str (ab : Option Addr) (nb : Nat) (sa : Option Addr) (n cap : Nat) (xb xs : List Int) (w : World) (hnb : nb ≤ 1048576) (hn : n ≤ 1048576) (hxb : xb.length = nb) (hxs : xs.length = n)
    (hab : ab = none → nb = 0) (hb : Rd w ab xb) (hs : Rd w sa xs) (hbd : ∀ c ∈ xs, 0 ≤ c ∧ c ≤ 255) :
    Calls Try.prog 15 #[.slice ab nb nb, .slice sa n cap] w fun e w' => ∃ ao cap', e = .returned (.slice ao (nb + 1 + (body xs).length + 1) cap') ∧ Rd w' ao (xb ++ [34] ++ body xs ++ [34]) ∧ Below w.heap.size w w' := by
  have main : Calls Try.prog 20 #[.slice ab nb nb, .slice sa n cap] w fun e w' => ∃ ao cap', e = .returned (.slice ao (nb + 1 + (body xs).length + 1) cap') ∧ Rd w' ao (xb ++ [34] ++ body xs ++ [34]) ∧ Below w.heap.size w w' := by
    rcases hs with rfl | ⟨g, rfl, hg, hc⟩
    · obtain rfl : n = 0 := hxs.symm
      exact append_str0 ab nb sa cap xb w hnb hxb hab hb
    · exact append_str ab nb g n cap xb xs w hnb hn hxb hxs hab hb hg (fun i hi => hc i (by omega)) hbd
  go_enter Try.func15, Try.ntmps15
  go_wp2_with fail
  refine main.mono ?_
  rintro e w' ⟨ao, cap', rfl, hrd, hbel⟩
  go_wp2
  go_ret
  exact ⟨_, _, rfl, hrd, hbel⟩

end Go.Proofs.Qxb6600657a
