/-
  appendZeros (19), ZZappendZeros (11).
-/
import Derived.Test.Qxb6600657aLaw
namespace Go.Proofs.Qxb6600657a
open Go.RowKit
set_option linter.unusedVariables false

theorem zeros_none (ab : Option Addr) (nb cap : Nat) (n : Int) (w : World) (hn : n ≤ 0) :
    Calls Try.prog 11 #[.slice ab nb cap, .int .i64 n] w fun e w' => e = .returned (.slice ab nb cap) ∧ w' = w := by
  go_enter Try.func11, Try.ntmps11
  go_wp2
  refine wp_loop_rounds 1 ?_
  rw [rounds_succ]
  go_wp2
  go_ret
  exact ⟨rfl, rfl⟩

/-- the state at a round's head: k zeros are written -/
def ZAt (w : World) (ab : Option Addr) (nb : Nat) (xb : List Int) (k : Nat) (wr : World) (v : Value) : Prop :=
  (k = 0 ∧ v = .slice ab nb nb ∧ wr = w) ∨
  (0 < k ∧ wr.ownsRow w.heap.size 5 1 v (nb + k) (cellsOf (xb ++ List.replicate k 48)) ∧ Below w.heap.size w wr ∧ w.heap.size ≤ wr.heap.size)

set_option maxHeartbeats 400000 in
theorem zeros_some (ab : Option Addr) (nb n : Nat) (xb : List Int) (w : World) (hnb : nb ≤ 1048576) (hn : 0 < n) (hn2 : n ≤ 65536) (hxb : xb.length = nb)
    (hab : ab = none → nb = 0) (hb : Rd w ab xb) :
    Calls Try.prog 11 #[.slice ab nb nb, .int .i64 n] w fun e w' => ∃ ao cap', e = .returned (.slice ao (nb + n) cap') ∧ Rd w' ao (xb ++ List.replicate n 48) ∧ Below w.heap.size w w' := by
  obtain ⟨i0, hi, hz0, hz1, hz2⟩ := info_parts info5
  have HX : Hid (xb.length = nb) := hxb
  clear hxb
  go_enter Try.func11, Try.ntmps11
  go_wp2
  go_loopw [0, 6] (fun v i wr => ∃ k : Nat, k ≤ n ∧ i = .int .i64 k ∧ ZAt w ab nb xb k wr v) (fun _ i _ => n - (intOf i).toNat)
  case atStart => exact ⟨0, Nat.zero_le _, rfl, .inl ⟨rfl, rfl, rfl⟩⟩
  case round =>
    obtain ⟨k, hk, rfl, hat⟩ := hrel
    by_cases hlt : k < n
    · rcases hat with ⟨rfl, rfl, rfl⟩ | ⟨hk0, hown, hbel, hsz⟩
      · go_wp2_with (at_builtin; refine wpList_append_grows _ rfl _ _ 22 rfl 5 i0 (.int .u8 0) 1 1 Try.underlying22 hi hz0 hz1 hz2 rfl (by decide) ab nb nb (cellsOf xb) rfl ?hnone ?hlo ?holds ⟨wr.heap.size, 0, none⟩ 1 1 [.int .u8 48] rfl rfl ?c1 ?c2 (by omega) ?b1 ?b2 ?_)
        case hnone => exact fun h => ⟨hab h, hab h⟩
        case hlo => have := HX.out; simp [cellsOf, this]
        case holds =>
          intro b hb' j u hu
          rcases hb with h | ⟨g', h1, h2, h3⟩
          · subst h; simp [cellsOf] at hu
          · have hj : j < xb.length := by
              have := (List.getElem?_eq_some_iff.1 hu).1
              simpa [cellsOf] using this
            rw [cellsOf_get xb j hj] at hu
            rw [h1] at hb'
            cases hb'
            rw [Addr.add_lit, Nat.zero_add]
            rw [World.cell?_alloc_lt _ _ _ h2, h3 j hj]
            exact hu
        case c1 =>
          intro j u hj
          match j, hj with
          | 0, hj => simp at hj; subst hj; simp [Addr.add]
        case c2 => intro u hu; simp at hu; subst hu; rfl
        case b1 => unfold maxLen; omega
        case b2 => omega
        intro v' w2 hown' hgrow'
        have hat' : ZAt wr ab nb xb (0 + 1) w2 v' := by
          have hb1 : Below wr.heap.size wr w2 := ((Below.refl wr.heap.size wr).alloc (Nat.le_refl _) _).grown hgrow' (by simp) (fun k h => by cases h)
          refine .inr ⟨by omega, ?_, hb1, hb1.size⟩
          have e : cellsOf (xb ++ List.replicate (0 + 1) 48) = cellsOf xb ++ [.int .u8 48] := by simp [cellsOf]
          rw [e]
          rcases hown' with ⟨h1, h2⟩
          refine ⟨h1, ?_⟩
          rcases h2 with h2 | ⟨g', cap', cur, hv, hg', r⟩
          · exact .inl h2
          · exact .inr ⟨g', cap', cur, hv, by omega, r⟩
        clear hown' hgrow'
        go_wp2
        go_roundw
        case rel => exact ⟨0 + 1, by omega, by go_num, hat'⟩
        case measure => simp [intOf]; omega
      · go_wp2_with (at_builtin; refine wpList_append_own _ rfl _ _ 22 rfl w.heap.size 5 i0 (.int .u8 0) 1 1 Try.underlying22 hi hz0 hz1 hz2 rfl (by decide) _ _ _ rfl (hown.alloc _) ⟨wr.heap.size, 0, none⟩ 1 1 [.int .u8 48] rfl rfl ?zc1 ?zc2 ?zb1 ?zb2 ?zb3 ?_)
        case zc1 =>
          intro j u hj
          match j, hj with
          | 0, hj => simp at hj; subst hj; simp [Addr.add]
        case zc2 => intro u hu; simp at hu; subst hu; rfl
        case zb1 => unfold maxLen; omega
        case zb2 => omega
        case zb3 => simp; omega
        intro v' w2 hown' hgrow' _
        have hat' : ZAt w ab nb xb (k + 1) w2 v' := by
          have hb1 : Below w.heap.size w w2 := (hbel.alloc hsz _).grown hgrow' (by simp; omega) (fun q hq => (hown.lt q hq).1)
          refine .inr ⟨by omega, ?_, hb1, hb1.size⟩
          have e : cellsOf (xb ++ List.replicate (k + 1) 48) = cellsOf (xb ++ List.replicate k 48) ++ [.int .u8 48] := by
            rw [List.replicate_succ', ← List.append_assoc]
            simp [cellsOf]
          rw [e]
          exact hown'
        clear hown' hgrow' hown
        go_wp2
        go_roundw
        case rel => exact ⟨k + 1, by omega, by go_num, hat'⟩
        case measure => simp [intOf]; omega
    · have hkn : k = n := by omega
      subst hkn
      rcases hat with ⟨rfl, _, _⟩ | ⟨hk0, hown, hbel, hsz⟩
      · omega
      have hex : ∃ ao cap', u0 = .slice ao (nb + k) cap' ∧ Rd wr ao (xb ++ List.replicate k 48) := by
        have e : (xb ++ List.replicate k 48).length = nb + k := by rw [List.length_append, List.length_replicate, HX.out]
        have h2 : wr.ownsRow w.heap.size 5 1 u0 (xb ++ List.replicate k 48).length (cellsOf (xb ++ List.replicate k 48)) := by rw [e]; exact hown
        obtain ⟨ao, cap', h3, h4, _⟩ := rd_of_owns h2
        exact ⟨ao, cap', by rw [h3, e], h4⟩
      obtain ⟨ao, cap', hu, hrd⟩ := hex
      rw [hu]
      clear hown hu hb
      go_wp2
      go_ret
      exact ⟨_, _, rfl, hrd, hbel⟩

end Go.Proofs.Qxb6600657a
