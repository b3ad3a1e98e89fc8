/-
  appendString (20) and ZZappendString (15): what they append, and their contract.
-/
import Derived.Test.Qxb6600657aKit
import Derived.Lib.AppendStr
import Derived.Deep.RegionLaw
import Derived.Outline
namespace Go.Proofs.Qxb6600657a
open Go.RowKit
set_option linter.unusedVariables false

/-- a lowercase hexadecimal digit -/
def hx (d : Int) : Int := if d < 10 then 48 + d else 87 + d

/-- what appendString writes for one byte -/
def esc (c : Int) : List Int :=
  if c = 34 ∨ c = 92 then [92, c] else if c = 8 then [92, 98] else if c = 12 then [92, 102] else if c = 10 then [92, 110] else if c = 13 then [92, 114] else if c = 9 then [92, 116]
  else if c < 32 then [92, 117, 48, 48, hx (c / 16), hx (c % 16)] else [c]

/-- .. for a list of bytes -/
def body (xs : List Int) : List Int := xs.flatMap esc

theorem esc_len (c : Int) : 1 ≤ (esc c).length ∧ (esc c).length ≤ 6 := by
  unfold esc
  repeat' split
  all_goals (simp only [List.length_cons, List.length_nil]; omega)

theorem body_len (xs : List Int) : xs.length ≤ (body xs).length ∧ (body xs).length ≤ 6 * xs.length := by
  unfold body
  induction xs with
  | nil => simp
  | cons c r ih =>
    have := esc_len c
    simp only [List.flatMap_cons, List.length_append, List.length_cons]
    omega

theorem body_snoc (xs : List Int) (c : Int) : body (xs ++ [c]) = body xs ++ esc c := by simp [body]

theorem body_take (xs : List Int) (k : Nat) (h : k < xs.length) : body (xs.take (k + 1)) = body (xs.take k) ++ esc (xs.getD k 0) := by
  rw [List.take_succ_eq_append_getElem h, body_snoc]
  simp [h]

/-- append onto an owned row, as one step of a region that draws -/
theorem step_append_own {P : Program} {ops : Array Oper} {o : Oper} {a : Act} {w : World} {K : Act → World → Prop} {Q : Exit → Act → World → Prop} {E : Prop}
    (hg : o.guard = none) (s x : Operand) (t : TypeId) (hop : o.op = Op.call { callee := Callee.builtin Builtin.append, args := #[s, x], argTypes := #[t, t] })
    (base : Nat) (e : TypeId) (i : TypeInfo) (z : Value) (size bytes : Nat) (h1 : P.underlying t = some (.slice e)) (h2 : P.info? e = some i) (h3 : i.zero = some z) (h4 : i.size = size) (h5 : i.bytes = bytes) (h6 : z.cells.size = size) (h7 : 0 < size)
    (v : Value) (n : Nat) (xs : List Value) (hs : a.eval s = v) (hown : w.ownsRow base e size v n xs)
    (ad : Addr) (m c : Nat) (news : List Value) (hx : a.eval x = .slice (some ad) m c) (hn : news.length = m * size) (hc : ∀ j u, news[j]? = some u → w.cell? (ad.add j) = some u) (h1c : ∀ u ∈ news, u.oneCell' = true)
    (b1 : n + m ≤ maxLen) (b2 : (n + m) * bytes ≤ 140737488355328) (hbase : base ≤ w.heap.size)
    (hK : ∀ v' w', w'.ownsRow base e size v' (n + m) (xs ++ news) → w.grownBy w' v.ownBlock → K (a.put o.dst v') w') :
    if Region.wanted o (yielded ops a.tmps) = true then Oper.wp P o a w K Q else E := by
  have hw : Region.wanted o (yielded ops a.tmps) = true := by simp [Region.wanted, hg]
  rw [if_pos hw]
  obtain ⟨v', w', hrun, r1, r2, _⟩ := run_append_own (P := P) w base t o.type e i z size bytes h1 h2 h3 h4 h5 h6 h7 v n xs hown ad m c news hn hc h1c b1 b2 hbase
  unfold Oper.wp
  simp [execOp, hop, resolve, invoke, builtin, hs, hx, hrun, Result.andThen]
  exact hK v' w' r1 r2

theorem and15 (c : Int) (h0 : 0 ≤ c) (h1 : c < 32) : bits BinOp.and IntKind.u8 c 15 = c % 16 := by
  have h : ∀ n : Fin 32, bits BinOp.and IntKind.u8 ((n.val : Nat) : Int) 15 = ((n.val : Nat) : Int) % 16 := by decide
  have := h ⟨c.toNat, by omega⟩
  simpa [show ((c.toNat : Nat) : Int) = c by omega] using this

/-- the digit that stands in the table of digits -/
theorem hex_at (d : Int) (h0 : 0 ≤ d) (h1 : d < 16) : ∃ Y : Nat, (∀ h, (({ data := #[48, 49, 50, 51, 52, 53, 54, 55, 56, 57, 97, 98, 99, 100, 101, 102] } : ByteArray)[d.toNat]'h).toNat = Y) ∧ Hid ((Y : Int) = hx d) := by
  have h : ∀ n : Fin 16, ∀ h, (((({ data := #[48, 49, 50, 51, 52, 53, 54, 55, 56, 57, 97, 98, 99, 100, 101, 102] } : ByteArray)[n.val]'h).toNat : Nat) : Int) = hx ((n.val : Nat) : Int) := by decide
  have h' := h ⟨d.toNat, by omega⟩
  have hs : d.toNat < ({ data := #[48, 49, 50, 51, 52, 53, 54, 55, 56, 57, 97, 98, 99, 100, 101, 102] } : ByteArray).size := by show d.toNat < 16; omega
  refine ⟨(({ data := #[48, 49, 50, 51, 52, 53, 54, 55, 56, 57, 97, 98, 99, 100, 101, 102] } : ByteArray)[d.toNat]'hs).toNat, fun _ => rfl, ?_⟩
  have := h' hs
  rw [show (((⟨d.toNat, by omega⟩ : Fin 16).val : Nat) : Int) = d by show ((d.toNat : Nat) : Int) = d; omega] at this
  exact this

theorem cells6 (W : World) (a0 a1 a2 a3 a4 a5 : Value) : ∀ j u, [a0, a1, a2, a3, a4, a5][j]? = some u → (W.alloc (.cells #[a0, a1, a2, a3, a4, a5] 5)).cell? ((⟨W.heap.size, 0, none⟩ : Addr).add j) = some u := by
  intro j u hj
  rw [Addr.add_lit, Nat.zero_add, World.cell?_alloc_new]
  simpa using hj

theorem one6 (a0 a1 a2 a3 a4 a5 : Int) : ∀ u ∈ [Value.int .u8 a0, .int .u8 a1, .int .u8 a2, .int .u8 a3, .int .u8 a4, .int .u8 a5], u.oneCell' = true := by
  intro u hu
  simp at hu
  rcases hu with rfl | rfl | rfl | rfl | rfl | rfl <;> rfl

/-- the state at a round's head: k bytes of s are written -/
def At (w : World) (xb xs : List Int) (k : Nat) (wr : World) (v : Value) : Prop :=
  wr.ownsRow w.heap.size 5 1 v (xb ++ [34] ++ body (xs.take k)).length (cellsOf (xb ++ [34] ++ body (xs.take k))) ∧ Below w.heap.size w wr ∧ w.heap.size ≤ wr.heap.size

theorem At.step {w wr wr' w2 : World} {xb xs : List Int} {k m : Nat} {v v' : Value} {news : List Value} (h : At w xb xs k wr v) (hk : k < xs.length) (hw' : Below w.heap.size w wr')
    (hn : news = cellsOf (esc (xs.getD k 0))) (hm : m = (esc (xs.getD k 0)).length)
    (hown : w2.ownsRow w.heap.size 5 1 v' ((xb ++ [34] ++ body (xs.take k)).length + m) (cellsOf (xb ++ [34] ++ body (xs.take k)) ++ news)) (hg : wr'.grownBy w2 v.ownBlock) : At w xb xs (k + 1) w2 v' := by
  have hb : Below w.heap.size w w2 := hw'.grown hg hw'.size (fun q hq => (h.1.lt q hq).1)
  refine ⟨?_, hb, hb.size⟩
  rw [body_take xs k hk]
  have e1 : xb ++ [34] ++ (body (xs.take k) ++ esc (xs.getD k 0)) = (xb ++ [34] ++ body (xs.take k)) ++ esc (xs.getD k 0) := by simp
  have e2 : cellsOf (xb ++ [34] ++ (body (xs.take k) ++ esc (xs.getD k 0))) = cellsOf (xb ++ [34] ++ body (xs.take k)) ++ news := by
    rw [hn, e1]; simp [cellsOf]
  rw [e2, e1, List.length_append, ← hm]
  exact hown

set_option maxHeartbeats 1000000 in
theorem append_str (ab : Option Addr) (nb : Nat) (g n cap : Nat) (xb xs : List Int) (w : World) (hnb : nb ≤ 1048576) (hn : n ≤ 1048576) (hxb : xb.length = nb) (hxs : xs.length = n)
    (hab : ab = none → nb = 0) (hb : Rd w ab xb) (hg : g < w.heap.size) (hc : ∀ i, i < n → w.cell? ⟨g, i, none⟩ = some (.int .u8 (xs.getD i 0))) (hbd : ∀ c ∈ xs, 0 ≤ c ∧ c ≤ 255) :
    Calls Try.prog 20 #[.slice ab nb nb, .slice (some ⟨g, 0, none⟩) n cap] w fun e w' => ∃ ao cap', e = .returned (.slice ao (nb + 1 + (body xs).length + 1) cap') ∧ Rd w' ao (xb ++ [34] ++ body xs ++ [34]) ∧ Below w.heap.size w w' := by
  obtain ⟨i0, hi, hz0, hz1, hz2⟩ := info_parts info5
  go_enter Try.func20, Try.ntmps20
  go_wp2_with (at_builtin; refine wpList_append_grows _ rfl _ _ 22 rfl 5 i0 (.int .u8 0) 1 1 Try.underlying22 hi hz0 hz1 hz2 rfl (by decide) ab nb nb (cellsOf xb) rfl ?hnone ?hlo ?holds ⟨w.heap.size, 0, none⟩ 1 1 [.int .u8 34] rfl rfl ?c1 ?c2 (by omega) ?b1 ?b2 ?_)
  case hnone => exact fun h => ⟨hab h, hab h⟩
  case hlo => simp [cellsOf, hxb]
  case holds =>
    intro b hb' j u hu
    rcases hb with h | ⟨g', h1, h2, h3⟩
    · subst h; simp [cellsOf] at hu
    · have hj : j < xb.length := by
        have := (List.getElem?_eq_some_iff.1 hu).1
        simpa [cellsOf] using this
      rw [cellsOf_get xb j hj] at hu
      rw [h1] at hb'
      cases hb'
      rw [Addr.add_lit, Nat.zero_add]
      rw [World.cell?_alloc_lt _ _ _ h2, h3 j hj]
      exact hu
  case c1 =>
    intro j u hj
    match j, hj with
    | 0, hj => simp at hj; subst hj; simp [Addr.add]
  case c2 => intro u hu; simp at hu; subst hu; rfl
  case b1 => unfold maxLen; omega
  case b2 => omega
  intro v0 w1 hown hgrow
  have hat0 : At w xb xs 0 w1 v0 := by
    have hb1 : Below w.heap.size w w1 := ((Below.refl w.heap.size w).alloc (Nat.le_refl _) _).grown hgrow (by simp) (fun k h => by cases h)
    refine ⟨?_, hb1, hb1.size⟩
    have e : cellsOf (xb ++ [34] ++ body (xs.take 0)) = cellsOf xb ++ [.int .u8 34] := by simp [cellsOf, body]
    have e2 : (xb ++ [34] ++ body (xs.take 0)).length = nb + 1 := by simp [body, hxb]
    rw [e, e2]
    rcases hown with ⟨h1, h2⟩
    refine ⟨h1, ?_⟩
    rcases h2 with h2 | ⟨g', cap', cur, hv, hg', r⟩
    · exact .inl h2
    · exact .inr ⟨g', cap', cur, hv, by have : (w.alloc (.cells #[Value.int .u8 34] 5)).heap.size = w.heap.size + 1 := by simp
                                        omega, r⟩
  clear hown hgrow hb hab
  go_wp2
  go_loopw [0, 12] (fun v i wr => ∃ k : Nat, k ≤ n ∧ i = .int .i64 k ∧ At w xb xs k wr v) (fun _ i _ => n - (intOf i).toNat)
  case atStart => exact ⟨0, Nat.zero_le _, rfl, hat0⟩
  case round =>
    obtain ⟨k, hk, rfl, hat⟩ := hrel
    clear hat0
    obtain ⟨L, hL⟩ : ∃ L, L = (xb ++ [34] ++ body (xs.take k)).length := ⟨_, rfl⟩
    have hLb : L ≤ 8000000 := by
      have := body_len (xs.take k)
      simp at hL this
      omega
    by_cases hlt : k < n
    · obtain ⟨c, hcu⟩ : ∃ c, c = xs.getD k 0 := ⟨_, rfl⟩
      have g1 : wr.cell? ⟨g, k, none⟩ = some (.int .u8 c) := by
        rw [hcu, (hat.2.1.cell (p := ⟨g, k, none⟩) hg), hc k hlt]
      have hown := hat.1
      rw [← hL] at hown
      have HN : Hid (∀ (wr' w2 : World) (m : Nat) (v' : Value) (news : List Value), Below w.heap.size w wr' → news = cellsOf (esc c) → m = (esc c).length →
          w2.ownsRow w.heap.size 5 1 v' (L + m) (cellsOf (xb ++ [34] ++ body (xs.take k)) ++ news) → wr'.grownBy w2 u0.ownBlock → At w xb xs (k + 1) w2 v') := by
        intro wr' w2 m v' news h1 h2 h3 h4 h5
        rw [hcu] at h2 h3
        exact hat.step (by omega) h1 h2 h3 (by rw [← hL]; exact h4) h5
      have hcb : 0 ≤ c ∧ c ≤ 255 := by
        have hm : xs[k]'(by omega) ∈ xs := List.getElem_mem _
        have := hbd _ hm
        rw [hcu, List.getD_eq_getElem?_getD, List.getElem?_eq_getElem (by omega)]
        exact this
      obtain ⟨hc0, hc1⟩ := hcb
      obtain ⟨C, hC⟩ : ∃ C, C = cellsOf (xb ++ [34] ++ body (xs.take k)) := ⟨_, rfl⟩
      rw [← hC] at hown HN
      have hbel := hat.2.1
      have hsz := hat.2.2
      have HB : Hid (Below w.heap.size w wr) := hbel
      clear hat hcu hC hL hc hbel
      by_cases c34 : c = 34
      · subst c34
        go_wp2_with (at_builtin; refine wpList_append_own _ rfl _ _ 22 rfl w.heap.size 5 i0 (.int .u8 0) 1 1 Try.underlying22 hi hz0 hz1 hz2 rfl (by decide) _ _ _ rfl (hown.alloc _) ⟨wr.heap.size, 0, none⟩ 2 2 [.int .u8 92, .int .u8 34] rfl rfl ?c1 ?c2 ?b1 ?b2 ?b3 ?_)
        case c1 =>
          intro j u hj
          match j, hj with
          | 0, hj => simp at hj; subst hj; simp [Addr.add]
          | 1, hj => simp at hj; subst hj; simp [Addr.add]
        case c2 => intro u hu; simp at hu; rcases hu with rfl | rfl <;> rfl
        case b1 => unfold maxLen; omega
        case b2 => omega
        case b3 => simp; omega
        intro v' w2 hown' hgrow' _
        have hat' := HN.out _ w2 _ v' _ (HB.out.alloc hsz _) rfl rfl hown' hgrow'
        clear hown' hgrow' hown
        go_wp2
        go_roundw
        case rel => exact ⟨k + 1, by omega, by go_num, hat'⟩
        case measure => simp [intOf]; omega
      by_cases c92 : c = 92
      · subst c92
        go_wp2_with (at_builtin; refine wpList_append_own _ rfl _ _ 22 rfl w.heap.size 5 i0 (.int .u8 0) 1 1 Try.underlying22 hi hz0 hz1 hz2 rfl (by decide) _ _ _ rfl (hown.alloc _) ⟨wr.heap.size, 0, none⟩ 2 2 [.int .u8 92, .int .u8 92] rfl rfl ?c1 ?c2 ?b1 ?b2 ?b3 ?_)
        case c1 =>
          intro j u hj
          match j, hj with
          | 0, hj => simp at hj; subst hj; simp [Addr.add]
          | 1, hj => simp at hj; subst hj; simp [Addr.add]
        case c2 => intro u hu; simp at hu; rcases hu with rfl | rfl <;> rfl
        case b1 => unfold maxLen; omega
        case b2 => omega
        case b3 => simp; omega
        intro v' w2 hown' hgrow' _
        have hat' := HN.out _ w2 _ v' _ (HB.out.alloc hsz _) rfl rfl hown' hgrow'
        clear hown' hgrow' hown
        go_wp2
        go_roundw
        case rel => exact ⟨k + 1, by omega, by go_num, hat'⟩
        case measure => simp [intOf]; omega
      by_cases c8 : c = 8
      · subst c8
        go_wp2_with (at_builtin; refine Lib.wpList_append_own_string _ rfl _ _ 22 9 rfl w.heap.size 5 i0 Try.underlying22 Try.underlying9 hi hz0 hz1 hz2 _ _ _ rfl hown ⟨#[92, 98]⟩ rfl ?b1 ?b2 ?b3 ?_)
        case b1 => show L + 2 ≤ _; unfold maxLen; omega
        case b2 => show L + 2 ≤ _; omega
        case b3 => omega
        intro v' w2 hown' hgrow' _
        have hat' := HN.out _ w2 2 v' _ HB.out (show Lib.strCells ⟨#[92, 98]⟩ = cellsOf (esc 8) from rfl) rfl hown' hgrow'
        clear hown' hgrow' hown
        go_wp2
        go_roundw
        case rel => exact ⟨k + 1, by omega, by go_num, hat'⟩
        case measure => simp [intOf]; omega
      by_cases c12 : c = 12
      · subst c12
        go_wp2_with (at_builtin; refine Lib.wpList_append_own_string _ rfl _ _ 22 9 rfl w.heap.size 5 i0 Try.underlying22 Try.underlying9 hi hz0 hz1 hz2 _ _ _ rfl hown ⟨#[92, 102]⟩ rfl ?b1 ?b2 ?b3 ?_)
        case b1 => show L + 2 ≤ _; unfold maxLen; omega
        case b2 => show L + 2 ≤ _; omega
        case b3 => omega
        intro v' w2 hown' hgrow' _
        have hat' := HN.out _ w2 2 v' _ HB.out (show Lib.strCells ⟨#[92, 102]⟩ = cellsOf (esc 12) from rfl) rfl hown' hgrow'
        clear hown' hgrow' hown
        go_wp2
        go_roundw
        case rel => exact ⟨k + 1, by omega, by go_num, hat'⟩
        case measure => simp [intOf]; omega
      by_cases c10 : c = 10
      · subst c10
        go_wp2_with (at_builtin; refine Lib.wpList_append_own_string _ rfl _ _ 22 9 rfl w.heap.size 5 i0 Try.underlying22 Try.underlying9 hi hz0 hz1 hz2 _ _ _ rfl hown ⟨#[92, 110]⟩ rfl ?b1 ?b2 ?b3 ?_)
        case b1 => show L + 2 ≤ _; unfold maxLen; omega
        case b2 => show L + 2 ≤ _; omega
        case b3 => omega
        intro v' w2 hown' hgrow' _
        have hat' := HN.out _ w2 2 v' _ HB.out (show Lib.strCells ⟨#[92, 110]⟩ = cellsOf (esc 10) from rfl) rfl hown' hgrow'
        clear hown' hgrow' hown
        go_wp2
        go_roundw
        case rel => exact ⟨k + 1, by omega, by go_num, hat'⟩
        case measure => simp [intOf]; omega
      by_cases c13 : c = 13
      · subst c13
        go_wp2_with (at_builtin; refine Lib.wpList_append_own_string _ rfl _ _ 22 9 rfl w.heap.size 5 i0 Try.underlying22 Try.underlying9 hi hz0 hz1 hz2 _ _ _ rfl hown ⟨#[92, 114]⟩ rfl ?b1 ?b2 ?b3 ?_)
        case b1 => show L + 2 ≤ _; unfold maxLen; omega
        case b2 => show L + 2 ≤ _; omega
        case b3 => omega
        intro v' w2 hown' hgrow' _
        have hat' := HN.out _ w2 2 v' _ HB.out (show Lib.strCells ⟨#[92, 114]⟩ = cellsOf (esc 13) from rfl) rfl hown' hgrow'
        clear hown' hgrow' hown
        go_wp2
        go_roundw
        case rel => exact ⟨k + 1, by omega, by go_num, hat'⟩
        case measure => simp [intOf]; omega
      by_cases c9 : c = 9
      · subst c9
        go_wp2_with (at_builtin; refine Lib.wpList_append_own_string _ rfl _ _ 22 9 rfl w.heap.size 5 i0 Try.underlying22 Try.underlying9 hi hz0 hz1 hz2 _ _ _ rfl hown ⟨#[92, 116]⟩ rfl ?b1 ?b2 ?b3 ?_)
        case b1 => show L + 2 ≤ _; unfold maxLen; omega
        case b2 => show L + 2 ≤ _; omega
        case b3 => omega
        intro v' w2 hown' hgrow' _
        have hat' := HN.out _ w2 2 v' _ HB.out (show Lib.strCells ⟨#[92, 116]⟩ = cellsOf (esc 9) from rfl) rfl hown' hgrow'
        clear hown' hgrow' hown
        go_wp2
        go_roundw
        case rel => exact ⟨k + 1, by omega, by go_num, hat'⟩
        case measure => simp [intOf]; omega
      have e34 : (c == 34) = false := by simpa using c34
      have e92 : (c == 92) = false := by simpa using c92
      have e8 : (c == 8) = false := by simpa using c8
      have e12 : (c == 12) = false := by simpa using c12
      have e10 : (c == 10) = false := by simpa using c10
      have e13 : (c == 13) = false := by simpa using c13
      have e9 : (c == 9) = false := by simpa using c9
      by_cases c32 : c < 32
      · have he : esc c = [92, 117, 48, 48, hx (c / 16), hx (c % 16)] := by simp [esc, c34, c92, c8, c12, c10, c13, c9, c32]
        rw [he] at HN
        clear c34 c92 c8 c12 c10 c13 c9 he
        obtain ⟨Y1, hY1, HY1⟩ := hex_at (c / 16) (by omega) (by omega)
        obtain ⟨Y2, hY2, HY2⟩ := hex_at (c % 16) (by omega) (by omega)
        have hand := and15 c hc0 c32
        have hml : L + 6 ≤ maxLen := by unfold maxLen; omega
        have hbb : (L + 6) * 1 ≤ 140737488355328 := by omega
        have d1 : 0 ≤ c / 16 := by omega
        have d2 : c / 16 < 16 := by omega
        have d3 : 0 ≤ c % 16 := by omega
        have d4 : c % 16 < 16 := by omega
        go_wp2
        go_region_law (refine step_append_own rfl (.tmp 19) (.tmp 26) 22 rfl w.heap.size 5 i0 (.int .u8 0) 1 1 Try.underlying22 hi hz0 hz1 hz2 rfl (by decide) _ _ _ rfl (by exact hown.drew.alloc _) ⟨wr.heap.size, 0, none⟩ 6 6 [.int .u8 92, .int .u8 117, .int .u8 48, .int .u8 48, .int .u8 Y1, .int .u8 Y2] rfl rfl (by exact cells6 _ _ _ _ _ _ _) (one6 _ _ _ _ _ _) hml hbb (by simp; omega) ?_; intro v' w2 hown' hgrow')
        all_goals
          have hat' := HN.out _ w2 6 v' _ (HB.out.drew.alloc hsz _) (show _ = cellsOf [92, 117, 48, 48, hx (c / 16), hx (c % 16)] by rw [← HY1.out, ← HY2.out]; rfl) rfl hown' hgrow'
          clear hown' hgrow' hown
          go_wp2
          go_roundw
          case rel => exact ⟨k + 1, by omega, by go_num, hat'⟩
          case measure => simp [intOf]; omega
      · have he : esc c = [c] := by simp [esc, c34, c92, c8, c12, c10, c13, c9, c32]
        rw [he] at HN
        clear c34 c92 c8 c12 c10 c13 c9 he
        go_wp2_with (at_builtin; refine wpList_append_own _ rfl _ _ 22 rfl w.heap.size 5 i0 (.int .u8 0) 1 1 Try.underlying22 hi hz0 hz1 hz2 rfl (by decide) _ _ _ rfl (hown.alloc _) ⟨wr.heap.size, 0, none⟩ 1 1 [.int .u8 c] rfl rfl ?c1 ?c2 ?b1 ?b2 ?b3 ?_)
        case c2 => rfl
        case b1 => unfold maxLen; omega
        case b2 => omega
        case b3 => omega
        intro v' w2 hown' hgrow' _
        have hat' := HN.out _ w2 _ v' _ (HB.out.alloc hsz _) rfl rfl hown' hgrow'
        clear hown' hgrow' hown
        go_wp2
        go_roundw
        case rel => exact ⟨k + 1, by omega, by go_num, hat'⟩
        case measure => simp [intOf]; omega
    · have hkn : k = n := by omega
      have hown := hat.1
      have hsz := hat.2.2
      have HB : Hid (Below w.heap.size w wr) := hat.2.1
      have HE : Hid (xs.take k = xs) := List.take_of_length_le (by omega)
      have HL : Hid (L = (xb ++ [34] ++ body (xs.take k)).length) := hL
      rw [← hL] at hown
      obtain ⟨C, hC⟩ : ∃ C, C = cellsOf (xb ++ [34] ++ body (xs.take k)) := ⟨_, rfl⟩
      rw [← hC] at hown
      have HC : Hid (C = cellsOf (xb ++ [34] ++ body (xs.take k))) := hC
      have HX : Hid (xb.length = nb) := hxb
      clear hat hc hL hC hkn hxb hxs
      go_wp2_with (at_builtin; refine wpList_append_own _ rfl _ _ 22 rfl w.heap.size 5 i0 (.int .u8 0) 1 1 Try.underlying22 hi hz0 hz1 hz2 rfl (by decide) _ _ _ rfl (hown.alloc _) ⟨wr.heap.size, 0, none⟩ 1 1 [.int .u8 34] rfl rfl ?zc1 ?zc2 ?zb1 ?zb2 ?zb3 ?_)
      case zc1 =>
        intro j u hj
        match j, hj with
        | 0, hj => simp at hj; subst hj; simp [Addr.add]
      case zc2 => intro u hu; simp at hu; subst hu; rfl
      case zb1 => unfold maxLen; omega
      case zb2 => omega
      case zb3 => simp; omega
      intro v' w2 hown' hgrow' _
      have hbel' : Below w.heap.size w w2 := (HB.out.alloc hsz _).grown hgrow' (by simp; omega) (fun q hq => (hown.lt q hq).1)
      obtain ⟨ao, cap', hv', hrd⟩ : ∃ ao cap', v' = .slice ao (nb + 1 + (body xs).length + 1) cap' ∧ Rd w2 ao (xb ++ [34] ++ body xs ++ [34]) := by
        have e1 : (xb ++ [34] ++ body xs ++ [34]).length = nb + 1 + (body xs).length + 1 := by
          have := HX.out
          simp only [List.length_append, List.length_cons, List.length_nil]
          omega
        have h' : w2.ownsRow w.heap.size 5 1 v' (xb ++ [34] ++ body xs ++ [34]).length (cellsOf (xb ++ [34] ++ body xs ++ [34])) := by
          have eC : C ++ [Value.int .u8 34] = cellsOf (xb ++ [34] ++ body xs ++ [34]) := by
            rw [HC.out, HE.out]; simp [cellsOf]
          have eL : L + 1 = (xb ++ [34] ++ body xs ++ [34]).length := by
            rw [HL.out, HE.out, List.length_append (bs := [34])]; rfl
          rw [← eC, ← eL]
          exact hown'
        obtain ⟨ao, cap', h1, h2, _⟩ := rd_of_owns h'
        exact ⟨ao, cap', by rw [h1, e1], h2⟩
      rw [hv']
      clear hown' hgrow' hown
      go_wp2
      go_ret
      exact ⟨_, _, rfl, hrd, hbel'⟩

end Go.Proofs.Qxb6600657a
