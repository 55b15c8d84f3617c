/-
  DERIVED. container/heap over the cursors: down, Fix, Push.
-/
import Derived.Test.Qxb6615634aHeap
namespace Go.Proofs.Qxb6615634a
open Go.RowKit Go.Sort

/-- Where a heap's work stands: the cursors, some order; only their blocks and the row turned; the variable as it was. -/
structure St (w : World) (B lb : Nat) (v pm am : Value) (S S' : List Cu) (W : World) : Prop where
  perm : S'.Perm S
  heap : HeapAt W B v S'
  only : Only (Own v S) w W
  var : W.heap[lb]? = some (.cells #[pm, v, am] 73 (0, 0))

theorem own_ne {w : World} {B lb : Nat} {v pm am : Value} {S : List Cu} (hl : w.heap[lb]? = some (.cells #[pm, v, am] 73 (0, 0))) (h : HeapAt w B v S) : ¬ Own v S lb := fun hb => by
  rcases hb with hb | hb
  · rcases h.row.2 with ⟨rfl, _⟩ | ⟨g, cap, cur, rfl, _, h2, _⟩
    · cases hb
    · cases hb; rw [hl] at h2; cases h2
  · obtain ⟨c, hc, rfl⟩ := List.mem_map.1 hb
    obtain ⟨k, hk, rfl⟩ := List.getElem_of_mem hc
    have := h.cur k hk
    rw [hl] at this
    simp only [Option.some.injEq, Obj.cells.injEq] at this
    exact absurd this.2.1 (by decide)

theorem St.start {w : World} {B lb : Nat} {v pm am : Value} {S : List Cu} (hl : w.heap[lb]? = some (.cells #[pm, v, am] 73 (0, 0))) (h : HeapAt w B v S) : St w B lb v pm am S S w := ⟨List.Perm.refl _, h, Only.refl _ _, hl⟩
theorem St.drewN {w : World} {B lb : Nat} {v pm am : Value} {S S' : List Cu} {W : World} (h : St w B lb v pm am S S' W) (q : Nat) : St w B lb v pm am S S' (W.drewN q) := ⟨h.perm, h.heap.kept (fun _ _ => rfl), h.only.drewN q, h.var⟩
theorem St.meth {w : World} {B lb : Nat} {v pm am : Value} {S S' : List Cu} {W : World} (h : St w B lb v pm am S S' W) : (method 214 79 (.pointer (some ⟨lb, 1, none⟩)) "Less").run Try.prog W = .ok (62, v) W ∧ (method 214 79 (.pointer (some ⟨lb, 1, none⟩)) "Swap").run Try.prog W = .ok (63, v) W ∧ (method 214 79 (.pointer (some ⟨lb, 1, none⟩)) "Len").run Try.prog W = .ok (61, v) W := by
  have hc : W.cell? ⟨lb, 1, none⟩ = some v := by simp [World.cell?, h.var]
  exact ⟨meth_val "Less" 62 Try.mLess W _ v hc 213, meth_val "Swap" 63 Try.mSwap W _ v hc 213, meth_val "Len" 61 Try.mLen W _ v hc 213⟩
theorem St.less {w : World} {B lb : Nat} {v pm am : Value} {S S' : List Cu} {W : World} (h : St w B lb v pm am S S' W) (i j : Nat) (hi : i < S.length) (hj : j < S.length) :
    Calls Try.prog 62 #[v, .int .i64 i, .int .i64 j] W fun e w' => ∃ b, e = .returned (.bool b) ∧ St w B lb v pm am S S' w' := by
  have hl := h.perm.length_eq
  refine (less_any B v S' i j W h.heap (by omega) (by omega)).mono ?_
  rintro e w' ⟨b, q, rfl, rfl⟩
  exact ⟨b, rfl, h.drewN q⟩
theorem St.swap {w : World} {B lb : Nat} {v pm am : Value} {S S' : List Cu} {W : World} (h : St w B lb v pm am S S' W) (i j : Nat) (hi : i < S.length) (hj : j < S.length) (hne : i ≠ j) :
    Calls Try.prog 63 #[v, .int .i64 i, .int .i64 j] W fun e w' => e = .returned (.tuple #[]) ∧ ∃ S'', St w B lb v pm am S S'' w' := by
  have hl := h.perm.length_eq
  refine (swap_any B v S' i j W h.heap (by omega) (by omega) hne).mono ?_
  rintro e w' ⟨rfl, h1, h2⟩
  refine ⟨rfl, _, (swp_perm S' i j (by omega) (by omega)).trans h.perm, h1, h.only.trans (h2.mono fun x _ hx => ?_), ?_⟩
  · rcases hx with hx | hx
    · exact .inl hx
    · exact .inr ((h.perm.map Cu.p).mem_iff.1 hx)
  · rw [h2.block lb (Array.getElem?_eq_some_iff.1 h.var).1 (own_ne h.var h.heap)]; exact h.var
theorem St.trans {w : World} {B lb : Nat} {v pm am : Value} {S S' S'' : List Cu} {W W' : World} (h : St w B lb v pm am S S' W) (k : St W B lb v pm am S' S'' W') : St w B lb v pm am S S'' W' :=
  ⟨k.perm.trans h.perm, k.heap, h.only.trans (k.only.mono fun x _ hx => by
    rcases hx with hx | hx
    · exact .inl hx
    · exact .inr ((h.perm.map Cu.p).mem_iff.1 hx)), k.var⟩
theorem St.up {w : World} {B lb : Nat} {v pm am : Value} {S S' : List Cu} {W : World} (h : St w B lb v pm am S S' W) (j : Nat) (hj : j < S.length) (hL : S.length ≤ 1000000) :
    Calls Try.prog 36 #[.iface 79 (.pointer (some ⟨lb, 1, none⟩)), .int .i64 j] W fun e w' => e = .returned (.tuple #[]) ∧ ∃ S'', St w B lb v pm am S S'' w' := by
  have hl := h.perm.length_eq
  refine (up_any B lb v pm am S' j W h.var h.heap (by omega) (by omega)).mono ?_
  rintro e w' ⟨rfl, S'', h1, h2, h3⟩
  refine ⟨rfl, S'', h.trans ⟨h1, h2, h3, ?_⟩⟩
  rw [h3.block lb (Array.getElem?_eq_some_iff.1 h.var).1 (own_ne h.var h.heap)]; exact h.var

/-- Some bool is returned. -/
def RetB (e : Ending) : Prop := ∃ b, e = .returned (.bool b)

set_option maxRecDepth 100000 in
/-- Len. -/
theorem len_any (a : Option Addr) (n c : Nat) (w : World) : Calls Try.prog 61 #[.slice a n c] w fun e w' => e = .returned (.int .i64 n) ∧ w' = w := by
  go_enter Try.func61, Try.ntmps61
  go_wp2
  go_ret
  exact ⟨rfl, rfl⟩

set_option maxRecDepth 100000 in
set_option maxHeartbeats 1000000 in
theorem down_any (B lb : Nat) (v pm am : Value) (S S0 : List Cu) (i0 : Nat) (w W : World) (h : St w B lb v pm am S S0 W) (hi : i0 < S.length) (hL : S.length ≤ 1000000) :
    Calls Try.prog 35 #[.iface 79 (.pointer (some ⟨lb, 1, none⟩)), .int .i64 i0, .int .i64 (S.length : Int)] W fun e w' => RetB e ∧ ∃ S'', St w B lb v pm am S S'' w' := by
  have H0 : Hid (St w B lb v pm am S S0 W) := h
  clear h
  go_enter Try.func35, Try.ntmps35
  go_wp2_with fail
  go_loopg [7] (S.length - i0) (fun gk iv wr => ∃ i : Nat, iv = .int .i64 i ∧ gk = S.length - i ∧ i < S.length ∧ Hid (∃ S', St w B lb v pm am S S' wr))
  case atStart => exact ⟨i0, rfl, rfl, hi, S0, H0.out⟩
  case round =>
    obtain ⟨i, rfl, hgk, hil, HR⟩ := hrel
    obtain ⟨S', hS⟩ := HR.out
    have HS : Hid (St w B lb v pm am S S' wr) := hS
    obtain ⟨mL, mS, _⟩ := hS.meth
    clear hS HR
    obtain ⟨d, hd⟩ : ∃ d, d = 2 * i := ⟨_, rfl⟩
    obtain ⟨j1, hj1⟩ : ∃ j1, j1 = d + 1 := ⟨_, rfl⟩
    obtain ⟨j2, hj2⟩ : ∃ j2, j2 = j1 + 1 := ⟨_, rfl⟩
    have hw1 : IntKind.i64.wrap (2 * (i : Int)) = (d : Int) := by rw [IntKind.wrap_i64]; omega
    have hw2 : IntKind.i64.wrap ((d : Int) + 1) = (j1 : Int) := by rw [IntKind.wrap_i64]; omega
    have hw3 : IntKind.i64.wrap ((j1 : Int) + 1) = (j2 : Int) := by rw [IntKind.wrap_i64]; omega
    have HJ : Hid (d = 2 * i ∧ j1 = d + 1 ∧ j2 = j1 + 1) := ⟨hd, hj1, hj2⟩
    have hj0 : ¬ ((j1 : Int) < 0) := by omega
    have hij1 : i < j1 := by omega
    clear hd hj1 hj2
    by_cases hn : S.length ≤ j1
    · have hnI : (S.length : Int) ≤ (j1 : Int) := by omega
      go_wp2
      go_ret
      exact ⟨⟨_, rfl⟩, S', HS.out⟩
    · have hnI : ¬ ((S.length : Int) ≤ (j1 : Int)) := by omega
      by_cases hn2 : j2 < S.length
      · have hn2I : (j2 : Int) < (S.length : Int) := by omega
        go_wp2_with fail
        refine (HS.out.less j2 j1 hn2 (by omega)).mono ?_
        rintro e w2 ⟨b, rfl, hS2⟩
        have HS2 : Hid (St w B lb v pm am S S' w2) := hS2
        obtain ⟨mL2, mS2, _⟩ := hS2.meth
        clear hS2 mL mS
        cases b with
        | true =>
          have hij2 : i < j2 := by have := HJ.out; omega
          go_wp2_with fail
          refine (HS2.out.less j2 i (by omega) hil).mono ?_
          rintro e w4 ⟨b4, rfl, hS4⟩
          have HS4 : Hid (St w B lb v pm am S S' w4) := hS4
          obtain ⟨mL4, mS4, _⟩ := hS4.meth
          clear hS4 mL2 mS2
          cases b4 with
          | false =>
            go_wp2
            go_ret
            exact ⟨⟨_, rfl⟩, S', HS4.out⟩
          | true =>
            go_wp2_with fail
            refine (HS4.out.swap i j2 hil (by omega) (by omega)).mono ?_
            rintro e w5 ⟨rfl, S5, hS5⟩
            have HS5 : Hid (∃ S', St w B lb v pm am S S' w5) := ⟨S5, hS5⟩
            clear hS5 mL4 mS4
            go_wp2
            go_roundg (S.length - j2)
            case measure => omega
            case rel => exact ⟨j2, rfl, rfl, by omega, HS5⟩
        | false =>
          go_wp2_with fail
          refine (HS2.out.less j1 i (by omega) hil).mono ?_
          rintro e w4 ⟨b4, rfl, hS4⟩
          have HS4 : Hid (St w B lb v pm am S S' w4) := hS4
          obtain ⟨mL4, mS4, _⟩ := hS4.meth
          clear hS4 mL2 mS2
          cases b4 with
          | false =>
            go_wp2
            go_ret
            exact ⟨⟨_, rfl⟩, S', HS4.out⟩
          | true =>
            go_wp2_with fail
            refine (HS4.out.swap i j1 hil (by omega) (by omega)).mono ?_
            rintro e w5 ⟨rfl, S5, hS5⟩
            have HS5 : Hid (∃ S', St w B lb v pm am S S' w5) := ⟨S5, hS5⟩
            clear hS5 mL4 mS4
            go_wp2
            go_roundg (S.length - j1)
            case measure => omega
            case rel => exact ⟨j1, rfl, rfl, by omega, HS5⟩
      · have hn2I : ¬ ((j2 : Int) < (S.length : Int)) := by omega
        go_wp2_with fail
        refine (HS.out.less j1 i (by omega) hil).mono ?_
        rintro e w4 ⟨b4, rfl, hS4⟩
        have HS4 : Hid (St w B lb v pm am S S' w4) := hS4
        obtain ⟨mL4, mS4, _⟩ := hS4.meth
        clear hS4 mL mS
        cases b4 with
        | false =>
          go_wp2
          go_ret
          exact ⟨⟨_, rfl⟩, S', HS4.out⟩
        | true =>
          go_wp2_with fail
          refine (HS4.out.swap i j1 hil (by omega) (by omega)).mono ?_
          rintro e w5 ⟨rfl, S5, hS5⟩
          have HS5 : Hid (∃ S', St w B lb v pm am S S' w5) := ⟨S5, hS5⟩
          clear hS5 mL4 mS4
          go_wp2
          go_roundg (S.length - j1)
          case measure => omega
          case rel => exact ⟨j1, rfl, rfl, by omega, HS5⟩
end Go.Proofs.Qxb6615634a
