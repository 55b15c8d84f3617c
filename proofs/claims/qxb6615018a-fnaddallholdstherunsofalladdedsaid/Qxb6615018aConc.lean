/-
  DERIVED. slices.Concat of two slices of ranges; slices.Grow of a nil one.
-/
import Derived.Test.Qxb6615018aRuns
import Derived.Lib.AppendZeros
namespace Go.Proofs.Qxb6615018a
open Go.RowKit Go.Sort

set_option maxRecDepth 100000 in
set_option maxHeartbeats 1000000 in
theorem grow_nil (n : Nat) (hn : n ≤ 1000000000) (w : World) :
    Calls Try.prog 56 #[.slice none 0 0, .int .i64 n] w fun e w' => ∃ v', e = .returned v' ∧ w'.ownsRow w.heap.size 62 18 v' 0 [] ∧ Below w.heap.size w w' := by
  obtain ⟨i0, hinf, hz0, hz1, hz2⟩ := info_parts Try.info62
  obtain ⟨k16, k17, k18, ⟨z22, z24, z27, z30, z53, z40, z62, n16, n17, n18⟩, HK⟩ := sz_ex
  clear z22 z24 z27 z30 z53 z40
  rcases Nat.eq_zero_or_pos n with h0 | h0
  · subst h0
    go_enter Try.func56, Try.ntmps56
    go_wp2
    go_ret
    exact ⟨_, rfl, World.ownsRow_nil _ _ _ _, Below.refl _ _⟩
  · have hr : ∀ ty, (Builtin.append_ #[63, 3] ty #[.slice none 0 0, .int .i64 n]).run Try.prog w = .ok (.slice (some ⟨w.heap.size, 0, none⟩) n (grownCap w n 0 62)) (w.drew.alloc (.cells (Builtin.zeroCells (Value.agg (List.replicate 16 (Value.int .u8 0) ++ ([.int .u64 0, .int .u64 0] : List Value)).toArray).cells n ++ Builtin.zeroCells (Value.agg (List.replicate 16 (Value.int .u8 0) ++ ([.int .u64 0, .int .u64 0] : List Value)).toArray).cells (grownCap w n 0 62 - n)) 62)) := fun ty =>
      Lib.run_append_nil_zeros w 63 3 ty 62 i0 _ .i64 .i64 Try.underlying63 Try.underlying3 hinf hz0 n h0 (by rw [hz1]; omega) (by omega) (by rw [hz2]; omega)
    have c1 := grownCap_ge w n 0 62
    have c2 := grownCap_le_maxLen w n 0 62 (by unfold maxLen; omega)
    have hzs : (Value.agg (List.replicate 16 (Value.int .u8 0) ++ ([.int .u64 0, .int .u64 0] : List Value)).toArray).cells.size = 18 := rfl
    generalize (Value.agg (List.replicate 16 (Value.int .u8 0) ++ ([.int .u64 0, .int .u64 0] : List Value)).toArray).cells = Z at hr hzs
    generalize grownCap w n 0 62 = C at hr c1 c2
    obtain ⟨A, hA⟩ : ∃ A, A = Builtin.zeroCells Z n ++ Builtin.zeroCells Z (C - n) := ⟨_, rfl⟩
    have hAs : A.size = C * 18 := by
      rw [hA, Array.size_append, size_zeroCells, size_zeroCells, hzs, ← Nat.add_mul]
      congr 1; omega
    rw [← hA] at hr
    have HR : Hid (∀ ty, (Builtin.append_ #[63, 3] ty #[.slice none 0 0, .int .i64 n]).run Try.prog w = .ok (.slice (some ⟨w.heap.size, 0, none⟩) n C) (w.drew.alloc (.cells A 62))) := hr
    have HOW : Hid ((w.drew.alloc (.cells A 62)).ownsRow w.heap.size 62 18 (.slice (some ⟨w.heap.size, 0, none⟩) 0 C) 0 []) := ⟨rfl, .inr ⟨w.heap.size, C, A, rfl, Nat.le_refl _, heap_alloc_last w.drew _, by omega, c2, hAs, by simp⟩⟩
    have HB : Hid (Below w.heap.size w (w.drew.alloc (.cells A 62))) := (((Gr.refl w).drew).below.alloc (Nat.le_refl _) _)
    have hni : (0 : Int) < (n : Int) := by omega
    have hCi : (0 : Int) ≤ (C : Int) := by omega
    clear hr hA hzs hAs hz0 c2
    go_enter Try.func56, Try.ntmps56
    go_wp2_with (at_builtin; refine Lib.wpList_append_run _ rfl (.tmp 20) (.tmp 21) 63 3 rfl _ _ rfl rfl _ _ (HR.out _) ?_)
    go_ret
    exact ⟨_, rfl, HOW.out, HB.out⟩

/-- The cells of a slice of ranges, one after the other. -/
theorem rd_flat2 {w : World} {B b o : Nat} {xs : List Rg} (h : RdB encR 18 B w (some ⟨b, o, none⟩) xs) (j : Nat) (u : Value) (hj : (flatR xs)[j]? = some u) : w.cell? ((⟨b, o, none⟩ : Addr).add j) = some u := by
  have hjl : j < xs.length * 18 := by have := (List.getElem?_eq_some_iff.1 hj).1; rwa [flatR_length] at this
  have h1 : j / 18 < xs.length := by omega
  have h2 : j % 18 < 18 := Nat.mod_lt _ (by omega)
  have h3 := flatR_get xs (j / 18) h1 (j % 18) h2
  rw [show j / 18 * 18 + j % 18 = j from by omega, hj] at h3
  obtain ⟨b', o', e1, _, e3⟩ := h (j / 18) h1
  simp only [Option.some.injEq, Addr.mk.injEq, and_true] at e1
  obtain ⟨rfl, rfl⟩ := e1
  have h4 := e3 (j % 18) u h3.symm
  have hadd : (⟨b, o, none⟩ : Addr).add j = ⟨b, o + j, none⟩ := by unfold Addr.add; split <;> simp_all
  rw [hadd, show o + j = o + j / 18 * 18 + j % 18 from by omega]
  exact h4

set_option maxRecDepth 100000 in
set_option maxHeartbeats 1000000 in
theorem concat_any : ConcatOK := by
  intro w q a1 a2 c1 c2 xs ys hq hr1 hr2 hx hy hL
  obtain ⟨i0, hinf, hz0, hz1, hz2⟩ := info_parts Try.info62
  obtain ⟨x, xr, rfl⟩ := List.exists_cons_of_ne_nil hx
  obtain ⟨y, yr, rfl⟩ := List.exists_cons_of_ne_nil hy
  obtain ⟨b1, o1, rfl, hb1⟩ := hr1.rdB.addr
  obtain ⟨b2, o2, rfl, hb2⟩ := hr2.rdB.addr
  have hqlt : q < w.heap.size := (Array.getElem?_eq_some_iff.1 hq).1
  obtain ⟨L1, h1⟩ : ∃ L, L = (x :: xr).length := ⟨_, rfl⟩
  obtain ⟨L2, h2⟩ : ∃ L, L = (y :: yr).length := ⟨_, rfl⟩
  rw [← h1, ← h2] at hq
  rw [← h1, ← h2] at hL ⊢
  have q0 : w.cell? ⟨q, 0, none⟩ = some (.slice (some ⟨b1, o1, none⟩) L1 c1) := by simp [World.cell?, hq]
  have q1 : w.cell? ⟨q, 1, none⟩ = some (.slice (some ⟨b2, o2, none⟩) L2 c2) := by simp [World.cell?, hq]
  have HL : Hid (L1 = (x :: xr).length ∧ L2 = (y :: yr).length) := ⟨h1, h2⟩
  have HRD : Hid (RdB encR 18 w.heap.size w (some ⟨b1, o1, none⟩) (x :: xr) ∧ RdB encR 18 w.heap.size w (some ⟨b2, o2, none⟩) (y :: yr)) := ⟨hr1.rdB, hr2.rdB⟩
  have CG : Hid (Calls Try.prog 56 #[.slice none 0 0, .int .i64 ((L1 + L2 : Nat) : Int)] w fun e w' => ∃ v', e = .returned v' ∧ w'.ownsRow w.heap.size 62 18 v' 0 [] ∧ Below w.heap.size w w') := grow_nil (L1 + L2) hL w
  generalize x :: xr = xs at HL HRD ⊢
  generalize y :: yr = ys at HL HRD ⊢
  clear hq hr1 hr2 h1 h2 hx hy
  go_enter Try.func40, Try.ntmps40
  go_wp2_with fail
  go_loopg [3, 11] 2 (fun gk sv iv wr => w = wr ∧ ∃ i s : Nat, sv = .int .i64 s ∧ iv = .int .i64 i ∧ gk = 2 - i ∧ ((i = 0 ∧ s = 0) ∨ (i = 1 ∧ s = L1) ∨ (i = 2 ∧ s = L1 + L2)))
  case atStart => exact ⟨rfl, 0, 0, rfl, rfl, rfl, .inl ⟨rfl, rfl⟩⟩
  case round =>
    obtain ⟨rfl, i, s, rfl, rfl, hgk, h⟩ := hrel
    rcases h with ⟨rfl, rfl⟩ | ⟨rfl, rfl⟩ | ⟨rfl, rfl⟩
    · go_wp2
      go_roundg 1
      case measure => omega
      case rel => exact ⟨rfl, 1, L1, rfl, rfl, rfl, .inr (.inl ⟨rfl, rfl⟩)⟩
    · go_wp2
      go_roundg 0
      case measure => omega
      case rel => exact ⟨rfl, 2, s + L2, by go_num, rfl, rfl, .inr (.inr ⟨rfl, rfl⟩)⟩
    · go_wp2_with (go_at_call 56; refine CG.out.mono ?_; rintro e w1 ⟨v1, rfl, ho1, hb1⟩)
      have hwz : w.heap.size ≤ w1.heap.size := hb1.size
      go_loopg [6, 27] 2 (fun gk hv iv wr => ∃ (i : Nat) (v : Value) (zs : List Rg), v = hv ∧ iv = .int .i64 i ∧ gk = 2 - i ∧ Hid (wr.ownsRow w.heap.size 62 18 v zs.length (flatR zs)) ∧ Hid (Below w.heap.size w wr) ∧ ((i = 0 ∧ Hid (zs = [])) ∨ (i = 1 ∧ Hid (zs = xs)) ∨ (i = 2 ∧ Hid (zs = xs ++ ys))))
      case atStart => exact ⟨0, _, [], rfl, rfl, rfl, ho1, hb1, .inl ⟨rfl, rfl⟩⟩
      case round =>
        clear ho1 hb1 hwz CG hgk
        obtain ⟨i, v, zs, rfl, rfl, hgk, HO, HB, h⟩ := hrel
        have hwz : w.heap.size ≤ wr.heap.size := HB.out.size
        have q0' : wr.cell? ⟨q, 0, none⟩ = some (.slice (some ⟨b1, o1, none⟩) L1 c1) := (HB.out.cell (p := ⟨q, 0, none⟩) hqlt).trans q0
        have q1' : wr.cell? ⟨q, 1, none⟩ = some (.slice (some ⟨b2, o2, none⟩) L2 c2) := (HB.out.cell (p := ⟨q, 1, none⟩) hqlt).trans q1
        have HN1 : Hid (∀ j u, (flatR xs)[j]? = some u → wr.cell? ((⟨b1, o1, none⟩ : Addr).add j) = some u) := fun j u hu => rd_flat2 (HRD.out.1.below HB.out) j u hu
        have HN2 : Hid (∀ j u, (flatR ys)[j]? = some u → wr.cell? ((⟨b2, o2, none⟩ : Addr).add j) = some u) := fun j u hu => rd_flat2 (HRD.out.2.below HB.out) j u hu
        rcases h with ⟨rfl, HZ⟩ | ⟨rfl, HZ⟩ | ⟨rfl, HZ⟩
        · go_wp2_with (at_builtin; refine wpList_append_own _ rfl (.tmp 31) (.tmp 32) 63 rfl w.heap.size 62 i0 _ 18 32 Try.underlying63 hinf hz0 hz1 hz2 rfl (by decide) _ 0 [] rfl ?own ⟨b1, o1, none⟩ L1 c1 (flatR xs) rfl ?ll ?news ?one ?c3 ?c4 ?c5 ?_)
          case own => have := HO.out; rw [HZ.out] at this; exact this
          case ll => rw [flatR_length, HL.out.1]
          case news => exact HN1.out
          case one => exact flatR_oneCell _
          case c3 => unfold maxLen; omega
          case c4 => omega
          case c5 => exact hwz
          intro v' w' ho' hg _
          have HB8 : Hid (Below w.heap.size w w') := grown_below HB.out hg hwz HO.out
          have HO8 : Hid (w'.ownsRow w.heap.size 62 18 v' xs.length (flatR xs)) := by
            show w'.ownsRow _ _ _ _ _ _
            rw [← HL.out.1]; simpa using ho'
          clear ho' hg
          go_wp2
          go_roundg 1
          case measure => omega
          case rel => exact ⟨1, v', xs, rfl, rfl, rfl, HO8, HB8, .inr (.inl ⟨rfl, rfl⟩)⟩
        · go_wp2_with (at_builtin; refine wpList_append_own _ rfl (.tmp 31) (.tmp 32) 63 rfl w.heap.size 62 i0 _ 18 32 Try.underlying63 hinf hz0 hz1 hz2 rfl (by decide) _ L1 (flatR xs) rfl ?own ⟨b2, o2, none⟩ L2 c2 (flatR ys) rfl ?ll ?news ?one ?c3 ?c4 ?c5 ?_)
          case own => have := HO.out; rw [HZ.out, ← HL.out.1] at this; exact this
          case ll => rw [flatR_length, HL.out.2]
          case news => exact HN2.out
          case one => exact flatR_oneCell _
          case c3 => unfold maxLen; omega
          case c4 => omega
          case c5 => exact hwz
          intro v' w' ho' hg _
          have HB8 : Hid (Below w.heap.size w w') := grown_below HB.out hg hwz HO.out
          have HO8 : Hid (w'.ownsRow w.heap.size 62 18 v' (xs ++ ys).length (flatR (xs ++ ys))) := by
            rw [flatR_append, List.length_append, ← HL.out.1, ← HL.out.2]; exact ho'
          clear ho' hg
          go_wp2
          go_roundg 0
          case measure => omega
          case rel => exact ⟨2, v', xs ++ ys, rfl, rfl, rfl, HO8, HB8, .inr (.inr ⟨rfl, rfl⟩)⟩
        · go_wp2
          go_ret
          refine ⟨v, rfl, ?_, HB.out⟩
          have := HO.out
          rw [HZ.out, List.length_append, ← HL.out.1, ← HL.out.2] at this
          exact this
end Go.Proofs.Qxb6615018a
