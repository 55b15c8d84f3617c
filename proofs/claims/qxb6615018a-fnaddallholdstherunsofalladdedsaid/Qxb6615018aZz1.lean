/-
  DERIVED. The laws' own small helpers: comparison of GUIDs, the null serial number, the two bounds on length, the same ranges.
-/
import Derived.Test.Qxb6615018aBlocks
import Derived.Deep.CutBlock
import Derived.Deep.LoopGhost
import Derived.Deep.RegionWith
namespace Go.Proofs.Qxb6615018a
open Go.RowKit Go.Sort

theorem zzEq22 (g h : Gd) (w : World) : (binOp .eql 22 (.agg (encG g).toArray) (.agg (encG h).toArray)).run Try.prog w = .ok (.bool (g == h)) w := by
  rw [run_eql_struct]
  rw [eqG 9998 22 (by kernel_rfl) g h w]
  rfl
theorem zzEqNull (g : Gd) (w : World) : (Op.equalIn 10000 22 (.agg (encG g).toArray) (.agg #[.int .u8 0, .int .u8 0, .int .u8 0, .int .u8 0, .int .u8 0, .int .u8 0, .int .u8 0, .int .u8 0, .int .u8 0, .int .u8 0, .int .u8 0, .int .u8 0, .int .u8 0, .int .u8 0, .int .u8 0, .int .u8 0])).run Try.prog w = .ok (g == Vector.replicate 16 0) w :=
  eqG 9998 22 (by kernel_rfl) g (Vector.replicate 16 0) w

theorem compareBytes_drop (g h : List UInt8) (i : Nat) (h1 : i < g.length) (h2 : i < h.length) : Lib.compareBytes (g.drop i) (h.drop i) = if g[i] < h[i] then -1 else if h[i] < g[i] then 1 else Lib.compareBytes (g.drop (i + 1)) (h.drop (i + 1)) := by
  rw [List.drop_eq_getElem_cons h1, List.drop_eq_getElem_cons h2]
  rfl

set_option maxRecDepth 100000 in
/-- zzCompareGUID. -/
theorem cmpG_any (g h : Gd) (w : World) : Calls Try.prog 32 #[.agg (encG g).toArray, .agg (encG h).toArray] w fun e w' => e = .returned (.int .i64 (Lib.compareBytes g.toList h.toList)) ∧ Below w.heap.size w w' := by
  have mixed : Try.prog.follows .mixedOrders = true := by kernel_rfl
  obtain ⟨W0, hW0⟩ : ∃ W0, W0 = (w.alloc (.cells (encG g).toArray 22)).alloc (.cells (encG h).toArray 22) := ⟨_, rfl⟩
  have HB0 : Hid (Below w.heap.size w W0) := by rw [hW0]; exact ((Below.refl _ _).alloc (Nat.le_refl _) _).alloc (by simp) _
  have HC : Hid (∀ W, Below W0.heap.size W0 W → ∀ i (hi : i < 16), W.cell? ⟨w.heap.size, i, none⟩ = some (.int .u8 (g[i].toNat : Int)) ∧ W.cell? ⟨w.heap.size + 1, i, none⟩ = some (.int .u8 (h[i].toNat : Int))) := fun W hW i hi => by
    have e1 : W0.heap[w.heap.size]? = some (.cells (encG g).toArray 22 (0, 0)) := by rw [hW0, ((Below.refl _ _).alloc (Nat.le_refl _) _).block _ (by simp)]; exact heap_alloc_last _ _
    have e2 : W0.heap[w.heap.size + 1]? = some (.cells (encG h).toArray 22 (0, 0)) := by rw [hW0]; exact heap_alloc_at _ _ _ (by simp)
    have hs : w.heap.size + 1 < W0.heap.size := by rw [hW0]; simp
    have f1 := (hW.block w.heap.size (by omega)).trans e1
    have f2 := (hW.block (w.heap.size + 1) (by omega)).trans e2
    have g1 := encG_get g i hi
    have g2 := encG_get h i hi
    exact ⟨by simpa [World.cell?, f1] using g1, by simpa [World.cell?, f2] using g2⟩
  go_enter Try.func32, Try.ntmps32
  go_upto_region 2 with fail
  rw [← hW0]
  clear hW0
  go_loopg [5] 16 (fun gk iv wr => ∃ i : Nat, iv = .int .i64 i ∧ gk = 16 - i ∧ i ≤ 16 ∧ Hid (Below W0.heap.size W0 wr ∧ Lib.compareBytes g.toList h.toList = Lib.compareBytes (g.toList.drop i) (h.toList.drop i)))
  case atStart => exact ⟨0, rfl, rfl, by omega, Below.refl _ _, rfl⟩
  case round =>
    obtain ⟨i, rfl, hgk, hil, HR⟩ := hrel
    rcases Nat.eq_or_lt_of_le hil with hE | hE
    · subst hE
      have hfin : Lib.compareBytes g.toList h.toList = 0 := by
        rw [HR.out.2, List.drop_of_length_le (by simp), List.drop_of_length_le (by simp)]; rfl
      go_wp2
      go_ret
      exact ⟨by rw [hfin]; rfl, HB0.out.trans (HR.out.1.mono HB0.out.size)⟩
    · obtain ⟨c1, c2⟩ := HC.out wr HR.out.1 i hE
      obtain ⟨x, hx⟩ : ∃ x, x = g[i] := ⟨_, rfl⟩
      obtain ⟨y, hy⟩ : ∃ y, y = h[i] := ⟨_, rfl⟩
      rw [← hx] at c1
      rw [← hy] at c2
      have hst : Hid (Lib.compareBytes g.toList h.toList = if x < y then -1 else if y < x then 1 else Lib.compareBytes (g.toList.drop (i + 1)) (h.toList.drop (i + 1))) := by
        have e := HR.out.2
        rw [compareBytes_drop _ _ i (by simpa using hE) (by simpa using hE)] at e
        rw [hx, hy]
        exact e
      have HX : Hid (x = g[i] ∧ y = h[i]) := ⟨hx, hy⟩
      clear hx hy
      have ib0 : (0 : Int) ≤ (i : Int) := by omega
      have ib : (i : Int) < 16 := by omega
      by_cases l1 : x < y
      · have l1' : (x.toNat : Int) < (y.toNat : Int) := by have := UInt8.lt_iff_toNat_lt.1 l1; omega
        go_upto_region 4 with fail
        go_quiet (fail)
        go_wp2
        go_ret
        refine ⟨?_, HB0.out.trans ((HR.out.1.trans (((Gr.refl wr).drewN _).below.mono HR.out.1.size)).mono HB0.out.size)⟩
        rw [hst.out, if_pos l1]; rfl
      · have l1' : ¬ (x.toNat : Int) < (y.toNat : Int) := fun hh => l1 (UInt8.lt_iff_toNat_lt.2 (by omega))
        go_upto_region 4 with fail
        go_quiet (fail)
        obtain ⟨wx, hwx⟩ : ∃ wx, wx = wr.drewN nq := ⟨_, rfl⟩
        rw [← hwx]
        have HBx : Hid (Below W0.heap.size W0 wx) := by rw [hwx]; exact HR.out.1.trans (((Gr.refl wr).drewN _).below.mono HR.out.1.size)
        obtain ⟨d1, d2⟩ := HC.out wx HBx.out i hE
        rw [← HX.out.1] at d1
        rw [← HX.out.2] at d2
        clear hwx c1 c2
        by_cases l2 : y < x
        · have l2' : (y.toNat : Int) < (x.toNat : Int) := by have := UInt8.lt_iff_toNat_lt.1 l2; omega
          go_upto_region 6 with fail
          go_quiet (fail)
          go_wp2
          go_ret
          refine ⟨?_, HB0.out.trans ((HBx.out.trans (((Gr.refl wx).drewN _).below.mono HBx.out.size)).mono HB0.out.size)⟩
          rw [hst.out, if_neg l1, if_pos l2]; rfl
        · have l2' : ¬ (y.toNat : Int) < (x.toNat : Int) := fun hh => l2 (UInt8.lt_iff_toNat_lt.2 (by omega))
          go_upto_region 6 with fail
          go_quiet (fail)
          go_wp2
          go_roundg (16 - (i + 1))
          case measure => omega
          case rel => exact ⟨i + 1, by go_num, rfl, by omega, HBx.out.trans (((Gr.refl wx).drewN _).below.mono HBx.out.size), by rw [hst.out, if_neg l1, if_neg l2]⟩
set_option maxRecDepth 100000 in
/-- zzIsNull. -/
theorem isNull_any (s : Sn) (w : World) : Calls Try.prog 18 #[.agg (encS s).toArray] w fun e w' => e = .returned (.bool (s == ((Vector.replicate 16 0 : Gd), (0 : UInt64)))) ∧ Gr w w' := by
  obtain ⟨k16, k17, k18, ⟨z22, z24, z27, z30, z53, z40, z62, n16, n17, n18⟩, HK⟩ := sz_ex
  clear z24 z27 z30 z40 z62 n17 n18
  have es16 := encS_16 s
  have q := zzEqNull
  obtain ⟨g, n⟩ := s
  have l1 : Sem.run Try.prog (loadCellsFrom ⟨w.heap.size, 0, none⟩ 0 k16 #[]) (w.alloc (.cells (encS (g, n)).toArray 53)) = .ok (encG g).toArray (w.alloc (.cells (encS (g, n)).toArray 53)) :=
    ld_block _ _ _ (encS (g, n)).toArray 53 (0, 0) _ _ (heap_alloc_last w _) (by rw [encG_length, HK.out.1]) (encS_sub (g, n))
  by_cases h0 : n = 0
  · subst h0
    go_enter Try.func18, Try.ntmps18
    go_wp2
    go_ret
    refine ⟨ret_bool ?_, (Gr.refl w).alloc _⟩
    show (g == Vector.replicate 16 0) = ((g == Vector.replicate 16 0) && ((0 : UInt64) == 0))
    simp
  · have h1 : ¬ ((n.toNat : Int) = 0) := fun hh => h0 (UInt64.toNat_inj.1 (by simpa using hh))
    go_enter Try.func18, Try.ntmps18
    go_wp2
    go_ret
    refine ⟨ret_bool ?_, (Gr.refl w).alloc _⟩
    show false = ((g == Vector.replicate 16 0) && (n == (0 : UInt64)))
    simp [h0]

theorem encR_ext (s : Rg) : (encR s).toArray.extract 0 (0 + 16) = (encG s.1).toArray := by
  have := encR_take s
  simp only [Nat.zero_add]
  rw [← this]
  simp [List.extract_toArray]
theorem part_R0 (s : Rg) (w : World) : (part 22 (encR s).toArray 0).run Try.prog w = .ok (.agg (encG s.1).toArray) w := by
  unfold part
  simp only [Sem.run_bind, Try.isAgg22, Try.sizeOf22, Result.andThen_ok, if_true, Sem.run_pure, encR_ext]
theorem part_R12 (s : Rg) (w : World) : (part 25 (encR s).toArray 16).run Try.prog w = .ok (.int .u64 (s.2.1.toNat : Int)) w ∧ (part 25 (encR s).toArray 17).run Try.prog w = .ok (.int .u64 (s.2.2.toNat : Int)) w := by
  have ha : ∀ w, (isAgg 25).run Try.prog w = .ok false w := fun w => by simp [go_sem]
  unfold part
  simp only [Sem.run_bind, ha, Result.andThen_ok, Bool.false_eq_true, if_false]
  rw [List.getElem?_toArray, encR_16, List.getElem?_toArray, encR_17]
  exact ⟨rfl, rfl⟩
/-- One range is not unlike itself. -/
theorem neqR_self (r : Rg) (w : World) : (binOp .neq 40 (.agg (encR r).toArray) (.agg (encR r).toArray)).run Try.prog w = .ok (.bool false) w := by
  rw [run_neq_struct]
  have h0 : Sem.run Try.prog (Op.equalIn 10000 40 (Value.agg (encR r).toArray) (Value.agg (encR r).toArray)) w = .ok true w := by
    unfold Op.equalIn
    simp only [Sem.run_bind, run_underlying Try.underlying40, Result.andThen_ok]
    have hp : Sem.run Try.prog program w = .ok Try.prog w := rfl
    have hs : Try.prog.stoodInHeld 40 = false := by kernel_rfl
    rw [hp]
    simp only [Result.andThen_ok, hs, Bool.false_eq_true, if_false]
    have n1 : ("GUID" : String) ≠ "_" := by decide
    have n2 : ("From" : String) ≠ "_" := by decide
    have n3 : ("To" : String) ≠ "_" := by decide
    simp only [List.forIn_toArray, List.forIn_cons, List.forIn_nil, Sem.run_bind, n1, n2, n3, ne_eq, not_false_eq_true, if_true, part_R0, Result.andThen_ok]
    rw [eqG 9997 22 Try.underlying22 r.1 r.1 w]
    simp only [beq_self_eq_true, Result.andThen_ok, Bool.not_true, Bool.false_eq_true, if_false, Sem.run_pure, Sem.run_bind, (part_R12 r _).1]
    rw [run_equalIn_int w 9998 25 .u64 .u64 _ _ Try.underlying25]
    simp only [beq_self_eq_true, Result.andThen_ok, Bool.not_true, Bool.false_eq_true, if_false, Sem.run_pure, Sem.run_bind, (part_R12 r _).2]
    rw [run_equalIn_int w 9998 25 .u64 .u64 _ _ Try.underlying25]
    simp
  rw [h0]
  rfl

set_option maxRecDepth 100000 in
/-- zzSameRanges at two slices that read alike. -/
theorem sameRanges_true (a1 a2 : Option Addr) (c1 c2 : Nat) (xs : List Rg) (w : World) (h1 : RdB encR 18 w.heap.size w a1 xs) (h2 : RdB encR 18 w.heap.size w a2 xs) (hL : xs.length ≤ 1000000000) :
    Calls Try.prog 14 #[.slice a1 xs.length c1, .slice a2 xs.length c2] w fun e w' => e = .returned (.bool true) ∧ Below w.heap.size w w' := by
  obtain ⟨k16, k17, k18, ⟨z22, z24, z27, z30, z53, z40, z62, n16, n17, n18⟩, HK⟩ := sz_ex
  clear z22 z24 z27 z30 z53 z62 n16 n17
  have mixed : Try.prog.follows .mixedOrders = true := by kernel_rfl
  have q := neqR_self
  have H1 : Hid (RdB encR 18 w.heap.size w a1 xs ∧ RdB encR 18 w.heap.size w a2 xs) := ⟨h1, h2⟩
  clear h1 h2
  go_enter Try.func14, Try.ntmps14
  go_wp2
  go_loopg [5] xs.length (fun gk iv wr => ∃ i : Nat, iv = .int .i64 i ∧ gk = xs.length - i ∧ i ≤ xs.length ∧ Hid (Below w.heap.size w wr))
  case atStart => exact ⟨0, rfl, rfl, by omega, Below.refl _ _⟩
  case round =>
    obtain ⟨i, rfl, hgk, hil, HR⟩ := hrel
    rcases Nat.eq_or_lt_of_le hil with hE | hE
    · subst hE
      go_wp2
      go_ret
      exact ⟨rfl, HR.out⟩
    · obtain ⟨b1, o1, rfl, _⟩ := H1.out.1 i hE
      obtain ⟨b2, o2, rfl, _⟩ := H1.out.2 i hE
      have l1 : ∀ n, Sem.run Try.prog (loadCellsFrom ⟨b1, o1 + i * k18, none⟩ 0 k18 #[]) (wr.drewN n) = .ok (encR xs[i]).toArray (wr.drewN n) := fun n => (H1.out.1.below (HR.out.trans (((Gr.refl wr).drewN n).below.mono HR.out.size))).ld encR_length i hE k18 HK.out.2.2
      have l2 : ∀ n, Sem.run Try.prog (loadCellsFrom ⟨b2, o2 + i * k18, none⟩ 0 k18 #[]) (wr.drewN n) = .ok (encR xs[i]).toArray (wr.drewN n) := fun n => (H1.out.2.below (HR.out.trans (((Gr.refl wr).drewN n).below.mono HR.out.size))).ld encR_length i hE k18 HK.out.2.2
      have ib0 : (0 : Int) ≤ (i : Int) := by omega
      have ib : (i : Int) < (xs.length : Int) := by omega
      generalize xs[i] = r at l1 l2
      go_upto_region 6 with fail
      go_quiet (fail)
      go_wp2
      go_roundg (xs.length - (i + 1))
      case measure => omega
      case rel => exact ⟨i + 1, by go_num, rfl, by omega, HR.out.trans (((Gr.refl wr).drewN _).below.mono HR.out.size)⟩
end Go.Proofs.Qxb6615018a
