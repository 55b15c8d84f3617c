/-
  DERIVED. The serial number of an extended GUID.
-/
import Derived.Test.Qxb6615018aRuns
namespace Go.Proofs.Qxb6615018a
open Go.RowKit Go.Sort

def encX (g : Gd) (n : Nat) : List Value := encG g ++ [.int .u32 (n : Int)]
theorem encX_length (g : Gd) (n : Nat) : (encX g n).length = 17 := by simp [encX, encG_length]
theorem encX_16 (g : Gd) (n : Nat) : (encX g n)[16]? = some (.int .u32 (n : Int)) := by
  rw [encX, List.getElem?_append_right (by rw [encG_length]; exact Nat.le_refl _), encG_length]; rfl
theorem encX_sub (g : Gd) (n : Nat) (j : Nat) (v : Value) (h : (encG g)[j]? = some v) : (encX g n).toArray[0 + j]? = some v := by
  rw [Nat.zero_add, List.getElem?_toArray, encX, List.getElem?_append_left (List.getElem?_eq_some_iff.1 h).1]; exact h
theorem build30_x (x0 x1 x2 x3 x4 x5 x6 x7 x8 x9 x10 x11 x12 x13 x14 x15 : Value) (f : Int) (w : World) :
    (Instr.build 30 #[(0, .agg #[x0, x1, x2, x3, x4, x5, x6, x7, x8, x9, x10, x11, x12, x13, x14, x15]), (1, .int .u32 f)]).run Try.prog w = .ok (.agg #[x0, x1, x2, x3, x4, x5, x6, x7, x8, x9, x10, x11, x12, x13, x14, x15, .int .u32 f]) w := by kernel_rfl
theorem build30_any (g : Gd) (f : Nat) (w : World) :
    (Instr.build 30 #[(0, .agg (encG g).toArray), (1, .int .u32 (f : Int))]).run Try.prog w = .ok (.agg (encX g f).toArray) w := by
  obtain ⟨x0, x1, x2, x3, x4, x5, x6, x7, x8, x9, x10, x11, x12, x13, x14, x15, h⟩ := list16 (encG g) (encG_length g)
  rw [encX, h]
  exact build30_x x0 x1 x2 x3 x4 x5 x6 x7 x8 x9 x10 x11 x12 x13 x14 x15 _ w

def serN (g : Gd) (n : Nat) : Sn := (g, UInt64.ofNat n)
theorem build27_nat (g : Gd) (n : Nat) (hn : n < 4294967296) (w : World) :
    (Instr.build 27 #[(0, .agg (encG g).toArray), (1, .int .u64 (n : Int))]).run Try.prog w = .ok (.agg (encS (serN g n)).toArray) w := by
  have := build27_any g (UInt64.ofNat n) w
  have e : (UInt64.ofNat n).toNat = n := by simp; omega
  rw [e] at this
  exact this

set_option maxHeartbeats 1000000 in
theorem serial19 (g : Gd) (n : Nat) (hn : n < 4294967296) (w : World) :
    Calls Try.prog 19 #[.agg (encX g n).toArray] w fun e w' => e = .returned (.agg (encS (serN g n)).toArray) ∧ Gr w w' := by
  obtain ⟨k16, k17, k18, ⟨z22, z24, z27, z30, z53, z40, z62, n16, n17, n18⟩, HK⟩ := sz_ex
  clear z22 z62 z53 z40 n18
  obtain ⟨Z17, hZ, v27⟩ := zero27
  have l1 : ∀ o, Sem.run Try.prog (loadCellsFrom ⟨w.heap.size, 0, none⟩ 0 k16 #[]) ((w.alloc (.cells (encX g n).toArray 30)).alloc o) = .ok (encG g).toArray ((w.alloc (.cells (encX g n).toArray 30)).alloc o) := fun o =>
    ld_block _ _ _ (encX g n).toArray 30 (0, 0) _ _ ((Below.heap_alloc _ _ _ (by simp)).trans (heap_alloc_last w _)) (by rw [encG_length, HK.out.1]) (encX_sub g n)
  have e16 := encX_16 g n
  have hlen : (encS (serN g n)).length = k17 := by rw [encS_length, HK.out.2.1]
  have s1 : Sem.run Try.prog (storeCells ⟨w.heap.size + 1, 0, none⟩ (encS (serN g n)) 0) ((w.alloc (.cells (encX g n).toArray 30)).alloc (.cells Z17 27)) = .ok () ((w.alloc (.cells (encX g n).toArray 30)).alloc (.cells (encS (serN g n)).toArray 27)) := by
    have := st_new (w.alloc (.cells (encX g n).toArray 30)) 27 Z17 (encS (serN g n)) (by rw [encS_length]; exact hZ.out) (encS_one _)
    simpa using this
  go_enter Try.func19, Try.ntmps19
  go_wp2_with (refine wpList_build2 rfl 27 (.tmp 4) (.tmp 7) rfl (.agg (encG g).toArray) (.int .u64 (n : Int)) (.agg (encS (serN g n)).toArray) rfl rfl (build27_nat g n hn _) ?_)
  refine bodyPost_ret (v := .agg (encS (serN g n)).toArray) ?_ rfl ⟨rfl, ((Gr.refl w).alloc _).alloc _⟩
  exact results_cell_row Try.results19 _ _ (w.heap.size + 1) 27 _ (0, 0) _ (by simp) (heap_alloc_at _ _ _ (by simp)) Try.underlying27 rfl (by rw [List.size_toArray, encS_length]; kernel_rfl)

/-- A whole aggregate into a block of its own size. -/
theorem st_row (X : World) (b : Nat) (t : TypeId) (Z : Array Value) (vs : List Value) (hb : X.heap[b]? = some (.cells Z t (0, 0))) (hs : Z.size = vs.length) (h1 : ∀ v ∈ vs, v.oneCell' = true) :
    Sem.run Try.prog (storeCells ⟨b, 0, none⟩ vs 0) X = .ok () (X.setRow b vs.toArray) := by
  have := run_storeCells_from (P := Try.prog) b t vs 0 Z X hb (by omega) h1
  rw [this]
  simp

set_option maxHeartbeats 1000000 in
theorem serial6 (g : Gd) (n : Nat) (hn : n < 4294967296) (w : World) :
    Calls Try.prog 6 #[.agg (encX g n).toArray] w fun e w' => e = .returned (.agg (encS (serN g n)).toArray) ∧ Below w.heap.size w w' := by
  obtain ⟨k16, k17, k18, ⟨z22, z24, z27, z30, z53, z40, z62, n16, n17, n18⟩, HK⟩ := sz_ex
  clear z22 z62 z53 z40 n18
  obtain ⟨Z17, hZ, v27⟩ := zero27
  have l1 : ∀ o, Sem.run Try.prog (loadCellsFrom ⟨w.heap.size, 0, none⟩ 0 k17 #[]) ((w.alloc (.cells (encX g n).toArray 30)).alloc o) = .ok (encX g n).toArray ((w.alloc (.cells (encX g n).toArray 30)).alloc o) := fun o =>
    ld_block _ _ _ (encX g n).toArray 30 (0, 0) _ _ ((Below.heap_alloc _ _ _ (by simp)).trans (heap_alloc_last w _)) (by rw [encX_length, HK.out.2.1]) (by simp)
  have hlen : (encS (serN g n)).length = k17 := by rw [encS_length, HK.out.2.1]
  have C : Hid (∀ W, Calls Try.prog 19 #[.agg (encX g n).toArray] W fun e w' => e = .returned (.agg (encS (serN g n)).toArray) ∧ Gr W w') := fun W => serial19 g n hn W
  go_enter Try.func6, Try.ntmps6
  go_wp2_with fail
  refine (C.out _).mono ?_
  rintro e w2 ⟨rfl, hg⟩
  have hb0 : Below w.heap.size w ((w.alloc (.cells (encX g n).toArray 30)).alloc (.cells Z17 27)) := ((Below.refl _ _).alloc (Nat.le_refl _) _).alloc (by simp) _
  have h2 : w2.heap[w.heap.size + 1]? = some (.cells Z17 27 (0, 0)) := by
    rw [hg.below.block _ (by simp)]
    exact heap_alloc_at _ _ _ (by simp)
  have s1 : Sem.run Try.prog (storeCells ⟨w.heap.size + 1, 0, none⟩ (encS (serN g n)) 0) w2 = .ok () (w2.setRow (w.heap.size + 1) (encS (serN g n)).toArray) := st_row w2 _ 27 Z17 _ h2 (by rw [encS_length]; exact hZ.out) (encS_one _)
  have h3 := heap_setRow_same w2 (w.heap.size + 1) Z17 (encS (serN g n)).toArray 27 (0, 0) h2
  have hB : Below w.heap.size w (w2.setRow (w.heap.size + 1) (encS (serN g n)).toArray) := (hb0.trans (hg.below.mono (by simp; omega))).trans ⟨rfl, rfl, rfl, by simp [World.setRow], fun k hk' => heap_setRow_other _ _ _ _ (by omega)⟩
  clear hg hb0 l1
  go_wp2
  refine bodyPost_ret (v := .agg (encS (serN g n)).toArray) ?_ rfl ⟨rfl, hB⟩
  exact results_cell_row Try.results6 _ _ (w.heap.size + 1) 27 _ (0, 0) _ (by simp) h3 Try.underlying27 rfl (by rw [List.size_toArray, encS_length]; kernel_rfl)

theorem list17 (l : List Value) (h : l.length = 17) : ∃ x0 x1 x2 x3 x4 x5 x6 x7 x8 x9 x10 x11 x12 x13 x14 x15 x16, l = [x0, x1, x2, x3, x4, x5, x6, x7, x8, x9, x10, x11, x12, x13, x14, x15, x16] := by
  match l, h with
  | [x0, x1, x2, x3, x4, x5, x6, x7, x8, x9, x10, x11, x12, x13, x14, x15, x16], _ => exact ⟨x0, x1, x2, x3, x4, x5, x6, x7, x8, x9, x10, x11, x12, x13, x14, x15, x16, rfl⟩
theorem buildSlice31_x (x0 x1 x2 x3 x4 x5 x6 x7 x8 x9 x10 x11 x12 x13 x14 x15 x16 y0 y1 y2 y3 y4 y5 y6 y7 y8 y9 y10 y11 y12 y13 y14 y15 y16 : Value) (w : World) :
    (Instr.buildSlice 31 2 #[(0, .agg #[x0, x1, x2, x3, x4, x5, x6, x7, x8, x9, x10, x11, x12, x13, x14, x15, x16]), (1, .agg #[y0, y1, y2, y3, y4, y5, y6, y7, y8, y9, y10, y11, y12, y13, y14, y15, y16])]).run Try.prog w = .ok (.slice (some ⟨w.heap.size, 0, none⟩) 2 2) (w.alloc (.cells #[x0, x1, x2, x3, x4, x5, x6, x7, x8, x9, x10, x11, x12, x13, x14, x15, x16, y0, y1, y2, y3, y4, y5, y6, y7, y8, y9, y10, y11, y12, y13, y14, y15, y16] 27)) := by kernel_rfl
theorem buildSlice31_any (a b : Sn) (w : World) :
    (Instr.buildSlice 31 2 #[(0, .agg (encS a).toArray), (1, .agg (encS b).toArray)]).run Try.prog w = .ok (.slice (some ⟨w.heap.size, 0, none⟩) 2 2) (w.alloc (.cells (flatS [a, b]).toArray 27)) := by
  obtain ⟨x0, x1, x2, x3, x4, x5, x6, x7, x8, x9, x10, x11, x12, x13, x14, x15, x16, h⟩ := list17 (encS a) (encS_length a)
  obtain ⟨y0, y1, y2, y3, y4, y5, y6, y7, y8, y9, y10, y11, y12, y13, y14, y15, y16, h'⟩ := list17 (encS b) (encS_length b)
  have e : flatS [a, b] = encS a ++ encS b := by simp [flatS]
  rw [e, h, h']
  exact buildSlice31_x x0 x1 x2 x3 x4 x5 x6 x7 x8 x9 x10 x11 x12 x13 x14 x15 x16 y0 y1 y2 y3 y4 y5 y6 y7 y8 y9 y10 y11 y12 y13 y14 y15 y16 w
end Go.Proofs.Qxb6615018a
