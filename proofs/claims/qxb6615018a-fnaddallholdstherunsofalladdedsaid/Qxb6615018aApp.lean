/-
  DERIVED. appendRange, on a slice of ranges of the call's own.
-/
import Derived.Test.Qxb6615018aSmall
import Derived.Shelf.SlSortCmp.QuietGrown
namespace Go.Proofs.Qxb6615018a
open Go.RowKit Go.Sort

def flatR (rs : List Rg) : List Value := rs.flatMap encR
theorem flatR_length (rs : List Rg) : (flatR rs).length = rs.length * 18 := by
  induction rs with
  | nil => rfl
  | cons r rs ih => simp only [flatR, List.flatMap_cons, List.length_append, encR_length, List.length_cons] at ih ⊢; omega
theorem flatR_append (a b : List Rg) : flatR (a ++ b) = flatR a ++ flatR b := by simp [flatR]
theorem flatR_one (r : Rg) : flatR [r] = encR r := by simp [flatR]
theorem flatR_oneCell (rs : List Rg) : ∀ v ∈ flatR rs, v.oneCell' = true := by
  intro v hv
  obtain ⟨r, _, h⟩ := List.mem_flatMap.1 hv
  exact encR_one r v h

/-- Cell j of element i. -/
theorem flatR_get (rs : List Rg) (i : Nat) (hi : i < rs.length) (j : Nat) (hj : j < 18) : (flatR rs)[i * 18 + j]? = (encR rs[i])[j]? := by
  have e : rs = rs.take i ++ rs[i] :: rs.drop (i + 1) := by rw [← List.drop_eq_getElem_cons hi, List.take_append_drop]
  have hl : (flatR (rs.take i)).length = i * 18 := by rw [flatR_length, List.length_take]; congr 1; omega
  conv => lhs; rw [e]
  rw [flatR_append, List.getElem?_append_right (by rw [hl]; omega), hl]
  rw [show i * 18 + j - i * 18 = j from by omega]
  show (flatR ([rs[i]] ++ rs.drop (i + 1)))[j]? = _
  rw [flatR_append, List.getElem?_append_left (by rw [flatR_one, encR_length]; exact hj), flatR_one]

/-- What appendRange makes of a list of ranges. -/
def apR (rs : List Rg) (r : Rg) : List Rg :=
  match rs.getLast? with
  | some l => if joinsB l r then rs.dropLast ++ [(l.1, l.2.1, max l.2.2 r.2.2)] else rs ++ [r]
  | none => [r]

theorem Try.info62 : (Try.prog.info? 62).map (fun i => (i.zero, i.size, i.bytes)) = some (some (.agg (List.replicate 16 (Value.int .u8 0) ++ ([.int .u64 0, .int .u64 0] : List Value)).toArray), 18, 32) := by kernel_rfl

theorem list18 (l : List Value) (h : l.length = 18) : ∃ x0 x1 x2 x3 x4 x5 x6 x7 x8 x9 x10 x11 x12 x13 x14 x15 x16 x17, l = [x0, x1, x2, x3, x4, x5, x6, x7, x8, x9, x10, x11, x12, x13, x14, x15, x16, x17] := by
  match l, h with
  | [x0, x1, x2, x3, x4, x5, x6, x7, x8, x9, x10, x11, x12, x13, x14, x15, x16, x17], _ => exact ⟨x0, x1, x2, x3, x4, x5, x6, x7, x8, x9, x10, x11, x12, x13, x14, x15, x16, x17, rfl⟩
theorem buildSlice63_x (x0 x1 x2 x3 x4 x5 x6 x7 x8 x9 x10 x11 x12 x13 x14 x15 x16 x17 : Value) (w : World) :
    (Instr.buildSlice 63 1 #[(0, .agg #[x0, x1, x2, x3, x4, x5, x6, x7, x8, x9, x10, x11, x12, x13, x14, x15, x16, x17])]).run Try.prog w = .ok (.slice (some ⟨w.heap.size, 0, none⟩) 1 1) (w.alloc (.cells #[x0, x1, x2, x3, x4, x5, x6, x7, x8, x9, x10, x11, x12, x13, x14, x15, x16, x17] 62)) := by kernel_rfl
theorem buildSlice63_any (r : Rg) (w : World) :
    (Instr.buildSlice 63 1 #[(0, .agg (encR r).toArray)]).run Try.prog w = .ok (.slice (some ⟨w.heap.size, 0, none⟩) 1 1) (w.alloc (.cells (encR r).toArray 62)) := by
  obtain ⟨x0, x1, x2, x3, x4, x5, x6, x7, x8, x9, x10, x11, x12, x13, x14, x15, x16, x17, h⟩ := list18 (encR r) (encR_length r)
  rw [h]
  exact buildSlice63_x x0 x1 x2 x3 x4 x5 x6 x7 x8 x9 x10 x11 x12 x13 x14 x15 x16 x17 w

theorem cells_at {W : World} {b : Nat} {vs : List Value} {t : TypeId} (hb : W.heap[b]? = some (.cells vs.toArray t (0, 0))) (j : Nat) (u : Value) (hu : vs[j]? = some u) : W.cell? ((⟨b, 0, none⟩ : Addr).add j) = some u := by
  have hadd : (⟨b, 0, none⟩ : Addr).add j = ⟨b, j, none⟩ := by unfold Addr.add; split <;> simp_all
  rw [hadd, cell_of_row _ _ _ _ _ _ hb]
  simpa using hu

theorem ownsRow_heap {w w' : World} {base : Nat} {e : TypeId} {size : Nat} {v : Value} {n : Nat} {xs : List Value} (h : w.ownsRow base e size v n xs) (hh : w'.heap = w.heap) : w'.ownsRow base e size v n xs := by
  unfold World.ownsRow at h ⊢
  rw [hh]
  exact h

theorem grown_below {base : Nat} {a w w' : World} {v : Value} {e : TypeId} {size n : Nat} {xs : List Value} (h : Below base a w) (hg : w.grownBy w' v.ownBlock) (hb : base ≤ w.heap.size) (ho : w.ownsRow base e size v n xs) : Below base a w' :=
  h.grown hg hb (fun k hk => (ho.lt k hk).1)

theorem umax (a b : UInt64) : (max a b).toNat = max a.toNat b.toNat := by
  show (if a ≤ b then b else a).toNat = _
  by_cases h : a ≤ b
  · rw [if_pos h]; have := UInt64.le_iff_toNat_le.1 h; omega
  · rw [if_neg h]; have : ¬ a.toNat ≤ b.toNat := fun hh => h (UInt64.le_iff_toNat_le.2 hh); omega

set_option maxRecDepth 100000 in
/-- Nothing was there: the range is appended. -/
theorem appendRange_first (base : Nat) (v : Value) (r : Rg) (w : World) (hown : w.ownsRow base 62 18 v 0 []) (hb : base ≤ w.heap.size) :
    Calls Try.prog 43 #[v, .agg (encR r).toArray] w fun e w' => ∃ v', e = .returned v' ∧ w'.ownsRow base 62 18 v' 1 (encR r) ∧ Below base w w' := by
  obtain ⟨k16, k17, k18, ⟨z22, z24, z27, z30, z53, z40, z62, n16, n17, n18⟩, HK⟩ := sz_ex
  clear z22 z24 z27 z30 z53 z40 n16 n17
  obtain ⟨i0, hi, hz0, hz1, hz2⟩ := info_parts Try.info62
  have mixed : Try.prog.follows .mixedOrders = true := by kernel_rfl
  have hbs : ∀ n, (Instr.buildSlice 63 1 #[(0, .agg (encR r).toArray)]).run Try.prog ((w.alloc (.cells (encR r).toArray 62)).drewN n) = .ok (.slice (some ⟨w.heap.size + 1, 0, none⟩) 1 1) (((w.alloc (.cells (encR r).toArray 62)).drewN n).alloc (.cells (encR r).toArray 62)) := fun n => by
    have := buildSlice63_any r ((w.alloc (.cells (encR r).toArray 62)).drewN n)
    rw [show ((w.alloc (.cells (encR r).toArray 62)).drewN n).heap.size = w.heap.size + 1 by simp] at this
    exact this
  have HBS : Hid _ := hbs
  clear hbs
  have ld : ∀ n, Sem.run Try.prog (loadCellsFrom ⟨w.heap.size, 0, none⟩ 0 k18 #[]) ((w.alloc (.cells (encR r).toArray 62)).drewN n) = .ok (encR r).toArray ((w.alloc (.cells (encR r).toArray 62)).drewN n) := fun n =>
    ld_block _ _ _ (encR r).toArray 62 (0, 0) _ _ (heap_alloc_last w _) (by rw [encR_length, HK.out.2.2]) (by simp)
  obtain ⟨a0, c0, rfl⟩ : ∃ a c, v = .slice a 0 c := by
    rcases hown.2 with ⟨rfl, _⟩ | ⟨g, cap, cur, rfl, _⟩
    · exact ⟨none, 0, rfl⟩
    · exact ⟨_, _, rfl⟩
  have HO : Hid (w.ownsRow base 62 18 (.slice a0 0 c0) 0 []) := hown
  clear hown
  go_enter Try.func43, Try.ntmps43
  go_wp2_with fail
  go_quiet (fail)
  go_wp2_with (first | (refine wpList_bs1 rfl 63 (.tmp 33) rfl (.agg (encR r).toArray) (.slice (some ⟨w.heap.size + 1, 0, none⟩) 1 1) rfl (HBS.out _) ?_) | (at_builtin; refine wpList_append_own _ rfl (.tmp 32) (.tmp 34) 63 rfl base 62 i0 _ 18 32 Try.underlying63 hi hz0 hz1 hz2 rfl (by decide) _ 0 [] rfl ?own ⟨w.heap.size + 1, 0, none⟩ 1 1 (encR r) rfl ?ll ?news ?one ?c3 ?c4 ?c5 ?_))
  case own => exact ownsRow_heap ((HO.out.alloc (.cells (encR r).toArray 62)).alloc (.cells (encR r).toArray 62)) rfl
  case ll => rw [encR_length]
  case news => exact cells_at (heap_alloc_at _ _ _ (by simp))
  case one => exact encR_one r
  case c3 => decide
  case c4 => decide
  case c5 => simp; omega
  intro v' w' ho' hg _
  have hB : Below base w w' := grown_below (((below_drewN ((Below.refl base w).alloc hb _) nq)).alloc (by simp; omega) _) hg (by simp; omega) (ownsRow_heap ((HO.out.alloc (.cells (encR r).toArray 62)).alloc (.cells (encR r).toArray 62)) rfl)
  go_wp2
  go_ret
  exact ⟨_, rfl, ho', hB⟩

theorem ownsRow_grown {w : World} {base : Nat} {e : TypeId} {size : Nat} {v : Value} {n : Nat} {xs : List Value} (h : w.ownsRow base e size v n xs) (q : Nat) (os : Array Obj) : (grow (w.drewN q) os).ownsRow base e size v n xs := by
  refine ⟨h.1, ?_⟩
  rcases h.2 with h1 | ⟨g, cap, cur, h1, h2, h3, h4⟩
  · exact .inl h1
  · exact .inr ⟨g, cap, cur, h1, h2, (heap_grow_old _ os (by exact (Array.getElem?_eq_some_iff.1 h3).1)).trans h3, h4⟩

/-- A load of a whole range out of an owned row, in every later world that only grew. -/
theorem ld_own {w : World} {base g cap : Nat} {rs : List Rg} (hown : w.ownsRow base 62 18 (.slice (some ⟨g, 0, none⟩) rs.length cap) rs.length (flatR rs)) (i : Nat) (hi : i < rs.length) (k18 : Nat) (hk : k18 = 18) (n : Nat) (os : Array Obj) :
    Sem.run Try.prog (loadCellsFrom ⟨g, i * k18, none⟩ 0 k18 #[]) (grow (w.drewN n) os) = .ok (encR rs[i]).toArray (grow (w.drewN n) os) := by
  subst hk
  have hg : g < w.heap.size := (hown.lt g rfl).2
  have := run_loadCells_list (P := Try.prog) (grow (w.drewN n) os) ⟨g, i * 18, none⟩ (encR rs[i]) (fun j v hj => by
    have hj18 : j < 18 := by have := (List.getElem?_eq_some_iff.1 hj).1; rwa [encR_length] at this
    have hadd : (⟨g, i * 18, none⟩ : Addr).add j = ⟨g, i * 18 + j, none⟩ := by unfold Addr.add; split <;> simp_all
    rw [hadd, cell?_grow _ _ _ (by exact hg)]
    show w.cell? _ = _
    rw [hown.cellAt (i * 18 + j) (by have := Nat.mul_le_mul_right 18 (show i + 1 ≤ rs.length from hi); omega), flatR_get rs i hi j hj18]
    exact hj)
  rw [encR_length] at this
  simpa [loadCells] using this

set_option maxRecDepth 100000 in
theorem appendRange_more (base g cap m : Nat) (rs : List Rg) (hm : Hid (rs.length = m + 1)) (r l : Rg) (hl : Hid (rs[m]? = some l)) (w : World) (hown : w.ownsRow base 62 18 (.slice (some ⟨g, 0, none⟩) (m + 1) cap) (m + 1) (flatR rs)) (hb : base ≤ w.heap.size) (hlen : m ≤ 1000000000)
    (hj : joinsB l r = false) :
    Calls Try.prog 43 #[.slice (some ⟨g, 0, none⟩) ((m + 1 : Nat)) cap, .agg (encR r).toArray] w fun e w' => ∃ v', e = .returned v' ∧ w'.ownsRow base 62 18 v' (m + 2) (flatR rs ++ encR r) ∧ Below base w w' := by
  obtain ⟨k16, k17, k18, ⟨z22, z24, z27, z30, z53, z40, z62, n16, n17, n18⟩, HK⟩ := sz_ex
  clear z22 z24 z27 z30 z53 z40 n16 n17
  obtain ⟨i0, hi, hz0, hz1, hz2⟩ := info_parts Try.info62
  have mixed : Try.prog.follows .mixedOrders = true := by kernel_rfl
  have hml : m < rs.length := by rw [hm.out]; omega
  have hrl : rs[m] = l := by have := hl.out; rw [List.getElem?_eq_getElem hml] at this; exact Option.some.inj this
  obtain ⟨W, hW⟩ : ∃ W, W = w.alloc (.cells (encR r).toArray 62) := ⟨_, rfl⟩
  have hownW : W.ownsRow base 62 18 (.slice (some ⟨g, 0, none⟩) rs.length cap) rs.length (flatR rs) := by rw [hW, hm.out]; exact hown.alloc _
  have ld1 : ∀ n os, Sem.run Try.prog (loadCellsFrom ⟨g, m * k18, none⟩ 0 k18 #[]) (grow (W.drewN n) os) = .ok (encR l).toArray (grow (W.drewN n) os) := fun n os => by
    rw [← hrl]; exact ld_own hownW m hml k18 HK.out.2.2 n os
  have hWb : W.heap[w.heap.size]? = some (.cells (encR r).toArray 62 (0, 0)) := by rw [hW]; exact heap_alloc_last w _
  have hWlt : w.heap.size < W.heap.size := by rw [hW]; simp
  have ld2 : ∀ n os, Sem.run Try.prog (loadCellsFrom ⟨w.heap.size, 0, none⟩ 0 k18 #[]) (grow (W.drewN n) os) = .ok (encR r).toArray (grow (W.drewN n) os) := fun n os =>
    ld_block _ _ _ (encR r).toArray 62 (0, 0) _ _ ((heap_grow_old _ os (by exact hWlt)).trans hWb) (by rw [encR_length, HK.out.2.2]) (by simp)
  have HJ : ∀ n os, Calls Try.prog 24 #[.agg (encR l).toArray, .agg (encR r).toArray] (grow (W.drewN n) os) fun e w' => e = .returned (.bool false) ∧ ∃ q os', w' = grow ((grow (W.drewN n) os).drewN q) os' := fun n os => by
    have := joins_any l r (grow (W.drewN n) os); rw [hj] at this; exact this
  have HJJ : Hid _ := HJ
  have HB : Hid (Below base w W) := by rw [hW]; exact (Below.refl base w).alloc hb _
  have HOW : Hid (W.ownsRow base 62 18 (.slice (some ⟨g, 0, none⟩) (m + 1) cap) (m + 1) (flatR rs)) := by rw [hW]; exact hown.alloc _
  clear HJ hj hown hownW hWb hrl hml
  have ib1 : (m : Int) < (m : Int) + 1 := by omega
  have ib0 : (0 : Int) ≤ (m : Int) := by omega
  go_enter Try.func43, Try.ntmps43
  go_wp2_with fail
  rw [← hW]
  have HW : Hid (W = w.alloc (.cells (encR r).toArray 62)) := hW
  clear hW
  go_quiet_grown (first | (go_at_call 24; exact Calls.grown_of (HJJ.out _ _)))
  have ldX := ld2 nq osq
  have HBX : Hid (Below base w (grow (W.drewN nq) osq)) := HB.out.trans (Gr.below ⟨nq, osq, rfl⟩ |>.mono (by have := HB.out.size; omega))
  have HOX : Hid ((grow (W.drewN nq) osq).ownsRow base 62 18 (.slice (some ⟨g, 0, none⟩) (m + 1) cap) (m + 1) (flatR rs)) := ownsRow_grown HOW.out nq osq
  have hbX : base ≤ (grow (W.drewN nq) osq).heap.size := by have := HBX.out.size; omega
  clear ld1 ld2 hWlt HB HOW HJJ ib1 ib0
  generalize grow (W.drewN nq) osq = X at *
  go_wp2_with (first | (refine wpList_bs1 rfl 63 (.tmp 33) rfl (.agg (encR r).toArray) _ rfl (buildSlice63_any r _) ?_) | (at_builtin; refine wpList_append_own _ rfl (.tmp 32) (.tmp 34) 63 rfl base 62 i0 _ 18 32 Try.underlying63 hi hz0 hz1 hz2 rfl (by decide) _ (m + 1) (flatR rs) rfl ?own ⟨X.heap.size, 0, none⟩ 1 1 (encR r) rfl ?ll ?news ?one ?c3 ?c4 ?c5 ?_))
  case own => exact HOX.out.alloc _
  case ll => rw [encR_length]
  case news => exact cells_at (heap_alloc_at _ _ _ rfl)
  case one => exact encR_one r
  case c3 => unfold maxLen; omega
  case c4 => omega
  case c5 => simp; omega
  intro v' w' ho' hg _
  have hB : Below base w w' := grown_below (HBX.out.alloc hbX _) hg (by simp; omega) (HOX.out.alloc _)
  go_wp2
  go_ret
  exact ⟨_, rfl, ho', hB⟩
set_option maxRecDepth 100000 in
theorem appendRange_join (base g cap m : Nat) (rs : List Rg) (hm : Hid (rs.length = m + 1)) (r l : Rg) (hl : Hid (rs[m]? = some l)) (w : World) (hown : w.ownsRow base 62 18 (.slice (some ⟨g, 0, none⟩) (m + 1) cap) (m + 1) (flatR rs)) (hb : base ≤ w.heap.size) (hlen : m ≤ 1000000000)
    (hj : joinsB l r = true) :
    Calls Try.prog 43 #[.slice (some ⟨g, 0, none⟩) ((m + 1 : Nat)) cap, .agg (encR r).toArray] w fun e w' => e = .returned (.slice (some ⟨g, 0, none⟩) (m + 1) cap) ∧ w'.ownsRow base 62 18 (.slice (some ⟨g, 0, none⟩) (m + 1) cap) (m + 1) ((flatR rs).set (m * 18 + 17) (.int .u64 ((max l.2.2 r.2.2).toNat : Int))) ∧ Below base w w' := by
  obtain ⟨k16, k17, k18, ⟨z22, z24, z27, z30, z53, z40, z62, n16, n17, n18⟩, HK⟩ := sz_ex
  clear z22 z24 z27 z30 z53 z40 n16 n17
  have mixed : Try.prog.follows .mixedOrders = true := by kernel_rfl
  have hml : m < rs.length := by rw [hm.out]; omega
  have hrl : rs[m] = l := by have := hl.out; rw [List.getElem?_eq_getElem hml] at this; exact Option.some.inj this
  obtain ⟨W, hW⟩ : ∃ W, W = w.alloc (.cells (encR r).toArray 62) := ⟨_, rfl⟩
  have hownW : W.ownsRow base 62 18 (.slice (some ⟨g, 0, none⟩) rs.length cap) rs.length (flatR rs) := by rw [hW, hm.out]; exact hown.alloc _
  have ld1 : ∀ n os, Sem.run Try.prog (loadCellsFrom ⟨g, m * k18, none⟩ 0 k18 #[]) (grow (W.drewN n) os) = .ok (encR l).toArray (grow (W.drewN n) os) := fun n os => by
    rw [← hrl]; exact ld_own hownW m hml k18 HK.out.2.2 n os
  have hWb : W.heap[w.heap.size]? = some (.cells (encR r).toArray 62 (0, 0)) := by rw [hW]; exact heap_alloc_last w _
  have hWlt : w.heap.size < W.heap.size := by rw [hW]; simp
  have ld2 : ∀ n os, Sem.run Try.prog (loadCellsFrom ⟨w.heap.size, 0, none⟩ 0 k18 #[]) (grow (W.drewN n) os) = .ok (encR r).toArray (grow (W.drewN n) os) := fun n os =>
    ld_block _ _ _ (encR r).toArray 62 (0, 0) _ _ ((heap_grow_old _ os (by exact hWlt)).trans hWb) (by rw [encR_length, HK.out.2.2]) (by simp)
  have HJ : ∀ n os, Calls Try.prog 24 #[.agg (encR l).toArray, .agg (encR r).toArray] (grow (W.drewN n) os) fun e w' => e = .returned (.bool true) ∧ ∃ q os', w' = grow ((grow (W.drewN n) os).drewN q) os' := fun n os => by
    have := joins_any l r (grow (W.drewN n) os); rw [hj] at this; exact this
  have HJJ : Hid _ := HJ
  have HB : Hid (Below base w W) := by rw [hW]; exact (Below.refl base w).alloc hb _
  have HOW : Hid (W.ownsRow base 62 18 (.slice (some ⟨g, 0, none⟩) (m + 1) cap) (m + 1) (flatR rs)) := by rw [hW]; exact hown.alloc _
  have hWB : Hid (W.heap[w.heap.size]? = some (.cells (encR r).toArray 62 (0, 0))) := hWb
  clear HJ hj hown hownW hWb hrl hml
  have ib1 : (m : Int) < (m : Int) + 1 := by omega
  have ib0 : (0 : Int) ≤ (m : Int) := by omega
  go_enter Try.func43, Try.ntmps43
  go_wp2_with fail
  rw [← hW]
  have HW : Hid (W = w.alloc (.cells (encR r).toArray 62)) := hW
  clear hW
  go_quiet_grown (first | (go_at_call 24; exact Calls.grown_of (HJJ.out _ _)))
  have HBX : Hid (Below base w (grow (W.drewN nq) osq)) := HB.out.trans (Gr.below ⟨nq, osq, rfl⟩ |>.mono (by have := HB.out.size; omega))
  have HOX : Hid ((grow (W.drewN nq) osq).ownsRow base 62 18 (.slice (some ⟨g, 0, none⟩) (m + 1) cap) (m + 1) (flatR rs)) := ownsRow_grown HOW.out nq osq
  have hbX : base ≤ (grow (W.drewN nq) osq).heap.size := by have := HBX.out.size; omega
  have c1 : (grow (W.drewN nq) osq).cell? ⟨g, m * k18 + 17, none⟩ = some (.int .u64 (l.2.2.toNat : Int)) := by
    rw [HK.out.2.2, HOX.out.cellAt (m * 18 + 17) (by omega), flatR_get rs m (by rw [hm.out]; omega) 17 (by omega)]
    have : rs[m]'(by rw [hm.out]; omega) = l := by have := hl.out; rw [List.getElem?_eq_getElem (by rw [hm.out]; omega)] at this; exact Option.some.inj this
    rw [this, encR_17]
  have f1 : (grow (W.drewN nq) osq).frozen? ⟨g, m * k18 + 17, none⟩ = false := HOX.out.frozenAt _
  have c2 : (grow (W.drewN nq) osq).cell? ⟨w.heap.size, 17, none⟩ = some (.int .u64 (r.2.2.toNat : Int)) := by
    have := cell_of_row (grow (W.drewN nq) osq) w.heap.size 17 (encR r).toArray 62 (0, 0) ((heap_grow_old _ osq (by exact hWlt)).trans hWB.out)
    rw [this, List.getElem?_toArray, encR_17]
  clear ld1 ld2 hWlt HB HOW HJJ
  generalize grow (W.drewN nq) osq = X at *
  go_wp2_with fail
  go_region
  all_goals go_wp2
  all_goals
    obtain ⟨rfl, rfl, rfl⟩ := HK.out
    go_ret
    refine ⟨rfl, ?_, ?_⟩
    · have e : ((max l.2.2 r.2.2).toNat : Int) = _ := congrArg _ (umax l.2.2 r.2.2)
      first
        | (rw [e, show max l.2.2.toNat r.2.2.toNat = r.2.2.toNat from by omega]; exact ownsRow_heap (HOX.out.stored (m * 18 + 17) _).1 rfl)
        | (rw [e, show max l.2.2.toNat r.2.2.toNat = l.2.2.toNat from by omega]; exact ownsRow_heap (HOX.out.stored (m * 18 + 17) _).1 rfl)
    · exact (HBX.out.setCell (by exact (HOX.out.lt g rfl).1) _).drew


theorem encR_set (l : Rg) (t : UInt64) : (encR l).set 17 (.int .u64 (t.toNat : Int)) = encR (l.1, l.2.1, t) := by
  unfold encR
  rw [List.set_append_right _ _ (by rw [encG_length]; omega), encG_length]
  rfl

theorem flatR_set (rs : List Rg) (m : Nat) (hm : rs.length = m + 1) (l : Rg) (hl : rs[m]? = some l) (t : UInt64) :
    (flatR rs).set (m * 18 + 17) (.int .u64 (t.toNat : Int)) = flatR (rs.dropLast ++ [(l.1, l.2.1, t)]) := by
  have hml : m < rs.length := by omega
  have e : rs = rs.dropLast ++ [l] := by
    have h1 : rs.dropLast = rs.take m := by rw [List.dropLast_eq_take, hm]; rfl
    have h2 : rs[m] = l := by rw [List.getElem?_eq_getElem hml] at hl; exact Option.some.inj hl
    rw [h1, ← h2]
    have h3 : rs.drop m = [rs[m]] := by
      rw [List.drop_eq_getElem_cons hml, List.drop_of_length_le (by omega)]
    rw [← h3, List.take_append_drop]
  have hd : (flatR rs.dropLast).length = m * 18 := by rw [flatR_length, List.length_dropLast, hm]; rfl
  conv => lhs; rw [e]
  rw [flatR_append, flatR_append, flatR_one, flatR_one, List.set_append_right _ _ (by rw [hd]; omega), hd, show m * 18 + 17 - m * 18 = 17 from by omega, encR_set]

/-- appendRange: what is owned behind it. -/
theorem appendRange_any (base : Nat) (v : Value) (rs : List Rg) (r : Rg) (w : World) (hown : w.ownsRow base 62 18 v rs.length (flatR rs)) (hb : base ≤ w.heap.size) (hlen : rs.length ≤ 1000000000) :
    Calls Try.prog 43 #[v, .agg (encR r).toArray] w fun e w' => ∃ v', e = .returned v' ∧ w'.ownsRow base 62 18 v' (apR rs r).length (flatR (apR rs r)) ∧ Below base w w' := by
  by_cases h0 : rs = []
  · subst h0
    refine (appendRange_first base v r w hown hb).mono ?_
    rintro e w' ⟨v', rfl, ho, hbel⟩
    exact ⟨v', rfl, by simpa [apR, flatR_one] using ho, hbel⟩
  · obtain ⟨m, hm⟩ : ∃ m, rs.length = m + 1 := ⟨rs.length - 1, by have := List.length_pos_iff.2 h0; omega⟩
    have hml : m < rs.length := by omega
    have hl : rs[m]? = some rs[m] := List.getElem?_eq_getElem hml
    have hlast : rs.getLast? = some rs[m] := by rw [List.getLast?_eq_getElem?, hm]; exact hl
    rcases hown.2 with ⟨_, hz⟩ | ⟨g, cap, cur, rfl, hrest⟩
    · omega
    · rw [hm] at hown ⊢
      cases hj : joinsB rs[m] r with
      | false =>
        refine (appendRange_more base g cap m rs hm r rs[m] hl w hown hb (by omega) hj).mono ?_
        rintro e w' ⟨v', rfl, ho, hbel⟩
        refine ⟨v', rfl, ?_, hbel⟩
        have ea : apR rs r = rs ++ [r] := by unfold apR; rw [hlast]; simp [hj]
        rw [ea, flatR_append, flatR_one, List.length_append, hm]
        exact ho
      | true =>
        refine (appendRange_join base g cap m rs hm r rs[m] hl w hown hb (by omega) hj).mono ?_
        rintro e w' ⟨rfl, ho, hbel⟩
        refine ⟨_, rfl, ?_, hbel⟩
        have ea : apR rs r = rs.dropLast ++ [(rs[m].1, rs[m].2.1, max rs[m].2.2 r.2.2)] := by unfold apR; rw [hlast]; simp [hj]
        rw [ea, ← flatR_set rs m hm rs[m] hl, List.length_append, List.length_dropLast, hm]
        exact ho
end Go.Proofs.Qxb6615018a
