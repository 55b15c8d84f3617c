/-
  DERIVED. The small functions on serial numbers and ranges: rangeOf, first, last, joins, Compare: each computes; the world only grows.
-/
import Derived.Test.Qxb6615018aKit
import Derived.Lib.BytesEntry
namespace Go.Proofs.Qxb6615018a
open Go.RowKit

theorem zero62 : ∃ Z : Array Value, Hid (Z.size = 18) ∧ ∀ w, (zeroValue 62).run Try.prog w = .ok (.agg Z) w :=
  ⟨(List.replicate 16 (Value.int .u8 0) ++ ([.int .u64 0, .int .u64 0] : List Value)).toArray, by show _ = _; rfl, fun w => by simp [go_sem]⟩
theorem zero27 : ∃ Z : Array Value, Hid (Z.size = 17) ∧ ∀ w, (zeroValue 27).run Try.prog w = .ok (.agg Z) w :=
  ⟨(List.replicate 16 (Value.int .u8 0) ++ ([.int .u64 0] : List Value)).toArray, by show _ = _; rfl, fun w => by simp [go_sem]⟩

theorem encS_sub (s : Sn) (j : Nat) (v : Value) (h : (encG s.1)[j]? = some v) : (encS s).toArray[0 + j]? = some v := by
  rw [Nat.zero_add, List.getElem?_toArray, encS, List.getElem?_append_left (List.getElem?_eq_some_iff.1 h).1]; exact h
theorem encR_sub (s : Rg) (j : Nat) (v : Value) (h : (encG s.1)[j]? = some v) : (encR s).toArray[0 + j]? = some v := by
  rw [Nat.zero_add, List.getElem?_toArray, encR, List.getElem?_append_left (List.getElem?_eq_some_iff.1 h).1]; exact h

/-- The GUID out of a box made last but one. -/
theorem ldG_S (w : World) (s : Sn) (t : TypeId) (o : Obj) (k : Nat) (hk : k = 16) :
    Sem.run Try.prog (loadCellsFrom ⟨w.heap.size, 0, none⟩ 0 k #[]) ((w.alloc (.cells (encS s).toArray t)).alloc o) = .ok (encG s.1).toArray ((w.alloc (.cells (encS s).toArray t)).alloc o) :=
  ld_block _ _ _ (encS s).toArray t (0, 0) _ _ ((Below.heap_alloc _ _ _ (by simp)).trans (heap_alloc_last w _)) (by rw [encG_length, hk]) (encS_sub s)
theorem ldG_R (w : World) (s : Rg) (t : TypeId) (o : Obj) (k : Nat) (hk : k = 16) :
    Sem.run Try.prog (loadCellsFrom ⟨w.heap.size, 0, none⟩ 0 k #[]) ((w.alloc (.cells (encR s).toArray t)).alloc o) = .ok (encG s.1).toArray ((w.alloc (.cells (encR s).toArray t)).alloc o) :=
  ld_block _ _ _ (encR s).toArray t (0, 0) _ _ ((Below.heap_alloc _ _ _ (by simp)).trans (heap_alloc_last w _)) (by rw [encG_length, hk]) (encR_sub s)

theorem rangeOf_any (s : Sn) (w : World) :
    Calls Try.prog 25 #[.agg (encS s).toArray] w fun e w' => e = .returned (.agg (encR (s.1, s.2, s.2)).toArray) ∧ Gr w w' := by
  obtain ⟨k16, k17, k18, ⟨z22, z24, z27, z30, z53, z40, z62, n16, n17, n18⟩, HK⟩ := sz_ex
  clear z22 z27 z30 z53 z40 n17 n18
  obtain ⟨Z18, hZ, v62⟩ := zero62
  have l1 := fun o => ldG_S w s 27 o k16 HK.out.1
  have e16 := encS_16 s

  have hlen : (encR (s.1, s.2, s.2)).length = k18 := by rw [encR_length, HK.out.2.2]
  have s1 : Sem.run Try.prog (storeCells ⟨w.heap.size + 1, 0, none⟩ (encR (s.1, s.2, s.2)) 0) ((w.alloc (.cells (encS s).toArray 27)).alloc (.cells Z18 62)) = .ok () ((w.alloc (.cells (encS s).toArray 27)).alloc (.cells (encR (s.1, s.2, s.2)).toArray 62)) := by
    have := st_new (w.alloc (.cells (encS s).toArray 27)) 62 Z18 (encR (s.1, s.2, s.2)) (by rw [encR_length]; exact hZ.out) (encR_one _)
    simpa using this
  go_enter Try.func25, Try.ntmps25
  go_wp2_with (refine wpList_build3 rfl 62 (.tmp 4) (.tmp 6) (.tmp 8) rfl (.agg (encG s.1).toArray) (.int .u64 (s.2.toNat : Int)) (.int .u64 (s.2.toNat : Int)) (.agg (encR (s.1, s.2, s.2)).toArray) rfl rfl rfl (build62_any s.1 s.2 s.2 _) ?_)
  refine bodyPost_ret (v := .agg (encR (s.1, s.2, s.2)).toArray) ?_ rfl ⟨rfl, ((Gr.refl w).alloc _).alloc _⟩
  exact results_cell_row Try.results25 _ _ (w.heap.size + 1) 62 _ (0, 0) _ (by simp) (heap_alloc_at _ _ _ (by simp)) Try.underlying62 rfl (by rw [List.size_toArray, encR_length]; kernel_rfl)

theorem first_any (r : Rg) (w : World) :
    Calls Try.prog 26 #[.agg (encR r).toArray] w fun e w' => e = .returned (.agg (encS (r.1, r.2.1)).toArray) ∧ Gr w w' := by
  obtain ⟨k16, k17, k18, ⟨z22, z24, z27, z30, z53, z40, z62, n16, n17, n18⟩, HK⟩ := sz_ex
  clear z22 z62 z30 z53 z40 n17 n18
  obtain ⟨Z17, hZ, v27⟩ := zero27
  have l1 := fun o => ldG_R w r 62 o k16 HK.out.1
  have e16 := encR_16 r
  have hlen : (encS (r.1, r.2.1)).length = k17 := by rw [encS_length, HK.out.2.1]
  have s1 : Sem.run Try.prog (storeCells ⟨w.heap.size + 1, 0, none⟩ (encS (r.1, r.2.1)) 0) ((w.alloc (.cells (encR r).toArray 62)).alloc (.cells Z17 27)) = .ok () ((w.alloc (.cells (encR r).toArray 62)).alloc (.cells (encS (r.1, r.2.1)).toArray 27)) := by
    have := st_new (w.alloc (.cells (encR r).toArray 62)) 27 Z17 (encS (r.1, r.2.1)) (by rw [encS_length]; exact hZ.out) (encS_one _)
    simpa using this
  go_enter Try.func26, Try.ntmps26
  go_wp2_with (refine wpList_build2 rfl 27 (.tmp 4) (.tmp 6) rfl (.agg (encG r.1).toArray) (.int .u64 (r.2.1.toNat : Int)) (.agg (encS (r.1, r.2.1)).toArray) rfl rfl (build27_any r.1 r.2.1 _) ?_)
  refine bodyPost_ret (v := .agg (encS (r.1, r.2.1)).toArray) ?_ rfl ⟨rfl, ((Gr.refl w).alloc _).alloc _⟩
  exact results_cell_row Try.results26 _ _ (w.heap.size + 1) 27 _ (0, 0) _ (by simp) (heap_alloc_at _ _ _ (by simp)) Try.underlying27 rfl (by rw [List.size_toArray, encS_length]; kernel_rfl)

theorem last_any (r : Rg) (w : World) :
    Calls Try.prog 39 #[.agg (encR r).toArray] w fun e w' => e = .returned (.agg (encS (r.1, r.2.2)).toArray) ∧ Gr w w' := by
  obtain ⟨k16, k17, k18, ⟨z22, z24, z27, z30, z53, z40, z62, n16, n17, n18⟩, HK⟩ := sz_ex
  clear z22 z62 z30 z53 z40 n17 n18
  obtain ⟨Z17, hZ, v27⟩ := zero27
  have l1 := fun o => ldG_R w r 62 o k16 HK.out.1
  have e17 := encR_17 r
  have hlen : (encS (r.1, r.2.2)).length = k17 := by rw [encS_length, HK.out.2.1]
  have s1 : Sem.run Try.prog (storeCells ⟨w.heap.size + 1, 0, none⟩ (encS (r.1, r.2.2)) 0) ((w.alloc (.cells (encR r).toArray 62)).alloc (.cells Z17 27)) = .ok () ((w.alloc (.cells (encR r).toArray 62)).alloc (.cells (encS (r.1, r.2.2)).toArray 27)) := by
    have := st_new (w.alloc (.cells (encR r).toArray 62)) 27 Z17 (encS (r.1, r.2.2)) (by rw [encS_length]; exact hZ.out) (encS_one _)
    simpa using this
  go_enter Try.func39, Try.ntmps39
  go_wp2_with (refine wpList_build2 rfl 27 (.tmp 4) (.tmp 6) rfl (.agg (encG r.1).toArray) (.int .u64 (r.2.2.toNat : Int)) (.agg (encS (r.1, r.2.2)).toArray) rfl rfl (build27_any r.1 r.2.2 _) ?_)
  refine bodyPost_ret (v := .agg (encS (r.1, r.2.2)).toArray) ?_ rfl ⟨rfl, ((Gr.refl w).alloc _).alloc _⟩
  exact results_cell_row Try.results39 _ _ (w.heap.size + 1) 27 _ (0, 0) _ (by simp) (heap_alloc_at _ _ _ (by simp)) Try.underlying27 rfl (by rw [List.size_toArray, encS_length]; kernel_rfl)

theorem eqlG24 (g h : Gd) (w : World) : (binOp .eql 24 (.agg (encG g).toArray) (.agg (encG h).toArray)).run Try.prog w = .ok (.bool (g == h)) w := by
  rw [run_eql_struct]
  rw [eqG 9998 24 (by kernel_rfl) g h w]
  rfl

def joinsB (r n : Rg) : Bool := (r.1 == n.1) && (decide (n.2.1 ≤ r.2.2) || (n.2.1 - 1 == r.2.2))

theorem ret_bool {a b : Bool} (h : a = b) : Ending.returned (.bool a) = .returned (.bool b) := by rw [h]

theorem sub_one_eq (f t : UInt64) : (IntKind.u64.wrap ((f.toNat : Int) - 1) == (t.toNat : Int)) = (f - 1 == t) := by
  have hw : IntKind.u64.wrap ((f.toNat : Int) - 1) = ((f - 1).toNat : Int) := by
    rw [show IntKind.u64.wrap ((f.toNat : Int) - 1) = ((f.toNat : Int) - 1) % 18446744073709551616 from by simp [IntKind.wrap, IntKind.bits, IntKind.signed]]
    rw [UInt64.toNat_sub]
    have := f.toNat_lt
    simp
    omega
  rw [hw]
  by_cases h : f - 1 = t
  · subst h; simp
  · have h2 : ¬ (f - 1).toNat = t.toNat := fun hh => h (UInt64.toNat_inj.1 hh)
    have e1 : (((f - 1).toNat : Int) == (t.toNat : Int)) = false := by simp only [beq_eq_false_iff_ne, ne_eq, Int.natCast_inj]; exact h2
    rw [e1]
    simpa using h

theorem joins_any (r n : Rg) (w : World) :
    Calls Try.prog 24 #[.agg (encR r).toArray, .agg (encR n).toArray] w fun e w' => e = .returned (.bool (joinsB r n)) ∧ Gr w w' := by
  obtain ⟨k16, k17, k18, ⟨z22, z24, z27, z30, z53, z40, z62, n16, n17, n18⟩, HK⟩ := sz_ex
  clear z22 z27 z30 z53 z40 n17 n18
  have l1 := fun o => ldG_R w r 62 o k16 HK.out.1
  have l2 : Sem.run Try.prog (loadCellsFrom ⟨w.heap.size + 1, 0, none⟩ 0 k16 #[]) ((w.alloc (.cells (encR r).toArray 62)).alloc (.cells (encR n).toArray 62)) = .ok (encG n.1).toArray ((w.alloc (.cells (encR r).toArray 62)).alloc (.cells (encR n).toArray 62)) :=
    ld_block _ _ _ (encR n).toArray 62 (0, 0) _ _ (heap_alloc_at _ _ _ (by simp)) (by rw [encG_length, HK.out.1]) (encR_sub n)
  have er17 := encR_17 r
  have en16 := encR_16 n
  have q := eqlG24
  go_enter Try.func24, Try.ntmps24
  go_wp2
  · go_ret
    refine ⟨ret_bool ?_, ((Gr.refl w).alloc _).alloc _⟩
    have h1 : r.1 = n.1 := by assumption
    have h2 : r.2.2.toNat < n.2.1.toNat := by assumption
    have h3 : ¬ n.2.1 ≤ r.2.2 := by rw [UInt64.le_iff_toNat_le]; omega
    have h4 : ¬ n.2.1.toNat ≤ r.2.2.toNat := by omega
    simp [joinsB, h1, h3, h4, sub_one_eq]
  · go_ret
    refine ⟨ret_bool ?_, ((Gr.refl w).alloc _).alloc _⟩
    have h1 : r.1 = n.1 := by assumption
    have h2 : ¬ r.2.2.toNat < n.2.1.toNat := by assumption
    have h3 : n.2.1 ≤ r.2.2 := by rw [UInt64.le_iff_toNat_le]; omega
    simp [joinsB, h1, h3]
  · go_ret
    refine ⟨ret_bool ?_, ((Gr.refl w).alloc _).alloc _⟩
    have h1 : ¬ r.1 = n.1 := by assumption
    simp [joinsB, h1]

/-! ### Compare -/

/-- The cells of a GUID lie at an address. -/
def CellsG (W : World) (b o : Nat) (g : Gd) : Prop := ∀ i (hi : i < 16), W.cell? ⟨b, o + i, none⟩ = some (.int .u8 (g[i].toNat : Int))

theorem nums_get (g : Gd) (j : Nat) (x : Int) (h : (g.toList.map fun b => (b.toNat : Int))[j]? = some x) : ∃ hj : j < 16, x = (g[j].toNat : Int) := by
  rw [List.getElem?_map] at h
  cases e : g.toList[j]? with
  | none => rw [e] at h; simp at h
  | some b =>
    rw [e] at h
    simp at h
    have hj : j < 16 := by
      have := (List.getElem?_eq_some_iff.1 e).1
      simpa using this
    refine ⟨hj, ?_⟩
    have : g.toList[j]? = some g[j] := by simp [hj]
    rw [this] at e
    simp at e
    rw [← h, e]

theorem loadG (W : World) (b o : Nat) (g : Gd) (h : CellsG W b o g) : (Extern.Bytes.loadBytes ⟨b, o, none⟩ 16 .empty).run Try.prog W = .ok ⟨g.toList.toArray⟩ W := by
  have := Lib.run_loadBytesX (P := Try.prog) W (g.toList.map fun b => (b.toNat : Int)) ⟨b, o, none⟩ .empty (fun j x hj => by
    obtain ⟨hj16, rfl⟩ := nums_get g j x hj
    have hadd : (⟨b, o, none⟩ : Addr).add j = ⟨b, o + j, none⟩ := by unfold Addr.add; split <;> simp_all
    rw [hadd]
    exact h j hj16)
  rw [show (g.toList.map fun b => (b.toNat : Int)).length = 16 from by simp] at this
  rw [this]
  congr 1
  apply ByteArray.ext
  show (#[] : Array UInt8) ++ _ = _
  rw [Array.empty_append]
  congr 1
  unfold Lib.bytesOf
  rw [List.map_map]
  conv => rhs; rw [← List.map_id g.toList]
  apply List.map_congr_left
  intro b _
  simp

theorem ext54 (W : World) (b1 o1 b2 o2 c1 c2 : Nat) (g h : Gd) (h1 : CellsG W b1 o1 g) (h2 : CellsG W b2 o2 h) :
    (callFunc 54 #[.slice (some ⟨b1, o1, none⟩) 16 c1, .slice (some ⟨b2, o2, none⟩) 16 c2]).run Try.prog W = .ok (.value (.int .i64 (Lib.compareBytes g.toList h.toList))) W := by
  rw [run_callFunc_extern Try.func54 (by kernel_rfl) (by kernel_rfl) (by kernel_rfl) (e := Extern.BytealgCompare.compare) (by kernel_rfl)]
  change (Sem.run Try.prog (do pure (goInt (Extern.BytealgCompare.cmp (← Extern.Bytes.bytesOf (.slice (some ⟨b1, o1, none⟩) 16 c1)) (← Extern.Bytes.bytesOf (.slice (some ⟨b2, o2, none⟩) 16 c2))))) W).andThen _ = _
  simp only [Extern.Bytes.bytesOf, Sem.run_bind, Sem.run_pure, loadG W b1 o1 g h1, loadG W b2 o2 h h2, Result.andThen]
  rw [Lib.cmp_eq]
  rfl

theorem bytesCompare_any (W : World) (b1 o1 b2 o2 c1 c2 : Nat) (g h : Gd) (h1 : CellsG W b1 o1 g) (h2 : CellsG W b2 o2 h) :
    Calls Try.prog 35 #[.slice (some ⟨b1, o1, none⟩) 16 c1, .slice (some ⟨b2, o2, none⟩) 16 c2] W fun e w' => e = .returned (.int .i64 (Lib.compareBytes g.toList h.toList)) ∧ w' = W := by
  have hx := ext54 W b1 o1 b2 o2 c1 c2 g h h1 h2
  generalize Lib.compareBytes g.toList h.toList = c at hx ⊢
  clear h1 h2
  go_enter Try.func35, Try.ntmps35
  go_wp2
  go_ret
  exact ⟨rfl, rfl⟩

/-- cmp.Compare at uint64. -/
def cmpN (a b : UInt64) : Int := if a < b then -1 else if b < a then 1 else 0

theorem cmpN_any (a b : UInt64) (w : World) : Calls Try.prog 36 #[.int .u64 (a.toNat : Int), .int .u64 (b.toNat : Int)] w fun e w' => e = .returned (.int .i64 (cmpN a b)) ∧ w' = w := by
  unfold cmpN
  by_cases h1 : a < b
  · have h1' : a.toNat < b.toNat := UInt64.lt_iff_toNat_lt.1 h1
    rw [if_pos h1]
    clear h1
    go_enter Try.func36, Try.ntmps36
    go_wp2
    go_ret
    exact ⟨rfl, rfl⟩
  · have h1' : ¬ a.toNat < b.toNat := fun h => h1 (UInt64.lt_iff_toNat_lt.2 h)
    by_cases h2 : b < a
    · have h2' : b.toNat < a.toNat := UInt64.lt_iff_toNat_lt.1 h2
      rw [if_neg h1, if_pos h2]
      clear h1 h2
      go_enter Try.func36, Try.ntmps36
      go_wp2
      go_ret
      exact ⟨rfl, rfl⟩
    · have h2' : ¬ b.toNat < a.toNat := fun h => h2 (UInt64.lt_iff_toNat_lt.2 h)
      rw [if_neg h1, if_neg h2]
      clear h1 h2
      go_enter Try.func36, Try.ntmps36
      go_wp2
      go_ret
      exact ⟨rfl, rfl⟩

def cmpS (s t : Sn) : Int := if Lib.compareBytes s.1.toList t.1.toList = 0 then cmpN s.2 t.2 else Lib.compareBytes s.1.toList t.1.toList

theorem cellsG_of_block {W : World} {b o : Nat} {cs : Array Value} {t : TypeId} {fr : Nat × Nat} {g : Gd} (hb : W.heap[b]? = some (.cells cs t fr)) (h : ∀ j v, (encG g)[j]? = some v → cs[o + j]? = some v) : CellsG W b o g := fun i hi => by
  rw [cell_of_row _ _ _ cs t fr hb]
  exact h i _ (encG_get g i hi)

set_option maxHeartbeats 400000 in
theorem compare_any (s t : Sn) (w : World) :
    Calls Try.prog 21 #[.agg (encS s).toArray, .agg (encS t).toArray] w fun e w' => e = .returned (.int .i64 (cmpS s t)) ∧ Gr w w' := by
  obtain ⟨k16, k17, k18, ⟨z22, z24, z27, z30, z53, z40, z62, n16, n17, n18⟩, HK⟩ := sz_ex
  clear z22 z62 z30 z53 z40 n17 n18
  have c1 : CellsG ((w.alloc (.cells (encS s).toArray 27)).alloc (.cells (encS t).toArray 27)) w.heap.size 0 s.1 :=
    cellsG_of_block ((Below.heap_alloc _ _ _ (by simp)).trans (heap_alloc_last w _)) (encS_sub s)
  have c2 : CellsG ((w.alloc (.cells (encS s).toArray 27)).alloc (.cells (encS t).toArray 27)) (w.heap.size + 1) 0 t.1 :=
    cellsG_of_block (heap_alloc_at _ _ _ (by simp)) (encS_sub t)
  have C : Hid (CellsG ((w.alloc (.cells (encS s).toArray 27)).alloc (.cells (encS t).toArray 27)) w.heap.size 0 s.1 ∧ CellsG ((w.alloc (.cells (encS s).toArray 27)).alloc (.cells (encS t).toArray 27)) (w.heap.size + 1) 0 t.1) := ⟨c1, c2⟩
  clear c1 c2
  have e1 := encS_16 s
  have e2 := encS_16 t
  unfold cmpS
  have HC : ∀ n, Calls Try.prog 35 #[.slice (some ⟨w.heap.size, 0, none⟩) 16 16, .slice (some ⟨w.heap.size + 1, 0, none⟩) 16 16] ((((w.alloc (.cells (encS s).toArray 27)).alloc (.cells (encS t).toArray 27))).drewN n) fun e w' => e = .returned (.int .i64 (Lib.compareBytes s.1.toList t.1.toList)) ∧ w' = (((w.alloc (.cells (encS s).toArray 27)).alloc (.cells (encS t).toArray 27))).drewN n :=
    fun n => bytesCompare_any _ _ _ _ _ _ _ _ _ C.out.1 C.out.2
  have HCC : Hid _ := HC
  clear HC
  generalize Lib.compareBytes s.1.toList t.1.toList = c at HCC ⊢
  by_cases hc : c = 0
  · subst hc
    rw [if_pos rfl]
    go_enter Try.func21, Try.ntmps21
    go_wp2_with fail
    go_quiet ((go_at_call 35; exact Calls.quiet_of_same (HCC.out _)))
    go_wp2_with fail
    refine (cmpN_any _ _ _).mono ?_
    rintro e w' ⟨rfl, rfl⟩
    go_wp2
    go_ret
    exact ⟨rfl, (((Gr.refl w).alloc _).alloc _).drewN _⟩
  · rw [if_neg hc]
    have hc' : (c != 0) = true := by simpa using hc
    go_enter Try.func21, Try.ntmps21
    go_wp2_with fail
    go_quiet ((go_at_call 35; exact Calls.quiet_of_same (HCC.out _)))
    go_wp2
    go_ret
    exact ⟨rfl, (((Gr.refl w).alloc _).alloc _).drewN _⟩
end Go.Proofs.Qxb6615018a
