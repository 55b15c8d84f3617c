/-
  DERIVED. Small things that the law's second half wants.
-/
import Derived.Test.Qxb6615634aFour
import Derived.Shelf.SlSortCmp.QuietGrown
namespace Go.Proofs.Qxb6615634a
open Go.RowKit Go.Sort

set_option maxRecDepth 100000 in
set_option maxHeartbeats 1000000 in
theorem heapID_al (hb : Nat) (T : List (ByteArray × List (Id × UInt64))) (lo hi : Nat) (m : ByteArray) (s : List (Id × UInt64)) (hm : (m, s) ∈ T) (i : Nat) (hi' : i < s.length) (w : World) (h : HeldT w hb T lo hi) (hhi : hi ≤ w.heap.size) :
    Calls Try.prog 19 #[.pointer (some ⟨hb, 0, none⟩), .string m, .int .i64 i] w fun e w' => e = .returned (.agg (encI s[i].1).toArray) ∧ w' = w.alloc (.cells (encI s[i].1).toArray 27) := by
  obtain ⟨k32, k66, ⟨z22, z27, z38, z55, n32, n66⟩, HK⟩ := sz_ex
  clear z22 z38 z55 n66
  obtain ⟨Z, hZ, v27⟩ := zero27
  obtain ⟨w1, hw1⟩ : ∃ w1, w1 = w.alloc (.cells Z 27) := ⟨_, rfl⟩
  have hb1 : Below w.heap.size w w1 := by rw [hw1]; exact (Below.refl _ _).alloc (Nat.le_refl _) _
  have h1 : HeldT w1 hb T lo hi := h.kept (fun b _ hb' => hb1.block b (by omega))
  obtain ⟨lm, L, y, hy, lk, hL, rfl⟩ := h1.at hm
  have hi2 : i < L.S.length := by simpa [ab] using hi'
  have c1 : w1.cell? ⟨hb, 1, none⟩ = some (.map (some lm)) := by simp [World.cell?, hy]
  have c2 : w1.cell? ⟨L.lb, 1, none⟩ = some L.v := by simp [World.cell?, hL.blk]
  obtain ⟨g, cap, F, hv, _, hg, q1, q2, q3, h4⟩ := hL.heap.form (by omega)
  have c3 : w1.cell? ⟨g, i, none⟩ = some (.pointer (some ⟨L.S[i].p, 0, none⟩)) := (cell_of hg (h4 i hi2)).1
  have ld : Sem.run Try.prog (loadCellsFrom ⟨L.S[i].p, 0, none⟩ 0 k32 #[]) w1 = .ok (encI L.S[i].id).toArray w1 := ld_block w1 L.S[i].p 0 _ 75 (0, 0) (encI L.S[i].id) k32 (hL.heap.cur i hi2) (by rw [encI_length, HK.out.1]) (encC_id L.S[i] i)
  rw [hv] at c2
  rw [ab_get L.S i hi2]
  have st : Sem.run Try.prog (storeCells ⟨w.heap.size, 0, none⟩ (encI L.S[i].id) 0) w1 = .ok () (w.alloc (.cells (encI L.S[i].id).toArray 27)) := by rw [hw1]; exact st_new w 27 Z _ (by rw [encI_length]; exact hZ.out) (encI_one _)
  have hln : (encI L.S[i].id).length = k32 := by rw [encI_length, HK.out.1]
  have ldr : Sem.run Try.prog (loadCellsFrom ⟨w.heap.size, 0, none⟩ 0 k32 #[]) (w.alloc (.cells (encI L.S[i].id).toArray 27)) = .ok (encI L.S[i].id).toArray (w.alloc (.cells (encI L.S[i].id).toArray 27)) := ld_block _ _ _ _ 27 (0, 0) _ _ (heap_alloc_last _ _) hln (by simp)
  have ib0 : (0 : Int) ≤ (i : Int) := by omega
  have ib : (i : Int) < (L.S.length : Int) := by omega
  generalize L.S[i] = c at c3 ld st hln ldr
  clear h h1 hy hm hL hv hg h4 hi' hb1
  go_enter Try.func19, Try.ntmps19
  go_upto_region 1 with fail
  rw [← hw1]
  clear hw1
  go_wp2
  refine bodyPost_ret (v := .agg (encI c.id).toArray) ?_ rfl ⟨rfl, rfl⟩
  exact results_cell_row Try.results19 _ _ w.heap.size 27 _ (0, 0) _ (by simp) (heap_alloc_last _ _) Try.underlying27 rfl (by rw [List.size_toArray, encI_length]; kernel_rfl)

theorem heapID_gr (hb : Nat) (T : List (ByteArray × List (Id × UInt64))) (lo hi : Nat) (m : ByteArray) (s : List (Id × UInt64)) (hm : (m, s) ∈ T) (i : Nat) (hi' : i < s.length) (w : World) (h : HeldT w hb T lo hi) (hhi : hi ≤ w.heap.size) :
    Calls Try.prog 19 #[.pointer (some ⟨hb, 0, none⟩), .string m, .int .i64 i] w fun e w' => e = .returned (.agg (encI s[i].1).toArray) ∧ ∃ q os', w' = grow (w.drewN q) os' :=
  (heapID_al hb T lo hi m s hm i hi' w h hhi).mono fun _ _ h => ⟨h.1, 0, #[.cells (encI s[i].1).toArray 27], by rw [h.2, alloc_eq_grow]; rfl⟩
theorem heapNumber_gr (hb : Nat) (T : List (ByteArray × List (Id × UInt64))) (lo hi : Nat) (m : ByteArray) (s : List (Id × UInt64)) (hm : (m, s) ∈ T) (i : Nat) (hi' : i < s.length) (w : World) (h : HeldT w hb T lo hi) :
    Calls Try.prog 20 #[.pointer (some ⟨hb, 0, none⟩), .string m, .int .i64 i] w fun e w' => e = .returned (.int .u64 (s[i].2.toNat : Int)) ∧ ∃ q os', w' = grow (w.drewN q) os' :=
  (heapNumber_any hb T lo hi m s hm i hi' w h).mono fun _ _ h => ⟨h.1, 0, #[], by rw [h.2, grow_empty]; rfl⟩
theorem grow_below (w : World) (n : Nat) (os : Array Obj) : Below w.heap.size w (grow (w.drewN n) os) :=
  ⟨rfl, rfl, rfl, by simp [grow], fun k hk => heap_grow_old _ os (by simpa using hk)⟩

theorem eqlI27 (g h : Id) (w : World) : (binOp .eql 27 (.agg (encI g).toArray) (.agg (encI h).toArray)).run Try.prog w = .ok (.bool (g == h)) w := by
  rw [run_eql_struct]
  rw [eqI 9998 27 Try.underlying27 g h w]
  rfl
theorem neqI27 (g : Id) (w : World) : (binOp .neq 27 (.agg (encI g).toArray) (.agg (encI g).toArray)).run Try.prog w = .ok (.bool false) w := by
  rw [run_neq_struct]
  rw [eqI 9998 27 Try.underlying27 g g w]
  simp

/-- Where each member's names start. -/
def startsOf (ms : Tb) (k : Nat) : Nat := ((ms.take k).flatMap Prod.snd).length
theorem startsOf_snoc (ms : Tb) (e : ByteArray × List (Id × UInt64)) (k : Nat) (hk : k ≤ ms.length) : startsOf (ms ++ [e]) k = startsOf ms k := by
  unfold startsOf
  rw [List.take_append_of_le_length hk]
theorem starts_list (ms : Tb) (e : ByteArray × List (Id × UInt64)) : (List.range (ms ++ [e]).length).map (startsOf (ms ++ [e])) = (List.range ms.length).map (startsOf ms) ++ [(ms.flatMap Prod.snd).length] := by
  rw [List.length_append, List.length_singleton, List.range_succ, List.map_append]
  congr 1
  · apply List.map_congr_left
    intro k hk
    exact startsOf_snoc ms e k (Nat.le_of_lt (List.mem_range.1 hk))
  · simp [startsOf]
theorem starts_all (ms : Tb) : (List.range ms.length).map (startsOf ms) ++ [(ms.flatMap Prod.snd).length] = (List.range (ms.length + 1)).map (startsOf ms) := by
  rw [List.range_succ, List.map_append]
  simp [startsOf]
theorem starts_at (ms : Tb) (k : Nat) (hk : k ≤ ms.length) : (((List.range ms.length).map (startsOf ms) ++ [(ms.flatMap Prod.snd).length]).map stV)[k]? = some (stV (startsOf ms k)) := by
  rw [starts_all, List.getElem?_map, List.getElem?_map, List.getElem?_range (by omega)]
  rfl
theorem startsOf_succ (ms : Tb) (k : Nat) (hk : k < ms.length) : startsOf ms (k + 1) = startsOf ms k + ms[k].2.length := by
  unfold startsOf
  rw [List.take_succ_eq_append_getElem hk, List.flatMap_append, List.length_append]
  simp
theorem startsOf_split (ms : Tb) (k : Nat) (hk : k < ms.length) : ms.flatMap Prod.snd = (ms.take k).flatMap Prod.snd ++ (ms[k].2 ++ (ms.drop (k + 1)).flatMap Prod.snd) := by
  have : ms = ms.take k ++ (ms[k] :: ms.drop (k + 1)) := by rw [← List.drop_eq_getElem_cons hk, List.take_append_drop]
  have h2 : ms.flatMap Prod.snd = (ms.take k ++ (ms[k] :: ms.drop (k + 1))).flatMap Prod.snd := by rw [← this]
  rw [h2, List.flatMap_append, List.flatMap_cons]
theorem startsOf_le (ms : Tb) (k : Nat) (hk : k < ms.length) : startsOf ms k + ms[k].2.length ≤ (ms.flatMap Prod.snd).length := by
  have := congrArg List.length (startsOf_split ms k hk)
  simp only [List.length_append] at this
  unfold startsOf
  omega
theorem starts_get (ms : Tb) (k : Nat) (hk : k < ms.length) (j : Nat) (hj : j < ms[k].2.length) : (ms.flatMap Prod.snd)[startsOf ms k + j]? = some ms[k].2[j] := by
  rw [startsOf_split ms k hk]
  unfold startsOf
  rw [List.getElem?_append_right (by omega), Nat.add_sub_cancel_left, List.getElem?_append_left hj]
  exact List.getElem?_eq_getElem hj

theorem own_at {w : World} {B e size n n' c : Nat} {a : Option Addr} {xs : List Value} (h : w.ownsRow B e size (.slice a n' c) n xs) (hn : 0 < n) : ∃ g, a = some ⟨g, 0, none⟩ := by
  rcases h.2 with ⟨_, h0⟩ | ⟨g, cap, cur, h1, _⟩
  · omega
  · injection h1 with h1 _ _
    exact ⟨g, h1⟩
theorem own_id {B : Nat} {w : World} {E : List (Id × UInt64)} {g c : Nat} (h : w.ownsRow B 27 32 (.slice (some ⟨g, 0, none⟩) E.length c) E.length (flatI E)) : RdB (fun e : Id × UInt64 => encI e.1) 32 w.heap.size w (some ⟨g, 0, none⟩) E := fun i hi => by
  refine ⟨g, 0, rfl, (h.lt g rfl).2, fun j v hj => ?_⟩
  have hj32 : j < 32 := by have := (List.getElem?_eq_some_iff.1 hj).1; simpa [encI_length] using this
  rw [Nat.zero_add, h.cellAt (i * 32 + j) (by omega), flatI_get E i hi j hj32]
  exact hj
theorem own_load {B : Nat} {w : World} {E : List (Id × UInt64)} {g c : Nat} (h : w.ownsRow B 27 32 (.slice (some ⟨g, 0, none⟩) E.length c) E.length (flatI E)) (q : Nat) (e : Id × UInt64) (he : E[q]? = some e) (k32 : Nat) (hk : k32 = 32) :
    Sem.run Try.prog (loadCellsFrom ⟨g, q * k32, none⟩ 0 k32 #[]) w = .ok (encI e.1).toArray w := by
  obtain ⟨hq, rfl⟩ := List.getElem?_eq_some_iff.1 he
  have := (own_id h).ld (fun e => encI_length e.1) q hq k32 hk
  rwa [Nat.zero_add] at this
theorem own_num {B : Nat} {w : World} {E : List (Id × UInt64)} {g c : Nat} (h : w.ownsRow B 23 1 (.slice (some ⟨g, 0, none⟩) E.length c) E.length (E.map numV)) (q : Nat) (e : Id × UInt64) (he : E[q]? = some e) : w.cell? ⟨g, q, none⟩ = some (.int .u64 (e.2.toNat : Int)) := by
  obtain ⟨hq, rfl⟩ := List.getElem?_eq_some_iff.1 he
  rw [h.cellAt q (by omega), List.getElem?_map, List.getElem?_eq_getElem hq]
  rfl
end Go.Proofs.Qxb6615634a
