/-
  DERIVED. The law's readers of what is held.
-/
import Derived.Test.Qxb6615634aAdd
namespace Go.Proofs.Qxb6615634a
open Go.RowKit Go.Sort

theorem HeldT.at {w : World} {hb : Nat} {T : List (ByteArray × List (Id × UInt64))} {lo hi : Nat} (h : HeldT w hb T lo hi) {m : ByteArray} {s : List (Id × UInt64)} (hm : (m, s) ∈ T) :
    ∃ lm L y, (w.heap[hb]? = some (.cells #[y, .map (some lm)] 66 (0, 0))) ∧ ((Instr.lookup 64 (.map (some lm)) (.string m) false).run Try.prog w = .ok (.pointer (some ⟨L.lb, 0, none⟩)) w) ∧ LogAt w L ∧ ab L.S = s := by
  obtain ⟨lm, G, h1, rfl, _, _, _⟩ := h
  obtain ⟨⟨m', L⟩, hg, he⟩ := List.mem_map.1 hm
  simp only [Prod.mk.injEq] at he
  obtain ⟨rfl, rfl⟩ := he
  obtain ⟨y, hy⟩ := h1.blk
  exact ⟨lm, L, y, hy, (h1.look m').1 L hg, h1.logs _ hg, rfl⟩
theorem HeldT.at' {w : World} {hb : Nat} {T : List (ByteArray × List (Id × UInt64))} {lo hi : Nat} (h : HeldT w hb T lo hi) {m : ByteArray} {s : List (Id × UInt64)} (hm : (m, s) ∈ T) :
    ∃ lm L y, (w.heap[hb]? = some (.cells #[y, .map (some lm)] 66 (0, 0))) ∧ (∀ q, (Instr.lookup 64 (.map (some lm)) (.string m) false).run Try.prog (w.drewN q) = .ok (.pointer (some ⟨L.lb, 0, none⟩)) (w.drewN q)) ∧ LogAt w L ∧ ab L.S = s := by
  obtain ⟨lm, G, h1, rfl, _, _, _⟩ := h
  obtain ⟨⟨m', L⟩, hg, he⟩ := List.mem_map.1 hm
  simp only [Prod.mk.injEq] at he
  obtain ⟨rfl, rfl⟩ := he
  obtain ⟨y, hy⟩ := h1.blk
  have hk : ∀ q, HeldAt (w.drewN q) hb lm G := fun q => ⟨h1.blk, h1.map.block rfl, fun g hg => (h1.logs g hg).kept (fun _ _ => rfl), h1.nd, h1.dj, h1.far⟩
  exact ⟨lm, L, y, hy, fun q => ((hk q).look m').1 L hg, h1.logs _ hg, rfl⟩
theorem HeldT.nd {w : World} {hb : Nat} {T : List (ByteArray × List (Id × UInt64))} {lo hi : Nat} (h : HeldT w hb T lo hi) : (T.map Prod.fst).Nodup ∧ ∀ t ∈ T, (t.2.map Prod.fst).Nodup := by
  obtain ⟨lm, G, h1, rfl, _, _, _⟩ := h
  refine ⟨by have := h1.nd; simpa [Function.comp_def] using this, fun t ht => ?_⟩
  obtain ⟨g, hg, rfl⟩ := List.mem_map.1 ht
  rw [ab_ids]
  exact (h1.logs g hg).nd
theorem HeldT.drewN {w : World} {hb : Nat} {T : List (ByteArray × List (Id × UInt64))} {lo hi : Nat} (h : HeldT w hb T lo hi) (q : Nat) : HeldT (w.drewN q) hb T lo hi := h.kept (fun _ _ _ => rfl)
theorem ab_get (S : List Cu) (i : Nat) (hi : i < S.length) : (ab S)[i]'(by simpa [ab] using hi) = (S[i].id, S[i].num) := by simp [ab]
theorem ab_length (S : List Cu) : (ab S).length = S.length := by simp [ab]

set_option maxRecDepth 100000 in
/-- ZZhasLogs. -/
theorem hasLogs_true (hb : Nat) (T : List (ByteArray × List (Id × UInt64))) (lo hi : Nat) (m : ByteArray) (s : List (Id × UInt64)) (hm : (m, s) ∈ T) (w : World) (h : HeldT w hb T lo hi) :
    Calls Try.prog 17 #[.pointer (some ⟨hb, 0, none⟩), .string m] w fun e w' => e = .returned (.bool true) ∧ w' = w := by
  obtain ⟨lm, L, y, hy, lk, _, _⟩ := h.at hm
  have c1 : w.cell? ⟨hb, 1, none⟩ = some (.map (some lm)) := by simp [World.cell?, hy]
  clear h hy hm
  go_enter Try.func17, Try.ntmps17
  go_wp2
  go_ret
  exact ⟨rfl, rfl⟩

set_option maxRecDepth 100000 in
/-- ZZcursorCount. -/
theorem cursorCount_any (hb : Nat) (T : List (ByteArray × List (Id × UInt64))) (lo hi : Nat) (m : ByteArray) (s : List (Id × UInt64)) (hm : (m, s) ∈ T) (w : World) (h : HeldT w hb T lo hi) :
    Calls Try.prog 18 #[.pointer (some ⟨hb, 0, none⟩), .string m] w fun e w' => e = .returned (.int .i64 (s.length : Int)) ∧ w' = w := by
  obtain ⟨lm, L, y, hy, lk, hL, rfl⟩ := h.at hm
  have c1 : w.cell? ⟨hb, 1, none⟩ = some (.map (some lm)) := by simp [World.cell?, hy]
  have c2 : w.cell? ⟨L.lb, 1, none⟩ = some L.v := by simp [World.cell?, hL.blk]
  obtain ⟨a, c, hv⟩ := own_form hL.heap.row
  rw [hv] at c2
  rw [ab_length]
  clear h hy hm hL hv
  go_enter Try.func18, Try.ntmps18
  go_wp2
  go_ret
  exact ⟨rfl, rfl⟩

set_option maxRecDepth 100000 in
/-- ZZheapNumber. -/
theorem heapNumber_any (hb : Nat) (T : List (ByteArray × List (Id × UInt64))) (lo hi : Nat) (m : ByteArray) (s : List (Id × UInt64)) (hm : (m, s) ∈ T) (i : Nat) (hi' : i < s.length) (w : World) (h : HeldT w hb T lo hi) :
    Calls Try.prog 20 #[.pointer (some ⟨hb, 0, none⟩), .string m, .int .i64 i] w fun e w' => e = .returned (.int .u64 (s[i].2.toNat : Int)) ∧ w' = w := by
  obtain ⟨lm, L, y, hy, lk, hL, rfl⟩ := h.at hm
  have hi2 : i < L.S.length := by simpa [ab] using hi'
  have c1 : w.cell? ⟨hb, 1, none⟩ = some (.map (some lm)) := by simp [World.cell?, hy]
  have c2 : w.cell? ⟨L.lb, 1, none⟩ = some L.v := by simp [World.cell?, hL.blk]
  obtain ⟨g, cap, F, hv, _, hg, h1, h2, h3, h4⟩ := hL.heap.form (by omega)
  have c3 : w.cell? ⟨g, i, none⟩ = some (.pointer (some ⟨L.S[i].p, 0, none⟩)) := (cell_of hg (h4 i hi2)).1
  have c4 : w.cell? ⟨L.S[i].p, 32, none⟩ = some (.int .u64 (L.S[i].num.toNat : Int)) := (cell_of (hL.heap.cur i hi2) (by rw [List.getElem?_toArray]; exact encC_32 L.S[i] i)).1
  rw [hv] at c2
  rw [ab_get L.S i hi2]
  have ib0 : (0 : Int) ≤ (i : Int) := by omega
  have ib : (i : Int) < (L.S.length : Int) := by omega
  generalize L.S[i] = c at c3 c4
  clear h hy hm hL hv hg h4 hi'
  go_enter Try.func20, Try.ntmps20
  go_wp2
  go_ret
  exact ⟨rfl, rfl⟩

theorem zero27 : ∃ Z : Array Value, Hid (Z.size = 32) ∧ ∀ w, (zeroValue 27).run Try.prog w = .ok (.agg Z) w :=
  ⟨(List.replicate 32 (Value.int .u8 0)).toArray, by show _ = _; rfl, fun w => by simp [go_sem]⟩
theorem st_new (W : World) (t : TypeId) (Z : Array Value) (vs : List Value) (hs : Z.size = vs.length) (h1 : ∀ v ∈ vs, v.oneCell' = true) :
    Sem.run Try.prog (storeCells ⟨W.heap.size, 0, none⟩ vs 0) (W.alloc (.cells Z t)) = .ok () (W.alloc (.cells vs.toArray t)) := by
  have := run_storeCells_from (P := Try.prog) W.heap.size t vs 0 Z (W.alloc (.cells Z t)) (heap_alloc_last W _) (by omega) h1
  rw [this]
  simp only [List.take_zero, List.nil_append, World.setRow_alloc_new]
theorem encC_id (c : Cu) (k : Nat) (j : Nat) (v : Value) (hj : (encI c.id)[j]? = some v) : (encC c k).toArray[0 + j]? = some v := by
  rw [Nat.zero_add, List.getElem?_toArray, encC, List.getElem?_append_left (List.getElem?_eq_some_iff.1 hj).1]; exact hj
set_option maxRecDepth 100000 in
/-- ZZheapID. -/
theorem heapID_any (hb : Nat) (T : List (ByteArray × List (Id × UInt64))) (lo hi : Nat) (m : ByteArray) (s : List (Id × UInt64)) (hm : (m, s) ∈ T) (i : Nat) (hi' : i < s.length) (w : World) (h : HeldT w hb T lo hi) (hhi : hi ≤ w.heap.size) :
    Calls Try.prog 19 #[.pointer (some ⟨hb, 0, none⟩), .string m, .int .i64 i] w fun e w' => e = .returned (.agg (encI s[i].1).toArray) ∧ Below w.heap.size w w' := by
  obtain ⟨k32, k66, ⟨z22, z27, z38, z55, n32, n66⟩, HK⟩ := sz_ex
  clear z22 z38 z55 n66
  obtain ⟨Z, hZ, v27⟩ := zero27
  obtain ⟨w1, hw1⟩ : ∃ w1, w1 = w.alloc (.cells Z 27) := ⟨_, rfl⟩
  have hb1 : Below w.heap.size w w1 := by rw [hw1]; exact (Below.refl _ _).alloc (Nat.le_refl _) _
  have h1 : HeldT w1 hb T lo hi := h.kept (fun b _ hb' => hb1.block b (by omega))
  obtain ⟨lm, L, y, hy, lk, hL, rfl⟩ := h1.at hm
  have hi2 : i < L.S.length := by simpa [ab] using hi'
  have c1 : w1.cell? ⟨hb, 1, none⟩ = some (.map (some lm)) := by simp [World.cell?, hy]
  have c2 : w1.cell? ⟨L.lb, 1, none⟩ = some L.v := by simp [World.cell?, hL.blk]
  obtain ⟨g, cap, F, hv, _, hg, q1, q2, q3, h4⟩ := hL.heap.form (by omega)
  have c3 : w1.cell? ⟨g, i, none⟩ = some (.pointer (some ⟨L.S[i].p, 0, none⟩)) := (cell_of hg (h4 i hi2)).1
  have ld : Sem.run Try.prog (loadCellsFrom ⟨L.S[i].p, 0, none⟩ 0 k32 #[]) w1 = .ok (encI L.S[i].id).toArray w1 := ld_block w1 L.S[i].p 0 _ 75 (0, 0) (encI L.S[i].id) k32 (hL.heap.cur i hi2) (by rw [encI_length, HK.out.1]) (encC_id L.S[i] i)
  rw [hv] at c2
  rw [ab_get L.S i hi2]
  have st : Sem.run Try.prog (storeCells ⟨w.heap.size, 0, none⟩ (encI L.S[i].id) 0) w1 = .ok () (w.alloc (.cells (encI L.S[i].id).toArray 27)) := by rw [hw1]; exact st_new w 27 Z _ (by rw [encI_length]; exact hZ.out) (encI_one _)
  have hln : (encI L.S[i].id).length = k32 := by rw [encI_length, HK.out.1]
  have ldr : Sem.run Try.prog (loadCellsFrom ⟨w.heap.size, 0, none⟩ 0 k32 #[]) (w.alloc (.cells (encI L.S[i].id).toArray 27)) = .ok (encI L.S[i].id).toArray (w.alloc (.cells (encI L.S[i].id).toArray 27)) := ld_block _ _ _ _ 27 (0, 0) _ _ (heap_alloc_last _ _) hln (by simp)
  have ib0 : (0 : Int) ≤ (i : Int) := by omega
  have ib : (i : Int) < (L.S.length : Int) := by omega
  generalize L.S[i] = c at c3 ld st hln ldr
  clear h h1 hy hm hL hv hg h4 hi' hb1
  go_enter Try.func19, Try.ntmps19
  go_upto_region 1 with fail
  rw [← hw1]
  clear hw1
  go_wp2
  refine bodyPost_ret (v := .agg (encI c.id).toArray) ?_ rfl ⟨rfl, (Below.refl _ _).alloc (Nat.le_refl _) _⟩
  exact results_cell_row Try.results19 _ _ w.heap.size 27 _ (0, 0) _ (by simp) (heap_alloc_last _ _) Try.underlying27 rfl (by rw [List.size_toArray, encI_length]; kernel_rfl)

set_option maxRecDepth 100000 in
/-- ZZmemberCount. -/
theorem memberCount_any (hb : Nat) (T : List (ByteArray × List (Id × UInt64))) (lo hi : Nat) (w : World) (h : HeldT w hb T lo hi) :
    Calls Try.prog 21 #[.pointer (some ⟨hb, 0, none⟩)] w fun e w' => e = .returned (.int .i64 (T.length : Int)) ∧ w' = w := by
  obtain ⟨lm, G, h1, rfl, _, _, _⟩ := h
  obtain ⟨y, hy⟩ := h1.blk
  have c1 : w.cell? ⟨hb, 1, none⟩ = some (.map (some lm)) := by simp [World.cell?, hy]
  obtain ⟨es, c, hes, he⟩ := h1.map
  have hn : es.size = G.length := by
    have := congrArg List.length he
    simpa using this
  have ln : ∀ ty, (Builtin.len_ #[64] ty #[.map (some lm)]).run Try.prog w = .ok (goInt G.length) w := fun ty => by rw [← hn]; exact len_map 64 9 67 ty Try.underlying64 hes
  rw [List.length_map]
  clear h1 hy hes he hn
  go_enter Try.func21, Try.ntmps21
  go_wp2
  go_ret
  exact ⟨rfl, rfl⟩

set_option maxRecDepth 100000 in
/-- ZZpassedCount. -/
theorem passedCount_any (hb : Nat) (T : List (ByteArray × List (Id × UInt64))) (lo hi : Nat) (m : ByteArray) (s : List (Id × UInt64)) (hm : (m, s) ∈ T) (w : World) (h : HeldT w hb T lo hi) :
    Calls Try.prog 27 #[.pointer (some ⟨hb, 0, none⟩), .string m] w fun e w' => e = .returned (.int .i64 (s.length : Int)) ∧ w' = w := by
  obtain ⟨lm, L, y, hy, lk, hL, rfl⟩ := h.at hm
  have c1 : w.cell? ⟨hb, 1, none⟩ = some (.map (some lm)) := by simp [World.cell?, hy]
  have c2 : w.cell? ⟨L.lb, 0, none⟩ = some (.map (some L.pm)) := by simp [World.cell?, hL.blk]
  obtain ⟨As, p1, _, ⟨es, cl, hes, he⟩, _⟩ := hL.maps
  have hn : es.size = L.S.length := by
    have h1 := congrArg List.length he
    have h2 := p1.length_eq
    simp at h1 h2
    omega
  have ln : ∀ ty, (Builtin.len_ #[68] ty #[.map (some L.pm)]).run Try.prog w = .ok (goInt L.S.length) w := fun ty => by rw [← hn]; exact len_map 68 27 4 ty Try.underlying68 hes
  rw [ab_length]
  clear h hy hm hL p1 hes he hn
  go_enter Try.func27, Try.ntmps27
  go_wp2
  go_ret
  exact ⟨rfl, rfl⟩

set_option maxRecDepth 100000 in
set_option maxHeartbeats 1000000 in
/-- ZZhasCursorAt, ZZnumberAt, ZZpassed, of a name that is held. -/
theorem atAny (hb : Nat) (T : List (ByteArray × List (Id × UInt64))) (lo hi : Nat) (m : ByteArray) (s : List (Id × UInt64)) (hm : (m, s) ∈ T) (id : Id) (n : UInt64) (hid : (id, n) ∈ s) (w : World) (h : HeldT w hb T lo hi) (hhi : hi ≤ w.heap.size) :
    (Calls Try.prog 25 #[.pointer (some ⟨hb, 0, none⟩), .string m, .agg (encI id).toArray] w fun e w' => e = .returned (.bool true) ∧ Below w.heap.size w w') ∧
    (Calls Try.prog 26 #[.pointer (some ⟨hb, 0, none⟩), .string m, .agg (encI id).toArray] w fun e w' => e = .returned (.int .u64 (n.toNat : Int)) ∧ Below w.heap.size w w') ∧
    (Calls Try.prog 28 #[.pointer (some ⟨hb, 0, none⟩), .string m, .agg (encI id).toArray] w fun e w' => e = .returned (.bool true) ∧ Below w.heap.size w w') := by
  obtain ⟨k32, k66, ⟨z22, z27, z38, z55, n32, n66⟩, HK⟩ := sz_ex
  clear z22 z38 z55 n66
  have mixed : Try.prog.follows .mixedOrders = true := by kernel_rfl
  obtain ⟨w1, hw1⟩ : ∃ w1, w1 = w.alloc (.cells (encI id).toArray 27) := ⟨_, rfl⟩
  have hb1 : Below w.heap.size w w1 := by rw [hw1]; exact (Below.refl _ _).alloc (Nat.le_refl _) _
  have hbx : w1.heap[w.heap.size]? = some (.cells (encI id).toArray 27 (0, 0)) := by rw [hw1]; exact heap_alloc_last _ _
  have h1 : HeldT w1 hb T lo hi := h.kept (fun b _ hb' => hb1.block b (by omega))
  obtain ⟨lm, L, y, hy, lk, hL, rfl⟩ := h1.at' hm
  obtain ⟨c, hc, hce⟩ := List.mem_map.1 hid
  simp only [Prod.mk.injEq] at hce
  obtain ⟨rfl, rfl⟩ := hce
  obtain ⟨k, hk, rfl⟩ := List.getElem_of_mem hc
  have lA : ∀ q, Sem.run Try.prog (Instr.lookup 71 (.map (some L.am)) (.agg (encI L.S[k].id).toArray) false) (w1.drewN q) = .ok (.pointer (some ⟨L.S[k].p, 0, none⟩)) (w1.drewN q) := fun q => ((hL.kept (w' := w1.drewN q) (fun _ _ => rfl)).look_yes L.S[k] (List.getElem_mem hk)).1
  have lP : ∀ q, Sem.run Try.prog (Instr.lookup 68 (.map (some L.pm)) (.agg (encI L.S[k].id).toArray) false) (w1.drewN q) = .ok (.bool true) (w1.drewN q) := fun q => ((hL.kept (w' := w1.drewN q) (fun _ _ => rfl)).look_yes L.S[k] (List.getElem_mem hk)).2
  have c1 : w1.cell? ⟨hb, 1, none⟩ = some (.map (some lm)) := by simp [World.cell?, hy]
  have c2 : w1.cell? ⟨L.lb, 2, none⟩ = some (.map (some L.am)) := by simp [World.cell?, hL.blk]
  have c3 : w1.cell? ⟨L.lb, 0, none⟩ = some (.map (some L.pm)) := by simp [World.cell?, hL.blk]
  have c4 : w1.cell? ⟨L.S[k].p, 32, none⟩ = some (.int .u64 (L.S[k].num.toNat : Int)) := (cell_of (hL.heap.cur k hk) (by rw [List.getElem?_toArray]; exact encC_32 L.S[k] k)).1
  have ld : ∀ q, Sem.run Try.prog (loadCellsFrom ⟨w.heap.size, 0, none⟩ 0 k32 #[]) (w1.drewN q) = .ok (encI L.S[k].id).toArray (w1.drewN q) := fun q => ld_block (w1.drewN q) w.heap.size 0 _ 27 (0, 0) (encI L.S[k].id) k32 hbx (by rw [encI_length, HK.out.1]) (by simp)
  have HBL : Hid (∀ q, Below w.heap.size w (w1.drewN q)) := fun q => ⟨hb1.os, hb1.tape, hb1.output, hb1.size, hb1.block⟩
  generalize L.S[k] = c at lA lP c4 ld hw1
  clear h h1 hy hm hL hbx hb1 hid hc
  refine ⟨?_, ?_, ?_⟩
  · go_enter Try.func25, Try.ntmps25
    go_upto_region 1 with fail
    rw [← hw1]
    clear hw1
    go_quiet (fail)
    go_wp2
    go_ret
    exact ⟨rfl, HBL.out _⟩
  · go_enter Try.func26, Try.ntmps26
    go_upto_region 1 with fail
    rw [← hw1]
    clear hw1
    go_quiet (fail)
    go_wp2
    go_ret
    exact ⟨rfl, HBL.out _⟩
  · go_enter Try.func28, Try.ntmps28
    go_upto_region 1 with fail
    rw [← hw1]
    clear hw1
    go_quiet (fail)
    go_wp2
    go_ret
    exact ⟨rfl, HBL.out _⟩
end Go.Proofs.Qxb6615634a
