/-
  DERIVED. container/heap over the cursors: Fix and Push.
-/
import Derived.Test.Qxb6615634aFix
import Derived.OwnWalk
import Derived.ArgAppend
import Derived.Deep.DeepAppendRoom
import Derived.Lib.AppendZeros
namespace Go.Proofs.Qxb6615634a
open Go.RowKit Go.Sort

theorem Try.info76 : (Try.prog.info? 76).map (fun i => (i.zero, i.size, i.bytes)) = some (some (.pointer none), 1, 8) := by kernel_rfl

set_option maxRecDepth 100000 in
/-- Fix. -/
theorem fix_any (B lb : Nat) (v pm am : Value) (S : List Cu) (i : Nat) (w : World) (hl : w.heap[lb]? = some (.cells #[pm, v, am] 73 (0, 0))) (h : HeapAt w B v S) (hi : i < S.length) (hL : S.length ≤ 1000000) :
    Calls Try.prog 32 #[.iface 79 (.pointer (some ⟨lb, 1, none⟩)), .int .i64 i] w fun e w' => e = .returned (.tuple #[]) ∧ ∃ S'', St w B lb v pm am S S'' w' := by
  have hS := St.start hl h
  obtain ⟨_, _, mN⟩ := hS.meth
  obtain ⟨a, c, rfl⟩ := own_form h.row
  have HS : Hid (St w B lb (.slice a S.length c) pm am S S w) := hS
  clear hS h hl
  go_enter Try.func32, Try.ntmps32
  go_wp2_with fail
  refine (len_any a S.length c w).mono ?_
  rintro e w1 ⟨rfl, rfl⟩
  clear mN
  go_wp2_with fail
  refine (down_any B lb _ pm am S S i w1 w1 HS.out hi hL).mono ?_
  rintro e w2 ⟨⟨b, rfl⟩, S2, hS2⟩
  have HS2 : Hid (St w1 B lb (.slice a S.length c) pm am S S2 w2) := hS2
  clear hS2
  cases b with
  | true =>
    go_wp2
    go_end0
    exact ⟨rfl, S2, HS2.out⟩
  | false =>
    go_wp2_with fail
    refine (HS2.out.up i hi hL).mono ?_
    rintro e w3 ⟨rfl, S3, hS3⟩
    go_wp2
    go_end0
    exact ⟨rfl, S3, hS3⟩

/-- A method of the variable's address. -/
theorem meth_ptr (name : String) (f : FuncId) (hm : (Try.prog.info? 79).map (fun i => (i.methods.find? (·.name == name)).map (fun m => (m.path, m.func))) = some (some (#[], some (f, true)))) (w : World) (a : Addr) (n : Nat) :
    (method (n + 1) 79 (.pointer (some a)) name).run Try.prog w = .ok (f, .pointer (some a)) w := by
  obtain ⟨i, hi⟩ : ∃ i, Try.prog.info? 79 = some i := by
    cases h : Try.prog.info? 79 with
    | none => rw [h] at hm; cases hm
    | some i => exact ⟨i, rfl⟩
  rw [hi] at hm
  obtain ⟨m, hm1⟩ : ∃ m, i.methods.find? (·.name == name) = some m := by
    cases h : i.methods.find? (·.name == name) with
    | none => simp [h] at hm
    | some m => exact ⟨m, rfl⟩
  simp only [Option.map_some, hm1, Option.some.injEq, Prod.mk.injEq] at hm
  have ht : (typeInfo 79).run Try.prog w = .ok i w := by simp [typeInfo, hi]
  unfold method
  simp only [Sem.run_bind, ht, Result.andThen_ok, hm1, hm.1, hm.2, follow, Sem.run_pure]
  simp [receiverAt, run_underlying Try.underlying79, Place.get]

/-- One more onto the row: in its own block, or in a new one. -/
theorem append_cur (B n : Nat) (v : Value) (xs : List Value) (W : World) (ho : W.ownsRow B 76 1 v n xs) (ad : Addr) (x : Value) (hx : W.cell? ad = some x) (h1 : x.oneCell' = true) (hB : B ≤ W.heap.size) (hL : n ≤ 1000000) :
    ∃ v' w', (∀ ty, (Builtin.append_ #[70, 70] ty #[v, .slice (some ad) 1 1]).run Try.prog W = .ok v' w') ∧ w'.ownsRow B 76 1 v' (n + 1) (xs ++ [x]) ∧ W.grownBy w' v.ownBlock ∧ ∀ b, v'.ownBlock = some b → v.ownBlock = some b ∨ W.heap.size ≤ b := by
  obtain ⟨i0, hinf, hz0, hz1, hz2⟩ := info_parts Try.info76
  have hnews : ∀ j u, ([x] : List Value)[j]? = some u → W.cell? (ad.add j) = some u := fun j u hj => by
    match j, hj with
    | 0, hj => simp at hj; subst hj; simpa [Addr.add] using hx
  have h1c : ∀ u ∈ [x], u.oneCell' = true := fun u hu => by simp at hu; subst hu; exact h1
  have newrow : ∀ v' w', w'.ownsRow W.heap.size 76 1 v' (n + 1) (xs ++ [x]) → W.grownBy w' none → w'.ownsRow B 76 1 v' (n + 1) (xs ++ [x]) ∧ W.grownBy w' v.ownBlock ∧ ∀ b, v'.ownBlock = some b → v.ownBlock = some b ∨ W.heap.size ≤ b := fun v' w' h2 h3 => by
    refine ⟨?_, ⟨h3.os, h3.tape, h3.output, h3.size, fun k hk _ => h3.block k hk (by simp)⟩, fun b hb => .inr (h2.lt b hb).1⟩
    refine ⟨h2.1, ?_⟩
    rcases h2.2 with h | ⟨g, cap, cur, rfl, h5, h6⟩
    · exact .inl h
    · exact .inr ⟨g, cap, cur, rfl, by omega, h6⟩
  have key : ∀ ty, ∃ v' w', (Builtin.append_ #[70, 70] ty #[v, .slice (some ad) 1 1]).run Try.prog W = .ok v' w' ∧ w'.ownsRow B 76 1 v' (n + 1) (xs ++ [x]) ∧ W.grownBy w' v.ownBlock ∧ ∀ b, v'.ownBlock = some b → v.ownBlock = some b ∨ W.heap.size ≤ b := fun ty => by
    rcases ho.2 with ⟨rfl, rfl⟩ | ⟨g, cap, cur, rfl, _, hb, hle, _, _, ht⟩
    · have hxs : xs = [] := List.eq_nil_of_length_eq_zero (by simpa using ho.1)
      subst hxs
      obtain ⟨v', w', hrun, r1, r2, _⟩ := run_append_own (P := Try.prog) W W.heap.size 70 ty 76 i0 _ 1 8 Try.underlying70 hinf hz0 hz1 hz2 rfl (by decide) (.slice none 0 0) 0 [] (World.ownsRow_nil W _ 76 1) ad 1 1 [x] rfl hnews h1c (by unfold maxLen; omega) (by omega) (Nat.le_refl _)
      exact ⟨v', w', hrun, newrow v' w' r1 r2⟩
    · by_cases hroom : n + 1 ≤ cap
      · obtain ⟨w', hrun, r1, r2⟩ := run_append_own_spare (P := Try.prog) W B 70 ty 76 i0 1 Try.underlying70 hinf hz1 g n cap xs ho ad 1 1 [x] rfl hnews h1c hroom
        exact ⟨_, w', hrun, r1, r2, fun b hb => .inl hb⟩
      · have hxl : xs.length = n * 1 := ho.1
        obtain ⟨v', w', hrun, r1, r2⟩ := run_append_arg_grows (P := Try.prog) W 70 ty 76 i0 _ 1 8 Try.underlying70 hinf hz0 hz1 hz2 rfl (by decide) ⟨g, 0, none⟩ n cap xs hxl (fun j u hj => by
          have hadd : (⟨g, 0, none⟩ : Addr).add j = ⟨g, 0 + j, none⟩ := by unfold Addr.add; split <;> simp_all
          rw [hadd, Nat.zero_add, ho.cellAt j (by have := (List.getElem?_eq_some_iff.1 hj).1; omega)]
          exact hj) ad 1 1 [x] rfl hnews (by omega) (by unfold maxLen; omega) (by omega)
        exact ⟨v', w', hrun, newrow v' w' r1 r2⟩
  obtain ⟨v', w', h1', h2', h3', h4'⟩ := key 0
  exact ⟨v', w', fun ty => h1', h2', h3', h4'⟩

theorem assert76 (v : Value) (w : World) : (Instr.typeAssert (.iface 76 v) 20 76 false).run Try.prog w = .ok v w := by
  simp [Instr.typeAssert, run_underlying Try.underlying76]

theorem cells_ty {w : World} {b : Nat} {F G : Array Value} {t u : TypeId} (h : w.heap[b]? = some (.cells F t (0, 0))) (k : w.heap[b]? = some (.cells G u (0, 0))) : t = u := by
  rw [h] at k
  simp only [Option.some.injEq, Obj.cells.injEq] at k
  exact k.2.1

set_option maxHeartbeats 1000000 in
/-- What (*cursors).Push leaves in memory. -/
theorem cpush_mem (B lb : Nat) (pm am : Value) (S : List Cu) (c : Cu) (a : Option Addr) (cp : Nat) (w W1 Wc w' : World) (v' : Value) (hn : c.p ∉ S.map Cu.p) (hlp : lb ≠ c.p) (h1 : HeapAt W1 B (.slice a S.length cp) S) (hl1 : W1.heap[lb]? = some (.cells #[pm, .slice a S.length cp, am] 73 (0, 0))) (hc1 : W1.heap[c.p]? = some (.cells (encC c S.length).toArray 75 (0, 0))) (hsz : W1.heap.size = w.heap.size) (hW1 : W1 = w.setCell ⟨c.p, 33, none⟩ (.int .i64 (S.length : Int)))
    (hbel : Below W1.heap.size W1 Wc) (ho' : w'.ownsRow B 76 1 v' (S.length + 1) (S.map ptrC ++ [ptrC c])) (hg' : Wc.grownBy w' (Value.slice a S.length cp).ownBlock) (hob : ∀ b, v'.ownBlock = some b → (Value.slice a S.length cp).ownBlock = some b ∨ Wc.heap.size ≤ b) :
    w'.cell? ⟨lb, 1, none⟩ = some (.slice a S.length cp) ∧ w'.frozen? ⟨lb, 1, none⟩ = false ∧ ∃ v'', (w'.setCell ⟨lb, 1, none⟩ v').heap[lb]? = some (.cells #[pm, v'', am] 73 (0, 0)) ∧ HeapAt (w'.setCell ⟨lb, 1, none⟩ v') B v'' (S ++ [c]) ∧ Only (fun b => b = lb ∨ Own (.slice a S.length cp) (S ++ [c]) b) w (w'.setCell ⟨lb, 1, none⟩ v') ∧ ∀ b, v''.ownBlock = some b → (Value.slice a S.length cp).ownBlock = some b ∨ w.heap.size ≤ b := by
  have hlo : ∀ g, (Value.slice a S.length cp).ownBlock = some g → g ≠ lb ∧ g ≠ c.p := fun g hg => by
    rcases h1.row.2 with ⟨e, _⟩ | ⟨g', cap, cur, e, _, h2, _⟩
    · rw [e] at hg; cases hg
    · rw [e] at hg; cases hg
      refine ⟨fun e' => ?_, fun e' => ?_⟩
      · have e2 : g' = lb := e'
        rw [e2] at h2
        exact absurd (cells_ty hl1 h2) (by decide)
      · have e2 : g' = c.p := e'
        rw [e2] at h2
        exact absurd (cells_ty hc1 h2) (by decide)
  have hW' : ∀ b, b < w.heap.size → (Value.slice a S.length cp).ownBlock ≠ some b → w'.heap[b]? = W1.heap[b]? := fun b hb hne => by
    rw [hg'.block b (by have := hbel.size; omega) (fun e => hne e.symm)]
    exact hbel.block b (by omega)
  have hlbs : lb < w.heap.size := by have := (Array.getElem?_eq_some_iff.1 hl1).1; omega
  have hcps : c.p < w.heap.size := by have := (Array.getElem?_eq_some_iff.1 hc1).1; omega
  have hl' : w'.heap[lb]? = some (.cells #[pm, .slice a S.length cp, am] 73 (0, 0)) := by rw [hW' lb hlbs (fun e => (hlo lb e).1 rfl)]; exact hl1
  obtain ⟨k1, k2⟩ := cell_of hl' (show (#[pm, .slice a S.length cp, am] : Array Value)[1]? = some (.slice a S.length cp) from rfl)
  refine ⟨k1, k2, ?_⟩
  · refine ⟨v', by rw [heap_setCell w' lb 1 73 _ _ hl']; rfl, ⟨?_, fun k hk => ?_, ?_⟩, ?_, fun b hb => ?_⟩
    · rw [List.map_append, List.length_append]
      refine ownsRow_block ho' (fun g hg => heap_setCell_other _ _ _ _ _ (fun e => ?_))
      rcases hob g hg with h | h
      · exact (hlo g h).1 e
      · have := hbel.size; omega
    · rw [List.length_append] at hk
      have hk' : k < S.length + 1 := hk
      have hmem : (S ++ [c])[k].p < w.heap.size ∧ (S ++ [c])[k].p ≠ lb ∧ (Value.slice a S.length cp).ownBlock ≠ some (S ++ [c])[k].p ∧ W1.heap[(S ++ [c])[k].p]? = some (.cells (encC (S ++ [c])[k] k).toArray 75 (0, 0)) := by
        by_cases e : k < S.length
        · rw [List.getElem_append_left e]
          have hcu := h1.cur k e
          refine ⟨by have := (Array.getElem?_eq_some_iff.1 hcu).1; omega, fun e' => ?_, fun e' => ?_, hcu⟩
          · rw [e'] at hcu
            exact absurd (cells_ty hl1 hcu) (by decide)
          · rcases h1.row.2 with ⟨e2, _⟩ | ⟨g', cap, cur, e2, _, h2, _⟩
            · rw [e2] at e'; cases e'
            · rw [e2] at e'
              simp only [Value.ownBlock, Option.some.injEq] at e'
              rw [← e'] at hcu
              exact absurd (cells_ty h2 hcu) (by decide)
        · have ek : k = S.length := by omega
          subst ek
          rw [List.getElem_append_right (by omega)]
          simp only [Nat.sub_self, List.getElem_cons_zero]
          exact ⟨hcps, Ne.symm hlp, fun e' => (hlo _ e').2 rfl, hc1⟩
      rw [heap_setCell_other _ _ _ _ _ hmem.2.1, hW' _ hmem.1 hmem.2.2.1]
      exact hmem.2.2.2
    · rw [List.map_append, List.nodup_append]
      refine ⟨h1.nd, by simp, fun x hx y hy e => ?_⟩
      simp at hy
      subst e; subst hy
      exact hn hx
    · have o1 := only_setCell (fun b => b = lb ∨ Own (.slice a S.length cp) (S ++ [c]) b) w c.p 33 (.int .i64 (S.length : Int)) (.inr (.inr (by simp)))
      rw [← hW1] at o1
      have o2 : Only (fun b => b = lb ∨ Own (.slice a S.length cp) (S ++ [c]) b) W1 Wc := Only.below hbel
      have o3 : Only (fun b => b = lb ∨ Own (.slice a S.length cp) (S ++ [c]) b) Wc w' := Only.grown hg' (fun b hb => .inr (.inl hb))
      have o4 := only_setCell (fun b => b = lb ∨ Own (.slice a S.length cp) (S ++ [c]) b) w' lb 1 v' (.inl rfl)
      exact ((o1.trans o2).trans o3).trans o4
    · rcases hob b hb with h | h
      · exact .inl h
      · have := hbel.size; exact .inr (by omega)

set_option maxRecDepth 100000 in
set_option maxHeartbeats 1000000 in
/-- (*cursors).Push. -/
theorem cpush_any (B lb : Nat) (v pm am : Value) (S : List Cu) (c : Cu) (w : World) (hl : w.heap[lb]? = some (.cells #[pm, v, am] 73 (0, 0))) (h : HeapAt w B v S) (hc : w.heap[c.p]? = some (.cells (encC c 0).toArray 75 (0, 0))) (hn : c.p ∉ S.map Cu.p) (hB : B ≤ w.heap.size) (hL : S.length ≤ 1000000) :
    Calls Try.prog 64 #[.pointer (some ⟨lb, 1, none⟩), .iface 76 (.pointer (some ⟨c.p, 0, none⟩))] w fun e w' => e = .returned (.tuple #[]) ∧ ∃ v', w'.heap[lb]? = some (.cells #[pm, v', am] 73 (0, 0)) ∧ HeapAt w' B v' (S ++ [c]) ∧ Only (fun b => b = lb ∨ Own v (S ++ [c]) b) w w' ∧ ∀ b, v'.ownBlock = some b → v.ownBlock = some b ∨ w.heap.size ≤ b := by
  obtain ⟨i0, hinf, hz0, hz1, hz2⟩ := info_parts Try.info76
  have hlc : w.cell? ⟨lb, 1, none⟩ = some v := by simp [World.cell?, hl]
  obtain ⟨c33, f33⟩ := cell_of hc (show (encC c 0).toArray[33]? = _ by rw [List.getElem?_toArray]; exact encC_33 c 0)
  have hlp : lb ≠ c.p := fun e => by
    rw [e, hc] at hl
    simp only [Option.some.injEq, Obj.cells.injEq] at hl
    exact absurd hl.2.1 (by decide)
  obtain ⟨a, cp, rfl⟩ := own_form h.row
  obtain ⟨W1, hW1⟩ : ∃ W1, W1 = w.setCell ⟨c.p, 33, none⟩ (.int .i64 (S.length : Int)) := ⟨_, rfl⟩
  have hc1 : W1.heap[c.p]? = some (.cells (encC c S.length).toArray 75 (0, 0)) := by rw [hW1, heap_setCell w c.p 33 75 _ _ hc, List.setIfInBounds_toArray, encC_set]
  have hk1 : ∀ b, b ≠ c.p → W1.heap[b]? = w.heap[b]? := fun b hb => by rw [hW1, heap_setCell_other _ _ _ _ _ hb]
  have hl1 : W1.heap[lb]? = some (.cells #[pm, .slice a S.length cp, am] 73 (0, 0)) := by rw [hk1 lb hlp]; exact hl
  have hlc1 : W1.cell? ⟨lb, 1, none⟩ = some (.slice a S.length cp) := by simp [World.cell?, hl1]
  have hs1 : W1.heap.size = w.heap.size := by rw [hW1]; simp [World.setCell]
  have h1 : HeapAt W1 B (.slice a S.length cp) S := h.kept (fun b hb => hk1 b (fun e => by
    subst e
    rcases hb with hb | hb
    · rcases h.row.2 with ⟨e, _⟩ | ⟨g, cap, cur, e, _, h2, _⟩
      · rw [e] at hb; cases hb
      · rw [e] at hb; cases hb; rw [hc] at h2; cases h2
    · exact hn hb))
  have H1 : Hid (HeapAt W1 B (.slice a S.length cp) S ∧ W1.heap[lb]? = some (.cells #[pm, .slice a S.length cp, am] 73 (0, 0)) ∧ W1.heap[c.p]? = some (.cells (encC c S.length).toArray 75 (0, 0)) ∧ W1.heap.size = w.heap.size ∧ (∀ b, b ≠ c.p → W1.heap[b]? = w.heap[b]?) ∧ W1 = w.setCell ⟨c.p, 33, none⟩ (.int .i64 (S.length : Int))) := ⟨h1, hl1, hc1, hs1, hk1, hW1⟩
  have ta := assert76
  clear h h1 hl hl1 hc hc1 hk1 hs1
  go_enter Try.func64, Try.ntmps64
  go_upto_region 2 with fail
  rw [← hW1]
  clear hW1 hlc c33 f33
  obtain ⟨Wc, hWc⟩ : ∃ Wc, Wc = W1.alloc (.cells #[.pointer (some ⟨c.p, 0, none⟩)] 76) := ⟨_, rfl⟩
  have hbel : Below W1.heap.size W1 Wc := by rw [hWc]; exact (Below.refl _ _).alloc (Nat.le_refl _) _
  have hnw : Wc.heap[W1.heap.size]? = some (.cells #[ptrC c] 76 (0, 0)) := by rw [hWc]; exact heap_alloc_last _ _
  obtain ⟨v', w', hrun, ho', hg', hob⟩ := append_cur B S.length (.slice a S.length cp) (S.map ptrC) Wc (ownsRow_block H1.out.1.row (fun g hg => hbel.block g (H1.out.1.row.lt g hg).2)) ⟨W1.heap.size, 0, none⟩ (ptrC c) (by simp [World.cell?, hnw]) rfl (by have := hbel.size; have := H1.out.2.2.2.1; omega) hL
  obtain ⟨a', c', rfl⟩ := own_form ho'
  have HRUN : Hid (∀ ty, (Builtin.append_ #[70, 70] ty #[.slice a S.length cp, .slice (some ⟨W1.heap.size, 0, none⟩) 1 1]).run Try.prog Wc = .ok (.slice a' (S.length + 1) c') w') := hrun
  obtain ⟨k1, k2, hfin⟩ := cpush_mem B lb pm am S c a cp w W1 Wc w' _ hn hlp H1.out.1 H1.out.2.1 H1.out.2.2.1 H1.out.2.2.2.1 H1.out.2.2.2.2.2 hbel ho' hg' hob
  have HFIN : Hid (∃ v'', (w'.setCell ⟨lb, 1, none⟩ (.slice a' (S.length + 1) c')).heap[lb]? = some (.cells #[pm, v'', am] 73 (0, 0)) ∧ HeapAt (w'.setCell ⟨lb, 1, none⟩ (.slice a' (S.length + 1) c')) B v'' (S ++ [c]) ∧ Only (fun b => b = lb ∨ Own (.slice a S.length cp) (S ++ [c]) b) w (w'.setCell ⟨lb, 1, none⟩ (.slice a' (S.length + 1) c')) ∧ ∀ b, v''.ownBlock = some b → (Value.slice a S.length cp).ownBlock = some b ∨ w.heap.size ≤ b) := hfin
  clear hrun ho' hg' hob hbel hnw hfin
  go_wp2_with (at_builtin; rw [← hWc]; refine Lib.wpList_append_run _ rfl (.tmp 17) (.tmp 19) 70 70 rfl _ _ rfl rfl _ _ (HRUN.out _) ?_)
  go_end0
  exact ⟨rfl, HFIN.out⟩
set_option maxRecDepth 100000 in
/-- Push. -/
theorem push_any (B lb : Nat) (v pm am : Value) (S : List Cu) (c : Cu) (w : World) (hl : w.heap[lb]? = some (.cells #[pm, v, am] 73 (0, 0))) (h : HeapAt w B v S) (hc : w.heap[c.p]? = some (.cells (encC c 0).toArray 75 (0, 0))) (hn : c.p ∉ S.map Cu.p) (hB : B ≤ w.heap.size) (hL : S.length < 1000000) :
    Calls Try.prog 33 #[.iface 79 (.pointer (some ⟨lb, 1, none⟩)), .iface 76 (.pointer (some ⟨c.p, 0, none⟩))] w fun e w' => e = .returned (.tuple #[]) ∧ ∃ v' S', S'.Perm (S ++ [c]) ∧ w'.heap[lb]? = some (.cells #[pm, v', am] 73 (0, 0)) ∧ HeapAt w' B v' S' ∧ Only (fun b => b = lb ∨ Own v (S ++ [c]) b) w w' ∧ ∀ b, v'.ownBlock = some b → v.ownBlock = some b ∨ w.heap.size ≤ b := by
  have CP : Hid (Calls Try.prog 64 #[.pointer (some ⟨lb, 1, none⟩), .iface 76 (.pointer (some ⟨c.p, 0, none⟩))] w fun e w' => e = .returned (.tuple #[]) ∧ ∃ v', w'.heap[lb]? = some (.cells #[pm, v', am] 73 (0, 0)) ∧ HeapAt w' B v' (S ++ [c]) ∧ Only (fun b => b = lb ∨ Own v (S ++ [c]) b) w w' ∧ ∀ b, v'.ownBlock = some b → v.ownBlock = some b ∨ w.heap.size ≤ b) := cpush_any B lb v pm am S c w hl h hc hn hB (by omega)
  have mP := meth_ptr "Push" 64 Try.mPush w ⟨lb, 1, none⟩ 213
  clear hl h hc hB
  go_enter Try.func33, Try.ntmps33
  go_wp2_with fail
  refine CP.out.mono ?_
  rintro e w2 ⟨rfl, v', h1, h2, h3, h4⟩
  have hS := St.start h1 h2
  obtain ⟨_, _, mN⟩ := hS.meth
  have hlen : (S ++ [c]).length = S.length + 1 := by simp
  obtain ⟨a, cp, rfl⟩ := own_form h2.row
  have H2 : Hid (St w2 B lb (.slice a (S ++ [c]).length cp) pm am (S ++ [c]) (S ++ [c]) w2 ∧ Only (fun b => b = lb ∨ Own v (S ++ [c]) b) w w2 ∧ ∀ b, (Value.slice a (S ++ [c]).length cp).ownBlock = some b → v.ownBlock = some b ∨ w.heap.size ≤ b) := ⟨hS, h3, h4⟩
  obtain ⟨n, hnn⟩ : ∃ n, n = (S ++ [c]).length := ⟨_, rfl⟩
  rw [← hnn] at mN
  have CN : Hid (Calls Try.prog 61 #[.slice a n cp] w2 fun e w' => e = .returned (.int .i64 n) ∧ w' = w2) := len_any a n cp w2
  have hw : IntKind.i64.wrap ((n : Int) - 1) = (S.length : Int) := by rw [IntKind.wrap_i64]; omega
  have HNN : Hid (n = (S ++ [c]).length) := hnn
  clear h1 h2 h3 h4 hS mP hlen hnn
  go_wp2_with fail
  refine CN.out.mono ?_
  rintro e w3 ⟨rfl, rfl⟩
  clear mN
  go_wp2_with fail
  refine (H2.out.1.up S.length (by simp) (by simp; omega)).mono ?_
  rintro e w4 ⟨rfl, S4, hS4⟩
  have HFIN : Hid (∃ v' S', S'.Perm (S ++ [c]) ∧ w4.heap[lb]? = some (.cells #[pm, v', am] 73 (0, 0)) ∧ HeapAt w4 B v' S' ∧ Only (fun b => b = lb ∨ Own v (S ++ [c]) b) w w4 ∧ ∀ b, v'.ownBlock = some b → v.ownBlock = some b ∨ w.heap.size ≤ b) := by
    refine ⟨_, S4, hS4.perm, hS4.var, hS4.heap, ?_, H2.out.2.2⟩
    have o1 := H2.out.2.1
    have o2 := hS4.only
    refine ⟨o2.os.trans o1.os, o2.tape.trans o1.tape, o2.output.trans o1.output, Nat.le_trans o1.size o2.size, fun b hb hnb => ?_⟩
    rw [o2.block b (Nat.lt_of_lt_of_le hb o1.size) (fun hh => ?_), o1.block b hb hnb]
    rcases hh with hh | hh
    · rcases H2.out.2.2 b hh with h | h
      · exact hnb (.inr (.inl h))
      · omega
    · exact hnb (.inr (.inr hh))
  clear hS4
  go_wp2
  go_end0
  exact ⟨rfl, HFIN.out⟩
end Go.Proofs.Qxb6615634a
