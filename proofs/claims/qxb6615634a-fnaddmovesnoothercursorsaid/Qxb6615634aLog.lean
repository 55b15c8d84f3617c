/-
  DERIVED. One member's log: its cursors, the two maps; what stand leaves.
-/
import Derived.Test.Qxb6615634aPush
namespace Go.Proofs.Qxb6615634a
open Go.RowKit Go.Sort

structure Sz (k32 k66 : Nat) : Prop where
  z22 : ∀ w, (Go.sizeOf 22).run Try.prog w = .ok k32 w
  z27 : ∀ w, (Go.sizeOf 27).run Try.prog w = .ok k32 w
  z38 : ∀ w, (Go.sizeOf 38).run Try.prog w = .ok k66 w
  z55 : ∀ w, (Go.sizeOf 55).run Try.prog w = .ok k66 w
  n32 : ¬ k32 = 0
  n66 : ¬ k66 = 0
theorem sz_ex : ∃ k32 k66, Sz k32 k66 ∧ Hid (k32 = 32 ∧ k66 = 66) :=
  ⟨32, 66, ⟨fun w => by simp [go_sem], fun w => by simp [go_sem], fun w => by simp [go_sem], fun w => by simp [go_sem], by decide, by decide⟩, rfl, rfl⟩

theorem ld_block (W : World) (b o : Nat) (cs : Array Value) (t : TypeId) (fr : Nat × Nat) (vs : List Value) (k : Nat) (hb : W.heap[b]? = some (.cells cs t fr)) (hk : vs.length = k) (hv : ∀ j v, vs[j]? = some v → cs[o + j]? = some v) :
    Sem.run Try.prog (loadCellsFrom ⟨b, o, none⟩ 0 k #[]) W = .ok vs.toArray W := by
  have := run_loadCells_list (P := Try.prog) W ⟨b, o, none⟩ vs (fun j v hj => by
    have hadd : (⟨b, o, none⟩ : Addr).add j = ⟨b, o + j, none⟩ := by unfold Addr.add; split <;> simp_all
    rw [hadd, cell_of_row _ _ _ cs t fr hb]
    exact hv j v hj)
  rw [hk] at this
  simpa [loadCells] using this

/-- One log's memory. -/
structure Lg where
  lb : Nat
  pm : Nat
  am : Nat
  v : Value
  S : List Cu

def Lg.foot (L : Lg) (b : Nat) : Prop := b = L.lb ∨ b = L.pm ∨ b = L.am ∨ Own L.v L.S b

def idp (c : Cu) : Id × Nat := (c.id, c.p)
def tru (e : Id × Nat) : Id × Value := (e.1, .bool true)
def ptr (e : Id × Nat) : Id × Value := (e.1, .pointer (some ⟨e.2, 0, none⟩))

structure LogAt (w : World) (L : Lg) : Prop where
  blk : w.heap[L.lb]? = some (.cells #[.map (some L.pm), L.v, .map (some L.am)] 73 (0, 0))
  heap : HeapAt w 0 L.v L.S
  maps : ∃ As : List (Id × Nat), (L.S.map idp).Perm As ∧ (As.map Prod.fst).Nodup ∧ MapI w L.pm (As.map tru) ∧ MapI w L.am (As.map ptr)
  ne : L.pm ≠ L.am

theorem LogAt.kept {w w' : World} {L : Lg} (h : LogAt w L) (hk : ∀ b, L.foot b → w'.heap[b]? = w.heap[b]?) : LogAt w' L := by
  obtain ⟨As, h1, h2, h3, h4⟩ := h.maps
  exact ⟨(hk _ (.inl rfl)).trans h.blk, h.heap.kept (fun b hb => hk b (.inr (.inr (.inr hb)))), ⟨As, h1, h2, h3.block (hk _ (.inr (.inl rfl))), h4.block (hk _ (.inr (.inr (.inl rfl))))⟩, h.ne⟩

theorem LogAt.lt {w : World} {L : Lg} (h : LogAt w L) : ∀ b, L.foot b → b < w.heap.size := fun b hb => by
  obtain ⟨As, _, _, h3, h4⟩ := h.maps
  rcases hb with rfl | rfl | rfl | hb | hb
  · exact (Array.getElem?_eq_some_iff.1 h.blk).1
  · exact h3.lt
  · exact h4.lt
  · exact (h.heap.row.lt b hb).2
  · obtain ⟨c, hc, rfl⟩ := List.mem_map.1 hb
    obtain ⟨k, hk, rfl⟩ := List.getElem_of_mem hc
    exact (Array.getElem?_eq_some_iff.1 (h.heap.cur k hk)).1

/-! ### Looking a name up -/

theorem first_none (f : Id × Nat → Id × Value) (hf : ∀ e, (f e).1 = e.1) (id : Id) : ∀ (As : List (Id × Nat)) (i : Nat), id ∉ As.map Prod.fst → firstI id (As.map f) i = none
  | [], _, _ => rfl
  | e :: As, i, h => by
    simp only [List.map_cons, List.mem_cons, not_or] at h
    simp only [List.map_cons, firstI, hf, if_neg h.1]
    exact first_none f hf id As (i + 1) h.2
theorem first_some (f : Id × Nat → Id × Value) (hf : ∀ e, (f e).1 = e.1) (id : Id) (p : Nat) : ∀ (As : List (Id × Nat)) (i : Nat), (As.map Prod.fst).Nodup → (id, p) ∈ As → ∃ j, firstI id (As.map f) i = some (j, (f (id, p)).2)
  | [], _, _, h => absurd h (by simp)
  | e :: As, i, hn, h => by
    simp only [List.map_cons, List.nodup_cons] at hn
    by_cases hc : id = e.1
    · have he : e = (id, p) := by
        rcases List.mem_cons.1 h with h | h
        · exact h.symm
        · exact absurd (hc ▸ List.mem_map.2 ⟨(id, p), h, rfl⟩) hn.1
      subst he
      exact ⟨i, by simp only [List.map_cons, firstI, hf, if_true]⟩
    · have h' : (id, p) ∈ As := by
        rcases List.mem_cons.1 h with h | h
        · exact absurd (by rw [← h]) hc
        · exact h
      obtain ⟨j, hj⟩ := first_some f hf id p As (i + 1) hn.2 h'
      exact ⟨j, by simp only [List.map_cons, firstI, hf, if_neg hc]; exact hj⟩

theorem zero76 (w : World) : (zeroValue 76).run Try.prog w = .ok (.pointer none) w := by simp [go_sem]
theorem zero4 (w : World) : (zeroValue 4).run Try.prog w = .ok (.bool false) w := by simp [go_sem]

/-- 'at[id]', 'passed[id]' where a cursor stands. -/
theorem LogAt.look_yes {w : World} {L : Lg} (h : LogAt w L) (c : Cu) (hc : c ∈ L.S) : (Instr.lookup 71 (.map (some L.am)) (.agg (encI c.id).toArray) false).run Try.prog w = .ok (ptrC c) w ∧ (Instr.lookup 68 (.map (some L.pm)) (.agg (encI c.id).toArray) false).run Try.prog w = .ok (.bool true) w := by
  obtain ⟨As, h1, h2, h3, h4⟩ := h.maps
  have hm : (c.id, c.p) ∈ As := h1.mem_iff.1 (List.mem_map.2 ⟨c, hc, rfl⟩)
  obtain ⟨j, hj⟩ := first_some ptr (fun _ => rfl) c.id c.p As 0 h2 hm
  obtain ⟨j', hj'⟩ := first_some tru (fun _ => rfl) c.id c.p As 0 h2 hm
  rw [look_I 71 27 76 Try.underlying71 Try.underlying27 (.pointer none) zero76 c.id h4, look_I 68 27 4 Try.underlying68 Try.underlying27 (.bool false) zero4 c.id h3, hj, hj']
  exact ⟨rfl, rfl⟩
theorem LogAt.look_no {w : World} {L : Lg} (h : LogAt w L) (id : Id) (hc : id ∉ L.S.map Cu.id) : (Instr.lookup 71 (.map (some L.am)) (.agg (encI id).toArray) false).run Try.prog w = .ok (.pointer none) w ∧ (Instr.lookup 68 (.map (some L.pm)) (.agg (encI id).toArray) false).run Try.prog w = .ok (.bool false) w := by
  obtain ⟨As, h1, h2, h3, h4⟩ := h.maps
  have hm : id ∉ As.map Prod.fst := fun hh => hc (by
    have := ((h1.map Prod.fst).mem_iff).2 hh
    simpa [idp, Function.comp_def] using this)
  rw [look_I 71 27 76 Try.underlying71 Try.underlying27 (.pointer none) zero76 id h4, look_I 68 27 4 Try.underlying68 Try.underlying27 (.bool false) zero4 id h3, first_none ptr (fun _ => rfl) id As 0 hm, first_none tru (fun _ => rfl) id As 0 hm]
  exact ⟨rfl, rfl⟩
end Go.Proofs.Qxb6615634a
