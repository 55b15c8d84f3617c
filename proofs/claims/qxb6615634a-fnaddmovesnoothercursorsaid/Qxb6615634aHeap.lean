/-
  DERIVED. The heap of cursors: Less, Swap, and container/heap over them: whatever they do, the cursors stay, each knowing its place.
-/
import Derived.Test.Qxb6615634aKit
namespace Go.Proofs.Qxb6615634a
open Go.RowKit Go.Sort

/-- A cursor: its name, its number, its block. -/
structure Cu where
  id : Id
  num : UInt64
  p : Nat

def encC (c : Cu) (k : Nat) : List Value := encI c.id ++ [.int .u64 (c.num.toNat : Int), .int .i64 (k : Int)]
theorem encC_length (c : Cu) (k : Nat) : (encC c k).length = 34 := by simp [encC, encI_length]
theorem encC_32 (c : Cu) (k : Nat) : (encC c k)[32]? = some (.int .u64 (c.num.toNat : Int)) := by
  rw [encC, List.getElem?_append_right (by rw [encI_length]; omega), encI_length]; rfl
theorem encC_33 (c : Cu) (k : Nat) : (encC c k)[33]? = some (.int .i64 (k : Int)) := by
  rw [encC, List.getElem?_append_right (by rw [encI_length]; omega), encI_length]; rfl
theorem encC_set (c : Cu) (k k' : Nat) : (encC c k).set 33 (.int .i64 (k' : Int)) = encC c k' := by
  simp [encC, encI_length]
theorem encC_num (c : Cu) (k : Nat) (n : UInt64) : (encC c k).set 32 (.int .u64 (n.toNat : Int)) = encC { c with num := n } k := by
  simp [encC, encI_length]

def ptrC (c : Cu) : Value := .pointer (some ⟨c.p, 0, none⟩)

/-- The row of cursors and the cursors themselves. -/
structure HeapAt (w : World) (B : Nat) (v : Value) (S : List Cu) : Prop where
  row : w.ownsRow B 76 1 v S.length (S.map ptrC)
  cur : ∀ k (h : k < S.length), w.heap[S[k].p]? = some (.cells (encC S[k] k).toArray 75 (0, 0))
  nd : (S.map Cu.p).Nodup

/-- The blocks that a heap's own work may turn. -/
def Own (v : Value) (S : List Cu) (b : Nat) : Prop := v.ownBlock = some b ∨ b ∈ S.map Cu.p

/-- Only blocks of Ch turn; new ones may come. -/
structure Only (Ch : Nat → Prop) (w w' : World) : Prop where
  os : w'.os = w.os
  tape : w'.tape = w.tape
  output : w'.output = w.output
  size : w.heap.size ≤ w'.heap.size
  block : ∀ b, b < w.heap.size → ¬ Ch b → w'.heap[b]? = w.heap[b]?

theorem Only.refl (Ch : Nat → Prop) (w : World) : Only Ch w w := ⟨rfl, rfl, rfl, Nat.le_refl _, fun _ _ _ => rfl⟩
theorem Only.trans {Ch : Nat → Prop} {a b c : World} (h : Only Ch a b) (k : Only Ch b c) : Only Ch a c :=
  ⟨k.os.trans h.os, k.tape.trans h.tape, k.output.trans h.output, Nat.le_trans h.size k.size, fun x hx hc => (k.block x (Nat.lt_of_lt_of_le hx h.size) hc).trans (h.block x hx hc)⟩
theorem Only.mono {Ch Ch' : Nat → Prop} {a b : World} (h : Only Ch a b) (hc : ∀ x, x < a.heap.size → Ch x → Ch' x) : Only Ch' a b :=
  ⟨h.os, h.tape, h.output, h.size, fun x hx hn => h.block x hx (fun hh => hn (hc x hx hh))⟩
theorem Only.below {Ch : Nat → Prop} {w w' : World} (h : Below w.heap.size w w') : Only Ch w w' := ⟨h.os, h.tape, h.output, h.size, fun b hb _ => h.block b hb⟩
theorem Only.grown {Ch : Nat → Prop} {w w' : World} {r : Option Nat} (h : w.grownBy w' r) (hr : ∀ b, r = some b → Ch b) : Only Ch w w' := ⟨h.os, h.tape, h.output, h.size, fun b hb hn => h.block b hb (fun e => hn (hr b e.symm))⟩
theorem Only.drewN {Ch : Nat → Prop} {w w' : World} (h : Only Ch w w') (n : Nat) : Only Ch w (w'.drewN n) := ⟨h.os, h.tape, h.output, h.size, h.block⟩

theorem ownsRow_block {w w' : World} {base : Nat} {e : TypeId} {size : Nat} {v : Value} {n : Nat} {xs : List Value} (h : w.ownsRow base e size v n xs) (hh : ∀ g, v.ownBlock = some g → w'.heap[g]? = w.heap[g]?) : w'.ownsRow base e size v n xs := by
  refine ⟨h.1, ?_⟩
  rcases h.2 with h1 | ⟨g, cap, cur, rfl, h2, h3, h4⟩
  · exact .inl h1
  · exact .inr ⟨g, cap, cur, rfl, h2, (hh g rfl).trans h3, h4⟩

theorem HeapAt.kept {w w' : World} {B : Nat} {v : Value} {S : List Cu} (h : HeapAt w B v S) (hk : ∀ b, Own v S b → w'.heap[b]? = w.heap[b]?) : HeapAt w' B v S :=
  ⟨ownsRow_block h.row (fun g hg => hk g (.inl hg)), fun k hl => (hk _ (.inr (List.mem_map.2 ⟨S[k], List.getElem_mem hl, rfl⟩))).trans (h.cur k hl), h.nd⟩

/-- The row's cells. -/
theorem HeapAt.form {w : World} {B : Nat} {v : Value} {S : List Cu} (h : HeapAt w B v S) (hn : 0 < S.length) : ∃ g cap F, v = .slice (some ⟨g, 0, none⟩) S.length cap ∧ B ≤ g ∧ w.heap[g]? = some (.cells F 76 (0, 0)) ∧ S.length ≤ cap ∧ cap ≤ maxLen ∧ F.size = cap ∧ ∀ k (hk : k < S.length), F[k]? = some (ptrC S[k]) := by
  rcases h.row.2 with ⟨_, h0⟩ | ⟨g, cap, cur, rfl, h1, h2, h3, h4, h5, h6⟩
  · omega
  · refine ⟨g, cap, cur, rfl, h1, h2, h3, h4, by omega, fun k hk => ?_⟩
    have e : (S.map ptrC)[k]? = some (ptrC S[k]) := by simp [hk]
    rw [← h6, List.getElem?_take_of_lt (by omega), Array.getElem?_toList] at e
    exact e

theorem own_form {w : World} {B : Nat} {e : TypeId} {size n : Nat} {v : Value} {xs : List Value} (h : w.ownsRow B e size v n xs) : ∃ a c, v = .slice a n c := by
  rcases h.2 with ⟨rfl, rfl⟩ | ⟨g, cap, cur, rfl, _⟩
  · exact ⟨none, 0, rfl⟩
  · exact ⟨_, _, rfl⟩

set_option maxRecDepth 100000 in
/-- Less. -/
theorem less_any (B : Nat) (v : Value) (S : List Cu) (i j : Nat) (w : World) (h : HeapAt w B v S) (hi : i < S.length) (hj : j < S.length) :
    Calls Try.prog 62 #[v, .int .i64 i, .int .i64 j] w fun e w' => ∃ b q, e = .returned (.bool b) ∧ w' = w.drewN q := by
  have mixed : Try.prog.follows .mixedOrders = true := by kernel_rfl
  obtain ⟨g, cap, F, rfl, hB, hg, h1, h2, h3, h4⟩ := h.form (by omega)
  have c1 : w.cell? ⟨g, i, none⟩ = some (.pointer (some ⟨S[i].p, 0, none⟩)) := by simpa [World.cell?, hg, ptrC] using h4 i hi
  have c2 : w.cell? ⟨g, j, none⟩ = some (.pointer (some ⟨S[j].p, 0, none⟩)) := by simpa [World.cell?, hg, ptrC] using h4 j hj
  have d1 : w.cell? ⟨S[i].p, 32, none⟩ = some (.int .u64 (S[i].num.toNat : Int)) := by simpa [World.cell?, h.cur i hi] using encC_32 S[i] i
  have d2 : w.cell? ⟨S[j].p, 32, none⟩ = some (.int .u64 (S[j].num.toNat : Int)) := by simpa [World.cell?, h.cur j hj] using encC_32 S[j] j
  have ib0 : (0 : Int) ≤ (i : Int) := by omega
  have ib : (i : Int) < (S.length : Int) := by omega
  have jb0 : (0 : Int) ≤ (j : Int) := by omega
  have jb : (j : Int) < (S.length : Int) := by omega
  generalize S[i] = ci at c1 d1
  generalize S[j] = cj at c2 d2
  clear h hg h4
  go_enter Try.func62, Try.ntmps62
  go_upto_region 1 with fail
  go_quiet (fail)
  go_wp2
  go_ret
  exact ⟨_, _, rfl, rfl⟩
theorem heap_setCell (X : World) (b k : Nat) (t : TypeId) (Z : Array Value) (v : Value) (hb : X.heap[b]? = some (.cells Z t (0, 0))) : (X.setCell ⟨b, k, none⟩ v).heap[b]? = some (.cells (Z.setIfInBounds k v) t (0, 0)) := by
  simp [World.setCell, Array.getElem?_modify, hb]
theorem heap_setCell_other (w : World) (P k x : Nat) (u : Value) (h : x ≠ P) : (w.setCell ⟨P, k, none⟩ u).heap[x]? = w.heap[x]? := by
  simp [World.setCell, Array.getElem?_modify, Ne.symm h]
theorem only_setCell (Ch : Nat → Prop) (w : World) (P k : Nat) (u : Value) (h : Ch P) : Only Ch w (w.setCell ⟨P, k, none⟩ u) :=
  ⟨rfl, rfl, rfl, by simp [World.setCell], fun b _ hb => heap_setCell_other w P k b u (fun e => hb (e ▸ h))⟩
theorem cell_of {w : World} {b k : Nat} {F : Array Value} {t : TypeId} {v : Value} (h : w.heap[b]? = some (.cells F t (0, 0))) (hv : F[k]? = some v) : w.cell? ⟨b, k, none⟩ = some v ∧ w.frozen? ⟨b, k, none⟩ = false :=
  ⟨by simpa [World.cell?, h] using hv, by simp [World.frozen?, h]⟩

/-- Two places exchanged. -/
def swp (S : List Cu) (i j : Nat) (hi : i < S.length) (hj : j < S.length) : List Cu := (S.set i S[j]).set j S[i]

set_option maxRecDepth 100000 in
set_option maxHeartbeats 1000000 in
/-- Swap. -/
theorem swap_any (B : Nat) (v : Value) (S : List Cu) (i j : Nat) (w : World) (h : HeapAt w B v S) (hi : i < S.length) (hj : j < S.length) (hne : i ≠ j) :
    Calls Try.prog 63 #[v, .int .i64 i, .int .i64 j] w fun e w' => e = .returned (.tuple #[]) ∧ HeapAt w' B v (swp S i j hi hj) ∧ Only (Own v S) w w' := by
  have mixed : Try.prog.follows .mixedOrders = true := by kernel_rfl
  obtain ⟨g, cap, F, rfl, hB, hg, h1, h2, h3, h4⟩ := h.form (by omega)
  obtain ⟨ci, hci⟩ : ∃ ci, ci = S[i] := ⟨_, rfl⟩
  obtain ⟨cj, hcj⟩ : ∃ cj, cj = S[j] := ⟨_, rfl⟩
  have hij : ci.p ≠ cj.p := fun e => by
    have := List.pairwise_iff_getElem.1 h.nd
    rcases Nat.lt_or_gt_of_ne hne with hlt | hlt
    · exact this i j (by simpa using hi) (by simpa using hj) hlt (by simpa [hci, hcj] using e)
    · exact this j i (by simpa using hj) (by simpa using hi) hlt (by simpa [hci, hcj] using e.symm)
  have hgci : ci.p ≠ g := fun e => by have := h.cur i hi; rw [← hci, e, hg] at this; cases this
  have hgcj : cj.p ≠ g := fun e => by have := h.cur j hj; rw [← hcj, e, hg] at this; cases this
  have hFi : F[i]? = some (ptrC ci) := by rw [hci]; exact h4 i hi
  have hFj : F[j]? = some (ptrC cj) := by rw [hcj]; exact h4 j hj
  obtain ⟨c1, f1⟩ := cell_of hg hFi
  obtain ⟨c2, f2⟩ := cell_of hg hFj
  obtain ⟨W1, hW1⟩ : ∃ W1, W1 = w.setCell ⟨g, i, none⟩ (ptrC cj) := ⟨_, rfl⟩
  have hg1 : W1.heap[g]? = some (.cells (F.setIfInBounds i (ptrC cj)) 76 (0, 0)) := by rw [hW1]; exact heap_setCell w g i 76 F _ hg
  obtain ⟨c3, f3⟩ := cell_of hg1 (show (F.setIfInBounds i (ptrC cj))[j]? = some (ptrC cj) by rw [Array.getElem?_setIfInBounds_ne hne]; exact hFj)
  obtain ⟨W2, hW2⟩ : ∃ W2, W2 = W1.setCell ⟨g, j, none⟩ (ptrC ci) := ⟨_, rfl⟩
  have hg2 : W2.heap[g]? = some (.cells ((F.setIfInBounds i (ptrC cj)).setIfInBounds j (ptrC ci)) 76 (0, 0)) := by rw [hW2]; exact heap_setCell W1 g j 76 _ _ hg1
  have hFi2 : ((F.setIfInBounds i (ptrC cj)).setIfInBounds j (ptrC ci))[i]? = some (ptrC cj) := by
    rw [Array.getElem?_setIfInBounds_ne (Ne.symm hne), Array.getElem?_setIfInBounds_self_of_lt (by omega)]
  have hFj2 : ((F.setIfInBounds i (ptrC cj)).setIfInBounds j (ptrC ci))[j]? = some (ptrC ci) := by
    rw [Array.getElem?_setIfInBounds_self_of_lt (by simp; omega)]
  obtain ⟨c4, _⟩ := cell_of hg2 hFi2
  obtain ⟨c5, _⟩ := cell_of hg2 hFj2
  have hk2 : ∀ b, b ≠ g → W2.heap[b]? = w.heap[b]? := fun b hb => by rw [hW2, heap_setCell_other _ _ _ _ _ hb, hW1, heap_setCell_other _ _ _ _ _ hb]
  have hi2 : W2.heap[ci.p]? = some (.cells (encC ci i).toArray 75 (0, 0)) := by rw [hk2 _ hgci, hci]; exact h.cur i hi
  have hj2 : W2.heap[cj.p]? = some (.cells (encC cj j).toArray 75 (0, 0)) := by rw [hk2 _ hgcj, hcj]; exact h.cur j hj
  obtain ⟨c6, f6⟩ := cell_of hj2 (show (encC cj j).toArray[33]? = _ by rw [List.getElem?_toArray]; exact encC_33 cj j)
  obtain ⟨W3, hW3⟩ : ∃ W3, W3 = W2.setCell ⟨cj.p, 33, none⟩ (.int .i64 (i : Int)) := ⟨_, rfl⟩
  have hj3 : W3.heap[cj.p]? = some (.cells (encC cj i).toArray 75 (0, 0)) := by
    rw [hW3, heap_setCell W2 cj.p 33 75 _ _ hj2, List.setIfInBounds_toArray, encC_set]
  have hi3 : W3.heap[ci.p]? = some (.cells (encC ci i).toArray 75 (0, 0)) := by rw [hW3, heap_setCell_other _ _ _ _ _ hij]; exact hi2
  obtain ⟨c7, f7⟩ := cell_of hi3 (show (encC ci i).toArray[33]? = _ by rw [List.getElem?_toArray]; exact encC_33 ci i)
  obtain ⟨W4, hW4⟩ : ∃ W4, W4 = W3.setCell ⟨ci.p, 33, none⟩ (.int .i64 (j : Int)) := ⟨_, rfl⟩
  have HFIN : Hid (∀ q, HeapAt (W4.drewN q) B (.slice (some ⟨g, 0, none⟩) S.length cap) (swp S i j hi hj) ∧ Only (Own (.slice (some ⟨g, 0, none⟩) S.length cap) S) w (W4.drewN q)) := fun q => by
    have hl : (swp S i j hi hj).length = S.length := by simp [swp]
    have hmi : ci.p ∈ S.map Cu.p := by rw [hci]; exact List.mem_map.2 ⟨_, List.getElem_mem hi, rfl⟩
    have hmj : cj.p ∈ S.map Cu.p := by rw [hcj]; exact List.mem_map.2 ⟨_, List.getElem_mem hj, rfl⟩
    have hget : ∀ k (hk : k < S.length) (hk' : k < (swp S i j hi hj).length), (swp S i j hi hj)[k] = if k = j then ci else if k = i then cj else S[k] := fun k hk hk' => by
      simp only [swp, List.getElem_set]
      by_cases e1 : j = k
      · subst e1; rw [if_pos rfl, if_pos rfl, hci]
      · rw [if_neg e1, if_neg (Ne.symm e1)]
        by_cases e2 : i = k
        · subst e2; rw [if_pos rfl, if_pos rfl, hcj]
        · rw [if_neg e2, if_neg (Ne.symm e2)]
    have hg4 : W4.heap[g]? = some (.cells ((F.setIfInBounds i (ptrC cj)).setIfInBounds j (ptrC ci)) 76 (0, 0)) := by
      rw [hW4, heap_setCell_other _ _ _ _ _ (Ne.symm hgci), hW3, heap_setCell_other _ _ _ _ _ (Ne.symm hgcj)]; exact hg2
    refine ⟨⟨?_, fun k hk => ?_, ?_⟩, ?_⟩
    · rw [hl]
      show W4.ownsRow _ _ _ _ _ _
      refine ⟨by simp [hl], .inr ⟨g, cap, _, rfl, hB, hg4, h1, h2, by simp; omega, ?_⟩⟩
      apply List.ext_getElem?
      intro k
      by_cases hk : k < S.length
      · rw [List.getElem?_take_of_lt (by omega), Array.getElem?_toList, List.getElem?_map, List.getElem?_eq_getElem (by omega), hget k hk (by omega), Option.map_some]
        by_cases e1 : k = j
        · subst e1; rw [if_pos rfl]; exact hFj2
        · rw [if_neg e1]
          by_cases e2 : k = i
          · subst e2; rw [if_pos rfl]; exact hFi2
          · rw [if_neg e2, Array.getElem?_setIfInBounds_ne (Ne.symm e1), Array.getElem?_setIfInBounds_ne (Ne.symm e2)]; exact h4 k hk
      · rw [List.getElem?_take_eq_none (by omega), List.getElem?_eq_none (by simp [hl]; omega)]
    · show W4.heap[_]? = _
      rw [hl] at hk
      rw [hget k hk (by omega)]
      by_cases e1 : k = j
      · subst e1; rw [if_pos rfl, hW4, heap_setCell W3 ci.p 33 75 _ _ hi3, List.setIfInBounds_toArray, encC_set]
      · rw [if_neg e1]
        by_cases e2 : k = i
        · subst e2; rw [if_pos rfl, hW4, heap_setCell_other _ _ _ _ _ (Ne.symm hij)]; exact hj3
        · rw [if_neg e2]
          have nd := List.pairwise_iff_getElem.1 h.nd
          have n1 : S[k].p ≠ ci.p := fun e => by
            rcases Nat.lt_or_gt_of_ne e2 with hlt | hlt
            · exact nd k i (by simpa using hk) (by simpa using hi) hlt (by simpa [hci] using e)
            · exact nd i k (by simpa using hi) (by simpa using hk) hlt (by simpa [hci] using e.symm)
          have n2 : S[k].p ≠ cj.p := fun e => by
            rcases Nat.lt_or_gt_of_ne e1 with hlt | hlt
            · exact nd k j (by simpa using hk) (by simpa using hj) hlt (by simpa [hcj] using e)
            · exact nd j k (by simpa using hj) (by simpa using hk) hlt (by simpa [hcj] using e.symm)
          have n3 : S[k].p ≠ g := fun e => by have := h.cur k hk; rw [e, hg] at this; cases this
          rw [hW4, heap_setCell_other _ _ _ _ _ n1, hW3, heap_setCell_other _ _ _ _ _ n2, hk2 _ n3]
          exact h.cur k hk
    · have hp : (swp S i j hi hj).Perm S := List.set_set_perm hi hj
      exact ((hp.map Cu.p).nodup_iff).2 h.nd
    · have o1 := only_setCell (Own (.slice (some ⟨g, 0, none⟩) S.length cap) S) w g i (ptrC cj) (.inl rfl)
      rw [← hW1] at o1
      have o2 := only_setCell (Own (.slice (some ⟨g, 0, none⟩) S.length cap) S) W1 g j (ptrC ci) (.inl rfl)
      rw [← hW2] at o2
      have o3 := only_setCell (Own (.slice (some ⟨g, 0, none⟩) S.length cap) S) W2 cj.p 33 (.int .i64 (i : Int)) (.inr hmj)
      rw [← hW3] at o3
      have o4 := only_setCell (Own (.slice (some ⟨g, 0, none⟩) S.length cap) S) W3 ci.p 33 (.int .i64 (j : Int)) (.inr hmi)
      rw [← hW4] at o4
      exact (((o1.trans o2).trans o3).trans o4).drewN q
  have ib0 : (0 : Int) ≤ (i : Int) := by omega
  have ib : (i : Int) < (S.length : Int) := by omega
  have jb0 : (0 : Int) ≤ (j : Int) := by omega
  have jb : (j : Int) < (S.length : Int) := by omega
  have hne' : ¬ (i = j) := hne
  rw [hW1] at c3 f3
  have c1' : w.drew.cell? ⟨g, i, none⟩ = some (.pointer (some ⟨ci.p, 0, none⟩)) := c1
  have f1' : w.drew.frozen? ⟨g, i, none⟩ = false := f1
  have c2' : w.drew.cell? ⟨g, j, none⟩ = some (.pointer (some ⟨cj.p, 0, none⟩)) := c2
  have c3' : (w.setCell ⟨g, i, none⟩ (.pointer (some ⟨cj.p, 0, none⟩))).drew.cell? ⟨g, j, none⟩ = some (.pointer (some ⟨cj.p, 0, none⟩)) := c3
  have f3' : (w.setCell ⟨g, i, none⟩ (.pointer (some ⟨cj.p, 0, none⟩))).drew.frozen? ⟨g, j, none⟩ = false := f3
  clear c1 f1 c2 f2 c3 f3 hg1 hg2 hFi2 hFj2 hk2 hi2 hj2 hj3 hi3 hFi hFj h hg h4 hci hcj
  go_enter Try.func63, Try.ntmps63
  go_upto_region 0 with fail
  go_region
  have e2 : ((w.setCell ⟨g, i, none⟩ (.pointer (some ⟨cj.p, 0, none⟩))).setCell ⟨g, j, none⟩ (.pointer (some ⟨ci.p, 0, none⟩))).drew = W2.drew := by rw [hW2, hW1]; rfl
  rw [e2]
  have d4 : W2.drew.drew.cell? ⟨g, i, none⟩ = some (.pointer (some ⟨cj.p, 0, none⟩)) := c4
  have d5 : W2.drew.drew.cell? ⟨g, j, none⟩ = some (.pointer (some ⟨ci.p, 0, none⟩)) := c5
  have d6 : W2.drew.drew.cell? ⟨cj.p, 33, none⟩ = some (.int .i64 (j : Int)) := c6
  have e6 : W2.drew.drew.frozen? ⟨cj.p, 33, none⟩ = false := f6
  have HW34 : Hid (W3 = W2.setCell ⟨cj.p, 33, none⟩ (.int .i64 (i : Int)) ∧ W4 = W3.setCell ⟨ci.p, 33, none⟩ (.int .i64 (j : Int))) := ⟨hW3, hW4⟩
  rw [hW3] at c7 f7
  have d7 : (W2.setCell ⟨cj.p, 33, none⟩ (.int .i64 (i : Int))).drew.drew.cell? ⟨ci.p, 33, none⟩ = some (.int .i64 (i : Int)) := c7
  have e7 : (W2.setCell ⟨cj.p, 33, none⟩ (.int .i64 (i : Int))).drew.drew.frozen? ⟨ci.p, 33, none⟩ = false := f7
  clear c1' f1' c2' c3' f3' c4 c5 c6 f6 c7 f7 e2 hW1 hW2 hW3 hW4
  go_upto_region 1 with fail
  go_region
  all_goals go_wp2
  all_goals go_end0
  all_goals
    have hf := HFIN.out 2
    rw [HW34.out.2, HW34.out.1] at hf
    exact ⟨rfl, hf⟩
theorem swp_perm (S : List Cu) (i j : Nat) (hi : i < S.length) (hj : j < S.length) : (swp S i j hi hj).Perm S := List.set_set_perm hi hj
theorem swp_length (S : List Cu) (i j : Nat) (hi : i < S.length) (hj : j < S.length) : (swp S i j hi hj).length = S.length := by simp [swp]

theorem Try.mLess : (Try.prog.info? 79).map (fun i => (i.methods.find? (·.name == "Less")).map (fun m => (m.path, m.func))) = some (some (#[], some (62, false))) := by kernel_rfl
theorem Try.mSwap : (Try.prog.info? 79).map (fun i => (i.methods.find? (·.name == "Swap")).map (fun m => (m.path, m.func))) = some (some (#[], some (63, false))) := by kernel_rfl
theorem Try.mLen : (Try.prog.info? 79).map (fun i => (i.methods.find? (·.name == "Len")).map (fun m => (m.path, m.func))) = some (some (#[], some (61, false))) := by kernel_rfl
theorem Try.mPush : (Try.prog.info? 79).map (fun i => (i.methods.find? (·.name == "Push")).map (fun m => (m.path, m.func))) = some (some (#[], some (64, true))) := by kernel_rfl

theorem wrap_some (xt : TypeId) (a : Addr) (s m : ByteArray) (w : World) : (Builtin.ssaWrapNilChk_ #[xt] xt #[.pointer (some a), .string s, .string m]).run Try.prog w = .ok (.pointer (some a)) w := rfl

/-- A method of the row's own, through its variable's address. -/
theorem meth_val (name : String) (f : FuncId) (hm : (Try.prog.info? 79).map (fun i => (i.methods.find? (·.name == name)).map (fun m => (m.path, m.func))) = some (some (#[], some (f, false)))) (w : World) (a : Addr) (v : Value) (hc : w.cell? a = some v) (n : Nat) :
    (method (n + 1) 79 (.pointer (some a)) name).run Try.prog w = .ok (f, v) w := by
  obtain ⟨i, hi⟩ : ∃ i, Try.prog.info? 79 = some i := by
    cases h : Try.prog.info? 79 with
    | none => rw [h] at hm; cases hm
    | some i => exact ⟨i, rfl⟩
  rw [hi] at hm
  obtain ⟨m, hm1⟩ : ∃ m, i.methods.find? (·.name == name) = some m := by
    cases h : i.methods.find? (·.name == name) with
    | none => simp [h] at hm
    | some m => exact ⟨m, rfl⟩
  simp only [Option.map_some, hm1, Option.some.injEq, Prod.mk.injEq] at hm
  have ht : (typeInfo 79).run Try.prog w = .ok i w := by simp [typeInfo, hi]
  unfold method
  simp only [Sem.run_bind, ht, Result.andThen_ok, hm1, hm.1, hm.2, follow, Sem.run_pure]
  have hw : ∀ s m w, (Builtin.ssaWrapNilChk_ #[79] 79 #[.pointer (some a), .string s, .string m]).run Try.prog w = .ok (.pointer (some a)) w := fun s m w => wrap_some 79 a s m w
  simp [receiverAt, run_underlying Try.underlying79, Place.get, strVal, hw, asAddr, go_sem, hc]

/-- The variable that holds the row. -/
structure HeapV (w : World) (B lb : Nat) (S : List Cu) : Prop where
  ex : ∃ v pm am, w.heap[lb]? = some (.cells #[pm, v, am] 73 (0, 0)) ∧ HeapAt w B v S

set_option maxRecDepth 100000 in
theorem up_any (B lb : Nat) (v pm am : Value) (S : List Cu) (j : Nat) (w : World) (hl : w.heap[lb]? = some (.cells #[pm, v, am] 73 (0, 0))) (h : HeapAt w B v S) (hj : j < S.length) (hL : S.length ≤ 1000000) :
    Calls Try.prog 36 #[.iface 79 (.pointer (some ⟨lb, 1, none⟩)), .int .i64 j] w fun e w' => e = .returned (.tuple #[]) ∧ ∃ S', S'.Perm S ∧ HeapAt w' B v S' ∧ Only (Own v S) w w' := by
  have mixed : Try.prog.follows .mixedOrders = true := by kernel_rfl
  have hlb : ∀ b, b = lb → ¬ Own v S b := fun b e hb => by
    subst e
    rcases hb with hb | hb
    · rcases h.row.2 with ⟨rfl, _⟩ | ⟨g, cap, cur, rfl, _, h2, _⟩
      · cases hb
      · cases hb; rw [hl] at h2; cases h2
    · obtain ⟨c, hc, rfl⟩ := List.mem_map.1 hb
      obtain ⟨k, hk, rfl⟩ := List.getElem_of_mem hc
      have := h.cur k hk
      rw [hl] at this
      simp only [Option.some.injEq, Obj.cells.injEq] at this
      exact absurd this.2.1 (by decide)
  have H0 : Hid (HeapAt w B v S ∧ w.heap[lb]? = some (.cells #[pm, v, am] 73 (0, 0)) ∧ ∀ b, b = lb → ¬ Own v S b) := ⟨h, hl, hlb⟩
  clear h hl hlb
  go_enter Try.func36, Try.ntmps36
  go_wp2_with fail
  go_loopg [1] j (fun gk jv wr => ∃ j : Nat, jv = .int .i64 j ∧ gk = j ∧ j < S.length ∧ Hid (∃ S', S'.Perm S ∧ HeapAt wr B v S' ∧ Only (Own v S) w wr))
  case atStart => exact ⟨j, rfl, rfl, hj, S, List.Perm.refl _, H0.out.1, Only.refl _ _⟩
  case round =>
    clear hj
    obtain ⟨j, rfl, hgk, hj, HR⟩ := hrel
    have hlbr : wr.heap[lb]? = some (.cells #[pm, v, am] 73 (0, 0)) := by
      obtain ⟨S', _, _, ho⟩ := HR.out
      exact (ho.block lb (Array.getElem?_eq_some_iff.1 H0.out.2.1).1 (H0.out.2.2 lb rfl)).trans H0.out.2.1
    have hcell : wr.cell? ⟨lb, 1, none⟩ = some v := by simp [World.cell?, hlbr]
    have mL := meth_val "Less" 62 Try.mLess wr ⟨lb, 1, none⟩ v hcell 213
    have mS : ∀ q, (method 214 79 (.pointer (some ⟨lb, 1, none⟩)) "Swap").run Try.prog (wr.drewN q) = .ok (63, v) (wr.drewN q) := fun q => meth_val "Swap" 63 Try.mSwap (wr.drewN q) ⟨lb, 1, none⟩ v hcell 213
    clear hlbr hcell
    rcases Nat.eq_zero_or_pos j with h0 | h0
    · subst h0
      go_wp2
      go_end0
      exact ⟨rfl, HR.out⟩
    · obtain ⟨i, hi⟩ : ∃ i, i = (j - 1) / 2 := ⟨_, rfl⟩
      have hij : i < j := by omega
      have hw1 : IntKind.i64.wrap ((j : Int) - 1) = ((j - 1 : Nat) : Int) := by rw [IntKind.wrap_i64]; omega
      have hq : Int.tdiv ((j - 1 : Nat) : Int) 2 = (i : Int) := by rw [hi]; rfl
      have hne : ((i : Int) == (j : Int)) = false := by simp; omega
      have hne' : ¬ ((i : Int) = (j : Int)) := by omega
      clear hi
      obtain ⟨S', hp, hH, hO⟩ := HR.out
      have hlen : S'.length = S.length := hp.length_eq
      have HH : Hid (∀ q, HeapAt (wr.drewN q) B v S' ∧ Only (Own v S) w (wr.drewN q)) := fun q => ⟨hH.kept (fun _ _ => rfl), hO.drewN q⟩
      have CL : Hid (Calls Try.prog 62 #[v, .int .i64 j, .int .i64 i] wr fun e w' => ∃ b q, e = .returned (.bool b) ∧ w' = wr.drewN q) := less_any B v S' j i wr hH (by omega) (by omega)
      have CS : Hid (∀ q, Calls Try.prog 63 #[v, .int .i64 i, .int .i64 j] (wr.drewN q) fun e w' => e = .returned (.tuple #[]) ∧ ∃ S', S'.Perm S ∧ HeapAt w' B v S' ∧ Only (Own v S) w w') := fun q => by
        refine (swap_any B v S' i j (wr.drewN q) (HH.out q).1 (by omega) (by omega) (by omega)).mono ?_
        rintro e w' ⟨rfl, h1, h2⟩
        refine ⟨rfl, _, (swp_perm S' i j (by omega) (by omega)).trans hp, h1, (HH.out q).2.trans (h2.mono fun x _ hx => ?_)⟩
        rcases hx with hx | hx
        · exact .inl hx
        · exact .inr ((hp.map Cu.p).mem_iff.1 hx)
      have HP : Hid (S'.Perm S) := hp
      clear hp hH hO hlen HR
      go_wp2_with fail
      refine CL.out.mono ?_
      rintro e w2 ⟨b, q, rfl, rfl⟩
      cases b with
      | false =>
        go_wp2
        go_end0
        exact ⟨rfl, S', HP.out, HH.out q⟩
      | true =>
        have mS' := mS q
        clear mS mL
        go_wp2_with fail
        refine (CS.out q).mono ?_
        rintro e w3 ⟨rfl, S'', hS⟩
        have HN : Hid (∃ S', S'.Perm S ∧ HeapAt w3 B v S' ∧ Only (Own v S) w w3) := ⟨S'', hS⟩
        clear hS mS'
        go_wp2
        go_roundg i
        case measure => omega
        case rel => exact ⟨i, rfl, rfl, by omega, HN⟩
end Go.Proofs.Qxb6615634a
