/-
  DERIVED. What is held: a log for each member; Add.
-/
import Derived.Test.Qxb6615634aStand2
namespace Go.Proofs.Qxb6615634a
open Go.RowKit Go.Sort

theorem stand_any (L : Lg) (id : Id) (n : UInt64) (w : World) (h : LogAt w L) (hL : L.S.length ≤ 100000) :
    Calls Try.prog 30 #[.pointer (some ⟨L.lb, 0, none⟩), .agg (encI id).toArray, .int .u64 (n.toNat : Int)] w fun e w' => e = .returned (.tuple #[]) ∧ Stood w L id n w' := by
  by_cases hc : id ∈ L.S.map Cu.id
  · obtain ⟨c, hm, rfl⟩ := List.mem_map.1 hc
    obtain ⟨k, hk, rfl⟩ := List.getElem_of_mem hm
    exact stand_hit L k hk n w h hL
  · exact stand_miss L id n w h hc hL

/-- A head. -/
structure Hd where
  proj : Id
  mem : ByteArray
  num : UInt64
  rev : Id
def encH (h : Hd) : List Value := encI h.proj ++ ([.string h.mem, .int .u64 (h.num.toNat : Int)] ++ encI h.rev)
theorem encH_length (h : Hd) : (encH h).length = 66 := by simp [encH, encI_length]
theorem encH_32 (h : Hd) : (encH h)[32]? = some (.string h.mem) := by
  rw [encH, List.getElem?_append_right (by rw [encI_length]; omega), encI_length]; rfl
theorem encH_33 (h : Hd) : (encH h)[33]? = some (.int .u64 (h.num.toNat : Int)) := by
  rw [encH, List.getElem?_append_right (by rw [encI_length]; omega), encI_length]; rfl
theorem encH_rev (h : Hd) (j : Nat) (v : Value) (hj : (encI h.rev)[j]? = some v) : (encH h).toArray[34 + j]? = some v := by
  rw [List.getElem?_toArray, encH, List.getElem?_append_right (by rw [encI_length]; omega), encI_length, show 34 + j - 32 = j + 2 by omega]
  exact hj
theorem encH_proj (h : Hd) (j : Nat) (v : Value) (hj : (encI h.proj)[j]? = some v) : (encH h).toArray[0 + j]? = some v := by
  rw [Nat.zero_add, List.getElem?_toArray, encH, List.getElem?_append_left (List.getElem?_eq_some_iff.1 hj).1]; exact hj
theorem encH_one (h : Hd) : ∀ v ∈ encH h, v.oneCell' = true := by
  intro v hv
  simp only [encH, List.mem_append, List.mem_cons, List.not_mem_nil, or_false] at hv
  rcases hv with hv | (rfl | rfl) | hv
  · exact encI_one _ v hv
  · rfl
  · rfl
  · exact encI_one _ v hv

def lptr (g : ByteArray × Lg) : ByteArray × Value := (g.1, .pointer (some ⟨g.2.lb, 0, none⟩))

structure HeldAt (w : World) (hb lm : Nat) (G : List (ByteArray × Lg)) : Prop where
  blk : ∃ x, w.heap[hb]? = some (.cells #[x, .map (some lm)] 66 (0, 0))
  map : MapS w lm (G.map lptr)
  logs : ∀ g ∈ G, LogAt w g.2
  nd : (G.map Prod.fst).Nodup
  dj : G.Pairwise (fun a b => ∀ x, a.2.foot x → ¬ b.2.foot x)
  far : ∀ g ∈ G, ¬ g.2.foot hb ∧ ¬ g.2.foot lm

/-- What is held, each member's names and numbers in the heap's own order; all its memory between lo and hi. -/
def HeldT (w : World) (hb : Nat) (T : List (ByteArray × List (Id × UInt64))) (lo hi : Nat) : Prop :=
  ∃ lm G, HeldAt w hb lm G ∧ G.map (fun g => (g.1, ab g.2.S)) = T ∧ (lo ≤ hb ∧ hb < hi) ∧ (lo ≤ lm ∧ lm < hi) ∧ ∀ g ∈ G, ∀ b, g.2.foot b → lo ≤ b ∧ b < hi

theorem HeldT.kept {w w' : World} {hb : Nat} {T : List (ByteArray × List (Id × UInt64))} {lo hi : Nat} (h : HeldT w hb T lo hi) (hk : ∀ b, lo ≤ b → b < hi → w'.heap[b]? = w.heap[b]?) : HeldT w' hb T lo hi := by
  obtain ⟨lm, G, h1, h2, h3, h4, h5⟩ := h
  obtain ⟨x, hx⟩ := h1.blk
  exact ⟨lm, G, ⟨⟨x, (hk hb h3.1 h3.2).trans hx⟩, h1.map.block (hk lm h4.1 h4.2), fun g hg => (h1.logs g hg).kept (fun b hf => hk b (h5 g hg b hf).1 (h5 g hg b hf).2), h1.nd, h1.dj, h1.far⟩, h2, h3, h4, h5⟩
theorem HeldT.wide {w : World} {hb : Nat} {T : List (ByteArray × List (Id × UInt64))} {lo hi hi' : Nat} (h : HeldT w hb T lo hi) (hh : hi ≤ hi') : HeldT w hb T lo hi' := by
  obtain ⟨lm, G, h1, h2, h3, h4, h5⟩ := h
  exact ⟨lm, G, h1, h2, ⟨h3.1, by omega⟩, ⟨h4.1, by omega⟩, fun g hg b hf => ⟨(h5 g hg b hf).1, by have := (h5 g hg b hf).2; omega⟩⟩

/-- A member's name with a number more. -/
def AddTo (T : List (ByteArray × List (Id × UInt64))) (m : ByteArray) (id : Id) (n : UInt64) (T' : List (ByteArray × List (Id × UInt64))) : Prop :=
  (m ∉ T.map Prod.fst ∧ T' = T ++ [(m, [(id, n)])]) ∨ ∃ T1 s T2 s', T = T1 ++ (m, s) :: T2 ∧ s'.Perm (upd s id n) ∧ T' = T1 ++ (m, s') :: T2

/-! ### Looking a member up -/

theorem firstS_none (m : ByteArray) : ∀ (G : List (ByteArray × Lg)) (i : Nat), m ∉ G.map Prod.fst → firstS m (G.map lptr) i = none
  | [], _, _ => rfl
  | g :: G, i, h => by
    simp only [List.map_cons, List.mem_cons, not_or] at h
    simp only [List.map_cons, firstS, lptr, if_neg h.1]
    exact firstS_none m G (i + 1) h.2
theorem firstS_some (m : ByteArray) (L : Lg) : ∀ (G : List (ByteArray × Lg)) (i : Nat), (G.map Prod.fst).Nodup → (m, L) ∈ G → ∃ j, firstS m (G.map lptr) i = some (j, .pointer (some ⟨L.lb, 0, none⟩))
  | [], _, _, h => absurd h (by simp)
  | g :: G, i, hn, h => by
    simp only [List.map_cons, List.nodup_cons] at hn
    by_cases hc : m = g.1
    · have he : g = (m, L) := by
        rcases List.mem_cons.1 h with h | h
        · exact h.symm
        · exact absurd (hc ▸ List.mem_map.2 ⟨(m, L), h, rfl⟩) hn.1
      subst he
      exact ⟨i, by simp only [List.map_cons, firstS, lptr, if_true]⟩
    · have h' : (m, L) ∈ G := by
        rcases List.mem_cons.1 h with h | h
        · exact absurd (by rw [← h]) hc
        · exact h
      obtain ⟨j, hj⟩ := firstS_some m L G (i + 1) hn.2 h'
      exact ⟨j, by simp only [List.map_cons, firstS, lptr, if_neg hc]; exact hj⟩
theorem zero67 (w : World) : (zeroValue 67).run Try.prog w = .ok (.pointer none) w := by simp [go_sem]
theorem HeldAt.look {w : World} {hb lm : Nat} {G : List (ByteArray × Lg)} (h : HeldAt w hb lm G) (m : ByteArray) :
    (∀ L, (m, L) ∈ G → (Instr.lookup 64 (.map (some lm)) (.string m) false).run Try.prog w = .ok (.pointer (some ⟨L.lb, 0, none⟩)) w) ∧ (m ∉ G.map Prod.fst → (Instr.lookup 64 (.map (some lm)) (.string m) false).run Try.prog w = .ok (.pointer none) w) := by
  rw [look_S 64 67 Try.underlying64 (.pointer none) zero67 m h.map]
  refine ⟨fun L hL => ?_, fun hn => by rw [firstS_none m G 0 hn]; rfl⟩
  obtain ⟨j, hj⟩ := firstS_some m L G 0 h.nd hL
  rw [hj]; rfl
end Go.Proofs.Qxb6615634a
