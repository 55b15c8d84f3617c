/-
  DERIVED. A Knowledge in memory; inOrder.
-/
import Derived.Test.Qxb6615018aSort
namespace Go.Proofs.Qxb6615018a
open Go.RowKit Go.Sort

/-- Whose cells' type is what. -/
def tyOf : Obj → Option TypeId
  | .cells _ t _ => some t
  | _ => none

/-- The blocks that F names are as they were; so are the streams. -/
structure Fr (F : Nat → Option TypeId → Prop) (w w' : World) : Prop where
  os : w'.os = w.os
  tape : w'.tape = w.tape
  output : w'.output = w.output
  size : w.heap.size ≤ w'.heap.size
  block : ∀ (b : Nat) (o : Obj), F b (tyOf o) → w.heap[b]? = some o → w'.heap[b]? = some o

theorem Fr.refl (F : Nat → Option TypeId → Prop) (w : World) : Fr F w w := ⟨rfl, rfl, rfl, Nat.le_refl _, fun _ _ _ h => h⟩
theorem Fr.trans {F : Nat → Option TypeId → Prop} {a b c : World} (h : Fr F a b) (k : Fr F b c) : Fr F a c :=
  ⟨k.os.trans h.os, k.tape.trans h.tape, k.output.trans h.output, Nat.le_trans h.size k.size, fun x o hx hb => k.block x o hx (h.block x o hx hb)⟩
theorem Fr.of_below {F : Nat → Option TypeId → Prop} {w w' : World} (h : Below w.heap.size w w') : Fr F w w' :=
  ⟨h.os, h.tape, h.output, h.size, fun b _ _ hb => (h.block b (Array.getElem?_eq_some_iff.1 hb).1).trans hb⟩
theorem Fr.mono {F G : Nat → Option TypeId → Prop} {w w' : World} (h : Fr F w w') (hFG : ∀ b t, b < w.heap.size → G b t → F b t) : Fr G w w' :=
  ⟨h.os, h.tape, h.output, h.size, fun b o hb ho => h.block b o (hFG b _ (Array.getElem?_eq_some_iff.1 ho).1 hb) ho⟩
theorem Fr.of_grown {F : Nat → Option TypeId → Prop} {w w' : World} {r : Option Nat} (h : w.grownBy w' r) (hr : ∀ k o, r = some k → w.heap[k]? = some o → ¬ F k (tyOf o)) : Fr F w w' :=
  ⟨h.os, h.tape, h.output, h.size, fun b o hb ho => (h.block b (Array.getElem?_eq_some_iff.1 ho).1 (fun e => hr b o e.symm ho hb)).trans ho⟩
theorem Fr.below {F : Nat → Option TypeId → Prop} {w w' : World} {B : Nat} (h : Fr F w w') (hB : B ≤ w.heap.size) (hF : ∀ b t, b < B → F b t) : Below B w w' :=
  ⟨h.os, h.tape, h.output, h.size, fun k hk => by
    obtain ⟨o, ho⟩ : ∃ o, w.heap[k]? = some o := ⟨_, Array.getElem?_eq_getElem (by omega)⟩
    rw [ho]; exact h.block k o (hF k _ hk) ho⟩
theorem Fr.kt {F : Nat → Option TypeId → Prop} {w w' : World} {T : List TypeId} (h : Fr F w w') (hF : ∀ b t, t ∉ T → F b (some t)) : KT T w w' := fun b _ t _ ht hb => h.block b _ (hF b t ht) hb

/-- What a change of the Knowledge K, whose parts lie from B on, leaves alone. -/
def FK (B K : Nat) (b : Nat) (t : Option TypeId) : Prop := b ≠ K ∧ (b < B ∨ (t ≠ some 58 ∧ t ≠ some 66))

/-- The blocks' own slice, as K's field leads to it. -/
def Held (B : Nat) (w : World) (kc : Option Addr) (v : Value) : Prop := (kc = none ∧ v = .slice none 0 0) ∨ ∃ P, kc = some ⟨P, 0, none⟩ ∧ B ≤ P ∧ w.heap[P]? = some (.cells #[v] 58 (0, 0))

/-- The Knowledge at K holds the blocks bs; its own parts lie from B on. -/
def Know (B : Nat) (w : World) (K : Nat) (bs : List (List Rg)) : Prop :=
  ∃ kc v ps, w.heap[K]? = some (.cells #[.pointer kc] 34 (0, 0)) ∧ w.ownsRow B 66 1 v bs.length (ps.map ptrV) ∧ BlksAt w ps bs ∧ Held B w kc v

theorem ownsRow_kt {T : List TypeId} {w w' : World} {base : Nat} {e : TypeId} {size n : Nat} {v : Value} {xs : List Value} (h : w.ownsRow base e size v n xs) (hk : KT T w w') (he : e ∉ T) : w'.ownsRow base e size v n xs := by
  refine ⟨h.1, ?_⟩
  rcases h.2 with h1 | ⟨g, cap, cur, rfl, h2, h3, h4⟩
  · exact .inl h1
  · exact .inr ⟨g, cap, cur, rfl, h2, hk _ _ _ _ he h3, h4⟩

theorem Held.kt {T : List TypeId} {B : Nat} {w w' : World} {kc : Option Addr} {v : Value} (h : Held B w kc v) (hk : KT T w w') (h2 : 58 ∉ T) : Held B w' kc v := by
  rcases h with h | ⟨P, q1, q2, q3⟩
  · exact .inl h
  · exact .inr ⟨P, q1, q2, hk _ _ _ _ h2 q3⟩
theorem Know.kt {T : List TypeId} {B : Nat} {w w' : World} {K : Nat} {bs : List (List Rg)} (h : Know B w K bs) (hk : KT T w w') (h1 : 34 ∉ T) (h2 : 58 ∉ T) (h3 : 66 ∉ T) (h4 : 65 ∉ T) (h5 : 62 ∉ T) : Know B w' K bs := by
  obtain ⟨kc, v, ps, e1, q4, q5, q6⟩ := h
  exact ⟨kc, v, ps, hk _ _ _ _ h1 e1, ownsRow_kt q4 hk h3, q5.kt hk h4 h5, q6.kt hk h2⟩
theorem Know.below {B : Nat} {w w' : World} {K : Nat} {bs : List (List Rg)} (h : Know B w K bs) (hb : Below w.heap.size w w') : Know B w' K bs :=
  h.kt (KT.of_below (T := []) hb) (by simp) (by simp) (by simp) (by simp) (by simp)
theorem Know.lt {B : Nat} {w : World} {K : Nat} {bs : List (List Rg)} (h : Know B w K bs) : K < w.heap.size := by
  obtain ⟨kc, v, ps, e1, _⟩ := h
  exact (Array.getElem?_eq_some_iff.1 e1).1

set_option maxHeartbeats 1000000 in
/-- inOrder of a Knowledge that holds no block pointer. -/
theorem inOrder_nil (w : World) : Calls Try.prog 22 #[.agg #[.pointer none]] w fun e w' => e = .returned (.slice none 0 0) ∧ Below w.heap.size w w' := by
  go_enter Try.func22, Try.ntmps22
  go_wp2
  go_ret
  exact ⟨rfl, (Below.refl _ _).alloc (Nat.le_refl _) _⟩

set_option maxHeartbeats 1000000 in
theorem inOrder_some (w : World) (P : Nat) (v : Value) (hP : w.heap[P]? = some (.cells #[v] 58 (0, 0))) :
    Calls Try.prog 22 #[.agg #[.pointer (some ⟨P, 0, none⟩)]] w fun e w' => e = .returned v ∧ Below w.heap.size w w' := by
  have hlt : P < w.heap.size := (Array.getElem?_eq_some_iff.1 hP).1
  have hc : w.cell? ⟨P, 0, none⟩ = some v := by simp [World.cell?, hP]
  have hl : ∀ o, (w.alloc o).cell? ⟨P, 0, none⟩ = some v := fun o => by rw [World.cell?_alloc_past _ _ _ (by omega)]; exact hc
  go_enter Try.func22, Try.ntmps22
  go_wp2
  go_ret
  exact ⟨rfl, (Below.refl _ _).alloc (Nat.le_refl _) _⟩

theorem inOrder_any (B : Nat) (w : World) (kc : Option Addr) (v : Value) (h : Held B w kc v) : Calls Try.prog 22 #[.agg #[.pointer kc]] w fun e w' => e = .returned v ∧ Below w.heap.size w w' := by
  rcases h with ⟨rfl, rfl⟩ | ⟨P, rfl, _, h3⟩
  · exact inOrder_nil w
  · exact inOrder_some w P v h3
end Go.Proofs.Qxb6615018a
