/-
  DERIVED. Slices of serial numbers and of ranges, read; and cut.
-/
import Derived.Test.Qxb6615018aApp
namespace Go.Proofs.Qxb6615018a
open Go.RowKit Go.Sort

/-- A slice (its address a) whose elements, rows of cells 'enc x', k of them each, lie in w. -/
def Rd {α : Type} (enc : α → List Value) (k : Nat) (w : World) (a : Option Addr) (xs : List α) : Prop :=
  ∀ i (hi : i < xs.length), ∃ b o, a = some ⟨b, o, none⟩ ∧ b < w.heap.size ∧ ∀ j v, (enc xs[i])[j]? = some v → w.cell? ⟨b, o + i * k + j, none⟩ = some v

variable {α : Type} {enc : α → List Value} {k : Nat}

theorem Rd.nil (w : World) (a : Option Addr) : Rd enc k w a [] := fun i hi => absurd hi (by simp)

theorem Rd.below {w w' : World} {a : Option Addr} {xs : List α} (h : Rd enc k w a xs) (hb : Below w.heap.size w w') : Rd enc k w' a xs := fun i hi => by
  obtain ⟨b, o, h1, h2, h3⟩ := h i hi
  exact ⟨b, o, h1, Nat.lt_of_lt_of_le h2 hb.size, fun j v hv => (hb.cell (p := ⟨b, o + i * k + j, none⟩) h2).trans (h3 j v hv)⟩

/-- .. where the blocks lie below B. -/
def RdB {α : Type} (enc : α → List Value) (k B : Nat) (w : World) (a : Option Addr) (xs : List α) : Prop :=
  ∀ i (hi : i < xs.length), ∃ b o, a = some ⟨b, o, none⟩ ∧ b < B ∧ ∀ j v, (enc xs[i])[j]? = some v → w.cell? ⟨b, o + i * k + j, none⟩ = some v

theorem RdB.rd {B : Nat} {w : World} {a : Option Addr} {xs : List α} (h : RdB enc k B w a xs) (hB : B ≤ w.heap.size) : Rd enc k w a xs := fun i hi => by
  obtain ⟨b, o, h1, h2, h3⟩ := h i hi
  exact ⟨b, o, h1, by omega, h3⟩
theorem Rd.rdB {w : World} {a : Option Addr} {xs : List α} (h : Rd enc k w a xs) : RdB enc k w.heap.size w a xs := h
theorem RdB.below {B : Nat} {w w' : World} {a : Option Addr} {xs : List α} (h : RdB enc k B w a xs) (hb : Below B w w') : RdB enc k B w' a xs := fun i hi => by
  obtain ⟨b, o, h1, h2, h3⟩ := h i hi
  exact ⟨b, o, h1, h2, fun j v hv => (hb.cell (p := ⟨b, o + i * k + j, none⟩) h2).trans (h3 j v hv)⟩
theorem RdB.mono {B B' : Nat} {w : World} {a : Option Addr} {xs : List α} (h : RdB enc k B w a xs) (hB : B ≤ B') : RdB enc k B' w a xs := fun i hi => by
  obtain ⟨b, o, h1, h2, h3⟩ := h i hi
  exact ⟨b, o, h1, by omega, h3⟩

theorem RdB.addr {B : Nat} {w : World} {a : Option Addr} {x : α} {xs : List α} (h : RdB enc k B w a (x :: xs)) : ∃ b o, a = some ⟨b, o, none⟩ ∧ b < B := by
  obtain ⟨b, o, h1, h2, _⟩ := h 0 (by simp)
  exact ⟨b, o, h1, h2⟩

/-- The load of element i. -/
theorem RdB.ld {B : Nat} {w : World} {b o : Nat} {xs : List α} (h : RdB enc k B w (some ⟨b, o, none⟩) xs) (hk : ∀ x, (enc x).length = k) (i : Nat) (hi : i < xs.length) (kk : Nat) (hkk : kk = k) :
    Sem.run Try.prog (loadCellsFrom ⟨b, o + i * kk, none⟩ 0 kk #[]) w = .ok (enc xs[i]).toArray w := by
  subst hkk
  obtain ⟨b', o', h1, _, h3⟩ := h i hi
  simp only [Option.some.injEq, Addr.mk.injEq, and_true] at h1
  obtain ⟨rfl, rfl⟩ := h1
  have := run_loadCells_list (P := Try.prog) w ⟨b, o + i * kk, none⟩ (enc xs[i]) (fun j v hj => by
    have hadd : (⟨b, o + i * kk, none⟩ : Addr).add j = ⟨b, o + i * kk + j, none⟩ := by unfold Addr.add; split <;> simp_all
    rw [hadd]
    exact h3 j v hj)
  rw [hk] at this
  simpa [loadCells] using this

theorem RdB.ld0 {B : Nat} {w : World} {b o : Nat} {x : α} {xs : List α} (h : RdB enc k B w (some ⟨b, o, none⟩) (x :: xs)) (hk : ∀ x, (enc x).length = k) (kk : Nat) (hkk : kk = k) :
    Sem.run Try.prog (loadCellsFrom ⟨b, o, none⟩ 0 kk #[]) w = .ok (enc x).toArray w := by
  have := h.ld hk 0 (by simp) kk hkk
  simpa using this

/-- Behind the first element. -/
theorem RdB.tail {B : Nat} {w : World} {b o : Nat} {x : α} {xs : List α} (h : RdB enc k B w (some ⟨b, o, none⟩) (x :: xs)) : RdB enc k B w (some ⟨b, o + k, none⟩) xs := fun i hi => by
  obtain ⟨b', o', h1, h2, h3⟩ := h (i + 1) (by simpa using hi)
  simp only [Option.some.injEq, Addr.mk.injEq, and_true] at h1
  obtain ⟨rfl, rfl⟩ := h1
  refine ⟨b, o + k, rfl, h2, fun j v hv => ?_⟩
  have := h3 j v (by simpa using hv)
  rw [Nat.add_mul, Nat.one_mul] at this
  rw [show o + k + i * k + j = o + (i * k + k) + j from by omega]
  exact this

/-- From element n on. -/
theorem RdB.drop {B : Nat} {w : World} {b o : Nat} {xs : List α} (h : RdB enc k B w (some ⟨b, o, none⟩) xs) (n : Nat) : RdB enc k B w (some ⟨b, o + n * k, none⟩) (xs.drop n) := fun i hi => by
  obtain ⟨b', o', h1, h2, h3⟩ := h (n + i) (by simp at hi; omega)
  simp only [Option.some.injEq, Addr.mk.injEq, and_true] at h1
  obtain ⟨rfl, rfl⟩ := h1
  refine ⟨b, o + n * k, rfl, h2, fun j v hv => ?_⟩
  have := h3 j v (by simpa using hv)
  rw [Nat.add_mul] at this
  rw [show o + n * k + i * k + j = o + (n * k + i * k) + j from by omega]
  exact this

theorem RdB.take {B : Nat} {w : World} {a : Option Addr} {xs : List α} (h : RdB enc k B w a xs) (n : Nat) : RdB enc k B w a (xs.take n) := fun i hi => by
  obtain ⟨b, o, h1, h2, h3⟩ := h i (by simp at hi; omega)
  exact ⟨b, o, h1, h2, fun j v hv => h3 j v (by simpa using hv)⟩

theorem add_plain_sl (b o i : Nat) : (⟨b, o, none⟩ : Addr).add i = ⟨b, o + i, none⟩ := by unfold Addr.add; split <;> simp_all
theorem add_zero_sl (a : Addr) : a.add 0 = a := by simp [Addr.add]

/-- An address as the program makes them: nil, or plain. -/
def Plain (a : Option Addr) (c : Nat) : Prop := (a = none ∧ c = 0) ∨ ∃ b o, a = some ⟨b, o, none⟩

/-- 's[n:]' at the slice type t, element type e of k cells. -/
theorem cut_from (t e : TypeId) (ht : Try.prog.underlying t = some (.slice (Try.prog.elem t))) (hel : Try.prog.elem t = e) (hk : ∀ x, (enc x).length = k) (kk : Nat) (hkk : kk = k) (ze : ∀ w, (Go.sizeOf e).run Try.prog w = .ok kk w)
    {B : Nat} {W : World} {a : Option Addr} {c : Nat} {xs : List α} (hp : Plain a c) (hc : xs.length ≤ c) (hcm : c ≤ 9223372036854775807) (h : RdB enc k B W a xs) (n : Nat) (hn : n ≤ xs.length) :
    ∃ a', Plain a' (c - n) ∧ RdB enc k B W a' (xs.drop n) ∧ ∀ w, (Instr.slice t (.slice a xs.length c) (some (.int .i64 n)) none none).run Try.prog w = .ok (.slice a' (xs.length - n) (c - n)) w := by
  subst hkk
  rcases hp with ⟨rfl, rfl⟩ | ⟨b, o, rfl⟩
  · have hx : xs.length = 0 := by omega
    have hx' : xs = [] := List.length_eq_zero_iff.1 hx
    subst hx'
    obtain rfl : n = 0 := by simpa using hn
    refine ⟨none, .inl ⟨rfl, rfl⟩, fun i hi => absurd hi (by simp), fun w => ?_⟩
    rw [run_slice_l w t none _ 0 ht .i64 _ (by simp) (by simp)]
    rw [hel, ze]
    simp [sliced]
  · refine ⟨if c = n then some ⟨b, o, none⟩ else some ⟨b, o + n * kk, none⟩, ?_, ?_, fun w => ?_⟩
    · by_cases e : c = n
      · exact .inr ⟨b, o, by simp [e]⟩
      · exact .inr ⟨b, o + n * kk, by simp [e]⟩
    · by_cases e : c = n
      · have : xs.drop n = [] := List.drop_of_length_le (by omega)
        rw [this]
        exact fun i hi => absurd hi (by simp)
      · rw [if_neg e]; exact h.drop n
    · rw [run_slice_l w t _ _ c ht .i64 _ (by omega) (by omega)]
      rw [hel, ze]
      simp only [Result.andThen_ok, sliced, Int.toNat_natCast, Option.map_some]
      by_cases e : c = n
      · simp [e]
      · rw [if_neg e, if_neg e, add_plain_sl]

/-- 's[:n]'. -/
theorem cut_to (t e : TypeId) (ht : Try.prog.underlying t = some (.slice (Try.prog.elem t))) (hel : Try.prog.elem t = e) (kk : Nat) (ze : ∀ w, (Go.sizeOf e).run Try.prog w = .ok kk w)
    {a : Option Addr} {L c : Nat} (n : Nat) (hn : n ≤ c) (w : World) :
    (Instr.slice t (.slice a L c) none (some (.int .i64 n)) none).run Try.prog w = .ok (.slice a n c) w := by
  rw [run_slice_h w t a L c ht .i64 _ (by omega) (by omega)]
  rw [hel, ze]
  cases a <;> simp [sliced, add_zero_sl]

/-- Read in a block of the type t. -/
def RdT {α : Type} (enc : α → List Value) (k : Nat) (t : TypeId) (w : World) (a : Option Addr) (xs : List α) : Prop :=
  ∀ i (hi : i < xs.length), ∃ b o cs fr, a = some ⟨b, o, none⟩ ∧ w.heap[b]? = some (Obj.cells cs t fr) ∧ ∀ j v, (enc xs[i])[j]? = some v → cs[o + i * k + j]? = some v

/-- The blocks of the types that T does not name are as they were. -/
def KT (T : List TypeId) (w w' : World) : Prop := ∀ (b : Nat) (cs : Array Value) (t : TypeId) (fr : Nat × Nat), t ∉ T → w.heap[b]? = some (Obj.cells cs t fr) → w'.heap[b]? = some (Obj.cells cs t fr)

theorem RdT.rdB {t : TypeId} {w : World} {a : Option Addr} {xs : List α} (h : RdT enc k t w a xs) : RdB enc k w.heap.size w a xs := fun i hi => by
  obtain ⟨b, o, cs, fr, h1, h2, h3⟩ := h i hi
  refine ⟨b, o, h1, (Array.getElem?_eq_some_iff.1 h2).1, fun j v hv => ?_⟩
  simp only [World.cell?, h2]
  exact h3 j v hv
theorem RdT.kt {T : List TypeId} {t : TypeId} {w w' : World} {a : Option Addr} {xs : List α} (h : RdT enc k t w a xs) (hk : KT T w w') (ht : t ∉ T) : RdT enc k t w' a xs := fun i hi => by
  obtain ⟨b, o, cs, fr, h1, h2, h3⟩ := h i hi
  exact ⟨b, o, cs, fr, h1, hk b cs t fr ht h2, h3⟩
theorem RdT.take {t : TypeId} {w : World} {a : Option Addr} {xs : List α} (h : RdT enc k t w a xs) (n : Nat) : RdT enc k t w a (xs.take n) := fun i hi => by
  have hi' : i < xs.length := by simp at hi; omega
  obtain ⟨b, o, cs, fr, h1, h2, h3⟩ := h i hi'
  exact ⟨b, o, cs, fr, h1, h2, fun j v hv => h3 j v (by rw [List.getElem_take] at hv; exact hv)⟩
theorem RdT.drop {t : TypeId} {w : World} {b o : Nat} {xs : List α} (h : RdT enc k t w (some ⟨b, o, none⟩) xs) (n : Nat) : RdT enc k t w (some ⟨b, o + n * k, none⟩) (xs.drop n) := fun i hi => by
  obtain ⟨b', o', cs, fr, h1, h2, h3⟩ := h (n + i) (by simp at hi; omega)
  simp only [Option.some.injEq, Addr.mk.injEq, and_true] at h1
  obtain ⟨rfl, rfl⟩ := h1
  refine ⟨b, o + n * k, cs, fr, rfl, h2, fun j v hv => ?_⟩
  have := h3 j v (by simpa using hv)
  rw [Nat.add_mul] at this
  rw [show o + n * k + i * k + j = o + (n * k + i * k) + j from by omega]
  exact this
theorem RdT.nil {t : TypeId} {w : World} {a : Option Addr} : RdT enc k t w a ([] : List α) := fun i hi => absurd hi (by simp)

theorem KT.refl (T : List TypeId) (w : World) : KT T w w := fun _ _ _ _ _ h => h
theorem KT.trans {T : List TypeId} {a b c : World} (h : KT T a b) (k : KT T b c) : KT T a c := fun x cs t fr ht hx => k x cs t fr ht (h x cs t fr ht hx)
theorem KT.of_below {T : List TypeId} {w w' : World} (h : Below w.heap.size w w') : KT T w w' := fun b _ _ _ _ hb => (h.block b (Array.getElem?_eq_some_iff.1 hb).1).trans hb
theorem KT.mono {T T' : List TypeId} {w w' : World} (h : KT T w w') (hT : ∀ t ∈ T, t ∈ T') : KT T' w w' := fun b cs t fr ht hb => h b cs t fr (fun hh => ht (hT t hh)) hb
theorem KT.grown {w w' : World} {B : Nat} {e : TypeId} {size n : Nat} {v : Value} {xs : List Value} (hg : w.grownBy w' v.ownBlock) (ho : w.ownsRow B e size v n xs) : KT [e] w w' := fun b cs t fr ht hb => by
  rw [hg.block b (Array.getElem?_eq_some_iff.1 hb).1 ?_]
  · exact hb
  · rcases ho.2 with ⟨rfl, _⟩ | ⟨g, cap, cur, rfl, _, h2, _⟩
    · simp [Value.ownBlock]
    · intro he
      simp only [Value.ownBlock, Option.some.injEq] at he
      subst he
      rw [hb] at h2
      simp only [Option.some.injEq, Obj.cells.injEq] at h2
      exact ht (by simp [h2.2.1])
/-- .. in a block of a known type. -/
theorem cut_fromT (t e : TypeId) (ht : Try.prog.underlying t = some (.slice (Try.prog.elem t))) (hel : Try.prog.elem t = e) (hk : ∀ x, (enc x).length = k) (kk : Nat) (hkk : kk = k) (ze : ∀ w, (Go.sizeOf e).run Try.prog w = .ok kk w)
    {tt : TypeId} {W : World} {a : Option Addr} {c : Nat} {xs : List α} (hp : Plain a c) (hc : xs.length ≤ c) (hcm : c ≤ 9223372036854775807) (h : RdT enc k tt W a xs) (n : Nat) (hn : n ≤ xs.length) :
    ∃ a', Plain a' (c - n) ∧ RdT enc k tt W a' (xs.drop n) ∧ ∀ w, (Instr.slice t (.slice a xs.length c) (some (.int .i64 n)) none none).run Try.prog w = .ok (.slice a' (xs.length - n) (c - n)) w := by
  subst hkk
  rcases hp with ⟨rfl, rfl⟩ | ⟨b, o, rfl⟩
  · have hx : xs.length = 0 := by omega
    have hx' : xs = [] := List.length_eq_zero_iff.1 hx
    subst hx'
    obtain rfl : n = 0 := by simpa using hn
    refine ⟨none, .inl ⟨rfl, rfl⟩, fun i hi => absurd hi (by simp), fun w => ?_⟩
    rw [run_slice_l w t none _ 0 ht .i64 _ (by simp) (by simp)]
    rw [hel, ze]
    simp [sliced]
  · refine ⟨if c = n then some ⟨b, o, none⟩ else some ⟨b, o + n * kk, none⟩, ?_, ?_, fun w => ?_⟩
    · by_cases e : c = n
      · exact .inr ⟨b, o, by simp [e]⟩
      · exact .inr ⟨b, o + n * kk, by simp [e]⟩
    · by_cases e : c = n
      · have : xs.drop n = [] := List.drop_of_length_le (by omega)
        rw [this]
        exact fun i hi => absurd hi (by simp)
      · rw [if_neg e]; exact h.drop n
    · rw [run_slice_l w t _ _ c ht .i64 _ (by omega) (by omega)]
      rw [hel, ze]
      simp only [Result.andThen_ok, sliced, Int.toNat_natCast, Option.map_some]
      by_cases e : c = n
      · simp [e]
      · rw [if_neg e, if_neg e, add_plain_sl]

end Go.Proofs.Qxb6615018a
