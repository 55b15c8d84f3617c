/-
  DERIVED. The decoder's state, and what one read does to it.
-/
import Derived.Test.Qxb6615018aDoorDec
namespace Go.Proofs.Qxb6615018aDoor
open Go.RowKit

/-- All blocks but D are as they were. -/
structure Only (D : Nat) (w w' : World) : Prop where
  os : w'.os = w.os
  tape : w'.tape = w.tape
  output : w'.output = w.output
  size : w'.heap.size = w.heap.size
  block : ∀ k, k ≠ D → w'.heap[k]? = w.heap[k]?

theorem Only.refl (D : Nat) (w : World) : Only D w w := ⟨rfl, rfl, rfl, rfl, fun _ _ => rfl⟩
theorem Only.setCell (D o : Nat) (w : World) (v : Value) : Only D w (w.setCell ⟨D, o, none⟩ v) :=
  ⟨rfl, rfl, rfl, by simp, fun k hk => Below.heap_setCell w _ v k hk⟩
theorem Only.cell {D : Nat} {w w' : World} (h : Only D w w') {q : Addr} (hq : q.block ≠ D) : w'.cell? q = w.cell? q := World.cell?_of_block (w := w) (h.block _ hq)
theorem Only.frozen {D : Nat} {w w' : World} (h : Only D w w') {q : Addr} (hq : q.block ≠ D) : w'.frozen? q = w.frozen? q := World.frozen?_of_block (w := w) (h.block _ hq)
theorem Only.below {D N : Nat} {w w' : World} (h : Only D w w') (hN : N ≤ D) : Below N w w' :=
  ⟨h.os, h.tape, h.output, by rw [h.size]; exact Nat.le_refl _, fun k hk => h.block k (by omega)⟩

/-- A decoder behind a pointer to block D: it stands p bytes into the L bytes zs, which lie in block B; its err cell holds er. -/
structure Dec (w : World) (D B L p : Nat) (zs : List Int) (er : Value) : Prop where
  st : ∃ a, w.cell? ⟨D, 0, none⟩ = some (.slice a (L - p) (L - p)) ∧ Tail B L p a
  err : w.cell? ⟨D, 1, none⟩ = some er
  f0 : w.frozen? ⟨D, 0, none⟩ = false
  f1 : w.frozen? ⟨D, 1, none⟩ = false
  hp : p ≤ L
  hL : L ≤ 1000000000
  hBD : 0 < L → B ≠ D
  cl : ∀ i, i < L → w.cell? ⟨B, i, none⟩ = some (.int .u8 (zs.getD i 0))
  len : zs.length = L
  by8 : ∀ z ∈ zs, 0 ≤ z ∧ z < 256

theorem Dec.other {w w' : World} {D D' B L p : Nat} {zs : List Int} {er : Value} (h : Dec w D B L p zs er) (ho : Only D' w w') (hD : D ≠ D') (hB : 0 < L → B ≠ D') : Dec w' D B L p zs er :=
  { h with
    st := by obtain ⟨a, h0, h1⟩ := h.st; exact ⟨a, (ho.cell (q := ⟨D, 0, none⟩) hD).trans h0, h1⟩
    err := (ho.cell (q := ⟨D, 1, none⟩) hD).trans h.err
    f0 := (ho.frozen (q := ⟨D, 0, none⟩) hD).trans h.f0
    f1 := (ho.frozen (q := ⟨D, 1, none⟩) hD).trans h.f1
    cl := fun i hi => (ho.cell (q := ⟨B, i, none⟩) (hB (by omega))).trans (h.cl i hi) }

theorem Dec.below {w w' : World} {N D B L p : Nat} {zs : List Int} {er : Value} (h : Dec w D B L p zs er) (ho : Below N w w') (hD : D < N) (hB : 0 < L → B < N) : Dec w' D B L p zs er :=
  { h with
    st := by obtain ⟨a, h0, h1⟩ := h.st; exact ⟨a, (ho.cell (p := ⟨D, 0, none⟩) hD).trans h0, h1⟩
    err := (ho.cell (p := ⟨D, 1, none⟩) hD).trans h.err
    f0 := (ho.frozen (p := ⟨D, 0, none⟩) hD).trans h.f0
    f1 := (ho.frozen (p := ⟨D, 1, none⟩) hD).trans h.f1
    cl := fun i hi => (ho.cell (p := ⟨B, i, none⟩) (hB (by omega))).trans (h.cl i hi) }

/-- A new decoder over the clone. -/
theorem Dec.new {w : World} {B L : Nat} {zs : List Int} {a : Option Addr} (hT : Tail B L 0 a) (hL : L ≤ 1000000000) (hB : 0 < L → B < w.heap.size) (cl : ∀ i, i < L → w.cell? ⟨B, i, none⟩ = some (.int .u8 (zs.getD i 0)))
    (len : zs.length = L) (by8 : ∀ z ∈ zs, 0 ≤ z ∧ z < 256) : Dec (w.alloc (.cells #[.slice a L L, .nilIface] 50)) w.heap.size B L 0 zs .nilIface where
  st := ⟨a, by simp, hT⟩
  err := by simp
  f0 := by simp
  f1 := by simp
  hp := Nat.zero_le _
  hL := hL
  hBD := fun h => by have := hB h; omega
  cl := fun i hi => by
    have hlt := hB (by omega)
    exact (((Below.refl w.heap.size w).alloc (Nat.le_refl _) (.cells #[.slice a L L, .nilIface] 50)).cell (p := ⟨B, i, none⟩) hlt).trans (cl i hi)
  len := len
  by8 := by8

theorem duint_ok (D B L p n : Nat) (zs : List Int) (w : World) (h : Dec w D B L p zs .nilIface) (hn : p + n ≤ L) (hn8 : n ≤ 8) :
    Calls Tryd.prog 9 #[.pointer (some ⟨D, 0, none⟩), .int .i64 n] w fun e w' => e = .returned (.int .u64 (leV (cut zs p n))) ∧ Dec w' D B L (p + n) zs .nilIface ∧ Only D w w' := by
  obtain ⟨a, h0, hT⟩ := h.st
  go_enter Tryd.func9, Tryd.ntmps9
  go_wp2_with fail
  refine (uint_ok B L p D n zs a w hT h0 h.err h.f0 hn h.hL hn8 h.hBD h.cl h.len h.by8).mono ?_
  rintro e w' ⟨rfl, a', hw', hT'⟩
  have hD : Dec w' D B L (p + n) zs .nilIface := by
    have hO := Only.setCell D 0 w (.slice a' (L - (p + n)) (L - (p + n)))
    rw [← hw'] at hO
    exact { h with
      st := ⟨a', by rw [hw']; exact World.cell?_setCell_same _ _ _ h0, hT'⟩
      err := by rw [hw', World.cell?_setCell_other _ _ _ _ (by simp)]; exact h.err
      f0 := by rw [hw']; simpa using h.f0
      f1 := by rw [hw']; simpa using h.f1
      hp := hn
      cl := fun i hi => (hO.cell (q := ⟨B, i, none⟩) (h.hBD (by omega))).trans (h.cl i hi) }
  have hO := Only.setCell D 0 w (.slice a' (L - (p + n)) (L - (p + n)))
  rw [← hw'] at hO
  have HD : Hid (Dec w' D B L (p + n) zs .nilIface ∧ Only D w w') := ⟨hD, hO⟩
  clear hD hO hw' h hT h0 hT'
  go_wp2
  go_ret
  exact ⟨rfl, HD.out⟩

theorem duint_short (D B L p n : Nat) (zs : List Int) (t : TypeId) (x : Addr) (w : World) (h : Dec w D B L p zs .nilIface) (hn : L < p + n) (hg : w.cell? ⟨1, 0, none⟩ = some (.iface t (.pointer (some x)))) :
    Calls Tryd.prog 9 #[.pointer (some ⟨D, 0, none⟩), .int .i64 n] w fun e w' => e = .returned (.int .u64 0) ∧ Dec w' D B L p zs (.iface t (.pointer (some x))) ∧ Only D w w' := by
  obtain ⟨a, h0, hT⟩ := h.st
  have hp := h.hp
  go_enter Tryd.func9, Tryd.ntmps9
  go_wp2_with fail
  refine (uint_short D n a (L - p) (L - p) t x w h0 h.err h.f1 hg (by omega)).mono ?_
  rintro e w' ⟨rfl, hw'⟩
  have hO := Only.setCell D 1 w (.iface t (.pointer (some x)))
  rw [← hw'] at hO
  have hD : Dec w' D B L p zs (.iface t (.pointer (some x))) :=
    { h with
      st := ⟨a, by rw [hw', World.cell?_setCell_other _ _ _ _ (by simp)]; exact h0, hT⟩
      err := by rw [hw']; exact World.cell?_setCell_same _ _ _ h.err
      f0 := by rw [hw']; simpa using h.f0
      f1 := by rw [hw']; simpa using h.f1
      cl := fun i hi => (hO.cell (q := ⟨B, i, none⟩) (h.hBD (by omega))).trans (h.cl i hi) }
  have HD : Hid (Dec w' D B L p zs (.iface t (.pointer (some x))) ∧ Only D w w') := ⟨hD, hO⟩
  clear hD hO hw' h hT h0
  go_wp2
  go_ret
  exact ⟨rfl, HD.out⟩

theorem duint_failed (D B L p n : Nat) (zs : List Int) (t : TypeId) (x : Value) (w : World) (h : Dec w D B L p zs (.iface t x)) :
    Calls Tryd.prog 9 #[.pointer (some ⟨D, 0, none⟩), .int .i64 n] w fun e w' => e = .returned (.int .u64 0) ∧ w = w' := by
  have he := h.err
  go_enter Tryd.func9, Tryd.ntmps9
  go_wp2_with fail
  refine (uint_failed D n t x w he).mono ?_
  rintro e w' ⟨rfl, rfl⟩
  go_wp2
  go_ret
  exact ⟨rfl, rfl⟩

/-- What is left of a decoder's bytes reads as the bytes behind the first p. -/
theorem Tail.reads {w : World} {B L p : Nat} {zs : List Int} {a : Option Addr} (hT : Tail B L p a) (len : zs.length = L) (cl : ∀ i, i < L → w.cell? ⟨B, i, none⟩ = some (.int .u8 (zs.getD i 0))) : Reads w a (zs.drop p) := by
  intro i hi
  simp at hi
  rcases hT with ⟨_, h⟩ | ⟨b, off, rfl, h⟩
  · omega
  · obtain ⟨rfl, rfl⟩ := h (by omega)
    refine ⟨_, _, rfl, ?_⟩
    rw [cl _ (by omega)]
    simp [List.getElem?_drop]

theorem Reads.drewN {w : World} {a : Option Addr} {ys : List Int} (h : Reads w a ys) (m : Nat) : Reads (w.drewN m) a ys := by
  intro i hi
  obtain ⟨b, off, h1, h2⟩ := h i hi
  exact ⟨b, off, h1, by simpa using h2⟩

theorem same_at (a a2 : Option Addr) (c c2 L : Nat) (ys : List Int) (w : World) (hl : ys.length = L) (hc : L ≤ 1000000000) (h1 : Reads w a ys) (h2 : Reads w a2 ys) :
    Calls Tryd.prog 12 #[.slice a L c, .slice a2 L c2] w fun e w' => e = .returned (.bool true) ∧ ∃ m, w' = w.drewN m := by
  subst hl
  exact same_true a a2 c c2 ys w hc h1 h2
end Go.Proofs.Qxb6615018aDoor
