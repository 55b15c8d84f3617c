/-
  DERIVED. The heads, as they come in.
-/
import Derived.Test.Qxb6615634aTo
import Derived.ProofKit
import Derived.OpenShut
import Derived.ShutString
import Derived.Deep.Slices
import Derived.Lib.SmallJoins
namespace Go.Proofs.Qxb6615634a
open Go.ChangeShapes Go.WideShapes Go.ChangeAt Go.RowKit

theorem Try.cells5 : Try.prog.cellsOf 5 = 1 := by kernel_rfl
theorem Try.cells9 : Try.prog.cellsOf 9 = 1 := by kernel_rfl
theorem Try.cells23 : Try.prog.cellsOf 23 = 1 := by kernel_rfl
theorem Try.cells22 : Try.prog.cellsOf 22 = 32 := by kernel_rfl
theorem Try.cells38 : Try.prog.cellsOf 38 = 66 := by kernel_rfl

section
variable {H : Type} {enc : TypeId × Value → H} {W : World} {b0 : Nat} {sp : Nat → Bool} {held : Bool}

theorem addr_add (b o j : Nat) : (⟨b, o, none⟩ : Addr).add j = ⟨b, o + j, none⟩ := by unfold Addr.add; split <;> simp_all

set_option maxRecDepth 100000 in
/-- Thirty-two bytes. -/
theorem id_of {fuel : Nat} {cs : List Value} {x : DataW H × List MemPlace} (h : DataW.trod enc Try.prog W b0 sp held fuel 22 cs = some x) : ∃ g : Id, cs = encI g := by
  obtain ⟨xs, m, _, _, hl, hxl, hel⟩ := DataW.trod_array Try.underlying22 h
  rw [Try.cells22] at hl
  have hb : ∀ i (hi : i < 32), ∃ b : UInt8, cs[i]'(by omega) = .int .u8 (b.toNat : Int) := fun i hi => by
    have h1 := hel i hi
    rw [List.getElem?_eq_getElem (by omega), Try.cells5, Nat.mul_one] at h1
    obtain ⟨z, hz, _, hw⟩ := DataW.trod_int Try.underlying5 h1
    have hbd := bounds_u8 hw
    rw [List.drop_eq_getElem_cons (by omega)] at hz
    simp only [List.take_succ_cons, List.take_zero, List.cons.injEq, and_true] at hz
    refine ⟨UInt8.ofNat z.toNat, ?_⟩
    have e : ((UInt8.ofNat z.toNat).toNat : Int) = z := by
      have : (UInt8.ofNat z.toNat).toNat = z.toNat := by simp; omega
      rw [this]; omega
    rw [e, ← hz]
  refine ⟨Vector.ofFn fun i => (hb i.1 i.2).choose, ?_⟩
  refine List.ext_getElem ?_ ?_
  · rw [encI_length, hl]
  · intro i h1 h2
    have hi : i < 32 := by omega
    rw [(hb i hi).choose_spec]
    simp [encI]

set_option maxRecDepth 100000 in
/-- One head. -/
theorem hd_of {fuel : Nat} {cs : List Value} {x : DataW H × List MemPlace} (h : DataW.trod enc Try.prog W b0 sp held fuel 38 cs = some x) : ∃ s : Hd, cs = encH s ∧ s.mem.size ≤ maxLen := by
  obtain ⟨y0, y1, y2, y3, n, _, hl, h0, h1, h2, h3⟩ := Go.Joins.trod_struct4 Try.underlying38 h
  rw [Try.cells38] at hl
  have h0' : DataW.trod enc Try.prog W b0 sp held n 22 ((cs.drop 0).take 32) = some y0 := by rw [← Try.cells22]; exact h0
  have h1' : DataW.trod enc Try.prog W b0 sp held n 9 ((cs.drop 32).take 1) = some y1 := by rw [← Try.cells9]; exact h1
  have h2' : DataW.trod enc Try.prog W b0 sp held n 23 ((cs.drop 33).take 1) = some y2 := by rw [← Try.cells23]; exact h2
  have h3' : DataW.trod enc Try.prog W b0 sp held n 22 ((cs.drop 34).take 32) = some y3 := by rw [← Try.cells22]; exact h3
  obtain ⟨g, hg⟩ := id_of h0'
  obtain ⟨m, hm, _, hms⟩ := DataW.trod_string Try.underlying9 h1'
  obtain ⟨z, hz, _, hw⟩ := DataW.trod_int Try.underlying23 h2'
  obtain ⟨r, hr⟩ := id_of h3'
  have hbd := bounds_u64 hw
  refine ⟨⟨g, m, UInt64.ofNat z.toNat, r⟩, ?_, hms⟩
  have e : ((UInt64.ofNat z.toNat).toNat : Int) = z := by
    have : (UInt64.ofNat z.toNat).toNat = z.toNat := by simp; omega
    rw [this]; omega
  have d3 : cs.drop 34 = encI r := by rw [← hr]; exact (List.take_of_length_le (by simp; omega)).symm
  have d2 : cs.drop 33 = .int .u64 z :: encI r := by
    have := List.take_append_drop 1 (cs.drop 33)
    rw [hz, List.drop_drop, d3] at this
    exact this.symm
  have d1 : cs.drop 32 = .string m :: .int .u64 z :: encI r := by
    have := List.take_append_drop 1 (cs.drop 32)
    rw [hm, List.drop_drop, d2] at this
    exact this.symm
  have d0 := List.take_append_drop 32 (cs.drop 0)
  rw [hg, List.drop_drop, d1, List.drop_zero] at d0
  rw [encH, e, ← d0]
  rfl

theorem cell_lt {a : Addr} {v : Value} (h : W.cell? a = some v) : a.block < W.heap.size := by
  rcases Nat.lt_or_ge a.block W.heap.size with h1 | h1
  · exact h1
  · have h2 : W.heap[a.block]? = none := Array.getElem?_eq_none h1
    simp [World.cell?, h2] at h

set_option maxRecDepth 100000 in
/-- The heads. -/
theorem hds_in {base : Nat} {v : Value} {d : DataW H} {ps : List MemPlace} (hval : Value.okWide Try.prog W .any base 36 v) (hd : DataW.Trod enc Try.prog W b0 sp held 36 v d ps) :
    ∃ (a : Option Addr) (c : Nat) (ss : List Hd), v = .slice a ss.length c ∧ ss.length ≤ 9223372036854775807 ∧ RdB encH 66 W.heap.size W a ss := by
  obtain ⟨a, len, cap, rfl⟩ := okWide_slice Try.underlying36 hval
  obtain ⟨fuel, hf⟩ := hd
  rcases Go.Deep.open_slice Try.underlying36 hf with ⟨hcs, _⟩ | ⟨x, l, c, m, n, D, Pl, hcs, _, hl, hm, hmm, _, hx⟩
  · simp [Value.cells] at hcs
    obtain ⟨rfl, rfl, rfl⟩ := hcs
    exact ⟨none, 0, [], rfl, by simp, fun i hi => absurd hi (by simp)⟩
  · simp [Value.cells] at hcs
    obtain ⟨rfl, rfl, rfl⟩ := hcs
    have hlm : len ≤ m := by rw [hmm]; split <;> omega
    have hspot : x.spot = none := by
      unfold Value.okWide at hval
      rw [Try.underlying36] at hval
      unfold Cell.okWide at hval
      simp only [Try.underlying36] at hval
      unfold Cell.ok at hval
      simp only [Try.underlying36] at hval
      exact hval.2.2.2.1
    obtain ⟨b, o, spot⟩ := x
    obtain rfl : spot = none := hspot
    have hex : ∀ i, i < len → ∃ s : Hd, ∀ j v, (encH s)[j]? = some v → W.cell? ⟨b, o + i * 66 + j, none⟩ = some v := fun i hi => by
      obtain ⟨cs', h1, h2⟩ := hx i (by omega)
      obtain ⟨s, rfl, _⟩ := hd_of h2
      refine ⟨s, fun j v hj => ?_⟩
      rw [Try.cells38] at h1
      obtain ⟨_, _, hc⟩ := World.cells?_some h1
      have hj66 : j < 66 := by have := (List.getElem?_eq_some_iff.1 hj).1; rwa [encH_length] at this
      have := hc j hj66
      rw [addr_add, addr_add] at this
      rw [this]; exact hj
    obtain ⟨f, hfn⟩ : ∃ f : Nat → Hd, ∀ i, i < len → ∀ j v, (encH (f i))[j]? = some v → W.cell? ⟨b, o + i * 66 + j, none⟩ = some v :=
      ⟨fun i => if h : i < len then (hex i h).choose else ⟨Vector.replicate 32 0, .empty, 0, Vector.replicate 32 0⟩, fun i hi => by simp only [hi, dif_pos]; exact (hex i hi).choose_spec⟩
    refine ⟨some ⟨b, o, none⟩, cap, (List.range len).map f, by simp, by unfold maxLen at hm; simp; omega, fun i hi => ?_⟩
    have hi' : i < len := by simpa using hi
    have hcell : ∀ j v, (encH ((List.range len).map f)[i])[j]? = some v → W.cell? ⟨b, o + i * 66 + j, none⟩ = some v := fun j v hj => hfn i hi' j v (by simpa using hj)
    refine ⟨b, o, rfl, ?_, hcell⟩
    exact cell_lt (hcell 32 _ (encH_32 _))

/-- One head, as an argument. -/
theorem hd_in {base : Nat} {v : Value} {d : DataW H} {ps : List MemPlace} (hval : Value.okWide Try.prog W .any base 38 v) (hd : DataW.Trod enc Try.prog W b0 sp held 38 v d ps) :
    ∃ s : Hd, v = .agg (encH s).toArray ∧ s.mem.size ≤ 9223372036854775807 := by
  obtain ⟨cs, rfl, _⟩ := okWide_struct Try.underlying38 hval
  obtain ⟨fuel, hf⟩ := hd
  obtain ⟨s, hs, hm⟩ := hd_of hf
  refine ⟨s, ?_, by unfold maxLen at hm; omega⟩
  rw [← hs]
  simp [Value.cells]
end
end Go.Proofs.Qxb6615634a
