/-
  DERIVED. A batch of serial numbers, as it comes in.
-/
import Derived.Test.Qxb6615018aRead
import Derived.ProofKit
import Derived.OpenShut
import Derived.ShutString
import Derived.Deep.Slices
namespace Go.Proofs.Qxb6615018a
open Go.ChangeShapes Go.WideShapes Go.ChangeAt Go.RowKit

section
variable {H : Type} {enc : TypeId × Value → H} {W : World} {b0 : Nat} {sp : Nat → Bool} {held : Bool}

set_option maxRecDepth 100000 in
/-- Sixteen bytes. -/
theorem gd_of {fuel : Nat} {cs : List Value} {x : DataW H × List MemPlace} (h : DataW.trod enc Try.prog W b0 sp held fuel 22 cs = some x) : ∃ g : Gd, cs = encG g := by
  obtain ⟨xs, m, _, _, hl, hxl, hel⟩ := DataW.trod_array Try.underlying22 h
  have c5 : Try.prog.cellsOf 5 = 1 := by kernel_rfl
  have c22 : Try.prog.cellsOf 22 = 16 := by kernel_rfl
  rw [c22] at hl
  have hb : ∀ i (hi : i < 16), ∃ b : UInt8, cs[i]'(by omega) = .int .u8 (b.toNat : Int) := fun i hi => by
    have h1 := hel i hi
    rw [List.getElem?_eq_getElem (by omega), c5, Nat.mul_one] at h1
    obtain ⟨z, hz, _, hw⟩ := DataW.trod_int Try.underlying5 h1
    have hbd := bounds_u8 hw
    rw [List.drop_eq_getElem_cons (by omega)] at hz
    simp only [List.take_succ_cons, List.take_zero, List.cons.injEq, and_true] at hz
    refine ⟨UInt8.ofNat z.toNat, ?_⟩
    have e : ((UInt8.ofNat z.toNat).toNat : Int) = z := by
      have : (UInt8.ofNat z.toNat).toNat = z.toNat := by simp; omega
      rw [this]; omega
    rw [e, ← hz]
  refine ⟨Vector.ofFn fun i => (hb i.1 i.2).choose, ?_⟩
  refine List.ext_getElem ?_ ?_
  · rw [encG_length, hl]
  · intro i h1 h2
    have hi : i < 16 := by omega
    rw [(hb i hi).choose_spec]
    simp [encG]

set_option maxRecDepth 100000 in
/-- One serial number. -/
theorem sn_of {fuel : Nat} {cs : List Value} {x : DataW H × List MemPlace} (h : DataW.trod enc Try.prog W b0 sp held fuel 53 cs = some x) : ∃ s : Sn, cs = encS s := by
  obtain ⟨y0, y1, n, _, hl, h0, h1⟩ := trod_struct2 Try.underlying53 h
  have c53 : Try.prog.cellsOf 53 = 17 := by kernel_rfl
  have c22 : Try.prog.cellsOf 22 = 16 := by kernel_rfl
  have c25 : Try.prog.cellsOf 25 = 1 := by kernel_rfl
  rw [c53] at hl
  have h0' : DataW.trod enc Try.prog W b0 sp held n 22 ((cs.drop 0).take 16) = some y0 := by rw [← c22]; exact h0
  have h1' : DataW.trod enc Try.prog W b0 sp held n 25 ((cs.drop 16).take 1) = some y1 := by rw [← c25]; exact h1
  obtain ⟨g, hg⟩ := gd_of h0'
  obtain ⟨z, hz, _, hw⟩ := DataW.trod_int Try.underlying25 h1'
  have hbd := bounds_u64 hw
  refine ⟨(g, UInt64.ofNat z.toNat), ?_⟩
  have e : ((UInt64.ofNat z.toNat).toNat : Int) = z := by
    have : (UInt64.ofNat z.toNat).toNat = z.toNat := by simp; omega
    rw [this]; omega
  have hd : cs.drop 16 = [.int .u64 z] := by
    rw [← hz]; exact (List.take_of_length_le (by simp; omega)).symm
  rw [encS, e, ← hg, ← hd, List.drop_zero]
  exact (List.take_append_drop 16 cs).symm

theorem cell_lt {a : Addr} {v : Value} (h : W.cell? a = some v) : a.block < W.heap.size := by
  rcases Nat.lt_or_ge a.block W.heap.size with h1 | h1
  · exact h1
  · have h2 : W.heap[a.block]? = none := Array.getElem?_eq_none h1
    simp [World.cell?, h2] at h

set_option maxRecDepth 100000 in
/-- The batch. -/
theorem sns_in {base : Nat} {v : Value} {d : DataW H} {ps : List MemPlace} (hval : Value.okWide Try.prog W .any base 42 v) (hd : DataW.Trod enc Try.prog W b0 sp held 42 v d ps) :
    ∃ (a : Option Addr) (c : Nat) (ss : List Sn), v = .slice a ss.length c ∧ Plain a c ∧ ss.length ≤ c ∧ c ≤ 9223372036854775807 ∧ RdB encS 17 W.heap.size W a ss := by
  obtain ⟨a, len, cap, rfl⟩ := okWide_slice Try.underlying42 hval
  obtain ⟨fuel, hf⟩ := hd
  have c53 : Try.prog.cellsOf 53 = 17 := by kernel_rfl
  rcases Go.Deep.open_slice Try.underlying42 hf with ⟨hcs, _⟩ | ⟨x, l, c, m, n, D, Pl, hcs, _, hl, hm, hmm, _, hx⟩
  · simp [Value.cells] at hcs
    obtain ⟨rfl, rfl, rfl⟩ := hcs
    exact ⟨none, 0, [], rfl, .inl ⟨rfl, rfl⟩, by simp, by omega, fun i hi => absurd hi (by simp)⟩
  · simp [Value.cells] at hcs
    obtain ⟨rfl, rfl, rfl⟩ := hcs
    have hlm : len ≤ m := by rw [hmm]; split <;> omega
    have hspot : x.spot = none := by
      unfold Value.okWide at hval
      rw [Try.underlying42] at hval
      unfold Cell.okWide at hval
      simp only [Try.underlying42] at hval
      unfold Cell.ok at hval
      simp only [Try.underlying42] at hval
      exact hval.2.2.2.1
    obtain ⟨b, o, spot⟩ := x
    obtain rfl : spot = none := hspot
    have hex : ∀ i, i < len → ∃ s : Sn, ∀ j v, (encS s)[j]? = some v → W.cell? ⟨b, o + i * 17 + j, none⟩ = some v := fun i hi => by
      obtain ⟨cs', h1, h2⟩ := hx i (by omega)
      obtain ⟨s, rfl⟩ := sn_of h2
      refine ⟨s, fun j v hj => ?_⟩
      rw [c53] at h1
      obtain ⟨_, _, hc⟩ := World.cells?_some h1
      have hj17 : j < 17 := by have := (List.getElem?_eq_some_iff.1 hj).1; rwa [encS_length] at this
      have := hc j hj17
      rw [add_plain_sl, add_plain_sl] at this
      rw [this]; exact hj
    obtain ⟨f, hfn⟩ : ∃ f : Nat → Sn, ∀ i, i < len → ∀ j v, (encS (f i))[j]? = some v → W.cell? ⟨b, o + i * 17 + j, none⟩ = some v :=
      ⟨fun i => if h : i < len then (hex i h).choose else (Vector.replicate 16 0, 0), fun i hi => by simp only [hi, dif_pos]; exact (hex i hi).choose_spec⟩
    refine ⟨some ⟨b, o, none⟩, cap, (List.range len).map f, by simp, .inr ⟨b, o, rfl⟩, by simpa using hl, by unfold maxLen at hm; omega, fun i hi => ?_⟩
    have hi' : i < len := by simpa using hi
    have hcell : ∀ j v, (encS ((List.range len).map f)[i])[j]? = some v → W.cell? ⟨b, o + i * 17 + j, none⟩ = some v := fun j v hj => hfn i hi' j v (by simpa using hj)
    refine ⟨b, o, rfl, ?_, hcell⟩
    exact cell_lt (hcell 16 _ (encS_16 _))
end
end Go.Proofs.Qxb6615018a
