/-
  DERIVED. THE ROW OF 'FnStorageIndexSerialsOfRunningIDsRunOn', PROVED.
-/
import Derived.Test.Qxb6615018aRows
import Derived.Test.Qxb6615018aLaw3
import Derived.ProofKit
import Derived.OpenShut
import Derived.ShutString
namespace Go.Proofs.Qxb6615018a
open Go.ChangeShapes Go.WideShapes Go.ChangeAt Go.RowKit

theorem own3 : ownKnob Try.prog.godebug = none := by kernel_rfl
theorem laidOut3 : laidOutB Try.prog = true := by kernel_rfl

set_option maxRecDepth 100000 in
/-- An array of 16 bytes, as it comes in. -/
theorem open_gd {H : Type} {enc : TypeId × Value → H} {W : World} {base b0 : Nat} {sp : Nat → Bool} {held : Bool} {t : TypeId} {v : Value} {d : DataW H} {ps : List MemPlace} (ht : Try.prog.underlying t = some (.array 16 5)) (hc : Try.prog.cellsOf t = 16)
    (hval : Value.okWide Try.prog W .any base t v) (hd : DataW.Trod enc Try.prog W b0 sp held t v d ps) : ∃ g : Gd, v = .agg (encG g).toArray := by
  unfold Value.okWide at hval
  rw [ht] at hval
  obtain ⟨cs, rfl, hcs, _⟩ := hval
  rw [hc] at hcs
  obtain ⟨fuel, hf⟩ := hd
  obtain ⟨xs, m, _, _, _, hxl, hel⟩ := DataW.trod_array ht hf
  have c5 : Try.prog.cellsOf 5 = 1 := by kernel_rfl
  have hb : ∀ i (hi : i < 16), ∃ b : UInt8, cs[i]'(by omega) = .int .u8 (b.toNat : Int) := fun i hi => by
    have h1 := hel i hi
    rw [List.getElem?_eq_getElem (by omega), c5, Nat.mul_one] at h1
    obtain ⟨z, hz, _, hw⟩ := DataW.trod_int Try.underlying5 h1
    have hbd := bounds_u8 hw
    have hlt : i < cs.toList.length := by simp; omega
    have h2 : (Value.agg cs).cells.toList = cs.toList := rfl
    rw [h2, List.drop_eq_getElem_cons hlt] at hz
    simp only [List.take_succ_cons, List.take_zero, List.cons.injEq, and_true] at hz
    refine ⟨UInt8.ofNat z.toNat, ?_⟩
    have e : ((UInt8.ofNat z.toNat).toNat : Int) = z := by
      have : (UInt8.ofNat z.toNat).toNat = z.toNat := by simp; omega
      rw [this]; omega
    rw [e, ← hz]
    simp
  refine ⟨Vector.ofFn fun i => (hb i.1 i.2).choose, ?_⟩
  refine congrArg Value.agg (Array.ext ?_ ?_)
  · simp [encG, hcs]
  · intro i h1 h2
    have hi : i < 16 := by omega
    rw [(hb i hi).choose_spec]
    simp [encG]

set_option maxRecDepth 100000 in
theorem lifted3 (os : Os) (started : os.Started) (H : Type) (enc : TypeId × Value → H) :
    ReturnsInHanded {} Try.checked os 3 .any (Rows.fnStorageIndexSerialsOfRunningIDsRunOnSpec.pre6 enc Try.prog Try.f3 Rows.fnStorageIndexSerialsOfRunningIDsRunOnRow.domain false) (Rows.fnStorageIndexSerialsOfRunningIDsRunOnSpec.post enc Try.prog Try.f3 false true false false) := by
  refine returnsInHanded_of_change (C := Try.checked) own3 started (by kernel_rfl) Try.func3
    (ChangeSpec.witness6 (enc := enc) (C := Try.checked) false ⟨#[], #[.agg (encG (Vector.replicate 16 0)).toArray, .int .u32 0, .bool false], []⟩ 8 (by kernel_rfl) (by kernel_rfl) (by kernel_rfl) (by kernel_rfl)) ?_
  intro W base args ds gs before hval0 hW hcnd _
  have hval : ∀ (j : Nat) t v, Try.f3.params[j]? = some t → args[j]? = some v → Value.okWide Try.prog W .any base t v := hval0
  have hW' := hW
  obtain ⟨p, q, hA0, hV, rfl, hfz, hnd⟩ := hW
  have hA : DataW.TrodAll enc Try.prog W 0 (fun _ => true) true Try.f3.params.toList args.toList ds p := hA0
  rw [Try.params3] at hA hval
  obtain ⟨v0, vs0, d0, ds0, p0, q0, hargs, rfl, rfl, h0, r0⟩ := trodAll_cons hA
  obtain ⟨v1, vs1, d1, ds1, p1, q1, rfl, rfl, rfl, h1, r1⟩ := trodAll_cons r0
  obtain ⟨v2, vs2, d2, ds2, p2, q2, rfl, rfl, rfl, h2, r2⟩ := trodAll_cons r1
  obtain ⟨rfl, rfl, rfl⟩ := trodAll_nil r2
  obtain rfl : args = #[v0, v1, v2] := by cases args; simp_all
  obtain ⟨rfl, rfl⟩ := trodVars_none hV
  have k0 := h0
  have lt0 : ∀ x ∈ p0, x.block < W.heap.size := by obtain ⟨m, hm⟩ := k0; exact DataW.trod_lt m _ _ _ hm
  obtain ⟨g, rfl⟩ := open_gd Try.underlying22 (by kernel_rfl) (hval 0 22 v0 rfl rfl) h0
  obtain ⟨n, rfl, rfl, rfl, w1⟩ := open_int Try.underlying23 (hval 1 23 v1 rfl rfl) h1
  obtain ⟨sw, rfl, rfl, rfl⟩ := open_bool Try.underlying4 (hval 2 4 v2 rfl rfl) h2
  clear hA0 hval0
  have hb := bounds_u32 w1
  obtain ⟨m, rfl⟩ : ∃ m : Nat, n = (m : Int) := ⟨n.toNat, by omega⟩
  refine (law3_any g m (by omega) sw W).mono fun e W' ⟨he, bel⟩ => ?_
  subst he
  exact ⟨_, rfl, _, _, _, [], _, [], hW', trodAll_mk1 (shut_bool Try.underlying4 _), (trodAll_cons_mk (Below.trod laidOut3 (by kernel_rfl) (of_decide_eq_true (by kernel_rfl)) k0 bel lt0) (trodAll_cons_mk (shut_int Try.underlying23 w1) (trodAll_cons_mk (shut_bool Try.underlying4 _) trodAll_mk0))), rfl, bel.frame _, fun h => by cases h⟩

/-- ████ THE STATEMENT ████ -/
theorem proved3 : Rows.FnStorageIndexSerialsOfRunningIDsRunOnSaid :=
  OpenClaim.holds_of_wide 3 Try.f3 rfl rfl rfl rfl rfl rfl rfl ⟨rfl, rfl, rfl, rfl, rfl⟩ rfl rfl rfl rfl rfl (by kernel_rfl) Try.func3 (by kernel_rfl)
    (of_decide_eq_true (by kernel_rfl)) (by unfold Func.isWrapper; first | (rw [if_pos (by decide +kernel)]; kernel_rfl) | (rw [if_neg (by decide +kernel)]; exact ⟨rfl, rfl⟩))
    (fun os started H enc _ => lifted3 os started H enc)
end Go.Proofs.Qxb6615018a
