/-
  DERIVED. '==' on serial numbers, and the null one.
-/
import Derived.Test.Qxb6615018aRepl
namespace Go.Proofs.Qxb6615018a
open Go.RowKit Go.Sort

theorem encS_ext (s : Sn) : (encS s).toArray.extract 0 (0 + 16) = (encG s.1).toArray := by
  have := encS_take s
  simp only [Nat.zero_add]
  rw [← this]
  simp [List.extract_toArray]

theorem part_S0 (tg : TypeId) (ha : ∀ w, (isAgg tg).run Try.prog w = .ok true w) (hz : ∀ w, (Go.sizeOf tg).run Try.prog w = .ok 16 w) (s : Sn) (w : World) : (part tg (encS s).toArray 0).run Try.prog w = .ok (.agg (encG s.1).toArray) w := by
  unfold part
  simp only [Sem.run_bind, ha, hz, Result.andThen_ok, if_true, Sem.run_pure, encS_ext]
theorem part_S1 (s : Sn) (w : World) : (part 25 (encS s).toArray 16).run Try.prog w = .ok (.int .u64 (s.2.toNat : Int)) w := by
  have ha : ∀ w, (isAgg 25).run Try.prog w = .ok false w := fun w => by simp [go_sem]
  unfold part
  simp only [Sem.run_bind, ha, Result.andThen_ok, Bool.false_eq_true, if_false]
  rw [List.getElem?_toArray, encS_16]
  rfl

theorem eqS (t tg : TypeId) (hu : Try.prog.underlying t = some (TypeDesc.struct
      #[{ name := "GUID", type := tg, offset := 0, embedded := false, tag := "", pkgPath := "", byteOffset := 0 },
        { name := "N", type := 25, offset := 16, embedded := false, tag := "", pkgPath := "", byteOffset := 16 }])) (hg : Try.prog.underlying tg = some (.array 16 5)) (hs : Try.prog.stoodInHeld t = false)
    (ha : ∀ w, (isAgg tg).run Try.prog w = .ok true w) (hz : ∀ w, (Go.sizeOf tg).run Try.prog w = .ok 16 w) (a b : Sn) (w : World) : (binOp .eql t (.agg (encS a).toArray) (.agg (encS b).toArray)).run Try.prog w = .ok (.bool (a == b)) w := by
  rw [run_eql_struct]
  have h0 : Sem.run Try.prog (Op.equalIn 10000 t (Value.agg (encS a).toArray) (Value.agg (encS b).toArray)) w = .ok (a == b) w := by
    unfold Op.equalIn
    simp only [Sem.run_bind, run_underlying hu, Result.andThen_ok]
    have hp : Sem.run Try.prog program w = .ok Try.prog w := rfl
    rw [hp]
    simp only [Result.andThen_ok, hs, Bool.false_eq_true, if_false]
    have n1 : ("GUID" : String) ≠ "_" := by decide
    have n2 : ("N" : String) ≠ "_" := by decide
    simp only [List.forIn_toArray, List.forIn_cons, List.forIn_nil, Sem.run_bind, n1, n2, ne_eq, not_false_eq_true, if_true, part_S0 tg ha hz, Result.andThen_ok]
    rw [eqG 9997 tg hg a.1 b.1 w]
    simp only [Result.andThen_ok]
    by_cases e : a.1 = b.1
    · simp only [e, beq_self_eq_true, Bool.not_true, Bool.false_eq_true, if_false, Sem.run_pure, Result.andThen_ok, Sem.run_bind, part_S1]
      rw [run_equalIn_int w 9998 25 .u64 .u64 _ _ Try.underlying25]
      simp only [Result.andThen_ok]
      by_cases e2 : a.2 = b.2
      · have : a = b := Prod.ext e e2
        subst this
        simp
      · have h1 : ((a.2.toNat : Int) == (b.2.toNat : Int)) = false := by
          simp only [beq_eq_false_iff_ne, ne_eq, Int.natCast_inj]
          exact fun hh => e2 (UInt64.toNat_inj.1 hh)
        have h2 : (a == b) = false := by simp only [beq_eq_false_iff_ne, ne_eq]; exact fun hh => e2 (by rw [hh])
        rw [h1, h2]
        simp
    · have h1 : (a.1 == b.1) = false := by simpa using e
      have h2 : (a == b) = false := by simp only [beq_eq_false_iff_ne, ne_eq]; exact fun hh => e (by rw [hh])
      rw [h1, h2]
      simp
  rw [h0]
  rfl

theorem eqlS27 (a b : Sn) (w : World) : (binOp .eql 27 (.agg (encS a).toArray) (.agg (encS b).toArray)).run Try.prog w = .ok (.bool (a == b)) w :=
  eqS 27 24 Try.underlying27 Try.underlying24 (by kernel_rfl) Try.isAgg24 Try.sizeOf24 a b w
def nullS : Sn := (Vector.replicate 16 0, 0)
theorem buildNull (w : World) : (Instr.build 27 #[]).run Try.prog w = .ok (.agg (encS nullS).toArray) w := by kernel_rfl
end Go.Proofs.Qxb6615018a
