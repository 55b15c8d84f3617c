/-
  DERIVED. zzSameSerials.
-/
import Derived.Test.Qxb6615018aZz5
namespace Go.Proofs.Qxb6615018a
open Go.RowKit Go.Sort

theorem neqG_self (g : Gd) (w : World) : (binOp .neq 22 (.agg (encG g).toArray) (.agg (encG g).toArray)).run Try.prog w = .ok (.bool false) w := by
  rw [run_neq_struct]
  rw [eqG 9998 22 (by kernel_rfl) g g w]
  simp

set_option maxRecDepth 100000 in
/-- zzSameSerials at two slices that read alike. -/
theorem sameSerials_true (a1 a2 : Option Addr) (c1 c2 : Nat) (xs : List Sn) (w : World) (h1 : RdB encS 17 w.heap.size w a1 xs) (h2 : RdB encS 17 w.heap.size w a2 xs) (hL : xs.length ≤ 1000000000) :
    Calls Try.prog 12 #[.slice a1 xs.length c1, .slice a2 xs.length c2] w fun e w' => e = .returned (.bool true) ∧ Below w.heap.size w w' := by
  obtain ⟨k16, k17, k18, ⟨z22, z24, z27, z30, z53, z40, z62, n16, n17, n18⟩, HK⟩ := sz_ex
  clear z30 z40 z62 n18
  have mixed : Try.prog.follows .mixedOrders = true := by kernel_rfl
  have q := neqG_self
  have H1 : Hid (RdB encS 17 w.heap.size w a1 xs ∧ RdB encS 17 w.heap.size w a2 xs) := ⟨h1, h2⟩
  clear h1 h2
  go_enter Try.func12, Try.ntmps12
  go_wp2
  go_loopg [5] xs.length (fun gk iv wr => ∃ i : Nat, iv = .int .i64 i ∧ gk = xs.length - i ∧ i ≤ xs.length ∧ Hid (Below w.heap.size w wr))
  case atStart => exact ⟨0, rfl, rfl, by omega, Below.refl _ _⟩
  case round =>
    obtain ⟨i, rfl, hgk, hil, HR⟩ := hrel
    rcases Nat.eq_or_lt_of_le hil with hE | hE
    · subst hE
      go_wp2
      go_ret
      exact ⟨rfl, HR.out⟩
    · obtain ⟨b1, o1, rfl, _⟩ := H1.out.1 i hE
      obtain ⟨b2, o2, rfl, _⟩ := H1.out.2 i hE
      have f1 := fun n => rd_sn (H1.out.1.below (HR.out.trans (((Gr.refl wr).drewN n).below.mono HR.out.size))) i hE k16 HK.out.1
      have f2 := fun n => rd_sn (H1.out.2.below (HR.out.trans (((Gr.refl wr).drewN n).below.mono HR.out.size))) i hE k16 HK.out.1
      obtain ⟨s, hs⟩ : ∃ s, s = xs[i] := ⟨_, rfl⟩
      rw [← hs] at f1 f2
      obtain ⟨sg, sn⟩ := s
      have l1 : ∀ n, Sem.run Try.prog (loadCellsFrom ⟨b1, o1 + i * k17, none⟩ 0 k16 #[]) (wr.drewN n) = .ok (encG sg).toArray (wr.drewN n) := fun n => by rw [HK.out.2.1]; exact (f1 n).1
      have l2 : ∀ n, Sem.run Try.prog (loadCellsFrom ⟨b2, o2 + i * k17, none⟩ 0 k16 #[]) (wr.drewN n) = .ok (encG sg).toArray (wr.drewN n) := fun n => by rw [HK.out.2.1]; exact (f2 n).1
      have c1 : wr.cell? ⟨b1, o1 + i * k17 + 16, none⟩ = some (.int .u64 (sn.toNat : Int)) := by rw [HK.out.2.1]; exact (f1 0).2
      have c2 : wr.cell? ⟨b2, o2 + i * k17 + 16, none⟩ = some (.int .u64 (sn.toNat : Int)) := by rw [HK.out.2.1]; exact (f2 0).2
      have ib0 : (0 : Int) ≤ (i : Int) := by omega
      have ib : (i : Int) < (xs.length : Int) := by omega
      clear f1 f2 hs
      go_upto_region 6 with fail
      go_quiet (fail)
      go_wp2
      go_roundg (xs.length - (i + 1))
      case measure => omega
      case rel => exact ⟨i + 1, by go_num, rfl, by omega, HR.out.trans (((Gr.refl wr).drewN _).below.mono HR.out.size)⟩
end Go.Proofs.Qxb6615018a
