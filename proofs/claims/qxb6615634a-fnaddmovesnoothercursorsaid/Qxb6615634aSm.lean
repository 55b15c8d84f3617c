/-
  DERIVED. The law's own small helpers: firstOfMember, highest, the two bounds on size.
-/
import Derived.Test.Qxb6615634aNewH
namespace Go.Proofs.Qxb6615634a
open Go.RowKit Go.Sort

theorem eqlI22 (g h : Id) (w : World) : (binOp .eql 22 (.agg (encI g).toArray) (.agg (encI h).toArray)).run Try.prog w = .ok (.bool (g == h)) w := by
  rw [run_eql_struct]
  rw [eqI 9998 22 Try.underlying22 g h w]
  rfl

/-- The fields of head i. -/
theorem rd_hd {w : World} {b o : Nat} {xs : List Hd} {B : Nat} (h : RdB encH 66 B w (some ⟨b, o, none⟩) xs) (i : Nat) (hi : i < xs.length) (k32 : Nat) (hk : k32 = 32) :
    Sem.run Try.prog (loadCellsFrom ⟨b, o + i * 66 + 34, none⟩ 0 k32 #[]) w = .ok (encI xs[i].rev).toArray w ∧ w.cell? ⟨b, o + i * 66 + 32, none⟩ = some (.string xs[i].mem) ∧ w.cell? ⟨b, o + i * 66 + 33, none⟩ = some (.int .u64 (xs[i].num.toNat : Int)) := by
  subst hk
  obtain ⟨b', o', h1, _, h3⟩ := h i hi
  simp only [Option.some.injEq, Addr.mk.injEq, and_true] at h1
  obtain ⟨rfl, rfl⟩ := h1
  refine ⟨?_, h3 32 _ (encH_32 _), h3 33 _ (encH_33 _)⟩
  have := run_loadCells_list (P := Try.prog) w ⟨b, o + i * 66 + 34, none⟩ (encI xs[i].rev) (fun j v hj => by
    have hadd : (⟨b, o + i * 66 + 34, none⟩ : Addr).add j = ⟨b, o + i * 66 + (34 + j), none⟩ := by unfold Addr.add; split <;> simp_all [Nat.add_assoc]
    rw [hadd]
    refine h3 (34 + j) v ?_
    have := encH_rev xs[i] j v hj
    rwa [List.getElem?_toArray] at this)
  rw [encI_length] at this
  simpa [loadCells] using this

set_option maxRecDepth 100000 in
set_option maxHeartbeats 1000000 in
/-- firstOfMember. -/
theorem first_any (a : Option Addr) (c : Nat) (hs : List Hd) (i : Nat) (hi : i < hs.length) (w : World) (h : RdB encH 66 w.heap.size w a hs) (hL : hs.length ≤ 1000000) :
    Calls Try.prog 16 #[.slice a hs.length c, .int .i64 i] w fun e w' => (∃ b : Bool, Hid (b = true ↔ ∀ j (hj : j < hs.length), j < i → hs[j].mem ≠ hs[i].mem) ∧ e = .returned (.bool b)) ∧ Below w.heap.size w w' := by
  obtain ⟨k32, k66, ⟨z22, z27, z38, z55, n32, n66⟩, HK⟩ := sz_ex
  clear z22 z27 z55 n32
  have mixed : Try.prog.follows .mixedOrders = true := by kernel_rfl
  have H : Hid (RdB encH 66 w.heap.size w a hs) := h
  obtain ⟨b, o, rfl, _⟩ := h i hi
  clear h
  obtain ⟨x, hx⟩ : ∃ x, x = hs[i] := ⟨_, rfl⟩
  rw [← hx]
  have HX : Hid (x = hs[i]) := hx
  clear hx
  go_enter Try.func16, Try.ntmps16
  go_wp2
  go_loopg [5] i (fun gk jv wr => ∃ j : Nat, jv = .int .i64 j ∧ gk = i - j ∧ j ≤ i ∧ Hid (Below w.heap.size w wr ∧ ∀ k (hk : k < hs.length), k < j → hs[k].mem ≠ x.mem))
  case atStart => exact ⟨0, rfl, rfl, by omega, Below.refl _ _, fun k _ h => absurd h (by omega)⟩
  case round =>
    obtain ⟨j, rfl, hgk, hjl, HJ⟩ := hrel
    rcases Nat.eq_or_lt_of_le hjl with hE | hE
    · subst hE
      go_wp2
      go_ret
      exact ⟨⟨true, ⟨fun _ => HJ.out.2, fun _ => rfl⟩, rfl⟩, HJ.out.1⟩
    · have hj : j < hs.length := by omega
      obtain ⟨y, hy⟩ : ∃ y, y = hs[j] := ⟨_, rfl⟩
      have f1 := (rd_hd (H.out.below HJ.out.1) j hj k32 HK.out.1).2.1
      have f2 := (rd_hd (H.out.below HJ.out.1) i hi k32 HK.out.1).2.1
      rw [← hy] at f1
      rw [← HX.out] at f2
      rw [← HK.out.2] at f1 f2
      have HY : Hid (y = hs[j]) := hy
      have jb0 : (0 : Int) ≤ (j : Int) := by omega
      have jb : (j : Int) < (hs.length : Int) := by omega
      have ib0 : (0 : Int) ≤ (i : Int) := by omega
      have ib : (i : Int) < (hs.length : Int) := by omega
      have jbi : (j : Int) < (i : Int) := by omega
      clear hy
      by_cases q : y.mem = x.mem
      · have qb : (y.mem.toList == x.mem.toList) = true := by rw [toList_beq]; simpa using q
        have HF : Hid (∀ q', (∃ b : Bool, Hid (b = true ↔ ∀ j (hj : j < hs.length), j < i → hs[j].mem ≠ x.mem) ∧ Ending.returned (.bool false) = .returned (.bool b)) ∧ Below w.heap.size w (wr.drewN q')) := fun q' =>
          ⟨⟨false, ⟨fun hh => absurd hh (by decide), fun hh => absurd (by rw [← HY.out]; exact q) (hh j hj hE)⟩, rfl⟩, ⟨HJ.out.1.os, HJ.out.1.tape, HJ.out.1.output, HJ.out.1.size, HJ.out.1.block⟩⟩
        clear q
        go_upto_region 4 with fail
        go_quiet (fail)
        go_wp2
        go_ret
        exact HF.out _
      · have qb : (y.mem.toList == x.mem.toList) = false := by rw [toList_beq]; simpa using q
        have HQ : Hid (y.mem ≠ x.mem) := q
        clear q
        go_upto_region 4 with fail
        go_quiet (fail)
        go_wp2
        go_roundg (i - (j + 1))
        case measure => omega
        case rel => exact ⟨j + 1, by go_num, rfl, by omega, ⟨HJ.out.1.os, HJ.out.1.tape, HJ.out.1.output, HJ.out.1.size, HJ.out.1.block⟩, fun k hk hkj => by
          by_cases e : k = j
          · subst e; rw [← HY.out]; exact HQ.out
          · exact HJ.out.2 k hk (by omega)⟩

set_option maxRecDepth 100000 in
set_option maxHeartbeats 1000000 in
/-- highest. -/
theorem highest_any (a : Option Addr) (c : Nat) (hs : List Hd) (m : ByteArray) (id : Id) (w : World) (h : RdB encH 66 w.heap.size w a hs) (hL : hs.length ≤ 1000000) :
    Calls Try.prog 24 #[.slice a hs.length c, .string m, .agg (encI id).toArray] w fun e w' => e = .returned (.int .u64 ((hiR m id hs.reverse).toNat : Int)) ∧ Below w.heap.size w w' := by
  obtain ⟨k32, k66, ⟨z22, z27, z38, z55, n32, n66⟩, HK⟩ := sz_ex
  clear z27 z55
  have mixed : Try.prog.follows .mixedOrders = true := by kernel_rfl
  have h22 := eqlI22
  have H : Hid (RdB encH 66 w.heap.size w a hs) := h
  clear h
  obtain ⟨w1, hw1⟩ : ∃ w1, w1 = w.alloc (.cells (encI id).toArray 22) := ⟨_, rfl⟩
  have H1 : Hid (Below w.heap.size w w1 ∧ w1.heap[w.heap.size]? = some (.cells (encI id).toArray 22 (0, 0)) ∧ w.heap.size < w1.heap.size) := by rw [hw1]; exact ⟨(Below.refl _ _).alloc (Nat.le_refl _) _, heap_alloc_last _ _, by simp⟩
  go_enter Try.func24, Try.ntmps24
  go_wp2
  rw [← hw1]
  clear hw1
  go_loopg [7, 8] hs.length (fun gk bv jv wr => ∃ (j : Nat) (n : UInt64), jv = .int .i64 j ∧ bv = .int .u64 (n.toNat : Int) ∧ gk = hs.length - j ∧ j ≤ hs.length ∧ Hid (Below w1.heap.size w1 wr ∧ n = hiR m id (hs.take j).reverse))
  case atStart => exact ⟨0, 0, rfl, rfl, rfl, by omega, Below.refl _ _, rfl⟩
  case round =>
    obtain ⟨j, n, rfl, rfl, hgk, hjl, HJ⟩ := hrel
    have hbw : Below w.heap.size w wr := H1.out.1.trans (HJ.out.1.mono H1.out.1.size)
    rcases Nat.eq_or_lt_of_le hjl with hE | hE
    · subst hE
      have HF : Hid (n = hiR m id hs.reverse ∧ Below w.heap.size w wr) := ⟨by have := HJ.out.2; rwa [List.take_length] at this, hbw⟩
      clear hbw
      go_wp2
      go_ret
      exact ⟨by rw [← HF.out.1]; rfl, HF.out.2⟩
    · obtain ⟨b, o, heq, _⟩ := H.out j hE
      cases heq
      obtain ⟨x, hx⟩ : ∃ x, x = hs[j] := ⟨_, rfl⟩
      have hbq : ∀ q, Below w.heap.size w (wr.drewN q) := fun q => ⟨hbw.os, hbw.tape, hbw.output, hbw.size, hbw.block⟩
      have f1 := fun q => rd_hd (H.out.below (hbq q)) j hE k32 HK.out.1
      rw [← hx] at f1
      have l1 : ∀ q, Sem.run Try.prog (loadCellsFrom ⟨b, o + j * k66 + 34, none⟩ 0 k32 #[]) (wr.drewN q) = .ok (encI x.rev).toArray (wr.drewN q) := fun q => by rw [HK.out.2]; exact (f1 q).1
      have c1 : wr.cell? ⟨b, o + j * k66 + 32, none⟩ = some (.string x.mem) := by rw [HK.out.2]; exact (f1 0).2.1
      have c2 : wr.cell? ⟨b, o + j * k66 + 33, none⟩ = some (.int .u64 (x.num.toNat : Int)) := by rw [HK.out.2]; exact (f1 0).2.2
      have l2 : ∀ q, Sem.run Try.prog (loadCellsFrom ⟨w.heap.size, 0, none⟩ 0 k32 #[]) (wr.drewN q) = .ok (encI id).toArray (wr.drewN q) := fun q => ld_block (wr.drewN q) w.heap.size 0 _ 22 (0, 0) (encI id) k32 ((HJ.out.1.block _ H1.out.2.2).trans H1.out.2.1) (by rw [encI_length, HK.out.1]) (by simp)
      have jb0 : (0 : Int) ≤ (j : Int) := by omega
      have jb : (j : Int) < (hs.length : Int) := by omega
      have HT : Hid ((hs.take (j + 1)).reverse = x :: (hs.take j).reverse) := by show _ = _; rw [List.take_succ_eq_append_getElem hE, List.reverse_append, ← hx]; rfl
      have HBQ : Hid (∀ q, Below w1.heap.size w1 (wr.drewN q)) := fun q => ⟨HJ.out.1.os, HJ.out.1.tape, HJ.out.1.output, HJ.out.1.size, HJ.out.1.block⟩
      have HSTEP : Hid (hiR m id (hs.take (j + 1)).reverse = if x.rev = id ∧ x.mem = m ∧ n < x.num then x.num else n) := by show _ = _; rw [HT.out, hiR, ← HJ.out.2]
      clear f1 hx hbq hbw
      by_cases q1 : x.rev = id
      · have q1b : (x.rev == id) = true := by simpa using q1
        by_cases q2 : x.mem = m
        · have q2b : (x.mem.toList == m.toList) = true := by rw [toList_beq]; simpa using q2
          by_cases q3 : n < x.num
          · have q3' : (n.toNat : Int) < (x.num.toNat : Int) := by have := UInt64.lt_iff_toNat_lt.1 q3; omega
            have HS : Hid (x.num = hiR m id (hs.take (j + 1)).reverse) := by show _ = _; rw [HSTEP.out, if_pos ⟨q1, q2, q3⟩]
            clear q1 q2 q3
            go_upto_region 5 with fail
            go_quiet (fail)
            obtain ⟨wx, hwx⟩ : ∃ wx, wx = wr.drewN nq := ⟨_, rfl⟩
            rw [← hwx]
            have c2x : wx.cell? ⟨b, o + j * k66 + 33, none⟩ = some (.int .u64 (x.num.toNat : Int)) := by rw [hwx]; exact c2
            have HBx : Hid (Below w1.heap.size w1 wx) := by rw [hwx]; exact HBQ.out _
            clear hwx c1 c2 l1 l2
            go_wp2
            go_roundg (hs.length - (j + 1))
            case measure => omega
            case rel => exact ⟨j + 1, x.num, by go_num, rfl, rfl, by omega, HBx.out, HS.out⟩
          · have q3' : ¬ (n.toNat : Int) < (x.num.toNat : Int) := fun hh => q3 (UInt64.lt_iff_toNat_lt.2 (by omega))
            have HS : Hid (n = hiR m id (hs.take (j + 1)).reverse) := by show _ = _; rw [HSTEP.out, if_neg (fun hh => q3 hh.2.2)]
            clear q1 q2 q3
            go_upto_region 5 with fail
            go_quiet (fail)
            go_wp2
            go_roundg (hs.length - (j + 1))
            case measure => omega
            case rel => exact ⟨j + 1, n, by go_num, rfl, rfl, by omega, HBQ.out _, HS.out⟩
        · have q2b : (x.mem.toList == m.toList) = false := by rw [toList_beq]; simpa using q2
          have HS : Hid (n = hiR m id (hs.take (j + 1)).reverse) := by show _ = _; rw [HSTEP.out, if_neg (fun hh => q2 hh.2.1)]
          clear q1 q2
          go_upto_region 5 with fail
          go_quiet (fail)
          go_wp2
          go_roundg (hs.length - (j + 1))
          case measure => omega
          case rel => exact ⟨j + 1, n, by go_num, rfl, rfl, by omega, HBQ.out _, HS.out⟩
      · have q1b : (x.rev == id) = false := by simpa using q1
        have HS : Hid (n = hiR m id (hs.take (j + 1)).reverse) := by show _ = _; rw [HSTEP.out, if_neg (fun hh => q1 hh.1)]
        clear q1
        go_upto_region 5 with fail
        go_quiet (fail)
        go_wp2
        go_roundg (hs.length - (j + 1))
        case measure => omega
        case rel => exact ⟨j + 1, n, by go_num, rfl, rfl, by omega, HBQ.out _, HS.out⟩
end Go.Proofs.Qxb6615634a
