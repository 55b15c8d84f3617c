/-
  DERIVED. The laws' own tests of what a Knowledge holds: its blocks well formed, its ranges apart.
-/
import Derived.Test.Qxb6615018aHeld
import Derived.Test.Qxb6615018aPl5
import Derived.Test.Qxb6615018aZz1
import Derived.Deep.DeepCutAuto
namespace Go.Proofs.Qxb6615018a
open Go.RowKit Go.Sort

theorem Adj.get : ∀ {bs : List (List Rg)}, Adj bs → ∀ (i : Nat) (h : i + 1 < bs.length), 128 < bs[i].length + bs[i + 1].length
  | [], _, _, h => absurd h (by simp)
  | [_], _, _, h => absurd h (by simp)
  | _ :: _ :: _, hA, 0, _ => hA.1
  | _ :: b :: r, hA, i + 1, h => Adj.get (bs := b :: r) hA.2 i (by simpa using h)

set_option maxRecDepth 100000 in
set_option maxHeartbeats 2000000 in
/-- zzBlocksWellFormed. -/
theorem wellFormed_true (B K : Nat) (bs : List (List Rg)) (w : World) (hK : Know B w K bs) (hG : Good bs) (hl : bs.flatten.length ≤ 10000000) :
    Calls Try.prog 16 #[.pointer (some ⟨K, 0, none⟩)] w fun e w' => e = .returned (.bool true) ∧ Below w.heap.size w w' := by
  have mixed : Try.prog.follows .mixedOrders = true := by kernel_rfl
  obtain ⟨kc, v, ps, hK0, ho, hb, hH⟩ := hK
  obtain ⟨aB, cB, rfl⟩ := own_form ho
  have CI : Hid (Calls Try.prog 29 #[.pointer (some ⟨K, 0, none⟩)] w fun e w' => e = .returned (.slice aB bs.length cB) ∧ Below w.heap.size w w') := kblocks_any B K w kc _ hK0 hH
  have HO : Hid (w.ownsRow B 66 1 (.slice aB bs.length cB) bs.length (ps.map ptrV) ∧ BlksAt w ps bs ∧ Good bs) := ⟨ho, hb, hG⟩
  have hbl : bs.length ≤ 10000000 := by have := hG.len_le; omega
  clear ho hb hH hK0 hG hl
  go_enter Try.func16, Try.ntmps16
  go_wp2_with (go_at_call 29; refine CI.out.mono ?_; rintro e w1 ⟨rfl, hb1⟩)
  go_loopg [4, 5] bs.length (fun gk pv iv wr => ∃ i p : Nat, iv = .int .i64 i ∧ pv = .int .i64 p ∧ gk = bs.length - i ∧ i ≤ bs.length ∧ p ≤ 128 ∧ Hid (Below w.heap.size w wr ∧ ∀ b, 0 < i → bs[i - 1]? = some b → p = b.length))
  case atStart => exact ⟨0, 0, rfl, rfl, rfl, by omega, by omega, hb1, fun b h => absurd h (by omega)⟩
  case round =>
    obtain ⟨i, p, rfl, rfl, hgk, hil, hp, HB⟩ := hrel
    rcases Nat.eq_or_lt_of_le hil with hE | hE
    · subst hE
      go_wp2
      go_ret
      exact ⟨rfl, HB.out.1⟩
    · obtain ⟨g, q, ap, rfl, hg1, hp1, cl1, cl2, hpl, hrd⟩ := blk_reads HO.out.1 HO.out.2.1 i hE
      obtain ⟨xs, hxs⟩ : ∃ xs, xs = bs[i] := ⟨_, rfl⟩
      rw [← hxs] at cl2
      have hne := HO.out.2.2.ne bs[i] (List.getElem_mem hE)
      rw [← hxs] at hne
      have hx0 : 0 < xs.length := List.length_pos_iff.2 hne.1
      have hx1 : xs.length ≤ 128 := hne.2
      have hpr : 0 < i → 128 < p + xs.length := fun h0 => by
        have e := HB.out.2 bs[i - 1] h0 (List.getElem?_eq_getElem (by omega))
        have := HO.out.2.2.adj.get (i - 1) (by omega)
        simp only [show i - 1 + 1 = i by omega] at this
        rw [e, hxs]; exact this
      have l1 : wr.cell? ⟨g, i, none⟩ = some (.pointer (some ⟨q, 0, none⟩)) := (HB.out.1.cell (p := ⟨g, i, none⟩) hg1).trans cl1
      have l2 : wr.cell? ⟨q, 0, none⟩ = some (.slice ap xs.length xs.length) := (HB.out.1.cell (p := ⟨q, 0, none⟩) hp1).trans cl2
      have ib : (i : Int) < (bs.length : Int) := by omega
      have ib0 : (0 : Int) ≤ (i : Int) := by omega
      obtain ⟨n, hn⟩ : ∃ n, n = xs.length := ⟨_, rfl⟩
      rw [← hn] at hx0 hx1 hpr l2
      have CB : Hid (Calls Try.prog 30 #[.pointer (some ⟨q, 0, none⟩)] wr fun e w' => e = .returned (.slice ap n n) ∧ w' = wr) := branges_any q _ wr l2
      have HN : Hid (n = bs[i].length) := by show n = _; rw [hn, hxs]
      clear hxs cl1 cl2 hrd hpl l2 hne hn
      by_cases h0 : i = 0
      · subst h0
        go_wp2_with (go_at_call 30; refine CB.out.mono ?_; rintro e w2 ⟨rfl, rfl⟩)
        go_roundg (bs.length - (0 + 1))
        case measure => omega
        case rel => exact ⟨1, n, by go_num, rfl, rfl, by omega, by omega, HB.out.1, fun b _ hb => by
          have : bs[0]? = some bs[0] := List.getElem?_eq_getElem hE
          rw [this] at hb; cases hb; exact HN.out⟩
      · have hpr' := hpr (by omega)
        clear hpr
        go_wp2_with (go_at_call 30; refine CB.out.mono ?_; rintro e w2 ⟨rfl, rfl⟩)
        go_roundg (bs.length - (i + 1))
        case measure => omega
        case rel => exact ⟨i + 1, n, by go_num, rfl, rfl, by omega, by omega, HB.out.1, fun b _ hb => by
          have : bs[i]? = some bs[i] := List.getElem?_eq_getElem hE
          rw [show i + 1 - 1 = i by omega, this] at hb; cases hb; exact HN.out⟩
set_option maxRecDepth 100000 in
set_option maxHeartbeats 2000000 in
/-- zzRangesApart. -/
theorem rangesApart_true (a : Option Addr) (c : Nat) (rs : List Rg) (w : World) (hr : RdB encR 18 w.heap.size w a rs) (hA : Ap rs) (hL : rs.length ≤ 10000000) :
    Calls Try.prog 17 #[.slice a rs.length c] w fun e w' => e = .returned (.bool true) ∧ Below w.heap.size w w' := by
  obtain ⟨k16, k17, k18, ⟨z22, z24, z27, z30, z53, z40, z62, n16, n17, n18⟩, HK⟩ := sz_ex
  clear z24 z27 z30 z53 z62 n17
  have mixed : Try.prog.follows .mixedOrders = true := by kernel_rfl
  have H : Hid (RdB encR 18 w.heap.size w a rs ∧ Ap rs) := ⟨hr, hA⟩
  clear hr hA
  go_enter Try.func17, Try.ntmps17
  go_wp2
  go_loopg [3] rs.length (fun gk iv wr => ∃ i : Nat, iv = .int .i64 i ∧ gk = rs.length - i ∧ i ≤ rs.length ∧ Hid (Below w.heap.size w wr))
  case atStart => exact ⟨0, rfl, rfl, by omega, Below.refl _ _⟩
  case round =>
    obtain ⟨i, rfl, hgk, hil, HB⟩ := hrel
    rcases Nat.eq_or_lt_of_le hil with hE | hE
    · subst hE
      go_wp2
      go_ret
      exact ⟨rfl, HB.out⟩
    · obtain ⟨b, o, rfl, _⟩ := H.out.1 i hE
      have hf := rd_fields (H.out.1.below HB.out) i hE k16 HK.out.1
      have hfw := fwd rs[i] (H.out.2.1 rs[i] (List.getElem_mem hE))
      have HAH : Hid (∀ j (hj : j < rs.length), j + 1 = i → Lib.compareBytes rs[j].1.toList rs[i].1.toList = -1 ∨ (Lib.compareBytes rs[j].1.toList rs[i].1.toList = 0 ∧ rs[j].2.2.toNat + 2 ≤ rs[i].2.1.toNat)) := fun j hj hji => ahead _ _ (List.pairwise_iff_getElem.1 H.out.2.2 j i hj hE (by omega))
      obtain ⟨r, hri⟩ : ∃ r, r = rs[i] := ⟨_, rfl⟩
      rw [← hri] at hf hfw HAH
      have HRI : Hid (r = rs[i]) := hri
      clear hri
      obtain ⟨rg, rf, rt⟩ := r
      have c16 : wr.cell? ⟨b, o + i * k18 + 16, none⟩ = some (.int .u64 (rf.toNat : Int)) := by rw [HK.out.2.2]; exact hf.2.1
      have c17 : wr.cell? ⟨b, o + i * k18 + 17, none⟩ = some (.int .u64 (rt.toNat : Int)) := by rw [HK.out.2.2]; exact hf.2.2
      have hfi : (rf.toNat : Int) ≤ (rt.toNat : Int) := by have : rf.toNat ≤ rt.toNat := hfw; omega
      have ib : (i : Int) < (rs.length : Int) := by omega
      have ib0 : (0 : Int) ≤ (i : Int) := by omega
      clear hf hfw
      go_upto_region 4 with fail
      go_quiet (fail)
      obtain ⟨wx, hwx⟩ : ∃ wx, wx = wr.drewN nq := ⟨_, rfl⟩
      rw [← hwx]
      have HBx : Hid (Below w.heap.size w wx) := by rw [hwx]; exact HB.out.trans (((Gr.refl wr).drewN _).below.mono HB.out.size)
      clear hwx c16 c17 HB
      by_cases h0 : i = 0
      · subst h0
        go_wp2
        go_roundg (rs.length - (0 + 1))
        case measure => omega
        case rel => exact ⟨1, by go_num, rfl, by omega, HBx⟩
      · obtain ⟨j, hji⟩ : ∃ j, j + 1 = i := ⟨i - 1, by omega⟩
        have hj : j < rs.length := by omega
        have hah := HAH.out j hj hji
        obtain ⟨p, hpj⟩ : ∃ p, p = rs[j] := ⟨_, rfl⟩
        rw [← hpj] at hah
        have HPJ : Hid (p = rs[j]) := hpj
        clear hpj HAH
        obtain ⟨pg, pf, pt⟩ := p
        obtain ⟨cv, hcv⟩ : ∃ cv, cv = Lib.compareBytes pg.toList rg.toList := ⟨_, rfl⟩
        have hah' : cv = -1 ∨ (cv = 0 ∧ pt.toNat + 2 ≤ rf.toNat) := by rw [hcv]; exact hah
        have CG : Hid (∀ W, Calls Try.prog 32 #[.agg (encG pg).toArray, .agg (encG rg).toArray] W fun e w' => e = .returned (.int .i64 cv) ∧ Below W.heap.size W w') := fun W => by rw [hcv]; exact cmpG_any pg rg W
        have lds : ∀ W, Below w.heap.size w W → Sem.run Try.prog (loadCellsFrom ⟨b, o + j * k18, none⟩ 0 k16 #[]) W = .ok (encG pg).toArray W ∧ W.cell? ⟨b, o + j * k18 + 17, none⟩ = some (.int .u64 (pt.toNat : Int)) ∧ Sem.run Try.prog (loadCellsFrom ⟨b, o + i * k18, none⟩ 0 k16 #[]) W = .ok (encG rg).toArray W ∧ W.cell? ⟨b, o + i * k18 + 16, none⟩ = some (.int .u64 (rf.toNat : Int)) := fun W hW => by
          have f1 := rd_fields (H.out.1.below hW) j hj k16 HK.out.1
          have f2 := rd_fields (H.out.1.below hW) i hE k16 HK.out.1
          rw [← HPJ.out] at f1
          rw [← HRI.out] at f2
          rw [HK.out.2.2]
          exact ⟨f1.1, f1.2.2, f2.1, f2.2.1⟩
        have LDS : Hid (∀ W, Below w.heap.size w W → Sem.run Try.prog (loadCellsFrom ⟨b, o + j * k18, none⟩ 0 k16 #[]) W = .ok (encG pg).toArray W ∧ W.cell? ⟨b, o + j * k18 + 17, none⟩ = some (.int .u64 (pt.toNat : Int)) ∧ Sem.run Try.prog (loadCellsFrom ⟨b, o + i * k18, none⟩ 0 k16 #[]) W = .ok (encG rg).toArray W ∧ W.cell? ⟨b, o + i * k18 + 16, none⟩ = some (.int .u64 (rf.toNat : Int))) := lds
        clear hcv hah lds
        have hd : ∀ n, Below w.heap.size w (wx.drewN n) := fun n => HBx.out.trans (((Gr.refl wx).drewN n).below.mono HBx.out.size)
        have d1 := (LDS.out wx.drew (hd 1)).1
        have d2 := (LDS.out wx.drew (hd 1)).2.2.1
        have e1 := (LDS.out wx.drew.drew (hd 2)).1
        have e2 := (LDS.out wx.drew.drew (hd 2)).2.2.1
        clear hd
        have hwj : IntKind.i64.wrap ((i : Int) - 1) = (j : Int) := by rw [IntKind.wrap_i64]; omega
        have jb0 : (0 : Int) ≤ (j : Int) := by omega
        have jb : (j : Int) < (rs.length : Int) := by omega
        have hi0 : ((i : Int) == 0) = false := by simp; omega
        go_upto_region 7 with fail
        go_cut [4] from 5 to 69 (fun c4 wc => c4 = .int .i64 cv ∧ Hid (Below w.heap.size w wc))
        case first =>
          go_region_with (go_at_call 32; refine (CG.out _).mono ?_; rintro e w5 ⟨rfl, hb5⟩)
          all_goals go_wp2
          all_goals go_meet
          all_goals exact ⟨rfl, (HBx.out.trans (((Gr.refl wx).drewN 1).below.mono HBx.out.size)).trans (hb5.mono HBx.out.size)⟩
        case rest =>
          obtain ⟨rfl, HBc⟩ := hcut
          clear d1 d2 e1 e2 HBx
          obtain ⟨_, m17, _, m16⟩ := LDS.out wc HBc.out
          rcases hah' with rfl | ⟨rfl, hgap⟩
          · go_upto_region 10 with fail
            go_quiet (fail)
            go_wp2
            go_roundg (rs.length - (i + 1))
            case measure => omega
            case rel => exact ⟨i + 1, by go_num, rfl, by omega, HBc.out.trans (((Gr.refl wc).drewN _).below.mono HBc.out.size)⟩
          · have g1 : (pt.toNat : Int) < (rf.toNat : Int) := by omega
            have g2 : IntKind.u64.wrap ((rf.toNat : Int) - (pt.toNat : Int)) = (rf.toNat : Int) - (pt.toNat : Int) := by
              have := u64_lt rf
              simp [IntKind.wrap, IntKind.signed, IntKind.bits]; omega
            have g3 : (2 : Int) ≤ (rf.toNat : Int) - (pt.toNat : Int) := by omega
            go_upto_region 10 with fail
            go_quiet (fail)
            go_wp2
            go_roundg (rs.length - (i + 1))
            case measure => omega
            case rel => exact ⟨i + 1, by go_num, rfl, by omega, HBc.out.trans (((Gr.refl wc).drewN _).below.mono HBc.out.size)⟩
end Go.Proofs.Qxb6615018a
