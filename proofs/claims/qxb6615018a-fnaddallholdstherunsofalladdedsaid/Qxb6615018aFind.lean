/-
  DERIVED. findBlock: slices.BinarySearchFunc over the blocks.
-/
import Derived.Test.Qxb6615018aAdd
namespace Go.Proofs.Qxb6615018a
open Go.RowKit Go.Sort

theorem last_cmp (rl : Rg) (s : Sn) : cmpS (rl.1, rl.2.2) s < 0 ↔ hi rl < key s := by
  rw [cmpS_key]
  have : key (rl.1, rl.2.2) = hi rl := rfl
  rw [this]
  by_cases h1 : hi rl < key s
  · simp [h1]
  · by_cases h2 : key s < hi rl <;> simp [h1, h2]

set_option maxRecDepth 100000 in
set_option maxHeartbeats 1000000 in
theorem closure38_any (p bp op L : Nat) (rl : Rg) (s : Sn) (w : World) (k18 : Nat) (hk : k18 = 18) (hLk : L ≤ 128) (hc : ∀ W, Below w.heap.size w W → W.cell? ⟨p, 0, none⟩ = some (.slice (some ⟨bp, op, none⟩) (L + 1) (L + 1)) ∧ Sem.run Try.prog (loadCellsFrom ⟨bp, op + L * k18, none⟩ 0 k18 #[]) W = .ok (encR rl).toArray W) :
    Calls Try.prog 38 #[.pointer (some ⟨p, 0, none⟩), .agg (encS s).toArray] w fun e w' => e = .returned (.int .i64 (cmpS (rl.1, rl.2.2) s)) ∧ Gr w w' := by
  obtain ⟨k16, k17, k18', ⟨z22, z24, z27, z30, z53, z40, z62, n16, n17, n18⟩, HK⟩ := sz_ex
  obtain rfl : k18 = k18' := by rw [hk, HK.out.2.2]
  clear z22 z24 z30 z53 z40 n16 hk
  have mixed : Try.prog.follows .mixedOrders = true := by kernel_rfl
  obtain ⟨W, hW⟩ : ∃ W, W = w.alloc (.cells (encS s).toArray 27) := ⟨_, rfl⟩
  have hB : ∀ n os, Below w.heap.size w (grow (W.drewN n) os) := fun n os => by
    rw [hW]; exact ((Below.refl _ _).alloc (Nat.le_refl _) _).trans ((Gr.below ⟨n, os, rfl⟩).mono (by simp))
  have l1 : ∀ n os, (grow (W.drewN n) os).cell? ⟨p, 0, none⟩ = some (.slice (some ⟨bp, op, none⟩) (L + 1) (L + 1)) := fun n os => (hc _ (hB n os)).1
  have l2 : ∀ n os, Sem.run Try.prog (loadCellsFrom ⟨bp, op + L * k18, none⟩ 0 k18 #[]) (grow (W.drewN n) os) = .ok (encR rl).toArray (grow (W.drewN n) os) := fun n os => (hc _ (hB n os)).2
  have hWlt : w.heap.size < W.heap.size := by rw [hW]; simp
  have hWb : W.heap[w.heap.size]? = some (.cells (encS s).toArray 27 (0, 0)) := by rw [hW]; exact heap_alloc_last w _
  have l3 : ∀ n os, Sem.run Try.prog (loadCellsFrom ⟨w.heap.size, 0, none⟩ 0 k17 #[]) (grow (W.drewN n) os) = .ok (encS s).toArray (grow (W.drewN n) os) := fun n os =>
    ld_block _ _ _ (encS s).toArray 27 (0, 0) _ _ ((heap_grow_old _ os (by exact hWlt)).trans hWb) (by rw [encS_length, HK.out.2.1]) (by simp)
  have C1 : Hid (∀ n os, Calls Try.prog 39 #[.agg (encR rl).toArray] (grow (W.drewN n) os) fun e w' => e = .returned (.agg (encS (rl.1, rl.2.2)).toArray) ∧ ∃ q os', w' = grow ((grow (W.drewN n) os).drewN q) os') := fun n os => last_any rl _
  have C2 : Hid (∀ n os, Calls Try.prog 21 #[.agg (encS (rl.1, rl.2.2)).toArray, .agg (encS s).toArray] (grow (W.drewN n) os) fun e w' => e = .returned (.int .i64 (cmpS (rl.1, rl.2.2) s)) ∧ ∃ q os', w' = grow ((grow (W.drewN n) os).drewN q) os') := fun n os => compare_any _ _ _
  have HG : Hid (∀ n os, Gr w (grow (W.drewN n) os)) := fun n os => by rw [hW]; exact ((Gr.refl w).alloc _).trans ⟨n, os, rfl⟩
  have il : (L : Int) < (L : Int) + 1 := by omega
  have il0 : (0 : Int) ≤ (L : Int) := by omega
  have hw2 : IntKind.i64.wrap (L : Int) = (L : Int) := by rw [IntKind.wrap_i64]; omega
  generalize cmpS (rl.1, rl.2.2) s = c at C2 ⊢
  clear hB hc hWlt hWb
  go_enter Try.func38, Try.ntmps38
  go_upto_region 1 with fail
  rw [← hW]
  have HW : Hid (W = w.alloc (.cells (encS s).toArray 27)) := hW
  clear hW
  go_quiet_grown (first | (go_at_call 39; exact Calls.grown_of (C1.out _ _)) | (go_at_call 21; exact Calls.grown_of (C2.out _ _)))
  go_wp2
  go_ret
  exact ⟨rfl, HG.out _ _⟩

/-- The reads of block h's last range. -/
theorem blk_last {w : World} {B : Nat} {aB : Option Addr} {cap : Nat} {ps : List Nat} {bs : List (List Rg)} (ho : w.ownsRow B 66 1 (.slice aB bs.length cap) bs.length (ps.map ptrV)) (hb : BlksAt w ps bs) (hG : Good bs) (h : Nat) (hh : h < bs.length) (kk : Nat) (hkk : kk = 18) :
    ∃ g p bp op L rl, aB = some ⟨g, 0, none⟩ ∧ bs[h].getLast? = some rl ∧ L ≤ 128 ∧ ∀ W, Below w.heap.size w W → W.cell? ⟨g, h, none⟩ = some (.pointer (some ⟨p, 0, none⟩)) ∧ W.cell? ⟨p, 0, none⟩ = some (.slice (some ⟨bp, op, none⟩) (L + 1) (L + 1)) ∧
      Sem.run Try.prog (loadCellsFrom ⟨bp, op + L * kk, none⟩ 0 kk #[]) W = .ok (encR rl).toArray W := by
  obtain ⟨g, p, a, rfl, hg1, hp1, cl1, cl2, _, hrd⟩ := blk_reads ho hb h hh
  have hne := hG.ne bs[h] (List.getElem_mem hh)
  generalize bs[h] = b at hrd cl2 hne
  obtain ⟨L, hL⟩ : ∃ L, b.length = L + 1 := ⟨b.length - 1, by have := List.length_pos_iff.2 hne.1; omega⟩
  have hlt : L < b.length := by omega
  obtain ⟨bp, op, rfl, _⟩ : ∃ bp op, a = some ⟨bp, op, none⟩ ∧ bp < w.heap.size := by
    obtain ⟨b', o', h1, h2, _⟩ := hrd.rdB L hlt
    exact ⟨b', o', h1, h2⟩
  rw [hL] at cl2
  refine ⟨g, p, bp, op, L, b[L], rfl, ?_, by omega, fun W hW => ⟨(hW.cell (p := ⟨g, h, none⟩) hg1).trans cl1, (hW.cell (p := ⟨p, 0, none⟩) hp1).trans cl2, (hrd.rdB.below hW).ld encR_length L hlt kk hkk⟩⟩
  rw [List.getLast?_eq_getElem?, hL, Nat.add_sub_cancel, List.getElem?_eq_getElem hlt]

theorem last_le {b : List Rg} (h : Ap b) {rl : Rg} (hl : b.getLast? = some rl) : ∀ r ∈ b, hi r ≤ hi rl := by
  intro r hr
  obtain ⟨ini, rfl⟩ := List.getLast?_eq_some_iff.1 hl
  rcases List.mem_append.1 hr with h1 | h1
  · have := (Ap.app.1 h).2.2 r h1 rl (by simp)
    have := h.1 rl (by simp)
    omega
  · simp at h1; subst h1; exact Nat.le_refl _

theorem take_lt {bs : List (List Rg)} (hG : Good bs) {s : Sn} {h : Nat} (hh : h < bs.length) {rl : Rg} (hl : bs[h].getLast? = some rl) (hk : hi rl < key s) : ∀ r ∈ (bs.take (h + 1)).flatten, hi r < key s := by
  have hA := hG.ap
  rw [flatten_split hh] at hA
  obtain ⟨a1, a2, a3⟩ := Ap.app.1 hA
  have b1 := (Ap.app.1 a2).1
  have hm : rl ∈ bs[h] := List.mem_of_getLast? hl
  intro r hr
  rw [take_succ_flatten hh] at hr
  rcases List.mem_append.1 hr with h1 | h1
  · have := a3 r h1 rl (List.mem_append_left _ hm)
    have := b1.1 rl hm
    omega
  · have := last_le b1 hl r h1; omega

set_option maxRecDepth 100000 in
set_option maxHeartbeats 1000000 in
theorem bsf_any (B : Nat) (aB : Option Addr) (cB : Nat) (ps : List Nat) (bs : List (List Rg)) (s : Sn) (w : World) (ho : w.ownsRow B 66 1 (.slice aB bs.length cB) bs.length (ps.map ptrV)) (hb : BlksAt w ps bs) (hG : Good bs) (hl : bs.length ≤ 100000000) :
    Calls Try.prog 37 #[.slice aB bs.length cB, .agg (encS s).toArray, .func (.func 38) #[] #[]] w fun e w' => ∃ (i : Nat) (b : Bool), e = .returned (.tuple #[.int .i64 i, .bool b]) ∧ FB bs s i ∧ Gr w w' := by
  obtain ⟨k16, k17, k18, ⟨z22, z24, z27, z30, z53, z40, z62, n16, n17, n18⟩, HK⟩ := sz_ex
  clear z22 z24 z30 z53 z40 n16
  have mixed : Try.prog.follows .mixedOrders = true := by kernel_rfl
  have HO : Hid (w.ownsRow B 66 1 (.slice aB bs.length cB) bs.length (ps.map ptrV) ∧ BlksAt w ps bs ∧ Good bs) := ⟨ho, hb, hG⟩
  clear ho hb hG
  obtain ⟨W0, hW0⟩ : ∃ W, W = w.alloc (.cells (encS s).toArray 27) := ⟨_, rfl⟩
  have HG0 : Hid (Gr w W0 ∧ w.heap.size < W0.heap.size ∧ W0.heap[w.heap.size]? = some (.cells (encS s).toArray 27 (0, 0))) := by
    rw [hW0]; exact ⟨(Gr.refl w).alloc _, by simp, heap_alloc_last w _⟩
  have HW0 : Hid (W0 = w.alloc (.cells (encS s).toArray 27)) := hW0
  go_enter Try.func37, Try.ntmps37
  go_upto_block 0 with fail
  rw [← hW0]
  clear hW0
  go_cut [9] from 15 to 34 (fun iv wr => ∃ i : Nat, iv = .int .i64 i ∧ i ≤ bs.length ∧ Hid (FB bs s i) ∧ Hid (Gr W0 wr))
  case first =>
    go_wp2_with fail
    go_loopg [9, 10] bs.length (fun gk iv jv wr => ∃ i j : Nat, iv = .int .i64 i ∧ jv = .int .i64 j ∧ gk = j - i ∧ i ≤ j ∧ j ≤ bs.length ∧ Hid (∀ r ∈ (bs.take i).flatten, hi r < key s) ∧ Hid (∀ h : j < bs.length, ∃ r ∈ bs[j], key s ≤ hi r) ∧ Hid (Gr W0 wr))
    case atStart => exact ⟨0, bs.length, rfl, rfl, rfl, Nat.zero_le _, Nat.le_refl _, (fun r hr => absurd hr (by simp)), (fun h => absurd h (by omega)), Gr.refl _⟩
    case round =>
      obtain ⟨i, j, rfl, rfl, hgk, hij, hjl, HI, HJ, HGr⟩ := hrel
      rcases Nat.eq_or_lt_of_le hij with hE | hE
      · subst hE
        go_wp2
        go_meet
        case rel => exact ⟨i, rfl, hjl, ⟨hjl, HI.out, HJ.out⟩, HGr⟩
      · obtain ⟨m, hm⟩ : ∃ m, m = (i + j) / 2 := ⟨_, rfl⟩
        have hmi : i ≤ m ∧ m < j := by omega
        have hlt : (i : Int) < (j : Int) := by omega
        have hmb : m < bs.length := by omega
        go_upto_region 5 with fail
        have hme : ((i : Int) + (j : Int)) / 2 = (m : Int) := by omega
        rw [hme]
        clear hm hme
        obtain ⟨g, p, bp, op, L, rl, rfl, hrl, hLk, hrd⟩ := blk_last HO.out.1 HO.out.2.1 HO.out.2.2 m hmb k18 HK.out.2.2
        have hB : ∀ n os, Below w.heap.size w (grow (wr.drewN n) os) := fun n os => (HG0.out.1.trans HGr.out).below.trans ((Gr.below ⟨n, os, rfl⟩).mono (HG0.out.1.trans HGr.out).below.size)
        have l1 : ∀ n os, (grow (wr.drewN n) os).cell? ⟨g, m, none⟩ = some (.pointer (some ⟨p, 0, none⟩)) := fun n os => (hrd _ (hB n os)).1
        have l3 : ∀ n os, Sem.run Try.prog (loadCellsFrom ⟨w.heap.size, 0, none⟩ 0 k17 #[]) (grow (wr.drewN n) os) = .ok (encS s).toArray (grow (wr.drewN n) os) := fun n os =>
          ld_block _ _ _ (encS s).toArray 27 (0, 0) _ _ (by
            have hz : w.heap.size < wr.heap.size := by have := HGr.out.below.size; have := HG0.out.2.1; omega
            rw [show (grow (wr.drewN n) os).heap[w.heap.size]? = wr.heap[w.heap.size]? from heap_grow_old _ os (by exact hz), HGr.out.below.block _ HG0.out.2.1]
            exact HG0.out.2.2) (by rw [encS_length, HK.out.2.1]) (by simp)
        have C1 : Hid (∀ n os, Calls Try.prog 38 #[.pointer (some ⟨p, 0, none⟩), .agg (encS s).toArray] (grow (wr.drewN n) os) fun e w' => e = .returned (.int .i64 (cmpS (rl.1, rl.2.2) s)) ∧ ∃ q os', w' = grow ((grow (wr.drewN n) os).drewN q) os') := fun n os =>
          closure38_any p bp op L rl s _ k18 HK.out.2.2 hLk (fun W hW => (hrd W ((hB n os).trans (hW.mono (hB n os).size))).2)
        have HC : Hid ((cmpS (rl.1, rl.2.2) s < 0 ↔ hi rl < key s) ∧ bs[m].getLast? = some rl) := ⟨last_cmp rl s, hrl⟩
        have ib : ((m : Nat) : Int) < (bs.length : Int) := by omega
        have ib0 : (0 : Int) ≤ ((m : Nat) : Int) := by omega
        have HGn : Hid (∀ n os, Gr W0 (grow (wr.drewN n) os)) := fun n os => HGr.out.trans ⟨n, os, rfl⟩
        generalize cmpS (rl.1, rl.2.2) s = c at C1 HC
        clear hB hrl hrd
        go_quiet_grown (first | (go_at_call 38; exact Calls.grown_of (C1.out _ _)) | fail)
        by_cases hc : c < 0
        · go_wp2
          go_roundg (j - (m + 1))
          case measure => omega
          case rel => exact ⟨m + 1, j, by go_num, rfl, rfl, by omega, hjl, take_lt HO.out.2.2 hmb HC.out.2 (HC.out.1.1 hc), HJ, HGn.out _ _⟩
        · go_wp2
          go_roundg (m - i)
          case measure => omega
          case rel => exact ⟨i, m, rfl, rfl, rfl, by omega, by omega, HI, (fun _ => ⟨rl, List.mem_of_getLast? HC.out.2, Nat.le_of_not_lt (fun hh => by have := HC.out.1.2 hh; omega)⟩), HGn.out _ _⟩
  case rest =>
    obtain ⟨i, rfl, hil, HF, HGr⟩ := hcut
    generalize wc = wr at *
    rcases Nat.eq_or_lt_of_le hil with hE | hE
    · subst hE
      go_upto_region 8 with fail
      go_quiet (fail)
      go_wp2
      go_ret2
      exact ⟨bs.length, false, rfl, HF.out, HG0.out.1.trans (HGr.out.trans ((Gr.refl _).drewN _))⟩
    · have hdt : decide ((i : Int) < (bs.length : Int)) = true := by simp; omega
      go_upto_region 8 with fail
      obtain ⟨g, p, bp, op, L, rl, rfl, hrl, hLk, hrd⟩ := blk_last HO.out.1 HO.out.2.1 HO.out.2.2 i hE k18 HK.out.2.2
      have hB : ∀ n os, Below w.heap.size w (grow (wr.drewN n) os) := fun n os => (HG0.out.1.trans HGr.out).below.trans ((Gr.below ⟨n, os, rfl⟩).mono (HG0.out.1.trans HGr.out).below.size)
      have l1 : ∀ n os, (grow (wr.drewN n) os).cell? ⟨g, i, none⟩ = some (.pointer (some ⟨p, 0, none⟩)) := fun n os => (hrd _ (hB n os)).1
      have l3 : ∀ n os, Sem.run Try.prog (loadCellsFrom ⟨w.heap.size, 0, none⟩ 0 k17 #[]) (grow (wr.drewN n) os) = .ok (encS s).toArray (grow (wr.drewN n) os) := fun n os =>
        ld_block _ _ _ (encS s).toArray 27 (0, 0) _ _ (by
          have hz : w.heap.size < wr.heap.size := by have := HGr.out.below.size; have := HG0.out.2.1; omega
          rw [show (grow (wr.drewN n) os).heap[w.heap.size]? = wr.heap[w.heap.size]? from heap_grow_old _ os (by exact hz), HGr.out.below.block _ HG0.out.2.1]
          exact HG0.out.2.2) (by rw [encS_length, HK.out.2.1]) (by simp)
      have C1 : Hid (∀ n os, Calls Try.prog 38 #[.pointer (some ⟨p, 0, none⟩), .agg (encS s).toArray] (grow (wr.drewN n) os) fun e w' => e = .returned (.int .i64 (cmpS (rl.1, rl.2.2) s)) ∧ ∃ q os', w' = grow ((grow (wr.drewN n) os).drewN q) os') := fun n os =>
        closure38_any p bp op L rl s _ k18 HK.out.2.2 hLk (fun W hW => (hrd W ((hB n os).trans (hW.mono (hB n os).size))).2)
      have HC : Hid ((cmpS (rl.1, rl.2.2) s < 0 ↔ hi rl < key s) ∧ bs[i].getLast? = some rl) := ⟨last_cmp rl s, hrl⟩
      have ib : ((i : Nat) : Int) < (bs.length : Int) := by omega
      have ib0 : (0 : Int) ≤ ((i : Nat) : Int) := by omega
      have HGn : Hid (∀ n os, Gr W0 (grow (wr.drewN n) os)) := fun n os => HGr.out.trans ⟨n, os, rfl⟩
      generalize cmpS (rl.1, rl.2.2) s = c at C1 HC
      clear hB hrl hrd
      go_quiet_grown (first | (go_at_call 38; exact Calls.grown_of (C1.out _ _)) | fail)
      go_wp2
      go_ret2
      exact ⟨i, _, rfl, HF.out, HG0.out.1.trans (HGn.out _ _)⟩

set_option maxHeartbeats 1000000 in
theorem find_any : FindOK := by
  intro W B aB cB ps bs s ho hb hG hl
  obtain ⟨k16, k17, k18, ⟨z22, z24, z27, z30, z53, z40, z62, n16, n17, n18⟩, HK⟩ := sz_ex
  have ld1 : Sem.run Try.prog (loadCellsFrom ⟨W.heap.size, 0, none⟩ 0 k17 #[]) (W.alloc (.cells (encS s).toArray 27)) = .ok (encS s).toArray (W.alloc (.cells (encS s).toArray 27)) :=
    ld_block _ _ _ (encS s).toArray 27 (0, 0) _ _ (heap_alloc_last W _) (by rw [encS_length, HK.out.2.1]) (by simp)
  have g0 : Gr W (W.alloc (.cells (encS s).toArray 27)) := (Gr.refl W).alloc _
  have k0 : KT [] W (W.alloc (.cells (encS s).toArray 27)) := KT.of_below g0.below
  have C := bsf_any B aB cB ps bs s (W.alloc (.cells (encS s).toArray 27)) (ownsRow_kt ho k0 (by simp)) (hb.kt k0 (by simp) (by simp)) hG hl
  have CH : Hid (Calls Try.prog 37 #[.slice aB bs.length cB, .agg (encS s).toArray, .func (.func 38) #[] #[]] (W.alloc (.cells (encS s).toArray 27)) fun e w' => ∃ (i : Nat) (b : Bool), e = .returned (.tuple #[.int .i64 i, .bool b]) ∧ FB bs s i ∧ Gr (W.alloc (.cells (encS s).toArray 27)) w') := C
  have HG0 : Hid (Gr W (W.alloc (.cells (encS s).toArray 27))) := g0
  clear C g0 k0 ho hb hG
  go_enter Try.func23, Try.ntmps23
  go_wp2_with (go_at_call 37; refine CH.out.mono ?_; rintro e w' ⟨i, b, rfl, hF, hg⟩)
  go_ret
  exact ⟨i, rfl, hF, HG0.out.trans hg⟩
end Go.Proofs.Qxb6615018a
