/-
  DERIVED. zzHeld: the ranges of a Knowledge, one after the other.
-/
import Derived.Test.Qxb6615018aAdd
import Derived.Deep.RegionLaw
namespace Go.Proofs.Qxb6615018a
open Go.RowKit Go.Sort

theorem build40_x (x0 x1 x2 x3 x4 x5 x6 x7 x8 x9 x10 x11 x12 x13 x14 x15 : Value) (f t : Int) (w : World) :
    (Instr.build 40 #[(0, .agg #[x0, x1, x2, x3, x4, x5, x6, x7, x8, x9, x10, x11, x12, x13, x14, x15]), (1, .int .u64 f), (2, .int .u64 t)]).run Try.prog w = .ok (.agg #[x0, x1, x2, x3, x4, x5, x6, x7, x8, x9, x10, x11, x12, x13, x14, x15, .int .u64 f, .int .u64 t]) w := by kernel_rfl
theorem build40_any (g : Gd) (f t : UInt64) (w : World) :
    (Instr.build 40 #[(0, .agg (encG g).toArray), (1, .int .u64 (f.toNat : Int)), (2, .int .u64 (t.toNat : Int))]).run Try.prog w = .ok (.agg (encR (g, f, t)).toArray) w := by
  obtain ⟨x0, x1, x2, x3, x4, x5, x6, x7, x8, x9, x10, x11, x12, x13, x14, x15, h⟩ := list16 (encG g) (encG_length g)
  rw [encR, h]
  exact build40_x x0 x1 x2 x3 x4 x5 x6 x7 x8 x9 x10 x11 x12 x13 x14 x15 _ _ w
theorem buildSlice36_x (x0 x1 x2 x3 x4 x5 x6 x7 x8 x9 x10 x11 x12 x13 x14 x15 x16 x17 : Value) (w : World) :
    (Instr.buildSlice 36 1 #[(0, .agg #[x0, x1, x2, x3, x4, x5, x6, x7, x8, x9, x10, x11, x12, x13, x14, x15, x16, x17])]).run Try.prog w = .ok (.slice (some ⟨w.heap.size, 0, none⟩) 1 1) (w.alloc (.cells #[x0, x1, x2, x3, x4, x5, x6, x7, x8, x9, x10, x11, x12, x13, x14, x15, x16, x17] 40)) := by kernel_rfl
theorem buildSlice36_any (r : Rg) (w : World) :
    (Instr.buildSlice 36 1 #[(0, .agg (encR r).toArray)]).run Try.prog w = .ok (.slice (some ⟨w.heap.size, 0, none⟩) 1 1) (w.alloc (.cells (encR r).toArray 40)) := by
  obtain ⟨x0, x1, x2, x3, x4, x5, x6, x7, x8, x9, x10, x11, x12, x13, x14, x15, x16, x17, h⟩ := list18 (encR r) (encR_length r)
  rw [h]
  exact buildSlice36_x x0 x1 x2 x3 x4 x5 x6 x7 x8 x9 x10 x11 x12 x13 x14 x15 x16 x17 w
theorem Try.info40 : (Try.prog.info? 40).map (fun i => (i.zero, i.size, i.bytes)) = some (some (.agg (List.replicate 16 (Value.int .u8 0) ++ ([.int .u64 0, .int .u64 0] : List Value)).toArray), 18, 32) := by kernel_rfl

/-- append onto a row of its own, as one step of a region that draws. -/
theorem step_append_own {P : Program} {ops : Array Oper} {o : Oper} {a : Act} {w : World} {K : Act → World → Prop} {Q : Exit → Act → World → Prop} {E : Prop}
    (hg : o.guard = none) (s x : Operand) (t : TypeId) (hop : o.op = Op.call { callee := Callee.builtin Builtin.append, args := #[s, x], argTypes := #[t, t] })
    (base : Nat) (e : TypeId) (i : TypeInfo) (z : Value) (size bytes : Nat) (h1 : P.underlying t = some (.slice e)) (h2 : P.info? e = some i) (h3 : i.zero = some z) (h4 : i.size = size) (h5 : i.bytes = bytes) (h6 : z.cells.size = size) (h7 : 0 < size)
    (v : Value) (n : Nat) (xs : List Value) (hs : a.eval s = v) (hown : w.ownsRow base e size v n xs)
    (ad : Addr) (m c : Nat) (news : List Value) (hx : a.eval x = .slice (some ad) m c) (hn : news.length = m * size) (hc : ∀ j u, news[j]? = some u → w.cell? (ad.add j) = some u) (h1c : ∀ u ∈ news, u.oneCell' = true)
    (b1 : n + m ≤ maxLen) (b2 : (n + m) * bytes ≤ 140737488355328) (hbase : base ≤ w.heap.size)
    (hK : ∀ v' w', w'.ownsRow base e size v' (n + m) (xs ++ news) → w.grownBy w' v.ownBlock → K (a.put o.dst v') w') :
    if Region.wanted o (yielded ops a.tmps) = true then Oper.wp P o a w K Q else E := by
  have hw : Region.wanted o (yielded ops a.tmps) = true := by simp [Region.wanted, hg]
  rw [if_pos hw]
  obtain ⟨v', w', hrun, r1, r2, _⟩ := run_append_own (P := P) w base t o.type e i z size bytes h1 h2 h3 h4 h5 h6 h7 v n xs hown ad m c news hn hc h1c b1 b2 hbase
  unfold Oper.wp
  simp [execOp, hop, resolve, invoke, builtin, hs, hx, hrun, Result.andThen]
  exact hK v' w' r1 r2

theorem below_same {B : Nat} {w a b : World} (h : Below B w a) (h1 : b.heap = a.heap) (h2 : b.os = a.os) (h3 : b.tape = a.tape) (h4 : b.output = a.output) : Below B w b :=
  ⟨h2.trans h.os, h3.trans h.tape, h4.trans h.output, by rw [h1]; exact h.size, fun k hk => by rw [h1]; exact h.block k hk⟩

def zerosR : Array Value := (List.replicate 16 (Value.int .u8 0) ++ ([.int .u64 0, .int .u64 0] : List Value)).toArray

theorem fillR_x (x0 x1 x2 x3 x4 x5 x6 x7 x8 x9 x10 x11 x12 x13 x14 x15 : Value) :
    List.foldl (fun (cs : Array Value) (x : Value × Nat) => cs.setIfInBounds x.snd x.fst) zerosR [x0, x1, x2, x3, x4, x5, x6, x7, x8, x9, x10, x11, x12, x13, x14, x15].zipIdx = #[x0, x1, x2, x3, x4, x5, x6, x7, x8, x9, x10, x11, x12, x13, x14, x15, .int .u64 0, .int .u64 0] := by kernel_rfl
theorem fillR (g : Gd) : List.foldl (fun (cs : Array Value) (x : Value × Nat) => cs.setIfInBounds x.snd x.fst) zerosR (encG g).zipIdx = (encG g ++ ([.int .u64 0, .int .u64 0] : List Value)).toArray := by
  obtain ⟨x0, x1, x2, x3, x4, x5, x6, x7, x8, x9, x10, x11, x12, x13, x14, x15, h⟩ := list16 (encG g) (encG_length g)
  rw [h]
  exact fillR_x ..
theorem fillR2 (g : Gd) (f t : Value) : ((encG g ++ ([.int .u64 0, .int .u64 0] : List Value)).toArray.setIfInBounds 16 f).setIfInBounds 17 t = (encG g ++ [f, t]).toArray := by
  obtain ⟨x0, x1, x2, x3, x4, x5, x6, x7, x8, x9, x10, x11, x12, x13, x14, x15, h⟩ := list16 (encG g) (encG_length g)
  rw [h]
  rfl
theorem fillT_x (x0 x1 x2 x3 x4 x5 x6 x7 x8 x9 x10 x11 x12 x13 x14 x15 x16 x17 : Value) :
    List.foldl (fun (cs : Array Value) (x : Value × Nat) => cs.setIfInBounds x.snd x.fst) (Array.map (fun x => zerosR[x % 18]!) (Array.range 18)) [x0, x1, x2, x3, x4, x5, x6, x7, x8, x9, x10, x11, x12, x13, x14, x15, x16, x17].zipIdx = #[x0, x1, x2, x3, x4, x5, x6, x7, x8, x9, x10, x11, x12, x13, x14, x15, x16, x17] := by kernel_rfl
theorem fillT (r : Rg) : List.foldl (fun (cs : Array Value) (x : Value × Nat) => cs.setIfInBounds x.snd x.fst) (Array.map (fun x => zerosR[x % 18]!) (Array.range 18)) (encR r).zipIdx = (encR r).toArray := by
  obtain ⟨x0, x1, x2, x3, x4, x5, x6, x7, x8, x9, x10, x11, x12, x13, x14, x15, x16, x17, h⟩ := list18 (encR r) (encR_length r)
  rw [h]
  exact fillT_x ..

/-- What the making of a range, and of a slice of one range, comes to, with its zero value kept a name. -/
theorem made40 (g : Gd) (f t : UInt64) (k18 : Nat) (hk : k18 = 18) : ∃ Z Y : Array Value, (∀ w, (zeroValue 40).run Try.prog w = .ok (.agg Z) w) ∧ Z.size = 18 ∧ List.foldl (fun (cs : Array Value) (x : Value × Nat) => cs.setIfInBounds x.snd x.fst) Z (encG g).zipIdx = Y ∧ Y.size = 18 ∧
    (Y.setIfInBounds 16 (.int .u64 (f.toNat : Int))).setIfInBounds 17 (.int .u64 (t.toNat : Int)) = (encR (g, f, t)).toArray ∧
    List.foldl (fun (cs : Array Value) (x : Value × Nat) => cs.setIfInBounds x.snd x.fst) (Array.map (fun x => Z[x % 18]!) (Array.range k18)) (encR (g, f, t)).zipIdx = (encR (g, f, t)).toArray := by
  subst hk
  exact ⟨zerosR, _, fun w => by kernel_rfl, by kernel_rfl, fillR g, by simp [encG_length], fillR2 g _ _, fillT _⟩

set_option maxHeartbeats 1000000 in
theorem kblocks_any (B K : Nat) (w : World) (kc : Option Addr) (v : Value) (hK : w.heap[K]? = some (.cells #[.pointer kc] 34 (0, 0))) (hH : Held B w kc v) :
    Calls Try.prog 29 #[.pointer (some ⟨K, 0, none⟩)] w fun e w' => e = .returned v ∧ Below w.heap.size w w' := by
  have hKc : w.cell? ⟨K, 0, none⟩ = some (.pointer kc) := by simp [World.cell?, hK]
  have C : Hid (Calls Try.prog 22 #[.agg #[.pointer kc]] w fun e w' => e = .returned v ∧ Below w.heap.size w w') := inOrder_any B w kc v hH
  clear hH hK
  go_enter Try.func29, Try.ntmps29
  go_wp2_with (go_at_call 22; refine C.out.mono ?_; rintro e w' ⟨rfl, hb⟩)
  go_ret
  exact ⟨rfl, hb⟩

set_option maxHeartbeats 1000000 in
theorem branges_any (p : Nat) (v : Value) (w : World) (hc : w.cell? ⟨p, 0, none⟩ = some v) : Calls Try.prog 30 #[.pointer (some ⟨p, 0, none⟩)] w fun e w' => e = .returned v ∧ w' = w := by
  go_enter Try.func30, Try.ntmps30
  go_wp2
  go_ret
  exact ⟨rfl, rfl⟩

/-- The three fields of range i. -/
theorem rd_fields {w : World} {b o : Nat} {xs : List Rg} {B : Nat} (h : RdB encR 18 B w (some ⟨b, o, none⟩) xs) (i : Nat) (hi : i < xs.length) (k16 : Nat) (hk : k16 = 16) :
    Sem.run Try.prog (loadCellsFrom ⟨b, o + i * 18, none⟩ 0 k16 #[]) w = .ok (encG xs[i].1).toArray w ∧ w.cell? ⟨b, o + i * 18 + 16, none⟩ = some (.int .u64 (xs[i].2.1.toNat : Int)) ∧ w.cell? ⟨b, o + i * 18 + 17, none⟩ = some (.int .u64 (xs[i].2.2.toNat : Int)) := by
  subst hk
  obtain ⟨b', o', h1, _, h3⟩ := h i hi
  simp only [Option.some.injEq, Addr.mk.injEq, and_true] at h1
  obtain ⟨rfl, rfl⟩ := h1
  refine ⟨?_, h3 16 _ (encR_16 _), h3 17 _ (encR_17 _)⟩
  have := run_loadCells_list (P := Try.prog) w ⟨b, o + i * 18, none⟩ (encG xs[i].1) (fun j v hj => by
    have hadd : (⟨b, o + i * 18, none⟩ : Addr).add j = ⟨b, o + i * 18 + j, none⟩ := by unfold Addr.add; split <;> simp_all
    rw [hadd]
    refine h3 j v ?_
    rw [encR, List.getElem?_append_left (List.getElem?_eq_some_iff.1 hj).1]; exact hj)
  rw [encG_length] at this
  simpa [loadCells] using this

set_option maxRecDepth 100000 in
set_option maxHeartbeats 2000000 in
theorem held_any (B K : Nat) (bs : List (List Rg)) (w : World) (hK : Know B w K bs) (hG : Good bs) (hl : bs.flatten.length ≤ 10000000) :
    Calls Try.prog 8 #[.pointer (some ⟨K, 0, none⟩)] w fun e w' => ∃ v', e = .returned v' ∧ w'.ownsRow w.heap.size 40 18 v' bs.flatten.length (flatR bs.flatten) ∧ Below w.heap.size w w' := by
  obtain ⟨k16, k17, k18, ⟨z22, z24, z27, z30, z53, z40, z62, n16, n17, n18⟩, HK⟩ := sz_ex
  clear z27 z30 z53 n17
  have mixed : Try.prog.follows .mixedOrders = true := by kernel_rfl
  obtain ⟨i0, hinf, hz0, hz1, hz2⟩ := info_parts Try.info40
  obtain ⟨kc, v, ps, hK0, ho, hb, hH⟩ := hK
  obtain ⟨aB, cB, rfl⟩ := own_form ho
  have CI : Hid (Calls Try.prog 29 #[.pointer (some ⟨K, 0, none⟩)] w fun e w' => e = .returned (.slice aB bs.length cB) ∧ Below w.heap.size w w') := kblocks_any B K w kc _ hK0 hH
  have HO : Hid (w.ownsRow B 66 1 (.slice aB bs.length cB) bs.length (ps.map ptrV) ∧ BlksAt w ps bs ∧ Good bs) := ⟨ho, hb, hG⟩
  have hbl : bs.length ≤ 10000000 := by have := hG.len_le; omega
  have HL : Hid (bs.flatten.length ≤ 10000000) := hl
  clear ho hb hH hK0 hG hl
  go_enter Try.func8, Try.ntmps8
  go_wp2_with (go_at_call 29; refine CI.out.mono ?_; rintro e w1 ⟨rfl, hb1⟩)
  go_loopg [4, 5] bs.length (fun gk hv iv wr => ∃ (i : Nat) (v : Value), v = hv ∧ iv = .int .i64 i ∧ gk = bs.length - i ∧ i ≤ bs.length ∧ wr.ownsRow w.heap.size 40 18 v ((bs.take i).flatten).length (flatR (bs.take i).flatten) ∧ Hid (Below w.heap.size w wr))
  case atStart => exact ⟨0, _, rfl, rfl, rfl, by omega, (World.ownsRow_nil _ _ _ _ : w1.ownsRow w.heap.size 40 18 (.slice none 0 0) 0 []), hb1⟩
  case round =>
    obtain ⟨i, v, rfl, rfl, hgk, hil, hown, HB⟩ := hrel
    rcases Nat.eq_or_lt_of_le hil with hE | hE
    · subst hE
      go_wp2
      go_ret
      rw [List.take_length] at hown
      exact ⟨v, rfl, hown, HB.out⟩
    · obtain ⟨g, p, ap, rfl, hg1, hp1, cl1, cl2, hpl, hrd⟩ := blk_reads HO.out.1 HO.out.2.1 i hE
      obtain ⟨bp, op, rfl, hbp⟩ : ∃ bp op, ap = some ⟨bp, op, none⟩ ∧ bp < w.heap.size := by
        have hne := (HO.out.2.2.ne bs[i] (List.getElem_mem hE)).1
        obtain ⟨b, o, h1, h2, _⟩ := hrd.rdB 0 (List.length_pos_iff.2 hne)
        exact ⟨b, o, h1, h2⟩
      obtain ⟨xs, hxs⟩ : ∃ xs, xs = bs[i] := ⟨_, rfl⟩
      rw [← hxs] at cl2 hrd hpl
      have hxl : xs.length ≤ 128 := by rw [hxs]; exact (HO.out.2.2.ne bs[i] (List.getElem_mem hE)).2
      have l1 : wr.cell? ⟨g, i, none⟩ = some (.pointer (some ⟨p, 0, none⟩)) := (HB.out.cell (p := ⟨g, i, none⟩) hg1).trans cl1
      have l2 : wr.cell? ⟨p, 0, none⟩ = some (.slice (some ⟨bp, op, none⟩) xs.length xs.length) := (HB.out.cell (p := ⟨p, 0, none⟩) hp1).trans cl2
      have ib : (i : Int) < (bs.length : Int) := by omega
      have ib0 : (0 : Int) ≤ (i : Int) := by omega
      have HXS : Hid (xs = bs[i]) := hxs
      have HRD : Hid (RdT encR 18 62 w (some ⟨bp, op, none⟩) xs) := hrd
      obtain ⟨pre, hpre⟩ : ∃ pre, pre = (bs.take i).flatten := ⟨_, rfl⟩
      have HPRE : Hid (pre = (bs.take i).flatten) := hpre
      have hsum : pre.length + xs.length ≤ 10000000 := by
        have h1 := HL.out
        rw [flatten_split hE, List.length_append, List.length_append] at h1
        rw [hpre, hxs]; omega
      rw [← hpre] at hown
      have HOW : Hid (wr.ownsRow w.heap.size 40 18 v pre.length (flatR pre)) := hown
      have CB : Hid (Calls Try.prog 30 #[.pointer (some ⟨p, 0, none⟩)] wr fun e w' => e = .returned (.slice (some ⟨bp, op, none⟩) xs.length xs.length) ∧ w' = wr) := branges_any p _ wr l2
      clear hxs hpre hown cl1 cl2 hrd hpl l2
      go_wp2_with (go_at_call 30; refine CB.out.mono ?_; rintro e w2 ⟨rfl, rfl⟩)
      go_loopg [4, 7] xs.length (fun gk hv jv wr => ∃ (j : Nat) (v : Value), v = hv ∧ jv = .int .i64 j ∧ gk = xs.length - j ∧ j ≤ xs.length ∧ wr.ownsRow w.heap.size 40 18 v (pre ++ xs.take j).length (flatR (pre ++ xs.take j)) ∧ Hid (Below w.heap.size w wr))
      case atStart => exact ⟨0, _, rfl, rfl, rfl, by omega, by simpa using HOW.out, HB⟩
      case round =>
        clear HOW HB
        obtain ⟨j, v, rfl, rfl, hgk2, hjl, hown, HB⟩ := hrel
        rcases Nat.eq_or_lt_of_le hjl with hE2 | hE2
        · subst hE2
          have HO3 : Hid (wr.ownsRow w.heap.size 40 18 v (((bs.take (i + 1)).flatten).length) (flatR ((bs.take (i + 1)).flatten))) := by
            rw [take_succ_flatten hE, ← HPRE.out, ← HXS.out]
            rw [List.take_length] at hown
            exact hown
          clear hown
          go_wp2
          go_roundg (bs.length - (i + 1))
          case measure => omega
          case rel => exact ⟨i + 1, v, rfl, by go_num, rfl, by omega, HO3.out, HB⟩
        · obtain ⟨r, hr⟩ : ∃ r, r = xs[j] := ⟨_, rfl⟩
          obtain ⟨r1, r2, r3⟩ := r
          have hrf := fun n => rd_fields (HRD.out.rdB.below (HB.out.trans (((Gr.refl wr).drewN n).below.mono HB.out.size))) j hE2 k16 HK.out.1
          rw [← hr] at hrf
          have l16 : ∀ n, Sem.run Try.prog (loadCellsFrom ⟨bp, op + j * k18, none⟩ 0 k16 #[]) (wr.drewN n) = .ok (encG r1).toArray (wr.drewN n) := fun n => by rw [HK.out.2.2]; exact (hrf n).1
          have c16 : wr.cell? ⟨bp, op + j * k18 + 16, none⟩ = some (.int .u64 (r2.toNat : Int)) := by rw [HK.out.2.2]; exact (hrf 0).2.1
          have c17 : wr.cell? ⟨bp, op + j * k18 + 17, none⟩ = some (.int .u64 (r3.toNat : Int)) := by rw [HK.out.2.2]; exact (hrf 0).2.2
          have l16a : Sem.run Try.prog (loadCellsFrom ⟨bp, op + j * k18, none⟩ 0 k16 #[]) wr.drew = .ok (encG r1).toArray wr.drew := l16 1
          have l16b : Sem.run Try.prog (loadCellsFrom ⟨bp, op + j * k18, none⟩ 0 k16 #[]) wr.drew.drew = .ok (encG r1).toArray wr.drew.drew := l16 2
          have l16c : Sem.run Try.prog (loadCellsFrom ⟨bp, op + j * k18, none⟩ 0 k16 #[]) wr.drew.drew.drew = .ok (encG r1).toArray wr.drew.drew.drew := l16 3
          clear hrf
          have hbs := HB.out.size
          have HOW : Hid (wr.ownsRow w.heap.size 40 18 v (pre ++ xs.take j).length (flatR (pre ++ xs.take j))) := hown
          obtain ⟨N, hN⟩ : ∃ N, N = (pre ++ xs.take j).length := ⟨_, rfl⟩
          have hNl : N + 1 ≤ 10000000 := by rw [hN]; simp; omega
          rw [← hN] at HOW
          have HN : Hid (N = (pre ++ xs.take j).length ∧ (r1, r2, r3) = xs[j]) := ⟨hN, hr⟩
          have ibj : (j : Int) < (xs.length : Int) := by omega
          have ibj0 : (0 : Int) ≤ (j : Int) := by omega
          clear hN hr hown
          obtain ⟨Z40, Y40, zv40, zs40, fy40, ys40, ye40, te40⟩ := made40 r1 r2 r3 k18 HK.out.2.2
          have hlG : (encG r1).length = k16 := by rw [encG_length, HK.out.1]
          have hlR : (encR (r1, r2, r3)).length = k18 := by rw [encR_length, HK.out.2.2]
          have hle16 : ¬ 18 < k16 := by rw [HK.out.1]; omega
          have hle18 : ¬ 16777216 < k18 := by rw [HK.out.2.2]; omega
          go_upto_region 10 with fail
          go_region_law (refine step_append_own rfl (.tmp 27) (.tmp 44) 36 rfl w.heap.size 40 i0 _ 18 32 Try.underlying36 hinf hz0 hz1 hz2 rfl (by decide) v N (flatR (pre ++ xs.take j)) (by simp [Act.eval]) (ownsRow_heap (HOW.out.alloc (.cells (encR (r1, r2, r3)).toArray 40)) rfl) ⟨wr.heap.size, 0, none⟩ 1 1 (encR (r1, r2, r3)) (by simp [Act.eval]) (by rw [encR_length]) (cells_at (heap_alloc_last wr (.cells (encR (r1, r2, r3)).toArray 40))) (encR_one _) (by unfold maxLen; omega) (by omega) (by first | exact hbs | (simp; omega)) ?_; intro v' w' ho' hg')
          all_goals
            have HB8 : Hid (Below w.heap.size w w') := grown_below (below_same (b := (wr.alloc (.cells (encR (r1, r2, r3)).toArray 40)).drew) (HB.out.alloc hbs (.cells (encR (r1, r2, r3)).toArray 40)) rfl rfl rfl rfl) hg' (by first | exact Nat.le_trans hbs (by simp) | (simp; omega)) (ownsRow_heap (HOW.out.alloc (.cells (encR (r1, r2, r3)).toArray 40)) rfl)
            have HO8 : Hid (w'.ownsRow w.heap.size 40 18 v' (pre ++ xs.take (j + 1)).length (flatR (pre ++ xs.take (j + 1)))) := by
              have e : pre ++ xs.take (j + 1) = (pre ++ xs.take j) ++ [xs[j]] := by rw [List.append_assoc, List.take_append_getElem]
              rw [e, flatR_append, flatR_one, List.length_append, ← HN.out.1, ← HN.out.2]
              exact ho'
            clear ho' hg' HOW
            go_wp2
            go_roundg (xs.length - (j + 1))
            case measure => omega
            case rel => exact ⟨j + 1, v', rfl, by go_num, rfl, by omega, HO8.out, HB8⟩
end Go.Proofs.Qxb6615018a
