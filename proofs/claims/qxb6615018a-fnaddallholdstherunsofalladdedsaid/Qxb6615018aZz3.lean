/-
  DERIVED. zzToProject: a batch copied into the project's own type.
-/
import Derived.Test.Qxb6615018aZz2
import Derived.Test.Qxb6615018aRow
import Derived.OwnWalk
import Derived.Lib.SliceRun
import Derived.ArgAppend
import Derived.Deep.RegionLaw
namespace Go.Proofs.Qxb6615018a
open Go.RowKit Go.Sort

theorem Try.info27 : (Try.prog.info? 27).map (fun i => (i.zero, i.size, i.bytes)) = some (some (.agg (List.replicate 16 (Value.int .u8 0) ++ ([.int .u64 0] : List Value)).toArray), 17, 24) := by kernel_rfl

/-- The fields of serial number i. -/
theorem rd_sn {w : World} {b o : Nat} {xs : List Sn} {B : Nat} (h : RdB encS 17 B w (some ⟨b, o, none⟩) xs) (i : Nat) (hi : i < xs.length) (k16 : Nat) (hk : k16 = 16) :
    Sem.run Try.prog (loadCellsFrom ⟨b, o + i * 17, none⟩ 0 k16 #[]) w = .ok (encG xs[i].1).toArray w ∧ w.cell? ⟨b, o + i * 17 + 16, none⟩ = some (.int .u64 (xs[i].2.toNat : Int)) := by
  subst hk
  obtain ⟨b', o', h1, _, h3⟩ := h i hi
  simp only [Option.some.injEq, Addr.mk.injEq, and_true] at h1
  obtain ⟨rfl, rfl⟩ := h1
  refine ⟨?_, h3 16 _ (encS_16 _)⟩
  have := run_loadCells_list (P := Try.prog) w ⟨b, o + i * 17, none⟩ (encG xs[i].1) (fun j v hj => by
    have hadd : (⟨b, o + i * 17, none⟩ : Addr).add j = ⟨b, o + i * 17 + j, none⟩ := by unfold Addr.add; split <;> simp_all
    rw [hadd]
    refine h3 j v ?_
    rw [encS, List.getElem?_append_left (List.getElem?_eq_some_iff.1 hj).1]; exact hj)
  rw [encG_length] at this
  simpa [loadCells] using this

theorem below_drew {B : Nat} {w w' : World} (h : Below B w w') : Below B w w'.drew := ⟨h.os, h.tape, h.output, h.size, h.block⟩

theorem flatE_length (rs : List Sn) : (rs.flatMap encS).length = rs.length * 17 := by
  induction rs with
  | nil => rfl
  | cons r rs ih => simp only [List.flatMap_cons, List.length_append, encS_length, List.length_cons] at ih ⊢; omega
theorem flatE_get : ∀ (rs : List Sn) (i : Nat) (hi : i < rs.length) (j : Nat) (_ : j < 17), (rs.flatMap encS)[i * 17 + j]? = (encS rs[i])[j]?
  | r :: rs, 0, _, j, hj => by
    rw [List.flatMap_cons, Nat.zero_mul, Nat.zero_add, List.getElem?_append_left (by rw [encS_length]; exact hj)]; rfl
  | r :: rs, i + 1, hi, j, hj => by
    rw [List.flatMap_cons, List.getElem?_append_right (by rw [encS_length]; omega), encS_length, show (i + 1) * 17 + j - 17 = i * 17 + j by omega]
    exact flatE_get rs i (by simpa using hi) j hj

/-- The rows done so far. -/
structure Copied (w : World) (g n : Nat) (ss : List Sn) (i : Nat) (wr : World) (F : Array Value) : Prop where
  blk : wr.heap[g]? = some (.cells F 27 (0, 0))
  size : F.size = n * 17
  done : ∀ j (_ : j < ss.length), j < i → ∀ k v, (encS ss[j])[k]? = some v → F[j * 17 + k]? = some v
  below : Below g w wr

def zerosS : Array Value := (List.replicate 16 (Value.int .u8 0) ++ ([.int .u64 0] : List Value)).toArray
theorem fillS_x (x0 x1 x2 x3 x4 x5 x6 x7 x8 x9 x10 x11 x12 x13 x14 x15 : Value) :
    List.foldl (fun (cs : Array Value) (x : Value × Nat) => cs.setIfInBounds x.snd x.fst) zerosS [x0, x1, x2, x3, x4, x5, x6, x7, x8, x9, x10, x11, x12, x13, x14, x15].zipIdx = #[x0, x1, x2, x3, x4, x5, x6, x7, x8, x9, x10, x11, x12, x13, x14, x15, .int .u64 0] := by kernel_rfl
theorem fillS (g : Gd) : List.foldl (fun (cs : Array Value) (x : Value × Nat) => cs.setIfInBounds x.snd x.fst) zerosS (encG g).zipIdx = (encG g ++ ([.int .u64 0] : List Value)).toArray := by
  obtain ⟨x0, x1, x2, x3, x4, x5, x6, x7, x8, x9, x10, x11, x12, x13, x14, x15, h⟩ := list16 (encG g) (encG_length g)
  rw [h]
  exact fillS_x ..
theorem fillS2 (g : Gd) (f : Value) : (encG g ++ ([.int .u64 0] : List Value)).toArray.setIfInBounds 16 f = (encG g ++ [f]).toArray := by
  obtain ⟨x0, x1, x2, x3, x4, x5, x6, x7, x8, x9, x10, x11, x12, x13, x14, x15, h⟩ := list16 (encG g) (encG_length g)
  rw [h]
  rfl
/-- What the making of a serial number comes to, with its zero value kept a name. -/
theorem made27 (g : Gd) (f : UInt64) : ∃ Z Y : Array Value, (∀ w, (zeroValue 27).run Try.prog w = .ok (.agg Z) w) ∧ Z.size = 17 ∧ List.foldl (fun (cs : Array Value) (x : Value × Nat) => cs.setIfInBounds x.snd x.fst) Z (encG g).zipIdx = Y ∧ Y.size = 17 ∧
    Y.setIfInBounds 16 (.int .u64 (f.toNat : Int)) = (encS (g, f)).toArray :=
  ⟨zerosS, _, fun w => by kernel_rfl, by kernel_rfl, fillS g, by simp [encG_length], fillS2 g _⟩

set_option maxRecDepth 100000 in
set_option maxHeartbeats 1000000 in
theorem toProject_some (ad : Addr) (c : Nat) (ss : List Sn) (w : World) (h : RdB encS 17 w.heap.size w (some ad) ss) (hL : ss.length ≤ 1000000000) :
    Calls Try.prog 10 #[.slice (some ad) ss.length c] w fun e w' => ∃ v', e = .returned v' ∧ w'.ownsRow w.heap.size 27 17 v' ss.length (ss.flatMap encS) ∧ Below w.heap.size w w' := by
  obtain ⟨k16, k17, k18, ⟨z22, z24, z27, z30, z53, z40, z62, n16, n17, n18⟩, HK⟩ := sz_ex
  clear z30 z40 z62 n18
  have mixed : Try.prog.follows .mixedOrders = true := by kernel_rfl
  obtain ⟨i0, hinf, hz0, hz1, hz2⟩ := info_parts Try.info27
  have H : Hid (RdB encS 17 w.heap.size w (some ad) ss) := h
  clear h
  have q : ∀ w, Sem.run Try.prog (binOp BinOp.eql 42 (Value.slice (some ad) ss.length c) (Value.slice none 0 0)) w = .ok (.bool false) w := fun w => Lib.run_eql_slice_nil w 42 53 (some ad) ss.length c 0 0 Try.underlying42
  go_enter Try.func10, Try.ntmps10
  go_wp2_with (at_make; refine wpList_make_full _ rfl (.tmp 8) (.tmp 8) 31 rfl w.heap.size 27 i0 _ 17 Try.underlying31 hinf hz0 hz1 .i64 .i64 _ _ ss.length rfl rfl rfl rfl (by rw [hz2]; omega) (by unfold maxLen; omega) (Nat.le_refl _) ?_)
  intro w1 ho1 hg1
  have H0 : Hid (∃ F, Copied w w.heap.size ss.length ss 0 w1 F) := by
    rcases ho1.2 with ⟨e, _⟩ | ⟨g, cap, cur, heq, _, hb, _, _, hcur, _⟩
    · cases e
    · cases heq
      exact ⟨cur, hb, hcur, fun j _ hj => absurd hj (by omega), ⟨hg1.os, hg1.tape, hg1.output, hg1.size, fun k hk => hg1.block k hk (by simp)⟩⟩
  clear ho1 hg1
  go_wp2
  go_loopg [4] ss.length (fun gk iv wr => ∃ i : Nat, iv = .int .i64 i ∧ gk = ss.length - i ∧ i ≤ ss.length ∧ Hid (∃ F, Copied w w.heap.size ss.length ss i wr F))
  case atStart => exact ⟨0, rfl, rfl, by omega, H0⟩
  case round =>
    clear H0
    obtain ⟨i, rfl, hgk, hil, HR⟩ := hrel
    rcases Nat.eq_or_lt_of_le hil with hE | hE
    · subst hE
      go_wp2
      go_ret
      obtain ⟨F, hF⟩ := HR.out
      refine ⟨_, rfl, ⟨by rw [flatE_length], .inr ⟨w.heap.size, ss.length, F, rfl, Nat.le_refl _, hF.blk, Nat.le_refl _, by unfold maxLen; omega, hF.size, ?_⟩⟩, hF.below⟩
      apply List.ext_getElem?
      intro x
      by_cases hx : x < ss.length * 17
      · rw [List.getElem?_take_of_lt hx, Array.getElem?_toList]
        have hj : x / 17 < ss.length := by omega
        have hk : x % 17 < 17 := by omega
        have e : x = x / 17 * 17 + x % 17 := by omega
        rw [e, flatE_get ss (x / 17) hj (x % 17) hk]
        have hv : (encS ss[x / 17])[x % 17]? = some ((encS ss[x / 17])[x % 17]'(by rw [encS_length]; omega)) := List.getElem?_eq_getElem _
        rw [hv]
        exact hF.done (x / 17) hj hj (x % 17) _ hv
      · rw [List.getElem?_take_eq_none (by omega), List.getElem?_eq_none (by rw [flatE_length]; omega)]
    · obtain ⟨b, o, heq, hlt, hcells⟩ := H.out i hE
      cases heq
      obtain ⟨F, hF⟩ := HR.out
      obtain ⟨l0, c0⟩ := rd_sn (H.out.below hF.below) i hE k16 HK.out.1
      obtain ⟨l1, c1⟩ := rd_sn (w := wr.drew) (H.out.below (below_drew hF.below)) i hE k16 HK.out.1
      have hst : Sem.run Try.prog (storeCells ⟨w.heap.size, i * k17, none⟩ (encS ss[i]) 0) wr.drew = .ok () (wr.drew.setCells w.heap.size (i * 17) (encS ss[i])) := by
        have := run_storeCells_cells (P := Try.prog) w.heap.size (i * 17) (encS ss[i]) 0 wr.drew (fun j hj => ?_) (fun j hj => ?_) (encS_one _)
        · rw [HK.out.2.1]; simpa using this
        · have hk : i * 17 + 0 + j < F.size := by rw [hF.size]; rw [encS_length] at hj; omega
          show (wr.cell? ⟨w.heap.size, i * 17 + 0 + j, none⟩).isSome = true
          simp only [World.cell?, hF.blk, Array.getElem?_eq_getElem hk]
          rfl
        · show wr.frozen? ⟨w.heap.size, i * 17 + 0 + j, none⟩ = false
          simp [World.frozen?, hF.blk]
      have HN : Hid (∃ F', Copied w w.heap.size ss.length ss (i + 1) (wr.drew.setCells w.heap.size (i * 17) (encS ss[i])) F') := by
        refine ⟨setMany F (i * 17) (encS ss[i]), heap_setCells _ 27 (0, 0) _ _ wr.drew F hF.blk, by rw [size_setMany]; exact hF.size, fun j hj hji k v hv => ?_, ?_⟩
        · have hk : k < 17 := by have := (List.getElem?_eq_some_iff.1 hv).1; rwa [encS_length] at this
          rw [setMany_get? _ _ _ _ (by rw [encS_length, hF.size]; omega), encS_length]
          by_cases e : j = i
          · subst e
            rw [if_pos (by omega), show j * 17 + k - j * 17 = k by omega]; exact hv
          · rw [if_neg (by omega)]; exact hF.done j hj (by omega) k v hv
        · have h3 := grown_setCells w.heap.size (encS ss[i]) (i * 17) wr.drew
          refine ⟨h3.os.trans hF.below.os, h3.tape.trans hF.below.tape, h3.output.trans hF.below.output, Nat.le_trans hF.below.size h3.size, fun k hk => ?_⟩
          rw [h3.block k (by show k < wr.heap.size; have := hF.below.size; omega) (fun e => by have := Option.some.inj e; omega)]
          exact hF.below.block k hk
      obtain ⟨s, hs⟩ : ∃ s, s = ss[i] := ⟨_, rfl⟩
      rw [← hs] at l0 c0 l1 c1 hst HN
      obtain ⟨g, n⟩ := s
      have HS : Hid ((g, n) = ss[i]) := hs
      clear hs
      have ib0 : (0 : Int) ≤ (i : Int) := by omega
      have ib : (i : Int) < (ss.length : Int) := by omega
      rw [← HK.out.2.1] at l0 l1 c0 c1
      obtain ⟨Z27, Y27, zv27, zs27, fy27, ys27, ye27⟩ := made27 g n
      have hlG : (encG g).length = k16 := by rw [encG_length, HK.out.1]
      have hle16 : ¬ 17 < k16 := by rw [HK.out.1]; omega
      have hln : ∀ s, (encS s).length = k17 := fun s => by rw [encS_length, HK.out.2.1]
      go_upto_region 7 with fail
      go_region
      go_wp2
      go_roundg (ss.length - (i + 1))
      case measure => omega
      case rel => exact ⟨i + 1, by go_num, rfl, by omega, HN⟩
/-- zzToProject. -/
theorem toProject_any (a : Option Addr) (c : Nat) (ss : List Sn) (w : World) (h : RdB encS 17 w.heap.size w a ss) (hL : ss.length ≤ 1000000000) :
    Calls Try.prog 10 #[.slice a ss.length c] w fun e w' => ∃ v', e = .returned v' ∧ w'.ownsRow w.heap.size 27 17 v' ss.length (ss.flatMap encS) ∧ Below w.heap.size w w' := by
  cases a with
  | some ad => exact toProject_some ad c ss w h hL
  | none =>
    cases ss with
    | cons s ss => obtain ⟨_, _, e, _⟩ := h 0 (by simp); cases e
    | nil =>
      have q : ∀ w, Sem.run Try.prog (binOp BinOp.eql 42 (Value.slice none 0 c) (Value.slice none 0 0)) w = .ok (.bool true) w := fun w => Lib.run_eql_slice_nil w 42 53 none 0 c 0 0 Try.underlying42
      go_enter Try.func10, Try.ntmps10
      go_wp2
      go_ret
      exact ⟨_, rfl, World.ownsRow_nil _ _ _ _, Below.refl _ _⟩
end Go.Proofs.Qxb6615018a
