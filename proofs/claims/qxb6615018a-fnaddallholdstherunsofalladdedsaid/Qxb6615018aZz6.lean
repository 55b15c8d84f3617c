/-
  DERIVED. zzSortedSerials: the insertion sort.
-/
import Derived.Test.Qxb6615018aZz5
import Derived.Test.Qxb6615018aHeld
namespace Go.Proofs.Qxb6615018a
open Go.RowKit Go.Sort

theorem Try.info53 : (Try.prog.info? 53).map (fun i => (i.zero, i.size, i.bytes)) = some (some (.agg (encS nullS).toArray), 17, 24) := by kernel_rfl
theorem zero53' : ∃ Z : Array Value, Hid (Z.size = 17) ∧ ∀ w, (zeroValue 53).run Try.prog w = .ok (.agg Z) w :=
  ⟨(List.replicate 16 (Value.int .u8 0) ++ ([.int .u64 0] : List Value)).toArray, by show _ = _; rfl, fun w => by simp [go_sem]⟩

/-- A new row. -/
theorem RowS.made {w : World} {B g n : Nat} (ho : w.ownsRow B 53 17 (.slice (some ⟨g, 0, none⟩) n n) n (madeCells (Value.agg (encS nullS).toArray).cells (n * 17)).toList) : RowS w g (List.replicate n nullS) := by
  rcases ho.2 with ⟨e, _⟩ | ⟨g', cap, cur, heq, _, hb, _, _, hcur, ht⟩
  · cases e
  · cases heq
    refine ⟨cur, hb, by simpa using hcur, fun j hj k v hv => ?_⟩
    rw [List.length_replicate] at hj
    rw [List.getElem_replicate] at hv
    have hk : k < 17 := by have := (List.getElem?_eq_some_iff.1 hv).1; rwa [encS_length] at this
    have hlt : j * 17 + k < n * 17 := by omega
    have e : cur[j * 17 + k]? = (madeCells (Value.agg (encS nullS).toArray).cells (n * 17))[j * 17 + k]? := by
      rw [← Array.getElem?_toList, ← Array.getElem?_toList, ← ht, List.getElem?_take_of_lt hlt]
    rw [e]
    have hs : (Value.agg (encS nullS).toArray).cells.size = 17 := rfl
    have hmod : (j * 17 + k) % 17 = k := by omega
    have hz : (Value.agg (encS nullS).toArray).cells = (encS nullS).toArray := rfl
    simp only [madeCells, Array.getElem?_map, Array.getElem?_range, hlt, hs, if_true, Option.map_some, hmod]
    rw [hz, getElem!_pos _ _ (by simp [encS_length]; exact hk)]
    rw [List.getElem?_eq_getElem (by rw [encS_length]; exact hk)] at hv
    simpa using hv

theorem cmpS_gt (s t : Sn) : (0 < cmpS s t) ↔ key t < key s := by
  rw [cmpS_key]
  split
  · constructor <;> intro h <;> omega
  · split <;> constructor <;> intro h <;> omega

set_option maxRecDepth 100000 in
set_option maxHeartbeats 2000000 in
/-- zzSortedSerials. -/
theorem sorted_any (a : Option Addr) (c : Nat) (ss : List Sn) (w : World) (h : RdB encS 17 w.heap.size w a ss) (hL : ss.length ≤ 1000000000) :
    Calls Try.prog 11 #[.slice a ss.length c] w fun e w' => e = .returned (.slice (some ⟨w.heap.size, 0, none⟩) ss.length ss.length) ∧ RowS w' w.heap.size (sortS ss) ∧ Below w.heap.size w w' := by
  obtain ⟨k16, k17, k18, ⟨z22, z24, z27, z30, z53, z40, z62, n16, n17, n18⟩, HK⟩ := sz_ex
  clear z22 z24 z27 z30 z40 z62 n16 n18
  have mixed : Try.prog.follows .mixedOrders = true := by kernel_rfl
  obtain ⟨i0, hinf, hz0, hz1, hz2⟩ := info_parts Try.info53
  obtain ⟨Z17, hZ, v53⟩ := zero53'
  have H : Hid (RdB encS 17 w.heap.size w a ss) := h
  have hlnS : ∀ s, (encS s).length = k17 := fun s => by rw [encS_length, HK.out.2.1]
  clear h
  go_enter Try.func11, Try.ntmps11
  go_wp2_with (at_make; refine wpList_make_full _ rfl (.tmp 9) (.tmp 9) 42 rfl w.heap.size 53 i0 _ 17 Try.underlying42 hinf hz0 hz1 .i64 .i64 _ _ ss.length rfl rfl rfl rfl (by rw [hz2]; omega) (by unfold maxLen; omega) (Nat.le_refl _) ?_)
  intro w1 ho1 hg1
  have H0 : Hid (RowS w1 w.heap.size (List.replicate ss.length nullS) ∧ Below w.heap.size w w1) := ⟨RowS.made ho1, ⟨hg1.os, hg1.tape, hg1.output, hg1.size, fun k hk => hg1.block k hk (by simp)⟩⟩
  clear ho1 hg1 hz0
  go_wp2
  go_loopg [4] ss.length (fun gk iv wr => ∃ i : Nat, iv = .int .i64 i ∧ gk = ss.length - i ∧ i ≤ ss.length ∧ Hid (∃ R : List Sn, R.length = ss.length ∧ (∀ j (h1 : j < R.length) (h2 : j < ss.length), j < i → R[j] = ss[j]) ∧ RowS wr w.heap.size R ∧ Below w.heap.size w wr))
  case atStart => exact ⟨0, rfl, rfl, by omega, _, by simp, fun j _ _ h => absurd h (by omega), H0.out⟩
  case round =>
    clear H0
    obtain ⟨i, rfl, hgk, hil, HR⟩ := hrel
    rcases Nat.eq_or_lt_of_le hil with hE | hE
    · have HR2 : Hid (RowS wr w.heap.size ss ∧ Below w.heap.size w wr) := by
        obtain ⟨R, h1, h2, h3, h4⟩ := HR.out
        have e : R = ss := List.ext_getElem h1 (fun j p q => h2 j p q (by omega))
        subst e
        exact ⟨h3, h4⟩
      clear HR
      subst hE
      go_wp2
      go_loopg [5] (ss.length - 1) (fun gk iv wr => ∃ i : Nat, iv = .int .i64 i ∧ gk = ss.length - i ∧ 1 ≤ i ∧ i ≤ ss.length + 1 ∧ Hid (∃ R : List Sn, Upto ss R i ∧ RowS wr w.heap.size R ∧ Below w.heap.size w wr))
      case atStart => exact ⟨1, rfl, rfl, by omega, by omega, ss, Upto.one ss, HR2.out⟩
      case round =>
        clear HR2
        obtain ⟨i, rfl, hgk2, hi1, hi2, HU⟩ := hrel
        obtain ⟨wo, hwo⟩ : ∃ wo, wo = wr := ⟨_, rfl⟩
        subst hwo
        rcases Nat.lt_or_ge i ss.length with hE | hE
        · obtain ⟨R, hU, hR, hB⟩ := HU.out
          have hlen := hU.len
          have ld := hR.ld i (by omega) k17 HK.out.2.1
          obtain ⟨x, hx⟩ : ∃ x, x = R[i]'(by omega) := ⟨_, rfl⟩
          rw [← hx] at ld
          have hH : Hole ss R x i i := by rw [hx]; exact hU.hole (by omega)
          have st1 : Sem.run Try.prog (storeCells ⟨wo.heap.size, 0, none⟩ (encS x) 0) (wo.alloc (.cells Z17 53)) = .ok () (wo.alloc (.cells (encS x).toArray 53)) := st_new wo 53 Z17 _ (by rw [encS_length]; exact hZ.out) (encS_one _)
          have hgx : w.heap.size < wo.heap.size := hR.lt
          have HX : Hid (∃ R : List Sn, Hole ss R x i i ∧ RowS (wo.alloc (.cells (encS x).toArray 53)) w.heap.size R ∧ Below w.heap.size w (wo.alloc (.cells (encS x).toArray 53)) ∧ (wo.alloc (.cells (encS x).toArray 53)).heap[wo.heap.size]? = some (.cells (encS x).toArray 53 (0, 0))) :=
            ⟨R, hH, hR.below (((Below.refl _ _).alloc (Nat.le_refl _) _).block _ hgx), hB.alloc hB.size _, heap_alloc_last _ _⟩
          have ib0 : (0 : Int) ≤ (i : Int) := by omega
          have ib : (i : Int) < (ss.length : Int) := by omega
          clear hx hH hR hU hB hlen HU
          go_wp2
          go_loopg [7] i (fun gk jv wr => ∃ j : Nat, jv = .int .i64 j ∧ gk = j ∧ j ≤ i ∧ Hid (∃ R : List Sn, Hole ss R x i j ∧ RowS wr w.heap.size R ∧ Below w.heap.size w wr ∧ wr.heap[wo.heap.size]? = some (.cells (encS x).toArray 53 (0, 0))))
          case atStart => exact ⟨i, rfl, rfl, by omega, HX⟩
          case round =>
            clear HX ld st1
            obtain ⟨j, rfl, hgk3, hji, HJ⟩ := hrel
            obtain ⟨R, hH, hR, hB, hxb⟩ := HJ.out
            have hlen := hH.len
            have jb0 : (0 : Int) ≤ (j : Int) := by omega
            have jbi : (j : Int) < (ss.length : Int) := by omega
            have HNEXT : Hid (∀ wx : World, RowS wx w.heap.size R → Below w.heap.size w wx → wx.heap[wo.heap.size]? = some (.cells (encS x).toArray 53 (0, 0)) → (j = 0 ∨ ∃ h : j - 1 < R.length, key R[j - 1] ≤ key x) →
                Sem.run Try.prog (loadCellsFrom ⟨wo.heap.size, 0, none⟩ 0 k17 #[]) wx = .ok (encS x).toArray wx ∧ ∃ w', Sem.run Try.prog (storeCells ⟨w.heap.size, j * k17, none⟩ (encS x) 0) wx = .ok () w' ∧ Hid (∃ R : List Sn, Upto ss R (i + 1) ∧ RowS w' w.heap.size R ∧ Below w.heap.size w w')) := fun wx hR' hB' hx' hor => by
              obtain ⟨w', hst, hr', hg'⟩ := hR'.st j (by omega) x k17 HK.out.2.1
              refine ⟨ld_block _ _ _ _ 53 (0, 0) _ _ hx' (by rw [encS_length, HK.out.2.1]) (by simp), w', hst, _, hH.fill hji hor, hr', ?_⟩
              exact ⟨hg'.os.trans hB'.os, hg'.tape.trans hB'.tape, hg'.output.trans hB'.output, Nat.le_trans hB'.size hg'.size, fun k hk => (hg'.block k (by have := hB'.size; omega) (fun e => by have := Option.some.inj e; omega)).trans (hB'.block k hk)⟩
            have HD : Hid (∀ q, RowS (wr.drewN q) w.heap.size R ∧ Below w.heap.size w (wr.drewN q) ∧ (wr.drewN q).heap[wo.heap.size]? = some (.cells (encS x).toArray 53 (0, 0))) := fun q => ⟨hR.below rfl, hB.trans (((Gr.refl wr).drewN q).below.mono hB.size), hxb⟩
            rcases Nat.eq_zero_or_pos j with hj0 | hj0
            · have hjn : ¬ ((0 : Int) < (j : Int)) := by omega
              have hjb : decide ((0 : Int) < (j : Int)) = false := by simpa using hjn
              have hjm : ¬ (0 < j) := by omega
              have HJ0 : Hid (j = 0) := hj0
              clear hj0 hH hR hB hxb HJ
              go_upto_region 11 with fail
              go_quiet (fail)
              obtain ⟨wx, hwx⟩ : ∃ wx, wx = wr.drewN nq := ⟨_, rfl⟩
              rw [← hwx]
              have hd := HD.out nq
              rw [← hwx] at hd
              obtain ⟨ldx, w', hst, HFIN⟩ := HNEXT.out wx hd.1 hd.2.1 hd.2.2 (.inl HJ0.out)
              clear hd hwx
              go_wp2
              go_roundg (ss.length - (i + 1))
              case measure => omega
              case rel => exact ⟨i + 1, by go_num, rfl, by omega, by omega, HFIN⟩
            · obtain ⟨k, hk⟩ : ∃ k, j = k + 1 := ⟨j - 1, by omega⟩
              have hkR : k < R.length := by omega
              obtain ⟨y, hy⟩ : ∃ y, y = R[k] := ⟨_, rfl⟩
              have CC : Hid (∀ W, Calls Try.prog 31 #[.agg (encS y).toArray, .agg (encS x).toArray] W fun e w' => e = .returned (.int .i64 (cmpS y x)) ∧ Below W.heap.size W w') := fun W => cmpSer_any y x W
              have HLD : Hid (∀ W, RowS W w.heap.size R → W.heap[wo.heap.size]? = some (.cells (encS x).toArray 53 (0, 0)) → Sem.run Try.prog (loadCellsFrom ⟨w.heap.size, k * k17, none⟩ 0 k17 #[]) W = .ok (encS y).toArray W ∧ Sem.run Try.prog (loadCellsFrom ⟨wo.heap.size, 0, none⟩ 0 k17 #[]) W = .ok (encS x).toArray W) := fun W h1 h2 =>
                ⟨by rw [hy]; exact h1.ld k hkR k17 HK.out.2.1, ld_block _ _ _ _ 53 (0, 0) _ _ h2 (by rw [encS_length, HK.out.2.1]) (by simp)⟩
              have d1 := (HLD.out wr.drew (HD.out 1).1 (HD.out 1).2.2)
              have d2 := (HLD.out wr.drew.drew (HD.out 2).1 (HD.out 2).2.2)
              have HSTEP : Hid (∀ wx : World, RowS wx w.heap.size R → Below w.heap.size w wx → wx.heap[wo.heap.size]? = some (.cells (encS x).toArray 53 (0, 0)) → key x < key y →
                  ∃ w', Sem.run Try.prog (storeCells ⟨w.heap.size, j * k17, none⟩ (encS y) 0) wx = .ok () w' ∧ Hid (∃ R : List Sn, Hole ss R x i k ∧ RowS w' w.heap.size R ∧ Below w.heap.size w w' ∧ w'.heap[wo.heap.size]? = some (.cells (encS x).toArray 53 (0, 0)))) := fun wx hR' hB' hx' hlt => by
                obtain ⟨w', hst, hr', hg'⟩ := hR'.st j (by omega) y k17 HK.out.2.1
                refine ⟨w', hst, R.set j y, ?_, hr', ⟨hg'.os.trans hB'.os, hg'.tape.trans hB'.tape, hg'.output.trans hB'.output, Nat.le_trans hB'.size hg'.size, fun k hk => (hg'.block k (by have := hB'.size; omega) (fun e => by have := Option.some.inj e; omega)).trans (hB'.block k hk)⟩, ?_⟩
                · subst hk
                  rw [hy]
                  exact hH.step (by omega) hji (by rw [← hy]; exact hlt)
                · exact (hg'.block _ (Array.getElem?_eq_some_iff.1 hx').1 (fun e => by have := Option.some.inj e; omega)).trans hx'
              have HKY : Hid (j - 1 < R.length ∧ (key y ≤ key x → ∃ h : j - 1 < R.length, key R[j - 1] ≤ key x)) := ⟨by omega, fun hle => ⟨by omega, by
                have e : j - 1 = k := by omega
                simp only [e]; rw [← hy]; exact hle⟩⟩
              have hwk : IntKind.i64.wrap ((j : Int) - 1) = (k : Int) := by rw [IntKind.wrap_i64]; omega
              have kb0 : (0 : Int) ≤ (k : Int) := by omega
              have kb : (k : Int) < (ss.length : Int) := by omega
              have hjp : (0 : Int) < (j : Int) := by omega
              have hgt := cmpS_gt y x
              obtain ⟨cv, hcv⟩ : ∃ cv, cv = cmpS y x := ⟨_, rfl⟩
              rw [← hcv] at hgt CC
              have HGT : Hid (0 < cv ↔ key x < key y) := hgt
              have HJK : Hid (j = k + 1) := hk
              obtain ⟨e1, e2⟩ := d1
              obtain ⟨e3, e4⟩ := d2
              clear hcv hgt hy hH hR hB hxb HJ hk
              go_upto_region 11 with fail
              go_cut [46] from 35 to 56 (fun bv wc => bv = .bool (decide (0 < cv)) ∧ Hid (RowS wc w.heap.size R ∧ Below w.heap.size w wc ∧ wc.heap[wo.heap.size]? = some (.cells (encS x).toArray 53 (0, 0))))
              case first =>
                go_region_with (go_at_call 31; refine (CC.out _).mono ?_; rintro e w5 ⟨rfl, hb5⟩)
                all_goals go_wp2
                all_goals go_meet
                all_goals refine ⟨rfl, ?_⟩
                all_goals
                  have hd := HD.out 1
                  exact ⟨hd.1.below (hb5.block _ hd.1.lt), hd.2.1.trans (hb5.mono hd.2.1.size), (hb5.block _ (Array.getElem?_eq_some_iff.1 hd.2.2).1).trans hd.2.2⟩
              case rest =>
                obtain ⟨rfl, HC⟩ := hcut
                clear e1 e2 e3 e4
                by_cases hc : 0 < cv
                · obtain ⟨w', hst, HFIN⟩ := HSTEP.out wc HC.out.1 HC.out.2.1 HC.out.2.2 (HGT.out.1 hc)
                  obtain ⟨l1, l2⟩ := HLD.out wc HC.out.1 HC.out.2.2
                  have hcd : decide (0 < cv) = true := by simpa using hc
                  go_wp2
                  go_roundg k
                  case measure => have := HJK.out; omega
                  case rel => exact ⟨k, by go_num, rfl, by have := HJK.out; omega, HFIN⟩
                · obtain ⟨ldx, w', hst, HFIN⟩ := HNEXT.out wc HC.out.1 HC.out.2.1 HC.out.2.2 (.inr (HKY.out.2 (by have := mt HGT.out.2 hc; omega)))
                  have hcd : decide (0 < cv) = false := by simpa using hc
                  go_wp2
                  go_roundg (ss.length - (i + 1))
                  case measure => omega
                  case rel => exact ⟨i + 1, by go_num, rfl, by omega, by omega, HFIN⟩
        · have HF : Hid (RowS wo w.heap.size (sortS ss) ∧ Below w.heap.size w wo) := by
            obtain ⟨R, hU, hR, hB⟩ := HU.out
            rw [← hU.done (by rw [hU.len]; omega)]
            exact ⟨hR, hB⟩
          clear HU
          go_wp2
          go_ret
          exact ⟨rfl, HF.out⟩
    · obtain ⟨b, o, heq, hlt, hcells⟩ := H.out i hE
      cases heq
      obtain ⟨R, h1, h2, h3, h4⟩ := HR.out
      have ld := (H.out.below h4).ld encS_length i hE k17 HK.out.2.1
      obtain ⟨w', hst, hr', hg'⟩ := h3.st i (by omega) ss[i] k17 HK.out.2.1
      have HN : Hid (∃ R : List Sn, R.length = ss.length ∧ (∀ j (h1 : j < R.length) (h2 : j < ss.length), j < i + 1 → R[j] = ss[j]) ∧ RowS w' w.heap.size R ∧ Below w.heap.size w w') := by
        refine ⟨_, by rw [List.length_set]; exact h1, fun j p q hj => ?_, hr', ?_⟩
        · rw [List.getElem_set]
          by_cases e : i = j
          · subst e; rw [if_pos rfl]
          · rw [if_neg e]; exact h2 j _ q (by omega)
        · exact ⟨hg'.os.trans h4.os, hg'.tape.trans h4.tape, hg'.output.trans h4.output, Nat.le_trans h4.size hg'.size, fun k hk => (hg'.block k (by have := h4.size; omega) (fun e => by have := Option.some.inj e; omega)).trans (h4.block k hk)⟩
      generalize ss[i] = s at ld hst
      have ib0 : (0 : Int) ≤ (i : Int) := by omega
      have ib : (i : Int) < (ss.length : Int) := by omega
      clear h1 h2 h3 h4 hr' hg' HR hcells hlt
      go_wp2
      go_roundg (ss.length - (i + 1))
      case measure => omega
      case rel => exact ⟨i + 1, by go_num, rfl, by omega, HN⟩
end Go.Proofs.Qxb6615018a
