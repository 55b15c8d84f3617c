/-
  DERIVED. The law of FnAddAllInTwoBatchesAtAnyCut, walked.
-/
import Derived.Test.Qxb6615018aAdd2
import Derived.Test.Qxb6615018aZz3
import Derived.Test.Qxb6615018aZz4
namespace Go.Proofs.Qxb6615018a
open Go.RowKit Go.Sort

theorem ht42 : Try.prog.underlying 42 = some (.slice (Try.prog.elem 42)) := by kernel_rfl
theorem el42 : Try.prog.elem 42 = 53 := by kernel_rfl

theorem own_rd40 {w : World} {B : Nat} {v : Value} {zs : List Rg} {n : Nat} (h : w.ownsRow B 40 18 v n (flatR zs)) : ∃ a c, v = .slice a zs.length c ∧ RdB encR 18 w.heap.size w a zs := by
  have hn : n = zs.length := by have := h.1; rw [flatR_length] at this; omega
  subst hn
  rcases h.2 with ⟨rfl, h0⟩ | ⟨g, cap, cur, rfl, _, hb, _, _, _, h4⟩
  · rw [h0]
    exact ⟨none, 0, rfl, fun i hi => absurd hi (by omega)⟩
  · refine ⟨some ⟨g, 0, none⟩, cap, rfl, fun i hi => ⟨g, 0, rfl, (Array.getElem?_eq_some_iff.1 hb).1, fun j v hv => ?_⟩⟩
    have hj : j < 18 := by have := (List.getElem?_eq_some_iff.1 hv).1; rwa [encR_length] at this
    have e := flatR_get zs i hi j hj
    rw [← h4, List.getElem?_take_of_lt (by omega), Array.getElem?_toList] at e
    have hc : cur[0 + i * 18 + j]? = some v := by rw [Nat.zero_add, e]; exact hv
    simpa [World.cell?, hb] using hc

theorem zero53 : ∃ Z : Array Value, Hid (Z.size = 17) ∧ ∀ w, (zeroValue 53).run Try.prog w = .ok (.agg Z) w :=
  ⟨(List.replicate 16 (Value.int .u8 0) ++ ([.int .u64 0] : List Value)).toArray, by show _ = _; rfl, fun w => by simp [go_sem]⟩
theorem eqlS53 (a b : Sn) (w : World) : (binOp .eql 53 (.agg (encS a).toArray) (.agg (encS b).toArray)).run Try.prog w = .ok (.bool (a == b)) w :=
  eqS 53 22 Try.underlying53 Try.underlying22 (by kernel_rfl) Try.isAgg22 Try.sizeOf22 a b w

theorem mem_empty (x : Nat) : ¬ mem x ([] : List (List Rg)).flatten := by simp [mem]

/-- All serial numbers, in two batches or in one. -/
theorem batches (ss : List Sn) (m : Nat) (b1 b2 b3 : List (List Rg)) (g1 : Good b1) (g3 : Good b3) (h1 : ∀ x, mem x b1.flatten ↔ mem x ([] : List (List Rg)).flatten ∨ (isKey x ss ∧ x ≠ 0)) (h2 : ∀ x, mem x b2.flatten ↔ mem x ([] : List (List Rg)).flatten ∨ (isKey x (ss.take m) ∧ x ≠ 0)) (h3 : ∀ x, mem x b3.flatten ↔ mem x b2.flatten ∨ (isKey x (ss.drop m) ∧ x ≠ 0)) :
    b3.flatten = b1.flatten ∧ ∀ x, mem x b1.flatten ↔ isKey x ss ∧ x ≠ 0 := by
  have e1 : ∀ x, mem x b1.flatten ↔ isKey x ss ∧ x ≠ 0 := fun x => by rw [h1]; exact ⟨fun h => h.resolve_left (mem_empty x), .inr⟩
  refine ⟨Ap.uniq _ _ g3.ap g1.ap fun x => ?_, e1⟩
  rw [h3, h2, e1, isKey_take_drop x m ss]
  simp only [mem_empty, false_or]
  constructor
  · rintro (⟨h, h0⟩ | ⟨h, h0⟩)
    · exact ⟨.inl h, h0⟩
    · exact ⟨.inr h, h0⟩
  · rintro ⟨h | h, h0⟩
    · exact .inl ⟨h, h0⟩
    · exact .inr ⟨h, h0⟩

set_option maxRecDepth 100000 in
set_option maxHeartbeats 4000000 in
theorem law5_any (a : Option Addr) (c : Nat) (ss : List Sn) (cut : Int) (w : World) (hp : Plain a c) (hc : ss.length ≤ c) (hcm : c ≤ 9223372036854775807) (hr : RdB encS 17 w.heap.size w a ss) :
    Calls Try.prog 5 #[.slice a ss.length c, .int .i64 cut] w fun e w' => e = .returned (.bool true) ∧ Below w.heap.size w w' := by
  obtain ⟨k16, k17, k18, ⟨z22, z24, z27, z30, z53, z40, z62, n16, n17, n18⟩, HK⟩ := sz_ex
  clear z24 z27 z30 z62
  have mixed : Try.prog.follows .mixedOrders = true := by kernel_rfl
  have C15 : Hid (Calls Try.prog 15 #[.slice a ss.length c, .int .i64 cut] w fun e w' => ∃ b, e = .returned (.bool b) ∧ w' = w) := bytes15 a ss.length c cut w (by omega)
  have HP : Hid (Plain a c ∧ RdB encS 17 w.heap.size w a ss) := ⟨hp, hr⟩
  clear hp hr
  go_enter Try.func5, Try.ntmps5
  go_wp2_with fail
  refine C15.out.mono ?_
  rintro e w1 ⟨b, rfl, rfl⟩
  cases b with
  | false =>
    go_wp2
    go_ret
    exact ⟨rfl, Below.refl _ _⟩
  | true =>
    by_cases h1 : 4096 < ss.length
    · go_wp2
      go_ret
      exact ⟨rfl, Below.refl _ _⟩
    · by_cases h2 : cut < 0
      · go_wp2
        go_ret
        exact ⟨rfl, Below.refl _ _⟩
      · by_cases h3 : (ss.length : Int) < cut
        · go_wp2
          go_ret
          exact ⟨rfl, Below.refl _ _⟩
        · obtain ⟨m, rfl⟩ : ∃ m : Nat, cut = (m : Int) := ⟨cut.toNat, by omega⟩
          have hm : m ≤ ss.length := by omega
          obtain ⟨W1, hW1⟩ : ∃ W1, W1 = w1.alloc (.cells #[.pointer none] 34) := ⟨_, rfl⟩
          have hsl2 : ∀ w, (Instr.slice 42 (.slice a ss.length c) none (some (.int .i64 m)) none).run Try.prog w = .ok (.slice a m c) w := fun w => cut_to 42 53 ht42 el42 k17 z53 m (by omega) w
          obtain ⟨a3, hp3, hr3, hsl3⟩ := cut_from 42 53 ht42 el42 encS_length k17 HK.out.2.1 z53 HP.out.1 hc hcm HP.out.2 m hm
          have HB1 : Hid (Below w1.heap.size w1 W1 ∧ Know w1.heap.size W1 w1.heap.size [] ∧ w1.heap.size < W1.heap.size) := by rw [hW1]; exact ⟨(Below.refl _ _).alloc (Nat.le_refl _) _, Know.fresh w1, by simp⟩
          have HR3 : Hid (RdB encS 17 w1.heap.size w1 a3 (ss.drop m) ∧ (ss.drop m).length = ss.length - m ∧ RdB encS 17 w1.heap.size w1 a (ss.take m) ∧ (ss.take m).length = m) := ⟨hr3, by simp, HP.out.2.take m, by simp; omega⟩
          clear hp3 hr3
          go_wp2_with fail
          rw [← hW1]
          clear hW1
          refine (toProject_any a c ss W1 ((HP.out.2.below HB1.out.1).mono HB1.out.1.size) (by omega)).mono ?_
          rintro e w2 ⟨v1, rfl, ho1, hb2⟩
          have CA1 : Hid (Calls Try.prog 7 #[.pointer (some ⟨w1.heap.size, 0, none⟩), v1] w2 fun e w' => e = .returned (.tuple #[]) ∧ Below w1.heap.size w1 w' ∧ ∃ bs', Know w1.heap.size w' w1.heap.size bs' ∧ Good bs' ∧ bs'.flatten.length ≤ ss.length ∧ ∀ x, mem x bs'.flatten ↔ mem x ([] : List (List Rg)).flatten ∨ (isKey x ss ∧ x ≠ 0)) := by
            refine (adds_young w1.heap.size W1.heap.size [] v1 ss w2 (HB1.out.2.1.below hb2) Good.nil HB1.out.2.2 ho1 (by simp; omega)).mono ?_
            rintro e w' ⟨h1, h2, bs', h3, h4, h5, h6⟩
            exact ⟨h1, HB1.out.1.trans ((hb2.mono HB1.out.1.size).trans h2), bs', h3, h4, by simpa using h5, h6⟩
          clear ho1 hb2 HB1
          go_wp2_with fail
          refine CA1.out.mono ?_
          rintro e w3 ⟨rfl, hb3, b1, hk1, hg1, hl1, hm1⟩
          have H3 : Hid (Below w1.heap.size w1 w3 ∧ Know w1.heap.size w3 w1.heap.size b1 ∧ Good b1 ∧ b1.flatten.length ≤ ss.length ∧ ∀ x, mem x b1.flatten ↔ mem x ([] : List (List Rg)).flatten ∨ (isKey x ss ∧ x ≠ 0)) := ⟨hb3, hk1, hg1, hl1, hm1⟩
          clear hb3 hk1 hg1 hl1 hm1 CA1
          obtain ⟨W4, hW4⟩ : ∃ W4, W4 = w3.alloc (.cells #[.pointer none] 34) := ⟨_, rfl⟩
          have HB4 : Hid (Below w3.heap.size w3 W4 ∧ Know w3.heap.size W4 w3.heap.size [] ∧ w3.heap.size < W4.heap.size ∧ Below w1.heap.size w1 W4) := by
            have hb := (Below.refl w3.heap.size w3).alloc (Nat.le_refl _) (.cells #[.pointer none] 34)
            rw [hW4]; exact ⟨hb, Know.fresh w3, by simp, H3.out.1.trans (hb.mono H3.out.1.size)⟩
          go_wp2_with fail
          rw [← hW4]
          clear hW4
          have T2 : Calls Try.prog 10 #[.slice a m c] W4 fun e w' => ∃ v', e = .returned v' ∧ w'.ownsRow W4.heap.size 27 17 v' (ss.take m).length ((ss.take m).flatMap encS) ∧ Below W4.heap.size W4 w' := by
            have := toProject_any a c (ss.take m) W4 ((HR3.out.2.2.1.below HB4.out.2.2.2).mono HB4.out.2.2.2.size) (by rw [HR3.out.2.2.2]; omega)
            rwa [HR3.out.2.2.2] at this ⊢
          refine T2.mono ?_
          rintro e w5 ⟨v2, rfl, ho2, hb5⟩
          have CA2 : Hid (Calls Try.prog 7 #[.pointer (some ⟨w3.heap.size, 0, none⟩), v2] w5 fun e w' => e = .returned (.tuple #[]) ∧ Below w3.heap.size w3 w' ∧ ∃ bs', Know w3.heap.size w' w3.heap.size bs' ∧ Good bs' ∧ bs'.flatten.length ≤ m ∧ ∀ x, mem x bs'.flatten ↔ mem x ([] : List (List Rg)).flatten ∨ (isKey x (ss.take m) ∧ x ≠ 0)) := by
            refine (adds_young w3.heap.size W4.heap.size [] v2 (ss.take m) w5 (HB4.out.2.1.below hb5) Good.nil HB4.out.2.2.1 ho2 (by rw [HR3.out.2.2.2]; simp; omega)).mono ?_
            rintro e w' ⟨h1, h2, bs', h3, h4, h5, h6⟩
            rw [HR3.out.2.2.2] at h5
            exact ⟨h1, HB4.out.1.trans ((hb5.mono HB4.out.1.size).trans h2), bs', h3, h4, by simpa using h5, h6⟩
          clear ho2 hb5 T2 HB4
          go_wp2_with fail
          refine CA2.out.mono ?_
          rintro e w6 ⟨rfl, hb6, b2, hk2, hg2, hl2, hm2⟩
          have H6 : Hid (Below w3.heap.size w3 w6 ∧ Know w3.heap.size w6 w3.heap.size b2 ∧ Good b2 ∧ b2.flatten.length ≤ m ∧ ∀ x, mem x b2.flatten ↔ mem x ([] : List (List Rg)).flatten ∨ (isKey x (ss.take m) ∧ x ≠ 0)) := ⟨hb6, hk2, hg2, hl2, hm2⟩
          clear hb6 hk2 hg2 hl2 hm2 CA2
          go_wp2_with fail
          have hb16 : Below w1.heap.size w1 w6 := H3.out.1.trans (H6.out.1.mono H3.out.1.size)
          have T3 : Calls Try.prog 10 #[.slice a3 (ss.length - m) (c - m)] w6 fun e w' => ∃ v', e = .returned v' ∧ w'.ownsRow w6.heap.size 27 17 v' (ss.drop m).length ((ss.drop m).flatMap encS) ∧ Below w6.heap.size w6 w' := by
            have := toProject_any a3 (c - m) (ss.drop m) w6 ((HR3.out.1.below hb16).mono hb16.size) (by rw [HR3.out.2.1]; omega)
            rwa [HR3.out.2.1] at this ⊢
          clear hb16
          refine T3.mono ?_
          rintro e w7 ⟨v3, rfl, ho3, hb7⟩
          have CA3 : Hid (Calls Try.prog 7 #[.pointer (some ⟨w3.heap.size, 0, none⟩), v3] w7 fun e w' => e = .returned (.tuple #[]) ∧ Below w3.heap.size w3 w' ∧ ∃ bs', Know w3.heap.size w' w3.heap.size bs' ∧ Good bs' ∧ bs'.flatten.length ≤ ss.length ∧ ∀ x, mem x bs'.flatten ↔ mem x b2.flatten ∨ (isKey x (ss.drop m) ∧ x ≠ 0)) := by
            have hl2 := H6.out.2.2.2.1
            refine (adds_young w3.heap.size w6.heap.size b2 v3 (ss.drop m) w7 (H6.out.2.1.below hb7) H6.out.2.2.1 H6.out.2.1.lt ho3 (by rw [HR3.out.2.1]; omega)).mono ?_
            rintro e w' ⟨h1, h2, bs', h3, h4, h5, h6⟩
            rw [HR3.out.2.1] at h5
            exact ⟨h1, H6.out.1.trans ((hb7.mono H6.out.1.size).trans h2), bs', h3, h4, by omega, h6⟩
          clear ho3 hb7 T3
          go_wp2_with fail
          refine CA3.out.mono ?_
          rintro e w8 ⟨rfl, hb8, b3, hk3, hg3, hl3, hm3⟩
          obtain ⟨hflat, hmem⟩ := batches ss m b1 b2 b3 H3.out.2.2.1 hg3 H3.out.2.2.2.2 H6.out.2.2.2.2 hm3
          have hle1 := H3.out.2.2.2.1
          have H8 : Hid (Below w1.heap.size w1 w8 ∧ Know w1.heap.size w8 w1.heap.size b1 ∧ Good b1 ∧ Know w3.heap.size w8 w3.heap.size b3 ∧ Good b3 ∧ b3.flatten = b1.flatten ∧ b1.flatten.length ≤ ss.length ∧ ∀ x, mem x b1.flatten ↔ isKey x ss ∧ x ≠ 0) :=
            ⟨H3.out.1.trans (hb8.mono H3.out.1.size), H3.out.2.1.below hb8, H3.out.2.2.1, hk3, hg3, hflat, hle1, hmem⟩
          clear hb8 hk3 hg3 hl3 hm3 CA3 H3 H6 HR3 hsl2 hsl3 hflat hmem
          obtain ⟨rs, hrs⟩ : ∃ rs, rs = b1.flatten := ⟨_, rfl⟩
          rw [← hrs] at H8 hle1
          have CH1 : Hid (Calls Try.prog 8 #[.pointer (some ⟨w1.heap.size, 0, none⟩)] w8 fun e w' => ∃ v', e = .returned v' ∧ w'.ownsRow w8.heap.size 40 18 v' rs.length (flatR rs) ∧ Below w8.heap.size w8 w') := by
            have := held_any _ _ b1 w8 H8.out.2.1 H8.out.2.2.1 (by rw [← hrs]; omega)
            rwa [← hrs] at this
          have CH2 : Hid (∀ W, Below w8.heap.size w8 W → Calls Try.prog 8 #[.pointer (some ⟨w3.heap.size, 0, none⟩)] W fun e w' => ∃ v', e = .returned v' ∧ w'.ownsRow W.heap.size 40 18 v' rs.length (flatR rs) ∧ Below W.heap.size W w') := fun W hW => by
            have := held_any _ _ b3 W (H8.out.2.2.2.1.below hW) H8.out.2.2.2.2.1 (by rw [H8.out.2.2.2.2.2.1]; omega)
            rwa [H8.out.2.2.2.2.2.1] at this
          have HAP : Hid (Ap rs) := by show Ap rs; rw [hrs]; exact H8.out.2.2.1.ap
          have CW1 : Hid (∀ W, Below w8.heap.size w8 W → Calls Try.prog 16 #[.pointer (some ⟨w1.heap.size, 0, none⟩)] W fun e w' => e = .returned (.bool true) ∧ Below W.heap.size W w') := fun W hW => wellFormed_true _ _ b1 W (H8.out.2.1.below hW) H8.out.2.2.1 (by rw [← hrs]; omega)
          have CW2 : Hid (∀ W, Below w8.heap.size w8 W → Calls Try.prog 16 #[.pointer (some ⟨w3.heap.size, 0, none⟩)] W fun e w' => e = .returned (.bool true) ∧ Below W.heap.size W w') := fun W hW => wellFormed_true _ _ b3 W (H8.out.2.2.2.1.below hW) H8.out.2.2.2.2.1 (by rw [H8.out.2.2.2.2.2.1]; omega)
          have H9 : Hid (Below w1.heap.size w1 w8 ∧ ∀ x, mem x rs ↔ isKey x ss ∧ x ≠ 0) := ⟨H8.out.1, H8.out.2.2.2.2.2.2.2⟩
          clear H8 hrs
          go_wp2_with fail
          refine CH1.out.mono ?_
          rintro e w9 ⟨vh1, rfl, ho9, hb9⟩
          obtain ⟨ah, ch, rfl, hr9⟩ := own_rd40 ho9
          have HR9 : Hid (RdB encR 18 w9.heap.size w9 ah rs ∧ Below w8.heap.size w8 w9) := ⟨hr9, hb9⟩
          clear ho9 hr9 hb9 CH1
          go_wp2_with fail
          refine (CH2.out w9 HR9.out.2).mono ?_
          rintro e w10 ⟨vh2, rfl, ho10, hb10⟩
          obtain ⟨ah2, ch2, rfl, hr10⟩ := own_rd40 ho10
          have CS : Hid (Calls Try.prog 14 #[.slice ah rs.length ch, .slice ah2 rs.length ch2] w10 fun e w' => e = .returned (.bool true) ∧ Below w10.heap.size w10 w') := sameRanges_true ah ah2 ch ch2 rs w10 ((HR9.out.1.below hb10).mono hb10.size) hr10 (by omega)
          have HB10 : Hid (Below w9.heap.size w9 w10 ∧ Below w8.heap.size w8 w10) := ⟨hb10, HR9.out.2.trans (hb10.mono HR9.out.2.size)⟩
          clear ho10 hr10 hb10 CH2
          go_wp2_with fail
          refine CS.out.mono ?_
          rintro e w11 ⟨rfl, hb11⟩
          have HB11 : Hid (Below w9.heap.size w9 w11 ∧ Below w8.heap.size w8 w11) := ⟨HB10.out.1.trans (hb11.mono HB10.out.1.size), HB10.out.2.trans (hb11.mono HB10.out.2.size)⟩
          clear hb11 HB10 CS
          go_wp2_with fail
          refine (CW1.out w11 HB11.out.2).mono ?_
          rintro e w12 ⟨rfl, hb12⟩
          have HB12 : Hid (Below w9.heap.size w9 w12 ∧ Below w8.heap.size w8 w12) := ⟨HB11.out.1.trans (hb12.mono HB11.out.1.size), HB11.out.2.trans (hb12.mono HB11.out.2.size)⟩
          clear hb12 HB11 CW1
          go_wp2_with fail
          refine (CW2.out w12 HB12.out.2).mono ?_
          rintro e w13 ⟨rfl, hb13⟩
          have HB13 : Hid (Below w9.heap.size w9 w13 ∧ Below w8.heap.size w8 w13) := ⟨HB12.out.1.trans (hb13.mono HB12.out.1.size), HB12.out.2.trans (hb13.mono HB12.out.2.size)⟩
          clear hb13 HB12 CW2
          have CR : Hid (Calls Try.prog 17 #[.slice ah rs.length ch] w13 fun e w' => e = .returned (.bool true) ∧ Below w13.heap.size w13 w') := rangesApart_true ah ch rs w13 ((HR9.out.1.below HB13.out.1).mono HB13.out.1.size) HAP.out (by omega)
          go_wp2_with fail
          refine CR.out.mono ?_
          rintro e w14 ⟨rfl, hb14⟩
          have H14 : Hid (RdB encR 18 w14.heap.size w14 ah rs ∧ RdB encS 17 w14.heap.size w14 a ss ∧ Below w1.heap.size w1 w14) := by
            have h9 : Below w9.heap.size w9 w14 := HB13.out.1.trans (hb14.mono HB13.out.1.size)
            have h8 : Below w8.heap.size w8 w14 := HB13.out.2.trans (hb14.mono HB13.out.2.size)
            have h1' : Below w1.heap.size w1 w14 := H9.out.1.trans (h8.mono H9.out.1.size)
            exact ⟨(HR9.out.1.below h9).mono h9.size, (HP.out.2.below h1').mono h1'.size, h1'⟩
          have HM : Hid ((∀ x, mem x rs ↔ isKey x ss ∧ x ≠ 0) ∧ Ap rs) := ⟨H9.out.2, HAP.out⟩
          clear hb14 CR HB13 HR9 H9 HAP HP C15
          obtain ⟨Z17, hZ, v53⟩ := zero53
          have h53 := eqlS53
          have h22 := zzEq22
          go_wp2_with fail
          go_loopg [9, 10] ss.length (fun gk dv iv wr => ∃ i d : Nat, iv = .int .i64 i ∧ dv = .int .u64 d ∧ gk = ss.length - i ∧ i ≤ ss.length ∧ d ≤ 4096 ∧ Hid (Below w14.heap.size w14 wr ∧ Dist5 (ss.take i) d))
          case atStart => exact ⟨0, 0, rfl, rfl, rfl, by omega, by omega, Below.refl _ _, Dist5.nil⟩
          case round =>
            obtain ⟨i, d, rfl, rfl, hgk, hil, hd, HR⟩ := hrel
            obtain ⟨wo, hwo⟩ : ∃ wo, wo = wr := ⟨_, rfl⟩
            subst hwo
            rcases Nat.eq_or_lt_of_le hil with hE | hE
            · subst hE
              have HD : Hid (Dist5 ss d ∧ Below w14.heap.size w14 wo) := by have := HR.out; rw [List.take_length] at this; exact ⟨this.2, this.1⟩
              clear HR h53 h22 v53 hZ
              go_wp2_with fail
              go_loopg [16, 17] rs.length (fun gk cv jv wr => ∃ j n : Nat, jv = .int .i64 j ∧ cv = .int .u64 n ∧ gk = rs.length - j ∧ j ≤ rs.length ∧ n ≤ 4096 ∧ Hid (Below w14.heap.size w14 wr ∧ Held5 (rs.take j) n))
              case atStart => exact ⟨0, 0, rfl, rfl, rfl, by omega, by omega, HD.out.2, Held5.nil⟩
              case round =>
                obtain ⟨j, n, rfl, rfl, hgk2, hjl, hn, HJ⟩ := hrel
                rcases Nat.eq_or_lt_of_le hjl with hE2 | hE2
                · subst hE2
                  have he : n = d := by
                    have := HJ.out.2
                    rw [List.take_length] at this
                    exact count_eq this HD.out.1 HM.out.1
                  subst he
                  go_wp2
                  go_ret
                  exact ⟨by simp, H14.out.2.2.trans (HJ.out.1.mono H14.out.2.2.size)⟩
                · obtain ⟨r, hri⟩ : ∃ r, r = rs[j] := ⟨_, rfl⟩
                  obtain ⟨bh, oh, rfl, _⟩ := H14.out.1 j hE2
                  have hf := rd_fields (H14.out.1.below HJ.out.1) j hE2 k16 HK.out.1
                  have hlo : lo r ≤ hi r := by rw [hri]; exact HM.out.2.1 _ (List.getElem_mem hE2)
                  have hfw := fwd r hlo
                  have hnew : Held5 (rs.take (j + 1)) (n + (r.2.2.toNat - r.2.1.toNat + 1)) := by
                    rw [List.take_succ_eq_append_getElem hE2, ← hri]
                    refine HJ.out.2.snoc hlo (fun p hp => ?_)
                    obtain ⟨k, hk, rfl⟩ := List.mem_take_iff_getElem.1 hp
                    rw [hri]
                    exact List.pairwise_iff_getElem.1 HM.out.2.2 k j _ hE2 (by omega)
                  have hnle := hnew.le (fun r hr => List.mem_of_mem_take hr) HM.out.1
                  rw [← hri] at hf
                  obtain ⟨rg, rf, rt⟩ := r
                  have c16 : wr.cell? ⟨bh, oh + j * k18 + 16, none⟩ = some (.int .u64 (rf.toNat : Int)) := by rw [HK.out.2.2]; exact hf.2.1
                  have c17 : wr.cell? ⟨bh, oh + j * k18 + 17, none⟩ = some (.int .u64 (rt.toNat : Int)) := by rw [HK.out.2.2]; exact hf.2.2
                  have hfw' : rf.toNat ≤ rt.toNat := hfw
                  have hnle' : n + (rt.toNat - rf.toNat + 1) ≤ ss.length := hnle
                  have g1 : IntKind.u64.wrap ((rt.toNat : Int) - (rf.toNat : Int)) = (rt.toNat : Int) - (rf.toNat : Int) := by
                    have := u64_lt rt
                    simp [IntKind.wrap, IntKind.signed, IntKind.bits]; omega
                  have g2 : IntKind.u64.wrap ((rt.toNat : Int) - (rf.toNat : Int) + 1) = (rt.toNat : Int) - (rf.toNat : Int) + 1 := by
                    simp [IntKind.wrap, IntKind.signed, IntKind.bits]; omega
                  have g3 : IntKind.u64.wrap ((n : Int) + ((rt.toNat : Int) - (rf.toNat : Int) + 1)) = (n : Int) + ((rt.toNat : Int) - (rf.toNat : Int) + 1) := by
                    simp [IntKind.wrap, IntKind.signed, IntKind.bits]; omega
                  have jb : (j : Int) < (rs.length : Int) := by omega
                  have jb0 : (0 : Int) ≤ (j : Int) := by omega
                  have HN : Hid (Held5 (rs.take (j + 1)) (n + (rt.toNat - rf.toNat + 1)) ∧ n + (rt.toNat - rf.toNat + 1) ≤ 4096 ∧ (n : Int) + ((rt.toNat : Int) - (rf.toNat : Int) + 1) = ((n + (rt.toNat - rf.toNat + 1) : Nat) : Int)) := ⟨hnew, by omega, by omega⟩
                  clear hf hlo hfw hnew hnle hri hfw' hnle'
                  go_upto_region 46 with fail
                  go_quiet (fail)
                  go_wp2
                  go_roundg (rs.length - (j + 1))
                  case measure => omega
                  case rel => exact ⟨j + 1, n + (rt.toNat - rf.toNat + 1), by go_num, by rw [← HN.out.2.2], rfl, by omega, HN.out.2.1, HJ.out.1.trans (((Gr.refl wr).drewN _).below.mono HJ.out.1.size), HN.out.1⟩
            · obtain ⟨s, hs⟩ : ∃ s, s = ss[i] := ⟨_, rfl⟩
              obtain ⟨b, o, rfl, _⟩ := H14.out.2.1 i hE
              have ld := (H14.out.2.1.below HR.out.1).ld encS_length i hE k17 HK.out.2.1
              rw [← hs] at ld
              have HS : Hid (s = ss[i]) := hs
              clear hs
              have ib : (i : Int) < (ss.length : Int) := by omega
              have ib0 : (0 : Int) ≤ (i : Int) := by omega
              have st1 : Sem.run Try.prog (storeCells ⟨wo.heap.size, 0, none⟩ (encS s) 0) (wo.alloc (.cells Z17 53)) = .ok () (wo.alloc (.cells (encS s).toArray 53)) := st_new wo 53 Z17 _ (by rw [encS_length]; exact hZ.out) (encS_one _)
              have hln : (encS s).length = k17 := by rw [encS_length, HK.out.2.1]
              obtain ⟨Wa, hWa⟩ : ∃ Wa, Wa = wo.alloc (.cells (encS s).toArray 53) := ⟨_, rfl⟩
              have HA : Hid (Wa.heap[wo.heap.size]? = some (.cells (encS s).toArray 53 (0, 0)) ∧ Below w14.heap.size w14 Wa ∧ wo.heap.size < Wa.heap.size) := by rw [hWa]; exact ⟨heap_alloc_last _ _, HR.out.1.alloc HR.out.1.size _, by simp⟩
              have ldA : Sem.run Try.prog (loadCellsFrom ⟨wo.heap.size, 0, none⟩ 0 k17 #[]) Wa = .ok (encS s).toArray Wa := ld_block _ _ _ _ 53 (0, 0) _ _ HA.out.1 hln (by simp)
              rw [hWa] at ldA
              go_wp2_with fail
              rw [← hWa]
              rw [← hWa] at ldA
              clear hWa st1 ld
              refine (isNull_any s Wa).mono ?_
              rintro e Wb ⟨rfl, hgr⟩
              have HB : Hid (∀ W, Below Wb.heap.size Wb W → W.heap[wo.heap.size]? = some (.cells (encS s).toArray 53 (0, 0)) ∧ Below w14.heap.size w14 W) := fun W hW => by
                have h1 : Below Wa.heap.size Wa W := hgr.below.trans (hW.mono hgr.below.size)
                exact ⟨(h1.block _ HA.out.2.2).trans HA.out.1, HA.out.2.1.trans (h1.mono HA.out.2.1.size)⟩
              clear hgr ldA
              by_cases hnull : s = nullS
              · have hnb : (s == ((Vector.replicate 16 0 : Gd), (0 : UInt64))) = true := by rw [hnull]; decide
                go_wp2
                go_roundg (ss.length - (i + 1))
                case measure => omega
                case rel => exact ⟨i + 1, d, by go_num, rfl, rfl, by omega, hd, (HB.out Wb (Below.refl _ _)).2, by
                  rw [List.take_succ_eq_append_getElem hE, ← HS.out]
                  exact HR.out.2.old (.inl (by rw [hnull]; exact key_null))⟩
              · have hnb : (s == ((Vector.replicate 16 0 : Gd), (0 : UInt64))) = false := by
                  rw [beq_eq_false_iff_ne]; exact hnull
                have hk0 : key s ≠ 0 := fun h0 => hnull (key_zero h0)
                have HMS : Hid (∃ r ∈ rs, r.1 = s.1 ∧ r.2.1 ≤ s.2 ∧ s.2 ≤ r.2.2) := by
                  obtain ⟨r, hr, hx⟩ := (HM.out.1 (key s)).2 ⟨⟨s, by rw [HS.out]; exact List.getElem_mem hE, rfl⟩, hk0⟩
                  exact ⟨r, hr, (in_range r s).1 hx⟩
                have HK0 : Hid (key s ≠ 0) := hk0
                go_upto_block 2 with fail
                clear hk0 hnull hnb
                obtain ⟨sg, sn⟩ := s
                have HLD : Hid (∀ W, Below Wb.heap.size Wb W → Sem.run Try.prog (loadCellsFrom ⟨wo.heap.size, 0, none⟩ 0 k17 #[]) W = .ok (encS (sg, sn)).toArray W ∧ Sem.run Try.prog (loadCellsFrom ⟨wo.heap.size, 0, none⟩ 0 k16 #[]) W = .ok (encG sg).toArray W ∧ W.cell? ⟨wo.heap.size, 16, none⟩ = some (.int .u64 (sn.toNat : Int))) := fun W hW => by
                  have h := (HB.out W hW).1
                  exact ⟨ld_block _ _ _ _ 53 (0, 0) _ _ h hln (by simp), ld_block _ _ _ _ 53 (0, 0) _ _ h (by rw [encG_length, HK.out.1]) (encS_sub (sg, sn)), by simpa [World.cell?, h] using encS_16 (sg, sn)⟩
                go_cut [12] from 61 to 123 (fun fv wc => fv = .bool true ∧ Hid (Below Wb.heap.size Wb wc))
                case first =>
                  go_wp2_with fail
                  go_loopg [12, 13] rs.length (fun gk fv jv wr => ∃ j : Nat, jv = .int .i64 j ∧ fv = .bool false ∧ gk = rs.length - j ∧ j ≤ rs.length ∧ Hid (Below Wb.heap.size Wb wr ∧ ∀ k (hk : k < rs.length), k < j → ¬ (rs[k].1 = sg ∧ rs[k].2.1 ≤ sn ∧ sn ≤ rs[k].2.2)))
                  case atStart => exact ⟨0, rfl, rfl, rfl, by omega, Below.refl _ _, fun k _ h => absurd h (by omega)⟩
                  case round =>
                    obtain ⟨j, rfl, rfl, hgk2, hjl, HJ⟩ := hrel
                    rcases Nat.eq_or_lt_of_le hjl with hE2 | hE2
                    · exfalso
                      subst hE2
                      obtain ⟨r, hr, hx⟩ := HMS.out
                      obtain ⟨k, hk, rfl⟩ := List.getElem_of_mem hr
                      exact HJ.out.2 k hk hk hx
                    · obtain ⟨r, hri⟩ : ∃ r, r = rs[j] := ⟨_, rfl⟩
                      obtain ⟨bh, oh, rfl, _⟩ := H14.out.1 j hE2
                      have hbl := (HB.out wr HJ.out.1).2
                      have hl := HLD.out wr HJ.out.1
                      have hf := fun n => rd_fields (H14.out.1.below (hbl.trans (((Gr.refl wr).drewN n).below.mono hbl.size))) j hE2 k16 HK.out.1
                      have hl' := fun n => HLD.out (wr.drewN n) (HJ.out.1.trans (((Gr.refl wr).drewN n).below.mono HJ.out.1.size))
                      rw [← hri] at hf
                      obtain ⟨rg, rf, rt⟩ := r
                      have lr : ∀ n, Sem.run Try.prog (loadCellsFrom ⟨bh, oh + j * k18, none⟩ 0 k16 #[]) (wr.drewN n) = .ok (encG rg).toArray (wr.drewN n) := fun n => by rw [HK.out.2.2]; exact (hf n).1
                      have c16 : wr.cell? ⟨bh, oh + j * k18 + 16, none⟩ = some (.int .u64 (rf.toNat : Int)) := by rw [HK.out.2.2]; exact (hf 0).2.1
                      have c17 : wr.cell? ⟨bh, oh + j * k18 + 17, none⟩ = some (.int .u64 (rt.toNat : Int)) := by rw [HK.out.2.2]; exact (hf 0).2.2
                      have ls : ∀ n, Sem.run Try.prog (loadCellsFrom ⟨wo.heap.size, 0, none⟩ 0 k16 #[]) (wr.drewN n) = .ok (encG sg).toArray (wr.drewN n) := fun n => (hl' n).2.1
                      have cs : wr.cell? ⟨wo.heap.size, 16, none⟩ = some (.int .u64 (sn.toNat : Int)) := hl.2.2
                      have jb : (j : Int) < (rs.length : Int) := by omega
                      have jb0 : (0 : Int) ≤ (j : Int) := by omega
                      have HRI : Hid ((rg, rf, rt) = rs[j]) := hri
                      have HNX : Hid (¬ (rg = sg ∧ rf ≤ sn ∧ sn ≤ rt) → ∀ q, Below Wb.heap.size Wb (wr.drewN q) ∧ ∀ k (hk : k < rs.length), k < j + 1 → ¬ (rs[k].1 = sg ∧ rs[k].2.1 ≤ sn ∧ sn ≤ rs[k].2.2)) := fun hno q => ⟨HJ.out.1.trans (((Gr.refl wr).drewN q).below.mono HJ.out.1.size), fun k hk hkj => by
                        by_cases e : k = j
                        · subst e; rw [← hri]; exact hno
                        · exact HJ.out.2 k hk (by omega)⟩
                      clear hf hl hl' hri hbl
                      by_cases q1 : rg = sg
                      · subst q1
                        have qb : (rg == rg) = true := by simp
                        by_cases q2 : rf ≤ sn
                        · have q2' : (rf.toNat : Int) ≤ (sn.toNat : Int) := by have := UInt64.le_iff_toNat_le.1 q2; omega
                          by_cases q3 : sn ≤ rt
                          · have q3' : (sn.toNat : Int) ≤ (rt.toNat : Int) := by have := UInt64.le_iff_toNat_le.1 q3; omega
                            go_upto_region 30 with fail
                            go_quiet (fail)
                            go_wp2
                            go_meet
                            exact ⟨rfl, HJ.out.1.trans (((Gr.refl wr).drewN _).below.mono HJ.out.1.size)⟩
                          · have q3' : ¬ (sn.toNat : Int) ≤ (rt.toNat : Int) := fun hh => q3 (UInt64.le_iff_toNat_le.2 (by omega))
                            have HNY := HNX.out (fun h => q3 h.2.2)
                            have HNZ : Hid (∀ q, Below Wb.heap.size Wb (wr.drewN q) ∧ ∀ k (hk : k < rs.length), k < j + 1 → ¬ (rs[k].1 = rg ∧ rs[k].2.1 ≤ sn ∧ sn ≤ rs[k].2.2)) := HNY
                            clear HNY
                            go_upto_region 30 with fail
                            go_quiet (fail)
                            go_wp2
                            go_roundg (rs.length - (j + 1))
                            case measure => omega
                            case rel => exact ⟨j + 1, by go_num, rfl, rfl, by omega, HNZ.out _⟩
                        · have q2' : ¬ (rf.toNat : Int) ≤ (sn.toNat : Int) := fun hh => q2 (UInt64.le_iff_toNat_le.2 (by omega))
                          have HNY := HNX.out (fun h => q2 h.2.1)
                          have HNZ : Hid (∀ q, Below Wb.heap.size Wb (wr.drewN q) ∧ ∀ k (hk : k < rs.length), k < j + 1 → ¬ (rs[k].1 = rg ∧ rs[k].2.1 ≤ sn ∧ sn ≤ rs[k].2.2)) := HNY
                          clear HNY
                          go_upto_region 30 with fail
                          go_quiet (fail)
                          go_wp2
                          go_roundg (rs.length - (j + 1))
                          case measure => omega
                          case rel => exact ⟨j + 1, by go_num, rfl, rfl, by omega, HNZ.out _⟩
                      · have qb : (rg == sg) = false := by simpa using q1
                        have HNY := HNX.out (fun h => q1 h.1)
                        have HNZ : Hid (∀ q, Below Wb.heap.size Wb (wr.drewN q) ∧ ∀ k (hk : k < rs.length), k < j + 1 → ¬ (rs[k].1 = sg ∧ rs[k].2.1 ≤ sn ∧ sn ≤ rs[k].2.2)) := HNY
                        clear HNY
                        go_upto_region 30 with fail
                        go_quiet (fail)
                        go_wp2
                        go_roundg (rs.length - (j + 1))
                        case measure => omega
                        case rel => exact ⟨j + 1, by go_num, rfl, rfl, by omega, HNZ.out _⟩
                case rest =>
                  obtain ⟨rfl, HC⟩ := hcut
                  obtain ⟨Wc, hWc⟩ : ∃ Wc, Wc = wc := ⟨_, rfl⟩
                  subst hWc
                  go_upto_block 4 with fail
                  go_cut [14] from 61 to 123 (fun dv wc => ∃ bb : Bool, dv = .bool bb ∧ Hid ((bb = true ↔ (sg, sn) ∈ ss.take i) ∧ Below Wb.heap.size Wb wc))
                  case first =>
                    go_wp2_with fail
                    go_loopg [14, 15] i (fun gk dv jv wr => ∃ j : Nat, jv = .int .i64 j ∧ dv = .bool false ∧ gk = i - j ∧ j ≤ i ∧ Hid (Below Wb.heap.size Wb wr ∧ ∀ k (hk : k < ss.length), k < j → ss[k] ≠ (sg, sn)))
                    case atStart => exact ⟨0, rfl, rfl, rfl, by omega, HC.out, fun k _ h => absurd h (by omega)⟩
                    case round =>
                      obtain ⟨j, rfl, rfl, hgk2, hjl, HJ⟩ := hrel
                      rcases Nat.eq_or_lt_of_le hjl with hE2 | hE2
                      · subst hE2
                        go_wp2
                        go_meet
                        refine ⟨false, rfl, ⟨fun h => absurd h (by decide), fun h => ?_⟩, HJ.out.1⟩
                        obtain ⟨k, hk, e⟩ := List.getElem_of_mem h
                        rw [List.getElem_take] at e
                        exact absurd e (HJ.out.2 k (by simp at hk; omega) (by simp at hk; omega))
                      · have hj : j < ss.length := by omega
                        obtain ⟨t, ht⟩ : ∃ t, t = ss[j] := ⟨_, rfl⟩
                        have hbl := (HB.out wr HJ.out.1).2
                        have lt : ∀ n, Sem.run Try.prog (loadCellsFrom ⟨b, o + j * k17, none⟩ 0 k17 #[]) (wr.drewN n) = .ok (encS t).toArray (wr.drewN n) := fun n => by rw [ht]; exact (H14.out.2.1.below (hbl.trans (((Gr.refl wr).drewN n).below.mono hbl.size))).ld encS_length j hj k17 HK.out.2.1
                        have ls : ∀ n, Sem.run Try.prog (loadCellsFrom ⟨wo.heap.size, 0, none⟩ 0 k17 #[]) (wr.drewN n) = .ok (encS (sg, sn)).toArray (wr.drewN n) := fun n => (HLD.out (wr.drewN n) (HJ.out.1.trans (((Gr.refl wr).drewN n).below.mono HJ.out.1.size))).1
                        have HT : Hid (t = ss[j]) := ht
                        clear ht hbl
                        have jb : (j : Int) < (i : Int) := by omega
                        have jb2 : (j : Int) < (ss.length : Int) := by omega
                        have jb0 : (0 : Int) ≤ (j : Int) := by omega
                        by_cases q : t = (sg, sn)
                        · have qb : (t == (sg, sn)) = true := by simpa using q
                          have HQ : Hid (t = (sg, sn)) := q
                          clear q
                          go_upto_region 38 with fail
                          go_quiet (fail)
                          go_wp2
                          go_meet
                          refine ⟨true, rfl, ⟨fun _ => ?_, fun _ => rfl⟩, HJ.out.1.trans (((Gr.refl wr).drewN _).below.mono HJ.out.1.size)⟩
                          rw [← HQ.out, HT.out]
                          exact List.mem_take_iff_getElem.2 ⟨j, by omega, rfl⟩
                        · have qb : (t == (sg, sn)) = false := by simpa using q
                          have HQ : Hid (t ≠ (sg, sn)) := q
                          clear q
                          go_upto_region 38 with fail
                          go_quiet (fail)
                          go_wp2
                          go_roundg (i - (j + 1))
                          case measure => omega
                          case rel => exact ⟨j + 1, by go_num, rfl, rfl, by omega, HJ.out.1.trans (((Gr.refl wr).drewN _).below.mono HJ.out.1.size), fun k hk hkj => by
                            by_cases e : k = j
                            · subst e; rw [← HT.out]; exact HQ.out
                            · exact HJ.out.2 k hk (by omega)⟩
                  case rest =>
                    obtain ⟨bb, rfl, HD⟩ := hcut
                    clear HC
                    have hfin := (HB.out wc HD.out.2).2
                    cases bb with
                    | true =>
                      go_wp2
                      go_roundg (ss.length - (i + 1))
                      case measure => omega
                      case rel => exact ⟨i + 1, d, by go_num, rfl, rfl, by omega, hd, hfin, by
                        rw [List.take_succ_eq_append_getElem hE, ← HS.out]
                        exact HR.out.2.old (.inr (HD.out.1.1 (by first | rfl | trivial)))⟩
                    | false =>
                      have hnew : Dist5 (ss.take (i + 1)) (d + 1) := by
                        rw [List.take_succ_eq_append_getElem hE, ← HS.out]
                        exact HR.out.2.new HK0.out (fun h => absurd (HD.out.1.2 h) (by decide))
                      have hdl : d + 1 ≤ 4096 := by have := hnew.le; simp at this; omega
                      have HNEW : Hid (Dist5 (ss.take (i + 1)) (d + 1)) := hnew
                      clear hnew
                      go_wp2
                      go_roundg (ss.length - (i + 1))
                      case measure => omega
                      case rel => exact ⟨i + 1, d + 1, by go_num, by go_num, rfl, by omega, hdl, hfin, HNEW.out⟩
end Go.Proofs.Qxb6615018a
