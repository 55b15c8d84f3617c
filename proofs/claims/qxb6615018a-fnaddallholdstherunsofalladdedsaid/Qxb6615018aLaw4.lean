/-
  DERIVED. The law of FnAddAllHoldsTheRunsOfAllAdded, walked.
-/
import Derived.Test.Qxb6615018aAdd2
import Derived.Test.Qxb6615018aZz4
import Derived.Test.Qxb6615018aZz6
import Derived.Test.Qxb6615018aZz7
import Derived.Test.Qxb6615018aZz8
namespace Go.Proofs.Qxb6615018a
open Go.RowKit Go.Sort

theorem own_rd40' {w : World} {B : Nat} {v : Value} {zs : List Rg} {n : Nat} (h : w.ownsRow B 40 18 v n (flatR zs)) : ∃ a c, v = .slice a zs.length c ∧ RdB encR 18 w.heap.size w a zs := by
  have hn : n = zs.length := by have := h.1; rw [flatR_length] at this; omega
  subst hn
  rcases h.2 with ⟨rfl, h0⟩ | ⟨g, cap, cur, rfl, _, hb, _, _, _, h4⟩
  · rw [h0]
    exact ⟨none, 0, rfl, fun i hi => absurd hi (by omega)⟩
  · refine ⟨some ⟨g, 0, none⟩, cap, rfl, fun i hi => ⟨g, 0, rfl, (Array.getElem?_eq_some_iff.1 hb).1, fun j v hv => ?_⟩⟩
    have hj : j < 18 := by have := (List.getElem?_eq_some_iff.1 hv).1; rwa [encR_length] at this
    have e := flatR_get zs i hi j hj
    rw [← h4, List.getElem?_take_of_lt (by omega), Array.getElem?_toList] at e
    have hc : cur[0 + i * 18 + j]? = some v := by rw [Nat.zero_add, e]; exact hv
    simpa [World.cell?, hb] using hc

/-- The cells of a batch, in a row. -/
theorem rdS_flat {w : World} {B : Nat} {a : Option Addr} {xs : List Sn} (h : RdB encS 17 B w a xs) (ad : Addr) (ha : a = some ad) (j : Nat) (u : Value) (hj : (xs.flatMap encS)[j]? = some u) : w.cell? (ad.add j) = some u := by
  have hlt : j < xs.length * 17 := by have := (List.getElem?_eq_some_iff.1 hj).1; rwa [flatE_length] at this
  have hi : j / 17 < xs.length := by omega
  have hk : j % 17 < 17 := by omega
  have e : j = j / 17 * 17 + j % 17 := by omega
  rw [e, flatE_get xs (j / 17) hi (j % 17) hk] at hj
  obtain ⟨b, o, h1, _, h3⟩ := h (j / 17) hi
  subst ha
  cases h1
  have := h3 _ _ hj
  rw [add_plain_sl]
  rwa [show o + j / 17 * 17 + j % 17 = o + j by omega] at this

theorem flatE_one (xs : List Sn) : ∀ v ∈ xs.flatMap encS, v.oneCell' = true := fun v hv => by
  obtain ⟨s, _, h⟩ := List.mem_flatMap.1 hv
  exact encS_one s v h

/-- A row of serial numbers, behind the appends. -/
theorem own_rdE {w : World} {B g n cap : Nat} {xs : List Sn} (h : w.ownsRow B 53 17 (.slice (some ⟨g, 0, none⟩) n cap) n (xs.flatMap encS)) : RdB encS 17 w.heap.size w (some ⟨g, 0, none⟩) xs := fun i hi => by
  rcases h.2 with ⟨e, _⟩ | ⟨g', cap', cur, heq, _, hb, _, _, _, h4⟩
  · cases e
  · cases heq
    have hn : n = xs.length := by have := h.1; rw [flatE_length] at this; omega
    refine ⟨g, 0, rfl, (Array.getElem?_eq_some_iff.1 hb).1, fun j v hv => ?_⟩
    have hj : j < 17 := by have := (List.getElem?_eq_some_iff.1 hv).1; rwa [encS_length] at this
    have e := flatE_get xs i hi j hj
    rw [← h4, List.getElem?_take_of_lt (by omega), Array.getElem?_toList] at e
    have hc : cur[0 + i * 17 + j]? = some v := by rw [Nat.zero_add, e]; exact hv
    simpa [World.cell?, hb] using hc

/-- What AddAll leaves alone of another row. -/
theorem own_fr {w w' : World} {B K : Nat} {S : Option Nat} {v : Value} {e : TypeId} {size n D : Nat} {xs : List Value} (h : Fr (FA B K S) w w') (ho : w.ownsRow D e size v n xs) (hne : ∀ g, v.ownBlock = some g → some g ≠ S ∧ g ≠ K ∧ g < B) : w'.ownsRow D e size v n xs := by
  refine ownsRow_block ho (fun g hg => ?_)
  rcases ho.2 with ⟨rfl, _⟩ | ⟨g', cap, cur, rfl, _, hb, _⟩
  · cases hg
  · cases hg
    obtain ⟨h1, h2, h3⟩ := hne g' rfl
    rw [h.block g' _ ⟨h1, h2, .inl h3⟩ hb, hb]
theorem below_own {w w' w'' : World} {g : Nat} (h : Below g w w') (hg : w'.grownBy w'' (some g)) (hs : g ≤ w'.heap.size) : Below g w w'' :=
  ⟨hg.os.trans h.os, hg.tape.trans h.tape, hg.output.trans h.output, Nat.le_trans h.size hg.size, fun k hk => (hg.block k (by omega) (fun e => by have := Option.some.inj e; omega)).trans (h.block k hk)⟩

theorem all_runs (ss1 ss2 : List Sn) (b1 b2 : List (List Rg)) (g2 : Good b2) (h1 : ∀ x, mem x b1.flatten ↔ mem x ([] : List (List Rg)).flatten ∨ (isKey x ss1 ∧ x ≠ 0)) (h2 : ∀ x, mem x b2.flatten ↔ mem x b1.flatten ∨ (isKey x ss2 ∧ x ≠ 0)) :
    b2.flatten = runsL (sortS (ss1 ++ ss2)) := by
  obtain ⟨r1, r2, _⟩ := runsL_ok (sortS (ss1 ++ ss2)) (sortS_sorted _)
  refine Ap.uniq _ _ g2.ap r1 fun x => ?_
  rw [h2, h1, r2, isKey_sort, isKey_take_drop x ss1.length (ss1 ++ ss2), List.take_left', List.drop_left']
  · constructor
    · rintro ((h | ⟨h, h0⟩) | ⟨h, h0⟩)
      · exact absurd h (by simp [mem])
      · exact ⟨.inl h, h0⟩
      · exact ⟨.inr h, h0⟩
    · rintro ⟨h | h, h0⟩
      · exact .inl (.inr ⟨h, h0⟩)
      · exact .inr ⟨h, h0⟩
  · rfl
  · rfl

set_option maxRecDepth 100000 in
set_option maxHeartbeats 4000000 in
theorem law4_any (a1 a2 : Option Addr) (c1 c2 : Nat) (s1 s2 : List Sn) (w : World) (hp1 : Plain a1 c1) (hp2 : Plain a2 c2) (hc1 : s1.length ≤ c1) (hc2 : s2.length ≤ c2) (hcm1 : c1 ≤ 9223372036854775807) (hcm2 : c2 ≤ 9223372036854775807) (hr1 : RdB encS 17 w.heap.size w a1 s1) (hr2 : RdB encS 17 w.heap.size w a2 s2) :
    Calls Try.prog 4 #[.slice a1 s1.length c1, .slice a2 s2.length c2] w fun e w' => e = .returned (.bool true) ∧ Below w.heap.size w w' := by
  have C9 : Hid (Calls Try.prog 9 #[.slice a1 s1.length c1, .slice a2 s2.length c2] w fun e w' => ∃ b, e = .returned (.bool b) ∧ w' = w) := bytes9 a1 a2 s1.length c1 s2.length c2 w (by omega) (by omega)
  have HP : Hid (RdB encS 17 w.heap.size w a1 s1 ∧ RdB encS 17 w.heap.size w a2 s2 ∧ (a1 = none → s1.length = 0 ∧ c1 = 0) ∧ (a2 = none → s2.length = 0 ∧ c2 = 0)) := by
    refine ⟨hr1, hr2, fun e => ?_, fun e => ?_⟩
    · rcases hp1 with ⟨_, rfl⟩ | ⟨_, _, h⟩
      · omega
      · rw [e] at h; cases h
    · rcases hp2 with ⟨_, rfl⟩ | ⟨_, _, h⟩
      · omega
      · rw [e] at h; cases h
  obtain ⟨i0, hinf, hz0, hz1, hz2⟩ := info_parts Try.info53
  clear hp1 hp2 hr1 hr2
  go_enter Try.func4, Try.ntmps4
  go_wp2_with fail
  refine C9.out.mono ?_
  rintro e w1 ⟨b, rfl, rfl⟩
  cases b with
  | false =>
    go_wp2
    go_ret
    exact ⟨rfl, Below.refl _ _⟩
  | true =>
    by_cases q1 : 4096 < s1.length
    · go_wp2
      go_ret
      exact ⟨rfl, Below.refl _ _⟩
    · by_cases q2 : 4096 < s2.length
      · go_wp2
        go_ret
        exact ⟨rfl, Below.refl _ _⟩
      · go_wp2_with fail
        refine (toProject_any a1 c1 s1 w1 HP.out.1 (by omega)).mono ?_
        rintro e w2 ⟨v1, rfl, ho1, hb2⟩
        have H2 : Hid (w2.ownsRow w1.heap.size 27 17 v1 s1.length (s1.flatMap encS) ∧ Below w1.heap.size w1 w2) := ⟨ho1, hb2⟩
        clear ho1 hb2 C9
        go_wp2_with fail
        refine (toProject_any a2 c2 s2 w2 ((HP.out.2.1.below H2.out.2).mono H2.out.2.size) (by omega)).mono ?_
        rintro e w3 ⟨v2, rfl, ho2, hb3⟩
        have H3 : Hid (w3.ownsRow w1.heap.size 27 17 v1 s1.length (s1.flatMap encS) ∧ w3.ownsRow w2.heap.size 27 17 v2 s2.length (s2.flatMap encS) ∧ Below w1.heap.size w1 w3 ∧ ∀ g, v1.ownBlock = some g → w1.heap.size ≤ g ∧ g < w2.heap.size) :=
          ⟨ownsRow_block H2.out.1 (fun g hg => hb3.block g (H2.out.1.lt g hg).2), ho2, H2.out.2.trans (hb3.mono H2.out.2.size), fun g hg => H2.out.1.lt g hg⟩
        have H23 : Hid (w1.heap.size ≤ w2.heap.size ∧ w2.heap.size ≤ w3.heap.size) := ⟨H2.out.2.size, hb3.size⟩
        clear ho2 hb3 H2
        obtain ⟨W4, hW4⟩ : ∃ W4, W4 = w3.alloc (.cells #[.pointer none] 34) := ⟨_, rfl⟩
        have H4 : Hid (W4.ownsRow w1.heap.size 27 17 v1 s1.length (s1.flatMap encS) ∧ W4.ownsRow w2.heap.size 27 17 v2 s2.length (s2.flatMap encS) ∧ Below w1.heap.size w1 W4 ∧ Know w3.heap.size W4 w3.heap.size [] ∧ (∀ g, v1.ownBlock = some g → w1.heap.size ≤ g ∧ g < w2.heap.size) ∧ (∀ g, v2.ownBlock = some g → w2.heap.size ≤ g ∧ g < w3.heap.size) ∧ w3.heap.size ≤ W4.heap.size) := by
          rw [hW4]
          exact ⟨H3.out.1.alloc _, H3.out.2.1.alloc _, H3.out.2.2.1.alloc H3.out.2.2.1.size _, Know.fresh w3, H3.out.2.2.2, fun g hg => H3.out.2.1.lt g hg, by simp⟩
        clear H3
        go_wp2_with fail
        rw [← hW4]
        clear hW4
        have hbd1 : ([] : List (List Rg)).flatten.length + s1.length ≤ 10000000 := by simp; omega
        refine (adds_any w3.heap.size w3.heap.size w1.heap.size [] v1 s1 W4 H4.out.2.2.2.2.2.2 (Nat.le_refl _) H4.out.2.2.2.1 Good.nil H4.out.1 hbd1).mono ?_
        rintro e w5 ⟨rfl, hf5, ho5, b1, hk5, hg5, hl5, hm5⟩
        have H5 : Hid (w5.ownsRow w1.heap.size 27 17 v1 s1.length (flatS (sortS s1)) ∧ w5.ownsRow w2.heap.size 27 17 v2 s2.length (flatS s2) ∧ Below w1.heap.size w1 w5 ∧ Know w3.heap.size w5 w3.heap.size b1 ∧ Good b1 ∧ b1.flatten.length ≤ s1.length ∧ (∀ x, mem x b1.flatten ↔ mem x ([] : List (List Rg)).flatten ∨ (isKey x s1 ∧ x ≠ 0)) ∧ w3.heap.size ≤ w5.heap.size) := by
          refine ⟨ho5, own_fr hf5 H4.out.2.1 (fun g hg => ?_), H4.out.2.2.1.trans (hf5.below H4.out.2.2.1.size (fun b t hb => ⟨fun e => ?_, ?_, .inl ?_⟩)), hk5, hg5, by simpa using hl5, hm5, Nat.le_trans H4.out.2.2.2.2.2.2 hf5.size⟩
          · have h2 := H4.out.2.2.2.2.2.1 g hg
            refine ⟨fun e => ?_, by omega, by omega⟩
            have := H4.out.2.2.2.2.1 g e.symm
            omega
          · have := H4.out.2.2.2.2.1 b e.symm
            omega
          · have := H23.out; omega
          · have := H23.out; omega
        have HV : Hid ((∀ g, v1.ownBlock = some g → w1.heap.size ≤ g ∧ g < w2.heap.size) ∧ (∀ g, v2.ownBlock = some g → w2.heap.size ≤ g ∧ g < w3.heap.size)) := ⟨H4.out.2.2.2.2.1, H4.out.2.2.2.2.2.1⟩
        clear hf5 ho5 hk5 hg5 hl5 hm5 H4 hbd1
        go_wp2_with fail
        refine (adds_any w3.heap.size w3.heap.size w2.heap.size b1 v2 s2 w5 H5.out.2.2.2.2.2.2.2 (Nat.le_refl _) H5.out.2.2.2.1 H5.out.2.2.2.2.1 H5.out.2.1 (by have := H5.out.2.2.2.2.2.1; omega)).mono ?_
        rintro e w6 ⟨rfl, hf6, ho6, b2, hk6, hg6, hl6, hm6⟩
        have H6 : Hid (w6.ownsRow w1.heap.size 27 17 v1 s1.length (flatS (sortS s1)) ∧ w6.ownsRow w2.heap.size 27 17 v2 s2.length (flatS (sortS s2)) ∧ Below w1.heap.size w1 w6 ∧ Know w3.heap.size w6 w3.heap.size b2 ∧ Good b2 ∧ b2.flatten.length ≤ s1.length + s2.length ∧ b2.flatten = runsL (sortS (s1 ++ s2))) := by
          refine ⟨own_fr hf6 H5.out.1 (fun g hg => ?_), ho6, H5.out.2.2.1.trans (hf6.below H5.out.2.2.1.size (fun b t hb => ⟨fun e => ?_, ?_, .inl ?_⟩)), hk6, hg6, by have := H5.out.2.2.2.2.2.1; omega, all_runs s1 s2 b1 b2 hg6 H5.out.2.2.2.2.2.2.1 hm6⟩
          · have h1 := HV.out.1 g hg
            have := H23.out
            refine ⟨fun e => ?_, by omega, by omega⟩
            have := HV.out.2 g e.symm
            omega
          · have := HV.out.2 b e.symm
            have := H23.out
            omega
          · have := H23.out; omega
          · have := H23.out; omega
        clear hf6 ho6 hk6 hg6 hl6 hm6 H5 HV H23
        go_wp2_with fail
        refine (sorted_any a1 c1 s1 w6 ((HP.out.1.below H6.out.2.2.1).mono H6.out.2.2.1.size) (by omega)).mono ?_
        rintro e w7 ⟨rfl, hr7, hb7⟩
        have H7 : Hid (RowS w7 w6.heap.size (sortS s1) ∧ Below w6.heap.size w6 w7 ∧ Below w1.heap.size w1 w7) := ⟨hr7, hb7, H6.out.2.2.1.trans (hb7.mono H6.out.2.2.1.size)⟩
        clear hr7 hb7
        go_wp2_with fail
        refine (sorted_any a2 c2 s2 w7 ((HP.out.2.1.below H7.out.2.2).mono H7.out.2.2.size) (by omega)).mono ?_
        rintro e w8 ⟨rfl, hr8, hb8⟩
        have hb68 : Below w6.heap.size w6 w8 := H7.out.2.1.trans (hb8.mono H7.out.2.1.size)
        have ho81 : w8.ownsRow w1.heap.size 27 17 v1 s1.length (flatS (sortS s1)) := ownsRow_block H6.out.1 (fun g hg => hb68.block g (H6.out.1.lt g hg).2)
        have ho82 : w8.ownsRow w2.heap.size 27 17 v2 s2.length (flatS (sortS s2)) := ownsRow_block H6.out.2.1 (fun g hg => hb68.block g (H6.out.2.1.lt g hg).2)
        have H8 : Hid (Below w6.heap.size w6 w8 ∧ Below w1.heap.size w1 w8) := ⟨hb68, H6.out.2.2.1.trans (hb68.mono H6.out.2.2.1.size)⟩
        obtain ⟨av1, cv1, rfl, _, _, _, hrd1⟩ := own_rdS ho81
        obtain ⟨av2, cv2, rfl, _, _, _, hrd2⟩ := own_rdS ho82
        have hrow1 : RdB encS 17 w8.heap.size w8 (some ⟨w6.heap.size, 0, none⟩) (sortS s1) := (H7.out.1.below (hb8.block _ H7.out.1.lt)).rd
        have CS1 : Hid (Calls Try.prog 12 #[.slice av1 (sortS s1).length cv1, .slice (some ⟨w6.heap.size, 0, none⟩) s1.length s1.length] w8 fun e w' => e = .returned (.bool true) ∧ Below w8.heap.size w8 w') := by
          have := sameSerials_true av1 (some ⟨w6.heap.size, 0, none⟩) cv1 s1.length (sortS s1) w8 hrd1.rdB hrow1 (by rw [sortS_length]; omega)
          rw [sortS_length] at this ⊢
          exact this
        have CS2 : Hid (∀ W, Below w8.heap.size w8 W → Calls Try.prog 12 #[.slice av2 (sortS s2).length cv2, .slice (some ⟨w7.heap.size, 0, none⟩) s2.length s2.length] W fun e w' => e = .returned (.bool true) ∧ Below W.heap.size W w') := fun W hW => by
          have := sameSerials_true av2 (some ⟨w7.heap.size, 0, none⟩) cv2 s2.length (sortS s2) W ((hrd2.rdB.below hW).mono hW.size) ((hr8.rd.below hW).mono hW.size) (by rw [sortS_length]; omega)
          rw [sortS_length] at this ⊢
          exact this
        clear hr8 hb8 hb68 ho81 ho82 hrd1 hrd2 hrow1 H7
        go_wp2_with fail
        refine CS1.out.mono ?_
        rintro e w9 ⟨rfl, hb9⟩
        have H9 : Hid (Below w6.heap.size w6 w9 ∧ Below w1.heap.size w1 w9 ∧ Below w8.heap.size w8 w9) := ⟨H8.out.1.trans (hb9.mono H8.out.1.size), H8.out.2.trans (hb9.mono H8.out.2.size), hb9⟩
        clear hb9 CS1 H8
        go_wp2_with fail
        refine (CS2.out w9 H9.out.2.2).mono ?_
        rintro e w10 ⟨rfl, hb10⟩
        have H10 : Hid (Below w6.heap.size w6 w10 ∧ Below w1.heap.size w1 w10) := ⟨H9.out.1.trans (hb10.mono H9.out.1.size), H9.out.2.1.trans (hb10.mono H9.out.2.1.size)⟩
        clear hb10 CS2 H9
        have hwr : IntKind.i64.wrap ((s1.length : Int) + (s2.length : Int)) = (s1.length : Int) + (s2.length : Int) := by rw [IntKind.wrap_i64]; omega
        go_upto_region 15 with (at_make; refine wpList_make_own _ rfl (.const (.int .i64 0)) (.tmp 50) 42 rfl w10.heap.size 53 i0 _ 17 Try.underlying42 hinf hz0 hz1 .i64 .i64 _ (s1.length + s2.length) rfl rfl (by omega) (by rw [hz2]; omega) (by unfold maxLen; omega) (Nat.le_refl _) ?_; intro w11 ho11 hg11)
        have hbl11 : Below w10.heap.size w10 w11 := ⟨hg11.os, hg11.tape, hg11.output, hg11.size, fun k hk => hg11.block k hk (by simp)⟩
        have H11 : Hid (w11.ownsRow w10.heap.size 53 17 (.slice (some ⟨w10.heap.size, 0, none⟩) 0 (s1.length + s2.length)) 0 [] ∧ Below w10.heap.size w10 w11 ∧ Below w1.heap.size w1 w11) := ⟨ho11, hbl11, H10.out.2.trans (hbl11.mono H10.out.2.size)⟩
        clear ho11 hg11 hbl11
        go_upto_region 16 with (at_builtin; refine wpList_append_fits_any _ rfl (.tmp 52) (.tmp 53) 42 rfl w10.heap.size 53 i0 17 Try.underlying42 hinf hz1 w10.heap.size 0 (s1.length + s2.length) [] rfl H11.out.1 a1 s1.length c1 (s1.flatMap encS) rfl (flatE_length s1) HP.out.2.2.1 (rdS_flat (HP.out.1.below H11.out.2.2)) (flatE_one s1) (by omega) ?_; intro w12 ho12 hg12; simp only [Nat.zero_add, List.nil_append] at ho12 ⊢)
        have hb12 : Below w10.heap.size w10 w12 := below_own H11.out.2.1 hg12 (by have := H11.out.2.1.size; omega)
        have H12 : Hid (w12.ownsRow w10.heap.size 53 17 (.slice (some ⟨w10.heap.size, 0, none⟩) s1.length (s1.length + s2.length)) s1.length (s1.flatMap encS) ∧ Below w10.heap.size w10 w12 ∧ Below w1.heap.size w1 w12) := ⟨ho12, hb12, H10.out.2.trans (hb12.mono H10.out.2.size)⟩
        clear ho12 hg12 hb12 H11
        go_upto_region 17 with (at_builtin; refine wpList_append_fits_any _ rfl (.tmp 55) (.tmp 56) 42 rfl w10.heap.size 53 i0 17 Try.underlying42 hinf hz1 w10.heap.size s1.length (s1.length + s2.length) (s1.flatMap encS) rfl H12.out.1 a2 s2.length c2 (s2.flatMap encS) rfl (flatE_length s2) HP.out.2.2.2 (rdS_flat (HP.out.2.1.below H12.out.2.2)) (flatE_one s2) (by omega) ?_; intro w13 ho13 hg13)
        have hb13 : Below w10.heap.size w10 w13 := below_own H12.out.2.1 hg13 (by have := H12.out.2.1.size; omega)
        have hlen : (s1 ++ s2).length = s1.length + s2.length := by simp
        have H13 : Hid (RdB encS 17 w13.heap.size w13 (some ⟨w10.heap.size, 0, none⟩) (s1 ++ s2) ∧ Below w10.heap.size w10 w13 ∧ Below w1.heap.size w1 w13) := ⟨own_rdE (by rw [List.flatMap_append]; exact ho13), hb13, H10.out.2.trans (hb13.mono H10.out.2.size)⟩
        have CT : Hid (Calls Try.prog 11 #[.slice (some ⟨w10.heap.size, 0, none⟩) (s1.length + s2.length) (s1.length + s2.length)] w13 fun e w' => e = .returned (.slice (some ⟨w13.heap.size, 0, none⟩) (s1.length + s2.length) (s1.length + s2.length)) ∧ RowS w' w13.heap.size (sortS (s1 ++ s2)) ∧ Below w13.heap.size w13 w') := by
          have := sorted_any (some ⟨w10.heap.size, 0, none⟩) (s1.length + s2.length) (s1 ++ s2) w13 H13.out.1 (by rw [hlen]; omega)
          rw [hlen] at this
          exact this
        clear ho13 hg13 hb13 H12
        have HLEN : Hid ((s1 ++ s2).length = s1.length + s2.length) := hlen
        clear hlen
        go_wp2_with fail
        refine CT.out.mono ?_
        rintro e w14 ⟨rfl, hr14, hb14⟩
        have H14 : Hid (Below w6.heap.size w6 w14 ∧ Below w1.heap.size w1 w14) := by
          have h610 := H10.out.1.trans (H13.out.2.1.mono H10.out.1.size)
          exact ⟨h610.trans (hb14.mono h610.size), H13.out.2.2.trans (hb14.mono H13.out.2.2.size)⟩
        have CR : Hid (Calls Try.prog 13 #[.slice (some ⟨w13.heap.size, 0, none⟩) (s1.length + s2.length) (s1.length + s2.length)] w14 fun e w' => ∃ v', e = .returned v' ∧ w'.ownsRow w14.heap.size 40 18 v' (runsL (sortS (s1 ++ s2))).length (flatR (runsL (sortS (s1 ++ s2)))) ∧ Below w14.heap.size w14 w') := by
          have := runs_any (some ⟨w13.heap.size, 0, none⟩) (s1.length + s2.length) (sortS (s1 ++ s2)) w14 hr14.rd (by rw [sortS_length, HLEN.out]; omega)
          rw [sortS_length, HLEN.out] at this
          exact this
        clear hr14 hb14 CT H13 H10
        go_wp2_with fail
        refine CR.out.mono ?_
        rintro e w15 ⟨v15, rfl, ho15, hb15⟩
        obtain ⟨aw, cw, rfl, hr15⟩ := own_rd40' ho15
        obtain ⟨rs, hrs⟩ : ∃ rs, rs = runsL (sortS (s1 ++ s2)) := ⟨_, rfl⟩
        rw [← hrs] at hr15
        have hfl : b2.flatten = rs := by rw [hrs]; exact H6.out.2.2.2.2.2.2
        have hrl : rs.length ≤ s1.length + s2.length := by rw [← hfl]; exact H6.out.2.2.2.2.2.1
        have H15 : Hid (RdB encR 18 w15.heap.size w15 aw rs ∧ Below w6.heap.size w6 w15 ∧ Below w1.heap.size w1 w15) := ⟨hr15, H14.out.1.trans (hb15.mono H14.out.1.size), H14.out.2.trans (hb15.mono H14.out.2.size)⟩
        have CH : Hid (Calls Try.prog 8 #[.pointer (some ⟨w3.heap.size, 0, none⟩)] w15 fun e w' => ∃ v', e = .returned v' ∧ w'.ownsRow w15.heap.size 40 18 v' rs.length (flatR rs) ∧ Below w15.heap.size w15 w') := by
          have := held_any _ _ b2 w15 (H6.out.2.2.2.1.below H15.out.2.1) H6.out.2.2.2.2.1 (by rw [hfl]; omega)
          rwa [hfl] at this
        clear ho15 hb15 hr15 CR H14 hfl H6
        rw [← hrs]
        clear hrs
        go_wp2_with fail
        refine CH.out.mono ?_
        rintro e w16 ⟨v16, rfl, ho16, hb16⟩
        obtain ⟨ah, ch, rfl, hr16⟩ := own_rd40' ho16
        have CE : Hid (Calls Try.prog 14 #[.slice ah rs.length ch, .slice aw rs.length cw] w16 fun e w' => e = .returned (.bool true) ∧ Below w16.heap.size w16 w') := sameRanges_true ah aw ch cw rs w16 hr16 ((H15.out.1.below hb16).mono hb16.size) (by omega)
        have H16 : Hid (Below w1.heap.size w1 w16) := H15.out.2.2.trans (hb16.mono H15.out.2.2.size)
        clear ho16 hb16 hr16 CH H15
        go_wp2_with fail
        refine CE.out.mono ?_
        rintro e w17 ⟨rfl, hb17⟩
        go_wp2
        go_ret
        exact ⟨rfl, H16.out.trans (hb17.mono H16.out.size)⟩
end Go.Proofs.Qxb6615018a
