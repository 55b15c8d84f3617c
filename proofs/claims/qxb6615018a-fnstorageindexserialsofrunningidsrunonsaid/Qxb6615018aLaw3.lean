/-
  DERIVED. The law of FnStorageIndexSerialsOfRunningIDsRunOn: plain, then walked.
-/
import Derived.Test.Qxb6615018aHeld
import Derived.Test.Qxb6615018aStrip
import Derived.Test.Qxb6615018aFind
import Derived.Test.Qxb6615018aNil
import Derived.Test.Qxb6615018aStor
import Derived.Deep.DeepCutAuto
namespace Go.Proofs.Qxb6615018a
open Go.RowKit Go.Sort

/-- Where the range starts. -/
def frN (g : Gd) (n : Nat) : Nat := if n = 0 ∧ g = Vector.replicate 16 0 then 1 else n
def oneR (g : Gd) (n : Nat) : Rg := (g, UInt64.ofNat (frN g n), UInt64.ofNat (n + 1))

theorem key_serN (g : Gd) (n : Nat) (h : n < 4294967296) : key (serN g n) = gk g * 36893488147419103232 + n := by
  have e : (UInt64.ofNat n).toNat = n := by simp; omega
  have : key (serN g n) = gk g * 36893488147419103232 + (UInt64.ofNat n).toNat := rfl
  rw [this, e]

theorem plain3 (g : Gd) (n : Nat) (hn : n + 1 < 4294967296) (ss : List Sn) (hss : ss = [serN g n, serN g (n + 1)] ∨ ss = [serN g (n + 1), serN g n]) (rs : List Rg) (hA : Ap rs) (hM : ∀ x, mem x rs ↔ isKey x (strip (sortS ss))) : rs = [oneR g n] := by
  have k1 := key_serN g n (by omega)
  have k2 := key_serN g (n + 1) hn
  have hlo : lo (oneR g n) = gk g * 36893488147419103232 + frN g n := key_serN g (frN g n) (by unfold frN; split <;> omega)
  have hhi : hi (oneR g n) = gk g * 36893488147419103232 + (n + 1) := key_serN g (n + 1) hn
  have hf : frN g n = if n = 0 ∧ g = Vector.replicate 16 0 then 1 else n := rfl
  have hz : gk g * 36893488147419103232 + n = 0 ↔ (n = 0 ∧ g = Vector.replicate 16 0) := by
    constructor
    · intro h0
      have h1 : serN g n = nullS := key_zero (by rw [k1]; exact h0)
      exact ⟨by omega, congrArg Prod.fst h1⟩
    · rintro ⟨rfl, rfl⟩
      have h1 : serN (Vector.replicate 16 0) 0 = nullS := rfl
      rw [← k1, h1, key_null]
  refine Ap.uniq _ _ hA ⟨fun r hr => ?_, by simp⟩ fun x => ?_
  · simp at hr; subst hr; rw [hlo, hhi, hf]; split <;> omega
  · rw [hM, isKey_added, mem_one, hlo, hhi, hf]
    have hk : isKey x ss ↔ x = gk g * 36893488147419103232 + n ∨ x = gk g * 36893488147419103232 + (n + 1) := by
      rcases hss with rfl | rfl
      · simp only [isKey, List.mem_cons, List.not_mem_nil, or_false]
        constructor
        · rintro ⟨s, rfl | rfl, rfl⟩
          · exact .inl k1
          · exact .inr k2
        · rintro (h | h)
          · exact ⟨_, .inl rfl, k1.trans h.symm⟩
          · exact ⟨_, .inr rfl, k2.trans h.symm⟩
      · simp only [isKey, List.mem_cons, List.not_mem_nil, or_false]
        constructor
        · rintro ⟨s, rfl | rfl, rfl⟩
          · exact .inr k2
          · exact .inl k1
        · rintro (h | h)
          · exact ⟨_, .inr rfl, k1.trans h.symm⟩
          · exact ⟨_, .inl rfl, k2.trans h.symm⟩
    rw [hk]
    by_cases h0 : n = 0 ∧ g = Vector.replicate 16 0
    · rw [if_pos h0]
      have := hz.2 h0
      omega
    · rw [if_neg h0]
      have : ¬ (gk g * 36893488147419103232 + n = 0) := fun h => h0 (hz.1 h)
      omega

theorem eqlG22 (g h : Gd) (w : World) : (binOp .eql 22 (.agg (encG g).toArray) (.agg (encG h).toArray)).run Try.prog w = .ok (.bool (g == h)) w := by
  rw [run_eql_struct]
  rw [eqG 9998 22 (by kernel_rfl) g h w]
  rfl
theorem zeroNull22 (w : World) : (zeroValue 22).run Try.prog w = .ok (.agg (encG (Vector.replicate 16 0)).toArray) w := by kernel_rfl

set_option maxRecDepth 100000 in
set_option maxHeartbeats 2000000 in
theorem law3_any (g : Gd) (n : Nat) (hn : n < 4294967296) (sw : Bool) (w : World) :
    Calls Try.prog 3 #[.agg (encG g).toArray, .int .u32 (n : Int), .bool sw] w fun e w' => e = .returned (.bool true) ∧ Below w.heap.size w w' := by
  obtain ⟨k16, k17, k18, ⟨z22, z24, z27, z30, z53, z40, z62, n16, n17, n18⟩, HK⟩ := sz_ex
  clear z53 z62
  have mixed : Try.prog.follows .mixedOrders = true := by kernel_rfl
  by_cases hmax : n = 4294967295
  · subst hmax
    go_enter Try.func3, Try.ntmps3
    go_wp2
    go_ret
    exact ⟨rfl, (Below.refl _ _).alloc (Nat.le_refl _) _⟩
  · have hn1 : n + 1 < 4294967296 := by omega
    have hne : ((n : Int) == 4294967295) = false := by simp; omega
    have hne' : ¬ ((n : Int) = 4294967295) := by omega
    have hwr : IntKind.u32.wrap ((n : Int) + 1) = ((n + 1 : Nat) : Int) := by simp [IntKind.wrap, IntKind.signed, IntKind.bits]; omega
    obtain ⟨Z17, hZ, v27⟩ := zero27
    have b30' : Hid (∀ w, (Instr.build 30 #[(0, .agg (encG g).toArray), (1, .int .u32 ((n : Int) + 1))]).run Try.prog w = .ok (.agg (encX g (n + 1)).toArray) w) := fun w => by
      have := build30_any g (n + 1) w
      rw [show ((n + 1 : Nat) : Int) = (n : Int) + 1 from by omega] at this
      exact this
    have hlen1 : (encS (serN g n)).length = k17 := by rw [encS_length, HK.out.2.1]
    have hlen2 : (encS (serN g (n + 1))).length = k17 := by rw [encS_length, HK.out.2.1]
    have C6 : Hid (∀ W m, m < 4294967296 → Calls Try.prog 6 #[.agg (encX g m).toArray] W fun e w' => e = .returned (.agg (encS (serN g m)).toArray) ∧ Below W.heap.size W w') := fun W m hm => serial6 g m hm W
    obtain ⟨W0, hW0⟩ : ∃ W, W = w.alloc (.cells (encG g).toArray 22) := ⟨_, rfl⟩
    have hG0 : W0.heap[w.heap.size]? = some (.cells (encG g).toArray 22 (0, 0)) := by rw [hW0]; exact heap_alloc_last w _
    have hB0 : Below w.heap.size w W0 := by rw [hW0]; exact (Below.refl _ _).alloc (Nat.le_refl _) _
    have hs0 : w.heap.size < W0.heap.size := by rw [hW0]; simp
    have HG0 : Hid (W0.heap[w.heap.size]? = some (.cells (encG g).toArray 22 (0, 0)) ∧ Below w.heap.size w W0 ∧ w.heap.size < W0.heap.size) := ⟨hG0, hB0, hs0⟩
    have ldG : ∀ W, Below W0.heap.size W0 W → Sem.run Try.prog (loadCellsFrom ⟨w.heap.size, 0, none⟩ 0 k16 #[]) W = .ok (encG g).toArray W := fun W hW =>
      ld_block _ _ _ (encG g).toArray 22 (0, 0) _ _ ((hW.block _ hs0).trans hG0) (by rw [encG_length, HK.out.1]) (by simp)
    have HLD : Hid (∀ W, Below W0.heap.size W0 W → Sem.run Try.prog (loadCellsFrom ⟨w.heap.size, 0, none⟩ 0 k16 #[]) W = .ok (encG g).toArray W) := ldG
    have ld0 := ldG W0 (Below.refl _ _)
    clear ldG hG0 hB0 hs0
    go_enter Try.func3, Try.ntmps3
    go_upto_region 3 with fail
    rw [← hW0]
    clear hW0
    go_wp2_with (refine wpList_build2 rfl 30 (.tmp 15) (.tmp 16) rfl (.agg (encG g).toArray) (.int .u32 (n : Int)) (.agg (encX g n).toArray) rfl rfl (build30_any g n _) ?_)
    refine (C6.out _ n (by omega)).mono ?_
    rintro e w1 ⟨rfl, hb1⟩
    have ld1 : Sem.run Try.prog (loadCellsFrom ⟨w.heap.size, 0, none⟩ 0 k16 #[]) (w1.alloc (.cells (encS (serN g n)).toArray 27)) = .ok (encG g).toArray (w1.alloc (.cells (encS (serN g n)).toArray 27)) := HLD.out _ (hb1.alloc hb1.size _)
    have st1 : Sem.run Try.prog (storeCells ⟨w1.heap.size, 0, none⟩ (encS (serN g n)) 0) (w1.alloc (.cells Z17 27)) = .ok () (w1.alloc (.cells (encS (serN g n)).toArray 27)) := st_new w1 27 Z17 _ (by rw [encS_length]; exact hZ.out) (encS_one _)
    have HB1 : Hid (Below W0.heap.size W0 (w1.alloc (.cells (encS (serN g n)).toArray 27)) ∧ Below W0.heap.size W0 w1) := ⟨hb1.alloc hb1.size _, hb1⟩
    clear hb1 ld0
    go_wp2_with (refine wpList_build2 rfl 30 (.tmp 19) (.tmp 21) rfl (.agg (encG g).toArray) (.int .u32 ((n : Int) + 1)) (.agg (encX g (n + 1)).toArray) rfl rfl (b30'.out _) ?_)
    refine (C6.out _ (n + 1) (by omega)).mono ?_
    rintro e w2 ⟨rfl, hb2⟩
    obtain ⟨W1, hW1⟩ : ∃ W, W = w1.alloc (.cells (encS (serN g n)).toArray 27) := ⟨_, rfl⟩
    rw [← hW1] at hb2 HB1
    have hA1 : W1.heap[w1.heap.size]? = some (.cells (encS (serN g n)).toArray 27 (0, 0)) := by rw [hW1]; exact heap_alloc_last _ _
    have hs1 : w1.heap.size < W1.heap.size := by rw [hW1]; simp
    have st2 : Sem.run Try.prog (storeCells ⟨w2.heap.size, 0, none⟩ (encS (serN g (n + 1))) 0) (w2.alloc (.cells Z17 27)) = .ok () (w2.alloc (.cells (encS (serN g (n + 1))).toArray 27)) := st_new w2 27 Z17 _ (by rw [encS_length]; exact hZ.out) (encS_one _)
    obtain ⟨W2, hW2⟩ : ∃ W, W = w2.alloc (.cells (encS (serN g (n + 1))).toArray 27) := ⟨_, rfl⟩
    have hB2 : Below W1.heap.size W1 W2 := by rw [hW2]; exact hb2.alloc hb2.size _
    have hA2 : W2.heap[w2.heap.size]? = some (.cells (encS (serN g (n + 1))).toArray 27 (0, 0)) := by rw [hW2]; exact heap_alloc_last _ _
    have hs2 : w2.heap.size < W2.heap.size := by rw [hW2]; simp
    have ldA : ∀ W, Below W2.heap.size W2 W → Sem.run Try.prog (loadCellsFrom ⟨w1.heap.size, 0, none⟩ 0 k17 #[]) W = .ok (encS (serN g n)).toArray W := fun W hW =>
      ld_block _ _ _ _ 27 (0, 0) _ _ ((hW.block _ (by have := hB2.size; omega)).trans ((hB2.block _ hs1).trans hA1)) (by rw [encS_length, HK.out.2.1]) (by simp)
    have ldB : ∀ W, Below W2.heap.size W2 W → Sem.run Try.prog (loadCellsFrom ⟨w2.heap.size, 0, none⟩ 0 k17 #[]) W = .ok (encS (serN g (n + 1))).toArray W := fun W hW =>
      ld_block _ _ _ _ 27 (0, 0) _ _ ((hW.block _ hs2).trans hA2) (by rw [encS_length, HK.out.2.1]) (by simp)
    have hBB : Below W0.heap.size W0 W2 := HB1.out.1.trans (hB2.mono HB1.out.1.size)
    have ldA0 := ldA W2 (Below.refl _ _)
    have ldB0 := ldB W2 (Below.refl _ _)
    have ldA1 := fun o => ldA (W2.alloc o) ((Below.refl _ _).alloc (Nat.le_refl _) _)
    have ldB1 := fun o => ldB (W2.alloc o) ((Below.refl _ _).alloc (Nat.le_refl _) _)
    have HBB : Hid (Below W0.heap.size W0 W2) := hBB
    clear ldA ldB hb2 hA1 hs1 hA2 hs2 hB2 hBB ld1 st1
    go_upto_region 5 with fail
    rw [← hW2]
    clear st2
    have HW12 : Hid (W1 = w1.alloc (.cells (encS (serN g n)).toArray 27) ∧ W2 = w2.alloc (.cells (encS (serN g (n + 1))).toArray 27)) := ⟨hW1, hW2⟩
    clear hW1 hW2
    go_upto_if 27 with (refine wpList_bs2 rfl 31 (.tmp 24) (.tmp 25) rfl (.agg (encS (serN g n)).toArray) (.agg (encS (serN g (n + 1))).toArray) _ rfl rfl (buildSlice31_any _ _ _) ?_)
    go_cut [9] (fun bv wx => ∃ (S : Nat) (ss : List Sn), bv = .slice (some ⟨S, 0, none⟩) 2 2 ∧ Hid (wx.heap[S]? = some (.cells (flatS ss).toArray 27 (0, 0)) ∧ W0.heap.size ≤ S ∧ Below W0.heap.size W0 wx ∧ (ss = [serN g n, serN g (n + 1)] ∨ ss = [serN g (n + 1), serN g n])))
    case first =>
      cases sw with
      | true =>
        go_wp2_with (refine wpList_bs2 rfl 31 (.tmp 28) (.tmp 29) rfl (.agg (encS (serN g (n + 1))).toArray) (.agg (encS (serN g n)).toArray) _ rfl rfl (buildSlice31_any _ _ _) ?_)
        go_meet
        case rel =>
          exact ⟨_, [serN g (n + 1), serN g n], rfl, heap_alloc_at _ _ _ (by simp), by have := HBB.out.size; omega, (HBB.out.alloc HBB.out.size _).alloc (by have := HBB.out.size; simp; omega) _, .inr rfl⟩
      | false =>
        go_wp2
        go_meet
        case rel => exact ⟨_, [serN g n, serN g (n + 1)], rfl, heap_alloc_last _ _, HBB.out.size, HBB.out.alloc HBB.out.size _, .inl rfl⟩
    case rest =>
      obtain ⟨S, ss, rfl, HSS⟩ := hcut
      clear ldA0 ldB0 ldA1 ldB1 HBB
      obtain ⟨wk, hwk⟩ : ∃ wk, wk = wc.alloc (.cells #[.pointer none] 34) := ⟨_, rfl⟩
      obtain ⟨hS1, hS2, hS3, hS4⟩ := HSS.out
      have hSlt : S < wc.heap.size := (Array.getElem?_eq_some_iff.1 hS1).1
      have hssl : ss.length = 2 := by rcases hS4 with rfl | rfl <;> rfl
      have hKh : wk.heap[wc.heap.size]? = some (.cells #[.pointer none] 34 (0, 0)) := by rw [hwk]; exact heap_alloc_last _ _
      have hKn : Know wc.heap.size wk wc.heap.size [] := ⟨none, .slice none 0 0, [], hKh, World.ownsRow_nil _ _ _ _, BlksAt.nil _, .inl ⟨rfl, rfl⟩⟩
      have hbk : Below W0.heap.size W0 wk := by rw [hwk]; exact hS3.alloc hS3.size _
      have hSk : wk.heap[S]? = some (.cells (flatS ss).toArray 27 (0, 0)) := by rw [hwk, ((Below.refl wc.heap.size wc).alloc (Nat.le_refl _) _).block S hSlt]; exact hS1
      have hown : wk.ownsRow S 27 17 (.slice (some ⟨S, 0, none⟩) 2 2) ss.length (flatS ss) := by
        rw [hssl]
        refine ⟨by rw [flatS_length, hssl], .inr ⟨S, 2, (flatS ss).toArray, rfl, Nat.le_refl _, hSk, Nat.le_refl _, by unfold maxLen; omega, by simp [flatS_length, hssl], ?_⟩⟩
        rw [List.take_of_length_le (by simp [flatS_length, hssl])]
      have hksz : wc.heap.size ≤ wk.heap.size := by rw [hwk]; simp
      have CA := addAll_any wc.heap.size wc.heap.size S [] (.slice (some ⟨S, 0, none⟩) 2 2) ss wk hksz (Nat.le_refl _) hKn Good.nil hown (by simp; omega) (.inr ⟨rfl, hKh⟩) (replace_nil _) (fun s W => by
        have := find_any W 0 none 0 [] [] s (World.ownsRow_nil _ _ _ _) (BlksAt.nil _) Good.nil (by simp)
        refine this.mono ?_
        rintro e w' ⟨i, rfl, hF, hg⟩
        obtain rfl : i = 0 := by have := hF.1; simp at this; exact this
        exact ⟨rfl, hg⟩)
      have CA2 : Hid (Calls Try.prog 7 #[.pointer (some ⟨wc.heap.size, 0, none⟩), .slice (some ⟨S, 0, none⟩) 2 2] wk fun e w' => e = .returned (.tuple #[]) ∧ ∃ bs', Know wc.heap.size w' wc.heap.size bs' ∧ Good bs' ∧ bs'.flatten = [oneR g n] ∧ Below W0.heap.size W0 w') := by
        refine CA.mono ?_
        rintro e w' ⟨rfl, hF, _, bs', k1, k2, _, k4⟩
        refine ⟨rfl, bs', k1, k2, plain3 g n hn1 ss hS4 _ k2.ap (fun x => ?_), hbk.trans (hF.below hbk.size (fun b t hb => ⟨fun e => ?_, ?_, .inl ?_⟩))⟩
        · rw [k4 x]; simp [mem_nil]
        · simp only [Value.ownBlock, Option.some.injEq] at e; omega
        · have := hS3.size; omega
        · have := hS3.size; omega
      clear CA hown hSk hKn hKh hssl hS1 hS2 hS4 hSlt hbk hksz
      go_upto_region 9 with fail
      rw [← hwk]
      clear hwk HSS
      go_wp2_with (go_at_call 7; refine CA2.out.mono ?_; rintro e w5 ⟨rfl, bs', k1, k2, k3, k4⟩; have CH : Hid (Calls Try.prog 8 #[.pointer (some ⟨wc.heap.size, 0, none⟩)] w5 fun e w' => ∃ v', e = .returned v' ∧ w'.ownsRow w5.heap.size 40 18 v' bs'.flatten.length (flatR bs'.flatten) ∧ Below w5.heap.size w5 w') := held_any _ _ bs' w5 k1 k2 (by rw [k3]; simp); rw [k3] at CH; have HB5 : Hid (Below W0.heap.size W0 w5) := k4; clear k1 k2 k3 k4 CA2)
      refine CH.out.mono ?_
      rintro e w6 ⟨v6, rfl, ho6, hb6⟩
      have hB6 : Below W0.heap.size W0 w6 := HB5.out.trans (hb6.mono HB5.out.size)
      obtain ⟨gh, ch, rfl, l1, c16, c17⟩ : ∃ gh ch, v6 = .slice (some ⟨gh, 0, none⟩) 1 ch ∧ (∀ q, Sem.run Try.prog (loadCellsFrom ⟨gh, 0, none⟩ 0 k16 #[]) (w6.drewN q) = .ok (encG g).toArray (w6.drewN q)) ∧ w6.cell? ⟨gh, 16, none⟩ = some (.int .u64 (frN g n : Int)) ∧ w6.cell? ⟨gh, 17, none⟩ = some (.int .u64 ((n : Int) + 1)) := by
        have hfl : flatR [oneR g n] = encR (oneR g n) := flatR_one _
        rcases ho6.2 with ⟨_, h0⟩ | ⟨gh, cap, cur, rfl, _, hb, h1, h2, h3, h4⟩
        · simp at h0
        · have hcell : ∀ j v, (encR (oneR g n))[j]? = some v → cur[0 + j]? = some v := fun j v hj => by
            have hj18 : j < 18 := by have := (List.getElem?_eq_some_iff.1 hj).1; rwa [encR_length] at this
            rw [hfl] at h4
            rw [← h4, List.getElem?_take_of_lt (by simpa using hj18), Array.getElem?_toList] at hj
            rw [Nat.zero_add]; exact hj
          refine ⟨gh, cap, rfl, fun q => ?_, ?_, ?_⟩
          · exact ld_block _ _ _ cur 40 (0, 0) _ _ hb (by rw [encG_length, HK.out.1]) (fun j v hj => hcell j v (by
              show (encG g ++ _)[j]? = some v
              rw [List.getElem?_append_left (List.getElem?_eq_some_iff.1 hj).1]; exact hj))
          · have h := hcell 16 _ (encR_16 (oneR g n))
            have e : ((oneR g n).2.1.toNat : Int) = (frN g n : Int) := by
              show ((UInt64.ofNat (frN g n)).toNat : Int) = _
              have : (UInt64.ofNat (frN g n)).toNat = frN g n := by simp; unfold frN; split <;> omega
              rw [this]
            rw [e] at h
            simpa [World.cell?, hb] using h
          · have h := hcell 17 _ (encR_17 (oneR g n))
            have e : ((oneR g n).2.2.toNat : Int) = (n : Int) + 1 := by
              show ((UInt64.ofNat (n + 1)).toNat : Int) = _
              have : (UInt64.ofNat (n + 1)).toNat = n + 1 := by simp; omega
              rw [this]; omega
            rw [e] at h
            simpa [World.cell?, hb] using h
      have ldG6 : ∀ q, Sem.run Try.prog (loadCellsFrom ⟨w.heap.size, 0, none⟩ 0 k16 #[]) (w6.drewN q) = .ok (encG g).toArray (w6.drewN q) := fun q => HLD.out _ (hB6.trans (((Gr.refl w6).drewN q).below.mono hB6.size))
      have ldG0 : Sem.run Try.prog (loadCellsFrom ⟨w.heap.size, 0, none⟩ 0 k16 #[]) w6 = .ok (encG g).toArray w6 := HLD.out _ hB6
      have HFIN : Hid (∀ q, Below w.heap.size w (w6.drewN q)) := fun q => (HG0.out.2.1.trans (hB6.mono (Nat.le_of_lt HG0.out.2.2))).trans (((Gr.refl w6).drewN q).below.mono (by have := hB6.size; have := HG0.out.2.2; omega))
      have eq22 := eqlG22
      have zn22 := zeroNull22
      have hgg : (g == g) = true := by simp
      have hwr2 : IntKind.u64.wrap ((n : Int) + 1) = (n : Int) + 1 := by simp [IntKind.wrap, IntKind.signed, IntKind.bits]; omega
      clear ho6 hb6 hB6 CH HB5 HLD
      by_cases h0 : n = 0
      · subst h0
        by_cases hg0 : g = Vector.replicate 16 0
        · have hbg : (g == Vector.replicate 16 0) = true := by simp [hg0]
          have hf : frN g 0 = 1 := by unfold frN; rw [if_pos ⟨rfl, hg0⟩]
          rw [hf] at c16
          clear hf hg0
          go_upto_region 14 with fail
          go_quiet (fail)
          go_wp2
          go_ret
          exact ⟨rfl, HFIN.out _⟩
        · have hbg : (g == Vector.replicate 16 0) = false := by simpa using hg0
          have hf : frN g 0 = 0 := by unfold frN; rw [if_neg (fun h => hg0 h.2)]
          rw [hf] at c16
          clear hf hg0
          go_upto_region 14 with fail
          go_quiet (fail)
          go_wp2
          go_ret
          exact ⟨rfl, HFIN.out _⟩
      · have hb0 : ((n : Int) == 0) = false := by simp; omega
        have hf : frN g n = n := by unfold frN; rw [if_neg (fun h => h0 h.1)]
        rw [hf] at c16
        clear hf
        have hnn : ((n : Int) == (n : Int)) = true := by simp
        go_upto_region 14 with fail
        go_quiet (fail)
        go_wp2
        go_ret
        exact ⟨rfl, HFIN.out _⟩
end Go.Proofs.Qxb6615018a
