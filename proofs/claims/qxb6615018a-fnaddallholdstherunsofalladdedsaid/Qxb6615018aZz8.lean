/-
  DERIVED. zzRuns.
-/
import Derived.Test.Qxb6615018aZz5
import Derived.Test.Qxb6615018aHeld
namespace Go.Proofs.Qxb6615018a
open Go.RowKit Go.Sort

theorem zero40 : ∃ Z : Array Value, Hid (Z.size = 18) ∧ ∀ w, (zeroValue 40).run Try.prog w = .ok (.agg Z) w :=
  ⟨(List.replicate 16 (Value.int .u8 0) ++ ([.int .u64 0, .int .u64 0] : List Value)).toArray, by show _ = _; rfl, fun w => by simp [go_sem]⟩
theorem zero53'' : ∃ Z : Array Value, Hid (Z.size = 17) ∧ ∀ w, (zeroValue 53).run Try.prog w = .ok (.agg Z) w :=
  ⟨(List.replicate 16 (Value.int .u8 0) ++ ([.int .u64 0] : List Value)).toArray, by show _ = _; rfl, fun w => by simp [go_sem]⟩

theorem setMany_whole (Z : Array Value) (vs : List Value) (h : Z.size = vs.length) : setMany Z 0 vs = vs.toArray := by
  apply Array.ext_getElem?
  intro k
  rw [setMany_get? _ _ _ _ (by omega)]
  by_cases hk : k < vs.length
  · rw [if_pos (by omega), Nat.sub_zero]; simp
  · rw [if_neg (by omega), Array.getElem?_eq_none (show Z.size ≤ k by omega)]
    simp; omega

/-- A whole aggregate into a block. -/
theorem blk_st (X : World) (b : Nat) (t : TypeId) (Z : Array Value) (vs : List Value) (hb : X.heap[b]? = some (.cells Z t (0, 0))) (hs : Z.size = vs.length) (h1 : ∀ v ∈ vs, v.oneCell' = true) :
    ∃ X', Sem.run Try.prog (storeCells ⟨b, 0, none⟩ vs 0) X = .ok () X' ∧ X'.heap[b]? = some (.cells vs.toArray t (0, 0)) ∧ X.grownBy X' (some b) := by
  refine ⟨X.setCells b 0 vs, ?_, ?_, grown_setCells _ _ _ _⟩
  · have := run_storeCells_cells (P := Try.prog) b 0 vs 0 X (fun j hj => ?_) (fun j hj => ?_) h1
    · simpa using this
    · have hk : 0 + 0 + j < Z.size := by omega
      simp only [World.cell?, hb, Array.getElem?_eq_getElem hk]
      rfl
    · simp [World.frozen?, hb]
  · rw [heap_setCells b t (0, 0) vs 0 X Z hb, setMany_whole Z vs hs]

theorem heap_setCell (X : World) (b k : Nat) (t : TypeId) (Z : Array Value) (v : Value) (hb : X.heap[b]? = some (.cells Z t (0, 0))) : (X.setCell ⟨b, k, none⟩ v).heap[b]? = some (.cells (Z.setIfInBounds k v) t (0, 0)) := by
  simp [World.setCell, Array.getElem?_modify, hb]

/-- What zzRuns has in hand: the ranges that are done, the current one in a variable of its own. -/
def RunSt (w : World) (cb : Nat) (acc : List Rg) (v : Value) (hb : Bool) (wr : World) : Prop :=
  ∃ (outl : List Rg) (cur : Rg) (F : Array Value), wr.ownsRow (cb + 1) 40 18 v outl.length (flatR outl) ∧ wr.heap[cb]? = some (.cells F 40 (0, 0)) ∧ F.size = 18 ∧ Below cb w wr ∧
    ((hb = true ∧ F = (encR cur).toArray ∧ acc = outl ++ [cur]) ∨ (hb = false ∧ outl = [] ∧ acc = []))

theorem RunSt.below {w wr wr' : World} {cb : Nat} {acc : List Rg} {v : Value} {hb : Bool} (h : RunSt w cb acc v hb wr) (hB : Below wr.heap.size wr wr') : RunSt w cb acc v hb wr' := by
  obtain ⟨outl, cur, F, h1, h2, h3, h4, h5⟩ := h
  exact ⟨outl, cur, F, ownsRow_block h1 (fun g hg => hB.block g (h1.lt g hg).2), (hB.block cb (Array.getElem?_eq_some_iff.1 h2).1).trans h2, h3, h4.trans (hB.mono (Nat.le_of_lt (Array.getElem?_eq_some_iff.1 h2).1)), h5⟩

theorem apR_last (outl : List Rg) (cur r : Rg) : apR (outl ++ [cur]) r = if joinsB cur r then outl ++ [(cur.1, cur.2.1, max cur.2.2 r.2.2)] else outl ++ [cur] ++ [r] := by
  simp [apR]
theorem join_yes {cg : Gd} {ct sn : UInt64} (cf : UInt64) (h : sn ≤ ct ∨ sn.toNat = ct.toNat + 1) : joinsB (cg, cf, ct) (rgOf (cg, sn)) = true := by
  have h1 : sn ≤ ct ∨ sn - 1 = ct := by
    rcases h with h | h
    · exact .inl h
    · refine .inr (UInt64.toNat_inj.1 ?_)
      have := sn.toNat_lt
      rw [UInt64.toNat_sub_of_le _ _ (by rw [UInt64.le_iff_toNat_le]; show 1 ≤ _; omega)]
      show sn.toNat - 1 = _
      omega
  rcases h1 with h1 | h1 <;> simp [joinsB, rgOf, h1]
theorem join_no {cg sg : Gd} {ct sn : UInt64} (cf : UInt64) (h : cg ≠ sg ∨ (ct.toNat < sn.toNat ∧ sn.toNat ≠ ct.toNat + 1)) : joinsB (cg, cf, ct) (rgOf (sg, sn)) = false := by
  rcases h with h | ⟨h1, h2⟩
  · simp [joinsB, rgOf, h]
  · have e1 : ¬ sn ≤ ct := by rw [UInt64.le_iff_toNat_le]; omega
    have e2 : ¬ (sn - 1 = ct) := fun e => by
      have := congrArg UInt64.toNat e
      rw [UInt64.toNat_sub_of_le _ _ (by rw [UInt64.le_iff_toNat_le]; show 1 ≤ _; omega)] at this
      have h3 : sn.toNat - 1 = ct.toNat := this
      omega
    have e3 : (sn - 1 == ct) = false := by simpa using e2
    have e4 : decide (sn ≤ ct) = false := by simpa using e1
    show ((cg == sg) && (decide (sn ≤ ct) || (sn - 1 == ct))) = false
    rw [e3, e4]; simp

theorem runsL_len (ss : List Sn) : (runsL ss).length ≤ ss.length := by
  have h : ∀ (L acc : List Rg), (L.foldl apR acc).length ≤ acc.length + L.length := by
    intro L
    induction L with
    | nil => intro acc; simp
    | cons r L ih =>
      intro acc
      have h1 := ih (apR acc r)
      have h2 := apR_length acc r
      simp only [List.foldl_cons, List.length_cons]
      omega
  have h1 := h ((ss.filter (fun s => !(s == nullS))).map rgOf) []
  have h2 := List.length_filter_le (fun s => !(s == nullS)) ss
  simp only [List.length_nil, List.length_map] at h1
  unfold runsL
  omega

/-- Behind the append of the current range. -/
theorem run_appended {w Wb w' : World} {cb sb : Nat} {v v' : Value} {outl : List Rg} {cur : Rg} {s : Sn} {X : Obj} (hcb : Wb.heap[cb]? = some (.cells (encR cur).toArray 40 (0, 0))) (hsb : Wb.heap[sb]? = some (.cells (encS s).toArray 53 (0, 0))) (hB : Below cb w Wb) (hv : ∀ g, v.ownBlock = some g → cb + 1 ≤ g ∧ g < sb)
    (hg : (Wb.alloc X).grownBy w' v.ownBlock) (ho' : w'.ownsRow (cb + 1) 40 18 v' (outl.length + 1) (flatR outl ++ encR cur)) :
    w'.heap[cb]? = some (.cells (encR cur).toArray 40 (0, 0)) ∧ w'.heap[sb]? = some (.cells (encS s).toArray 53 (0, 0)) ∧ Below cb w w' ∧ w'.ownsRow (cb + 1) 40 18 v' (outl ++ [cur]).length (flatR (outl ++ [cur])) := by
  have hcl := (Array.getElem?_eq_some_iff.1 hcb).1
  have hsl := (Array.getElem?_eq_some_iff.1 hsb).1
  have hA := (Below.refl Wb.heap.size Wb).alloc (Nat.le_refl _) X
  have hsz := hA.size
  refine ⟨?_, ?_, ?_, by rw [List.length_append, flatR_append, flatR_one]; exact ho'⟩
  · rw [hg.block cb (by omega) (fun e => by have := hv cb e.symm; omega), hA.block cb hcl]; exact hcb
  · rw [hg.block sb (by omega) (fun e => by have := hv sb e.symm; omega), hA.block sb hsl]; exact hsb
  · have h0 : Below cb w (Wb.alloc X) := hB.trans (hA.mono (by omega))
    refine ⟨hg.os.trans h0.os, hg.tape.trans h0.tape, hg.output.trans h0.output, Nat.le_trans h0.size hg.size, fun k hk => ?_⟩
    rw [hg.block k (by omega) (fun e => by have := hv k e.symm; omega)]
    exact h0.block k hk

/-- A new current range. -/
theorem run_begun {w w' : World} {cb sb : Nat} {v' : Value} {outl : List Rg} {F : Array Value} {s : Sn} (r : Rg) (hcb : w'.heap[cb]? = some (.cells F 40 (0, 0))) (hF : F.size = 18) (hsb : w'.heap[sb]? = some (.cells (encS s).toArray 53 (0, 0))) (hB : Below cb w w') (ho : w'.ownsRow (cb + 1) 40 18 v' outl.length (flatR outl)) (k16 : Nat) (hk : k16 = 16) :
    Sem.run Try.prog (loadCellsFrom ⟨sb, 0, none⟩ 0 k16 #[]) w' = .ok (encG s.1).toArray w' ∧ w'.cell? ⟨sb, 16, none⟩ = some (.int .u64 (s.2.toNat : Int)) ∧
      ∃ X', Sem.run Try.prog (storeCells ⟨cb, 0, none⟩ (encR r) 0) w' = .ok () X' ∧ Hid (RunSt w cb (outl ++ [r]) v' true X') := by
  obtain ⟨X', h1, h2, h3⟩ := blk_st w' cb 40 F (encR r) hcb (by rw [encR_length]; exact hF) (encR_one _)
  refine ⟨ld_block _ _ _ _ 53 (0, 0) _ _ hsb (by rw [encG_length, hk]) (encS_sub s), by simpa [World.cell?, hsb] using encS_16 s, X', h1, outl, r, _, ?_, h2, by simp [encR_length], ?_, .inl ⟨rfl, rfl, rfl⟩⟩
  · refine ownsRow_block ho (fun g hg => h3.block g (ho.lt g hg).2 (fun e => ?_))
    have := (ho.lt g hg).1
    have := Option.some.inj e
    omega
  · have hcl := (Array.getElem?_eq_some_iff.1 hcb).1
    exact ⟨h3.os.trans hB.os, h3.tape.trans hB.tape, h3.output.trans hB.output, Nat.le_trans hB.size h3.size, fun k hk => (h3.block k (by omega) (fun e => by have := Option.some.inj e; omega)).trans (hB.block k hk)⟩

set_option maxRecDepth 100000 in
set_option maxHeartbeats 2000000 in
/-- zzRuns. -/
theorem runs_any (a : Option Addr) (c : Nat) (S : List Sn) (w : World) (h : RdB encS 17 w.heap.size w a S) (hL : S.length ≤ 1000000) :
    Calls Try.prog 13 #[.slice a S.length c] w fun e w' => ∃ v', e = .returned v' ∧ w'.ownsRow w.heap.size 40 18 v' (runsL S).length (flatR (runsL S)) ∧ Below w.heap.size w w' := by
  obtain ⟨k16, k17, k18, ⟨z22, z24, z27, z30, z53, z40, z62, n16, n17, n18⟩, HK⟩ := sz_ex
  clear z24 z27 z30 z62
  obtain ⟨i0, hinf, hz0, hz1, hz2⟩ := info_parts Try.info40
  obtain ⟨Z18, hZ, v40⟩ := zero40
  obtain ⟨Z17, hZ17, v53⟩ := zero53''
  have h22 := zzEq22
  have hlnS : ∀ s, (encS s).length = k17 := fun s => by rw [encS_length, HK.out.2.1]
  have hlnR : ∀ r, (encR r).length = k18 := fun r => by rw [encR_length, HK.out.2.2]
  have H : Hid (RdB encS 17 w.heap.size w a S) := h
  have HZ : Hid (RunSt w w.heap.size [] (.slice none 0 0) false (w.alloc (.cells Z18 40))) :=
    ⟨[], (Vector.replicate 16 0, 0, 0), Z18, World.ownsRow_nil _ _ _ _, heap_alloc_last _ _, hZ.out, (Below.refl _ _).alloc (Nat.le_refl _) _, .inr ⟨rfl, rfl, rfl⟩⟩
  clear h
  go_enter Try.func13, Try.ntmps13
  go_wp2
  go_loopg [3, 4, 6] S.length (fun gk ov hv iv wr => ∃ (i : Nat) (v : Value) (hb : Bool), v = ov ∧ hv = .bool hb ∧ iv = .int .i64 i ∧ gk = S.length - i ∧ i ≤ S.length ∧ Hid (RunSt w w.heap.size (runsL (S.take i)) v hb wr))
  case atStart => exact ⟨0, _, false, rfl, rfl, rfl, rfl, by omega, HZ⟩
  case round =>
    clear HZ
    obtain ⟨i, v, hb, rfl, rfl, rfl, hgk, hil, HR⟩ := hrel
    obtain ⟨wo, hwo⟩ : ∃ wo, wo = wr := ⟨_, rfl⟩
    subst hwo
    rcases Nat.eq_or_lt_of_le hil with hE | hE
    · subst hE
      obtain ⟨outl, cur, F, hown, hcb, hF, hBw, hcase⟩ := HR.out
      rw [List.take_length] at hcase
      have hlen : outl.length ≤ 1000000 := by
        have h1 : (runsL S).length ≤ S.length := runsL_len _
        rcases hcase with ⟨_, _, e⟩ | ⟨_, e, _⟩
        · rw [e] at h1; simp at h1; omega
        · rw [e]; simp
      rcases hcase with ⟨rfl, rfl, hacc⟩ | ⟨rfl, rfl, hacc⟩
      · obtain ⟨cg, cf, ct⟩ := cur
        have lc18 : Sem.run Try.prog (loadCellsFrom ⟨w.heap.size, 0, none⟩ 0 k18 #[]) wo = .ok (encR (cg, cf, ct)).toArray wo := ld_block _ _ _ _ 40 (0, 0) _ _ hcb (by rw [encR_length, HK.out.2.2]) (by simp)
        have HOW : Hid (wo.ownsRow (w.heap.size + 1) 40 18 v outl.length (flatR outl)) := hown
        have HLEN : Hid (outl.length ≤ 1000000) := hlen
        have HCB : Hid (w.heap.size < wo.heap.size ∧ Below w.heap.size w wo) := ⟨(Array.getElem?_eq_some_iff.1 hcb).1, hBw⟩
        have HACC : Hid (runsL S = outl ++ [(cg, cf, ct)]) := hacc
        clear hacc hown hcb hBw hF HR hlen
        go_wp2_with (first | (refine wpList_bs1 rfl 36 (.tmp 56) rfl (.agg (encR (cg, cf, ct)).toArray) _ rfl (buildSlice36_any (cg, cf, ct) _) ?_) | (at_builtin; refine wpList_append_own _ rfl (.tmp 55) (.tmp 57) 36 rfl (w.heap.size + 1) 40 i0 _ 18 32 Try.underlying36 hinf hz0 hz1 hz2 rfl (by decide) v outl.length (flatR outl) rfl ?own_1 ⟨wo.heap.size, 0, none⟩ 1 1 (encR (cg, cf, ct)) rfl ?ll_1 ?news_1 ?one_1 ?c3_1 ?c4_1 ?c5_1 ?_))
        case news_1 => first | exact cells_at (heap_alloc_last wo (.cells (encR (cg, cf, ct)).toArray 40)) | (intro j u hj; simpa using cells_at (heap_alloc_last wo (.cells (encR (cg, cf, ct)).toArray 40)) j u hj)
        case own_1 => exact HOW.out.alloc _
        case ll_1 => first | exact HK.out.2.2 | rw [encR_length]
        case one_1 => exact encR_one _
        case c3_1 => unfold maxLen; have := HLEN.out; omega
        case c4_1 => have := HLEN.out; omega
        case c5_1 => first | (have := HCB.out.1; omega) | (have := HCB.out.1; simp; omega)
        intro v' w' ho' hg' _
        have HFIN : Hid (w'.ownsRow w.heap.size 40 18 v' (runsL S).length (flatR (runsL S)) ∧ Below w.heap.size w w') := by
          refine ⟨?_, ?_⟩
          · rw [HACC.out, List.length_append, flatR_append, flatR_one]
            exact ownsRow_mono ho' (by omega)
          · have hA := (Below.refl wo.heap.size wo).alloc (Nat.le_refl _) (.cells (encR (cg, cf, ct)).toArray 40)
            have h0 := HCB.out.2.trans (hA.mono HCB.out.2.size)
            refine ⟨hg'.os.trans h0.os, hg'.tape.trans h0.tape, hg'.output.trans h0.output, Nat.le_trans h0.size hg'.size, fun k hk => ?_⟩
            rw [hg'.block k (by have := h0.size; omega) (fun e => by have := (HOW.out.lt k e.symm).1; omega)]
            exact h0.block k hk
        clear ho' hg'
        go_wp2
        go_ret
        exact ⟨_, rfl, HFIN.out⟩
      · have HFIN : Hid (wo.ownsRow w.heap.size 40 18 v (runsL S).length (flatR (runsL S)) ∧ Below w.heap.size w wo) := ⟨by rw [hacc]; exact ownsRow_mono hown (by omega), hBw⟩
        clear hacc hown hcb hBw hF HR hlen
        go_wp2
        go_ret
        exact ⟨_, rfl, HFIN.out⟩
    · have hbl : Below w.heap.size w wo := by obtain ⟨_, _, _, _, _, _, h4, _⟩ := HR.out; exact h4
      obtain ⟨s, hs⟩ : ∃ s, s = S[i] := ⟨_, rfl⟩
      obtain ⟨b, o, rfl, _⟩ := H.out i hE
      have ld := (H.out.below hbl).ld encS_length i hE k17 HK.out.2.1
      rw [← hs] at ld
      have HT : Hid (S.take (i + 1) = S.take i ++ [s]) := by show _ = _; rw [List.take_succ_eq_append_getElem hE, hs]
      have ib0 : (0 : Int) ≤ (i : Int) := by omega
      have ib : (i : Int) < (S.length : Int) := by omega
      have st1 : Sem.run Try.prog (storeCells ⟨wo.heap.size, 0, none⟩ (encS s) 0) (wo.alloc (.cells Z17 53)) = .ok () (wo.alloc (.cells (encS s).toArray 53)) := st_new wo 53 Z17 _ (by rw [encS_length]; exact hZ17.out) (encS_one _)
      obtain ⟨Wa, hWa⟩ : ∃ Wa, Wa = wo.alloc (.cells (encS s).toArray 53) := ⟨_, rfl⟩
      have HA : Hid (Wa.heap[wo.heap.size]? = some (.cells (encS s).toArray 53 (0, 0)) ∧ Below wo.heap.size wo Wa ∧ wo.heap.size < Wa.heap.size) := by rw [hWa]; exact ⟨heap_alloc_last _ _, (Below.refl _ _).alloc (Nat.le_refl _) _, by simp⟩
      have ldA : Sem.run Try.prog (loadCellsFrom ⟨wo.heap.size, 0, none⟩ 0 k17 #[]) Wa = .ok (encS s).toArray Wa := ld_block _ _ _ _ 53 (0, 0) _ _ HA.out.1 (hlnS s) (by simp)
      rw [hWa] at ldA
      clear hs hbl
      go_wp2_with fail
      rw [← hWa]
      clear hWa st1 ld ldA
      refine (isNull_any s Wa).mono ?_
      rintro e Wb ⟨rfl, hgr⟩
      have HB : Hid (Wb.heap[wo.heap.size]? = some (.cells (encS s).toArray 53 (0, 0)) ∧ Below wo.heap.size wo Wb) :=
        ⟨(hgr.below.block _ HA.out.2.2).trans HA.out.1, HA.out.2.1.trans (hgr.below.mono HA.out.2.1.size)⟩
      have HRb : Hid (RunSt w w.heap.size (runsL (S.take i)) v hb Wb) := HR.out.below HB.out.2
      have HV : Hid (∀ g, v.ownBlock = some g → w.heap.size + 1 ≤ g ∧ g < wo.heap.size) := fun g hg => by
        obtain ⟨_, _, _, h1, _⟩ := HR.out
        exact h1.lt g hg
      clear hgr HA HR
      by_cases hnull : s = nullS
      · have hnb : (s == ((Vector.replicate 16 0 : Gd), (0 : UInt64))) = true := by rw [hnull]; decide
        have HN : Hid (RunSt w w.heap.size (runsL (S.take (i + 1))) v hb Wb) := by show RunSt _ _ _ _ _ _; rw [HT.out, runsL_null hnull]; exact HRb.out
        go_wp2
        go_roundg (S.length - (i + 1))
        case measure => omega
        case rel => exact ⟨i + 1, v, hb, rfl, rfl, by go_num, rfl, by omega, HN⟩
      · have hnb : (s == ((Vector.replicate 16 0 : Gd), (0 : UInt64))) = false := by
          rw [beq_eq_false_iff_ne]; exact hnull
        have HRN : Hid (runsL (S.take (i + 1)) = apR (runsL (S.take i)) (rgOf s)) := by show _ = _; rw [HT.out, runsL_snoc hnull]
        go_upto_region 9 with fail
        clear hnb hnull
        obtain ⟨sg, sn⟩ := s
        obtain ⟨outl, cur, F, hown, hcb, hF, hBw, hcase⟩ := HRb.out
        have hlen : outl.length ≤ 1000000 := by
          have h1 : (runsL (S.take i)).length ≤ (S.take i).length := runsL_len _
          have h2 : (S.take i).length ≤ S.length := by simp; omega
          rcases hcase with ⟨_, _, e⟩ | ⟨_, e, _⟩
          · rw [e] at h1; simp at h1; simp at h2; omega
          · rw [e]; simp
        rcases hcase with ⟨rfl, rfl, hacc⟩ | ⟨rfl, rfl, hacc⟩
        · obtain ⟨cg, cf, ct⟩ := cur
          have lc16 : Sem.run Try.prog (loadCellsFrom ⟨w.heap.size, 0, none⟩ 0 k16 #[]) Wb = .ok (encG cg).toArray Wb := ld_block _ _ _ _ 40 (0, 0) _ _ hcb (by rw [encG_length, HK.out.1]) (encR_sub (cg, cf, ct))
          have lc18 : Sem.run Try.prog (loadCellsFrom ⟨w.heap.size, 0, none⟩ 0 k18 #[]) Wb = .ok (encR (cg, cf, ct)).toArray Wb := ld_block _ _ _ _ 40 (0, 0) _ _ hcb (by rw [encR_length, HK.out.2.2]) (by simp)
          have ls16 : Sem.run Try.prog (loadCellsFrom ⟨wo.heap.size, 0, none⟩ 0 k16 #[]) Wb = .ok (encG sg).toArray Wb := ld_block _ _ _ _ 53 (0, 0) _ _ HB.out.1 (by rw [encG_length, HK.out.1]) (encS_sub (sg, sn))
          have cs16 : Wb.cell? ⟨wo.heap.size, 16, none⟩ = some (.int .u64 (sn.toNat : Int)) := by simpa [World.cell?, HB.out.1] using encS_16 (sg, sn)
          have cc17 : Wb.cell? ⟨w.heap.size, 17, none⟩ = some (.int .u64 (ct.toNat : Int)) := by simpa [World.cell?, hcb] using encR_17 (cg, cf, ct)
          have fc17 : Wb.frozen? ⟨w.heap.size, 17, none⟩ = false := by simp [World.frozen?, hcb]
          have HOW : Hid (Wb.ownsRow (w.heap.size + 1) 40 18 v outl.length (flatR outl)) := hown
          have HLEN : Hid (outl.length ≤ 1000000) := hlen
          have HCB : Hid (w.heap.size < Wb.heap.size ∧ Wb.heap[w.heap.size]? = some (.cells (encR (cg, cf, ct)).toArray 40 (0, 0)) ∧ Below w.heap.size w Wb) := ⟨(Array.getElem?_eq_some_iff.1 hcb).1, hcb, hBw⟩
          have HACC : Hid (runsL (S.take i) = outl ++ [(cg, cf, ct)]) := hacc
          clear hacc hown hcb hBw hF HRb hlen
          by_cases q1 : cg = sg
          · subst q1
            have q1b : (cg == cg) = true := by simp
            by_cases q2 : sn ≤ ct
            · have q2' : (sn.toNat : Int) ≤ (ct.toNat : Int) := by have := UInt64.le_iff_toNat_le.1 q2; omega
              have HN : Hid (RunSt w w.heap.size (runsL (S.take (i + 1))) v true Wb) := by
                show RunSt _ _ _ _ _ _
                have hm : max ct sn = ct := by
                  apply UInt64.toNat_inj.1
                  rw [umax]; have := UInt64.le_iff_toNat_le.1 q2; omega
                rw [HRN.out, HACC.out, apR_last, if_pos (join_yes cf (.inl q2))]
                show RunSt w w.heap.size (outl ++ [(cg, cf, max ct sn)]) v true Wb
                rw [hm]
                exact ⟨outl, _, _, HOW.out, HCB.out.2.1, by simp [encR_length], HCB.out.2.2, .inl ⟨rfl, rfl, rfl⟩⟩
              go_wp2
              go_roundg (S.length - (i + 1))
              case measure => omega
              case rel => exact ⟨i + 1, v, true, rfl, rfl, by go_num, rfl, by omega, HN⟩
            · have q2' : ¬ (sn.toNat : Int) ≤ (ct.toNat : Int) := fun hh => q2 (UInt64.le_iff_toNat_le.2 (by omega))
              have qw : IntKind.u64.wrap ((sn.toNat : Int) - (ct.toNat : Int)) = (sn.toNat : Int) - (ct.toNat : Int) := by
                have := sn.toNat_lt
                simp [IntKind.wrap, IntKind.signed, IntKind.bits]; omega
              by_cases q3 : sn.toNat = ct.toNat + 1
              · have q3' : (sn.toNat : Int) - (ct.toNat : Int) = 1 := by omega
                have q3b : ((sn.toNat : Int) - (ct.toNat : Int) == 1) = true := by simpa using q3'
                have HN : Hid (RunSt w w.heap.size (runsL (S.take (i + 1))) v true (Wb.setCell ⟨w.heap.size, 17, none⟩ (.int .u64 (sn.toNat : Int)))) := by
                  show RunSt _ _ _ _ _ _
                  have hm : max ct sn = sn := by
                    apply UInt64.toNat_inj.1
                    rw [umax]; omega
                  rw [HRN.out, HACC.out, apR_last, if_pos (join_yes cf (.inr q3))]
                  show RunSt w w.heap.size (outl ++ [(cg, cf, max ct sn)]) v true _
                  rw [hm]
                  have hgr := grown_setCells w.heap.size [.int .u64 (sn.toNat : Int)] 17 Wb
                  have hgr' : Wb.grownBy (Wb.setCell ⟨w.heap.size, 17, none⟩ (.int .u64 (sn.toNat : Int))) (some w.heap.size) := hgr
                  refine ⟨outl, (cg, cf, sn), (encR (cg, cf, sn)).toArray, ?_, ?_, by simp [encR_length], ?_, .inl ⟨rfl, rfl, rfl⟩⟩
                  · refine ownsRow_block HOW.out (fun g hg => hgr'.block g (HOW.out.lt g hg).2 (fun e => ?_))
                    have := (HOW.out.lt g hg).1
                    have := Option.some.inj e
                    omega
                  · rw [heap_setCell Wb w.heap.size 17 40 _ _ HCB.out.2.1, List.setIfInBounds_toArray, encR_set (cg, cf, ct) sn]
                  · have hB := HCB.out.2.2
                    exact ⟨hgr'.os.trans hB.os, hgr'.tape.trans hB.tape, hgr'.output.trans hB.output, Nat.le_trans hB.size hgr'.size, fun k hk => (hgr'.block k (by have := HCB.out.1; omega) (fun e => by have := Option.some.inj e; omega)).trans (hB.block k hk)⟩
                clear q3
                go_wp2
                go_roundg (S.length - (i + 1))
                case measure => omega
                case rel => exact ⟨i + 1, v, true, rfl, rfl, by go_num, rfl, by omega, HN⟩
              · have q3' : ¬ ((sn.toNat : Int) - (ct.toNat : Int) = 1) := by omega
                have q3b : ((sn.toNat : Int) - (ct.toNat : Int) == 1) = false := by simpa using q3'
                have HJ : Hid (joinsB (cg, cf, ct) (rgOf (cg, sn)) = false) := join_no cf (.inr ⟨by omega, q3⟩)
                clear q3
                go_wp2_with (first | (refine wpList_bs1 rfl 36 (.tmp 44) rfl (.agg (encR (cg, cf, ct)).toArray) _ rfl (buildSlice36_any (cg, cf, ct) _) ?_) | (at_builtin; refine wpList_append_own _ rfl (.tmp 43) (.tmp 45) 36 rfl (w.heap.size + 1) 40 i0 _ 18 32 Try.underlying36 hinf hz0 hz1 hz2 rfl (by decide) v outl.length (flatR outl) rfl ?own_2 ⟨Wb.heap.size, 0, none⟩ 1 1 (encR (cg, cf, ct)) rfl ?ll_2 ?news_2 ?one_2 ?c3_2 ?c4_2 ?c5_2 ?_))
                case own_2 => exact HOW.out.alloc _
                case ll_2 => first | exact HK.out.2.2 | rw [encR_length]
                case one_2 => exact encR_one _
                case c3_2 => unfold maxLen; have := HLEN.out; omega
                case c4_2 => have := HLEN.out; omega
                case c5_2 => first | (have := HCB.out.1; omega) | (have := HCB.out.1; simp; omega)
                intro v' w' ho' hg' _
                obtain ⟨a1, a2, a3, a4⟩ := run_appended (s := (cg, sn)) HCB.out.2.1 HB.out.1 HCB.out.2.2 HV.out hg' ho'
                obtain ⟨ms16, mc16, X', hst, HN⟩ := run_begun (w := w) (s := (cg, sn)) (rgOf (cg, sn)) a1 (by simp [encR_length]) a2 a3 a4 k16 HK.out.1
                have HN2 : Hid (RunSt w w.heap.size (runsL (S.take (i + 1))) v' true X') := by
                  show RunSt _ _ _ _ _ _
                  rw [HRN.out, HACC.out, apR_last, HJ.out]; exact HN.out
                have hst' : Sem.run Try.prog (storeCells ⟨w.heap.size, 0, none⟩ (encR (cg, sn, sn)) 0) w' = .ok () X' := hst
                have ms16' : Sem.run Try.prog (loadCellsFrom ⟨wo.heap.size, 0, none⟩ 0 k16 #[]) w' = .ok (encG cg).toArray w' := ms16
                have mc16' : w'.cell? ⟨wo.heap.size, 16, none⟩ = some (.int .u64 (sn.toNat : Int)) := mc16
                clear hst a1 a2 a3 a4 ho' hg' HN ms16 mc16 lc16 lc18 ls16 cs16 cc17 fc17
                go_wp2_with (refine wpList_build3 rfl 40 (.tmp 48) (.tmp 50) (.tmp 52) rfl (.agg (encG cg).toArray) (.int .u64 (sn.toNat : Int)) (.int .u64 (sn.toNat : Int)) (.agg (encR (cg, sn, sn)).toArray) rfl rfl rfl (build40_any cg sn sn _) ?_)
                go_roundg (S.length - (i + 1))
                case measure => omega
                case rel => exact ⟨i + 1, v', true, rfl, rfl, by go_num, rfl, by omega, HN2⟩
          · have q1b : (sg == cg) = false := by simpa using Ne.symm q1
            have HJ : Hid (joinsB (cg, cf, ct) (rgOf (sg, sn)) = false) := join_no cf (.inl q1)
            clear q1
            go_wp2_with (first | (refine wpList_bs1 rfl 36 (.tmp 44) rfl (.agg (encR (cg, cf, ct)).toArray) _ rfl (buildSlice36_any (cg, cf, ct) _) ?_) | (at_builtin; refine wpList_append_own _ rfl (.tmp 43) (.tmp 45) 36 rfl (w.heap.size + 1) 40 i0 _ 18 32 Try.underlying36 hinf hz0 hz1 hz2 rfl (by decide) v outl.length (flatR outl) rfl ?own_3 ⟨Wb.heap.size, 0, none⟩ 1 1 (encR (cg, cf, ct)) rfl ?ll_3 ?news_3 ?one_3 ?c3_3 ?c4_3 ?c5_3 ?_))
            case news_3 => first | exact cells_at (heap_alloc_last Wb (.cells (encR (cg, cf, ct)).toArray 40)) | (intro j u hj; simpa using cells_at (heap_alloc_last Wb (.cells (encR (cg, cf, ct)).toArray 40)) j u hj)
            case own_3 => exact HOW.out.alloc _
            case ll_3 => first | exact HK.out.2.2 | rw [encR_length]
            case one_3 => exact encR_one _
            case c3_3 => unfold maxLen; have := HLEN.out; omega
            case c4_3 => have := HLEN.out; omega
            case c5_3 => first | (have := HCB.out.1; omega) | (have := HCB.out.1; simp; omega)
            intro v' w' ho' hg' _
            obtain ⟨a1, a2, a3, a4⟩ := run_appended (s := (sg, sn)) HCB.out.2.1 HB.out.1 HCB.out.2.2 HV.out hg' ho'
            obtain ⟨ms16, mc16, X', hst, HN⟩ := run_begun (w := w) (s := (sg, sn)) (rgOf (sg, sn)) a1 (by simp [encR_length]) a2 a3 a4 k16 HK.out.1
            have HN2 : Hid (RunSt w w.heap.size (runsL (S.take (i + 1))) v' true X') := by
              show RunSt _ _ _ _ _ _
              rw [HRN.out, HACC.out, apR_last, HJ.out]; exact HN.out
            have hst' : Sem.run Try.prog (storeCells ⟨w.heap.size, 0, none⟩ (encR (sg, sn, sn)) 0) w' = .ok () X' := hst
            have ms16' : Sem.run Try.prog (loadCellsFrom ⟨wo.heap.size, 0, none⟩ 0 k16 #[]) w' = .ok (encG sg).toArray w' := ms16
            have mc16' : w'.cell? ⟨wo.heap.size, 16, none⟩ = some (.int .u64 (sn.toNat : Int)) := mc16
            clear hst a1 a2 a3 a4 ho' hg' HN ms16 mc16 lc16 lc18 ls16 cs16 cc17 fc17
            go_wp2_with (refine wpList_build3 rfl 40 (.tmp 48) (.tmp 50) (.tmp 52) rfl (.agg (encG sg).toArray) (.int .u64 (sn.toNat : Int)) (.int .u64 (sn.toNat : Int)) (.agg (encR (sg, sn, sn)).toArray) rfl rfl rfl (build40_any sg sn sn _) ?_)
            go_roundg (S.length - (i + 1))
            case measure => omega
            case rel => exact ⟨i + 1, v', true, rfl, rfl, by go_num, rfl, by omega, HN2⟩
        · obtain ⟨ls16, cs16, X', hst, HN⟩ := run_begun (w := w) (cb := w.heap.size) (sb := wo.heap.size) (v' := v) (outl := []) (s := (sg, sn)) (rgOf (sg, sn)) hcb hF HB.out.1 hBw hown k16 HK.out.1
          have HN2 : Hid (RunSt w w.heap.size (runsL (S.take (i + 1))) v true X') := by
            show RunSt _ _ _ _ _ _
            rw [HRN.out, hacc]; exact HN.out
          have hst' : Sem.run Try.prog (storeCells ⟨w.heap.size, 0, none⟩ (encR (sg, sn, sn)) 0) Wb = .ok () X' := hst
          have ls16' : Sem.run Try.prog (loadCellsFrom ⟨wo.heap.size, 0, none⟩ 0 k16 #[]) Wb = .ok (encG sg).toArray Wb := ls16
          have cs16' : Wb.cell? ⟨wo.heap.size, 16, none⟩ = some (.int .u64 (sn.toNat : Int)) := cs16
          clear hst hacc hown hcb hF hBw HRb HN ls16 cs16
          go_wp2_with (refine wpList_build3 rfl 40 (.tmp 48) (.tmp 50) (.tmp 52) rfl (.agg (encG sg).toArray) (.int .u64 (sn.toNat : Int)) (.int .u64 (sn.toNat : Int)) (.agg (encR (sg, sn, sn)).toArray) rfl rfl rfl (build40_any sg sn sn _) ?_)
          go_roundg (S.length - (i + 1))
          case measure => omega
          case rel => exact ⟨i + 1, v, true, rfl, rfl, by go_num, rfl, by omega, HN2⟩
end Go.Proofs.Qxb6615018a
