/-
  DERIVED. The law of FnAddMovesNoOtherCursor, walked.
-/
import Derived.Test.Qxb6615634aIdg
namespace Go.Proofs.Qxb6615634a
open Go.RowKit Go.Sort

theorem cells_row (W : World) (t : TypeId) (vs : List Value) (j : Nat) (u : Value) (hj : vs[j]? = some u) : (W.alloc (.cells vs.toArray t)).cell? ((⟨W.heap.size, 0, none⟩ : Addr).add j) = some u := by
  have hadd : (⟨W.heap.size, 0, none⟩ : Addr).add j = ⟨W.heap.size, 0 + j, none⟩ := by unfold Addr.add; split <;> simp_all
  rw [hadd, Nat.zero_add]
  exact (cell_of (heap_alloc_last W (.cells vs.toArray t)) (by rw [List.getElem?_toArray]; exact hj)).1

/-- What is noted, and where. -/
structure Note (B : Nat) (w5 : World) (hs : List Hd) (i : Nat) (T ms : Tb) (vm vs vi vn : Value) (wr : World) : Prop where
  noted : Noted hs i T ms
  rows : Rows4 B wr (ms.map Prod.fst) ((List.range ms.length).map (startsOf ms)) (ms.flatMap Prod.snd) (ms.flatMap Prod.snd) vm vs vi vn
  below : Below B w5 wr
  big : (ms.flatMap Prod.snd).length ≤ i * 4096
  few : ms.length ≤ i
  room : B ≤ wr.heap.size

set_option maxRecDepth 100000 in
set_option maxHeartbeats 4000000 in
theorem law_any (a : Option Addr) (c : Nat) (hs : List Hd) (x : Hd) (w : World) (hr : RdB encH 66 w.heap.size w a hs) (hn : hs.length ≤ 9223372036854775807) (hx : x.mem.size ≤ 9223372036854775807) :
    Calls Try.prog 5 #[.slice a hs.length c, .agg (encH x).toArray] w fun e w' => e = .returned (.bool true) ∧ Below w.heap.size w w' := by
  obtain ⟨k32, k66, ⟨z22, z27, z38, z55, n32, n66⟩, HK⟩ := sz_ex
  have mixed : Try.prog.follows .mixedOrders = true := by kernel_rfl
  obtain ⟨w1, hw1⟩ : ∃ w1, w1 = w.alloc (.cells (encH x).toArray 38) := ⟨_, rfl⟩
  have hb1 : Below w.heap.size w w1 := by rw [hw1]; exact (Below.refl _ _).alloc (Nat.le_refl _) _
  have hbx : w1.heap[w.heap.size]? = some (.cells (encH x).toArray 38 (0, 0)) := by rw [hw1]; exact heap_alloc_last _ _
  have HX : Hid (∀ W, Below w1.heap.size w1 W → W.heap[w.heap.size]? = some (.cells (encH x).toArray 38 (0, 0)) ∧ RdB encH 66 W.heap.size W a hs ∧ Below w.heap.size w W) := fun W hW => by
    have hl := (Array.getElem?_eq_some_iff.1 hbx).1
    have hbw : Below w.heap.size w W := hb1.trans (hW.mono hb1.size)
    exact ⟨(hW.block _ hl).trans hbx, (hr.below hbw).mono hbw.size, hbw⟩
  have HLX : Hid (∀ W, Below w1.heap.size w1 W → Sem.run Try.prog (loadCellsFrom ⟨w.heap.size, 0, none⟩ 0 k66 #[]) W = .ok (encH x).toArray W ∧ W.cell? ⟨w.heap.size, 32, none⟩ = some (.string x.mem) ∧ W.cell? ⟨w.heap.size, 33, none⟩ = some (.int .u64 (x.num.toNat : Int)) ∧ Sem.run Try.prog (loadCellsFrom ⟨w.heap.size, 34, none⟩ 0 k32 #[]) W = .ok (encI x.rev).toArray W) := fun W hW => by
    have h := (HX.out W hW).1
    exact ⟨ld_block _ _ _ _ 38 (0, 0) _ _ h (by rw [encH_length, HK.out.2]) (by simp), by simpa [World.cell?, h] using encH_32 x, by simpa [World.cell?, h] using encH_33 x, ld_block _ _ _ _ 38 (0, 0) _ _ h (by rw [encI_length, HK.out.1]) (encH_rev x)⟩
  have ld1 := (HLX.out w1 (Below.refl _ _)).1
  have HS1 : Hid (w1.heap.size = w.heap.size + 1 ∧ Below w.heap.size w w1) := ⟨by rw [hw1]; simp, hb1⟩
  rw [hw1] at ld1
  clear hr hb1 hbx
  go_enter Try.func5, Try.ntmps5
  go_wp2_with fail
  rw [← hw1]
  clear ld1
  refine (bytes_any a c hs x w1 (HX.out w1 (Below.refl _ _)).2.1 hn).mono ?_
  rintro e w2 ⟨⟨b2, rfl⟩, hb2⟩
  have H2 : Hid (Below w1.heap.size w1 w2) := hb2
  clear hb2
  cases b2 with
  | false =>
    go_wp2
    go_ret
    exact ⟨rfl, (HX.out w2 H2.out).2.2⟩
  | true =>
    obtain ⟨_, cM2, _, _⟩ := HLX.out w2 H2.out
    by_cases q0 : (65536 : Int) < (x.mem.size : Int)
    · go_wp2
      go_ret
      exact ⟨rfl, (HX.out w2 H2.out).2.2⟩
    · go_wp2_with fail
      refine (tooBig_any a c hs _ w2 (HX.out w2 H2.out).2.1 hn).mono ?_
      rintro e w3 ⟨⟨b3, HB3, rfl⟩, rfl⟩
      cases b3 with
      | true =>
        go_wp2
        go_ret
        exact ⟨rfl, (HX.out _ H2.out).2.2⟩
      | false =>
        have hn4 : hs.length ≤ 4096 := HB3.out rfl
        clear HB3 cM2
        go_wp2_with fail
        refine (toHeads_any a c hs w3 (HX.out _ H2.out).2.1 (by omega)).mono ?_
        rintro e w4 ⟨rfl, hr4, hb4⟩
        have H4 : Hid (Below w1.heap.size w1 w4 ∧ RdB encH 66 w4.heap.size w4 (some ⟨w3.heap.size, 0, none⟩) hs) := ⟨H2.out.trans (hb4.mono H2.out.size), hr4⟩
        clear hr4 hb4
        go_wp2_with fail
        refine (newHeld_any _ _ hs w4 H4.out.2 (by omega)).mono ?_
        rintro e w5 ⟨rfl, T, hA, hT, hb5⟩
        have H5 : Hid (Below w1.heap.size w1 w5 ∧ HeldT w5 (w4.heap.size + 1) T w4.heap.size w5.heap.size ∧ Inv hs.reverse T ∧ w1.heap.size ≤ w4.heap.size) := ⟨H4.out.1.trans (hb5.mono H4.out.1.size), hT, inv_of _ _ hA, H4.out.1.size⟩
        clear hA hT hb5 H4 H2 hw1
        obtain ⟨i9, hi9, hz9, hs9, hy9⟩ := info_parts Try.info9
        obtain ⟨i3, hi3, hz3, hs3, hy3⟩ := info_parts Try.info3
        obtain ⟨i27, hi27, hz27, hs27, hy27⟩ := info_parts Try.info27
        obtain ⟨i23, hi23, hz23, hs23, hy23⟩ := info_parts Try.info23
        go_wp2
        go_loopg [6, 7, 8, 9, 10] hs.length (fun gk mv sv iv' nv iv wr => ∃ (i : Nat) (vm vs vi vn : Value), vm = mv ∧ vs = sv ∧ vi = iv' ∧ vn = nv ∧ iv = .int .i64 i ∧ gk = hs.length - i ∧ i ≤ hs.length ∧ Hid (∃ ms, Note w5.heap.size w5 hs i T ms vm vs vi vn wr))
        case atStart => exact ⟨0, _, _, _, _, rfl, rfl, rfl, rfl, rfl, rfl, by omega, [], Noted.zero hs T, Rows4.start _ _, Below.refl _ _, by simp, by simp, Nat.le_refl _⟩
        case round =>
          obtain ⟨i, vm, vs, vi, vn, rfl, rfl, rfl, rfl, rfl, hgk, hil, HR⟩ := hrel
          obtain ⟨wo, hwo⟩ : ∃ wo, wo = wr := ⟨_, rfl⟩
          subst hwo
          rcases Nat.eq_or_lt_of_le hil with hE | hE
          · subst hE
            obtain ⟨ms, hN⟩ := HR.out
            clear HR hgk hil
            obtain ⟨N, hNN⟩ : ∃ N, N = (ms.flatMap Prod.snd).length := ⟨_, rfl⟩
            obtain ⟨am, cm, rfl⟩ : ∃ a c, vm = .slice a ms.length c := by have := own_form hN.rows.mems; simpa using this
            obtain ⟨ai, ci, rfl⟩ : ∃ a c, vi = .slice a N c := by rw [hNN]; exact own_form hN.rows.ids
            obtain ⟨an, cn, rfl⟩ : ∃ a c, vn = .slice a N c := by rw [hNN]; exact own_form hN.rows.nums
            have HN : Hid (Note w5.heap.size w5 hs hs.length T ms (.slice am ms.length cm) vs (.slice ai N ci) (.slice an N cn) wo ∧ N = (ms.flatMap Prod.snd).length) := ⟨hN, hNN⟩
            have hbig : N ≤ hs.length * 4096 := by rw [hNN]; exact hN.big
            have hfew := hN.few
            have hroom := hN.room
            have HTk : Hid (∀ W, Below w5.heap.size w5 W → HeldT W (w4.heap.size + 1) T w4.heap.size w5.heap.size) := fun W hW => H5.out.2.1.kept (fun b _ hb' => hW.block b hb')
            have HTl : Hid (T.length = ms.length ∧ ∀ m, m ∈ T.map Prod.fst ↔ m ∈ ms.map Prod.fst) := by
              have hk : ∀ m, m ∈ T.map Prod.fst ↔ m ∈ ms.map Prod.fst := fun m => by
                rw [H5.out.2.2.1.keys, hN.noted.keys]
                constructor
                · rintro ⟨y, hy, rfl⟩
                  obtain ⟨j, hj, rfl⟩ := List.getElem_of_mem (List.mem_reverse.1 hy)
                  exact ⟨j, hj, hj, rfl⟩
                · rintro ⟨j, hj, _, rfl⟩
                  exact ⟨hs[j], List.mem_reverse.2 (List.getElem_mem hj), rfl⟩
              refine ⟨?_, hk⟩
              have := nodup_len H5.out.2.2.1.nd hN.noted.nd hk
              simpa using this
            clear hN hNN
            go_upto_region 32 with (at_builtin; refine wpList_append_own _ rfl (.tmp 101) (.tmp 104) 46 rfl w5.heap.size 3 i3 _ 1 8 Try.underlying46 hi3 hz3 hs3 hy3 rfl (by decide) vs ms.length (((List.range ms.length).map (startsOf ms)).map stV) rfl (by have := HN.out.1.rows.sts.alloc (.cells #[.int .i64 (N : Int)] 3); rwa [List.length_map, List.length_range] at this) ⟨wo.heap.size, 0, none⟩ 1 1 [.int .i64 (N : Int)] rfl rfl (cells_row wo 3 [.int .i64 (N : Int)]) (by intro u hu; simp at hu; subst hu; rfl) (by unfold maxLen; omega) (by omega) (by simp; omega) ?_; intro vs' w15 ho15 hg15 _)
            have HN15 : Hid (Rows4 w5.heap.size w15 (ms.map Prod.fst) ((List.range ms.length).map (startsOf ms) ++ [N]) (ms.flatMap Prod.snd) (ms.flatMap Prod.snd) (.slice am ms.length cm) vs' (.slice ai N ci) (.slice an N cn) ∧ Below w5.heap.size w5 w15 ∧ w5.heap.size ≤ w15.heap.size) := rows_s HN.out.1.rows HN.out.1.below hroom _ (by rw [List.length_map, List.length_range]; exact ho15) hg15
            clear ho15 hg15 hroom
            obtain ⟨ax, cx, rfl⟩ : ∃ a c, vs' = .slice a (ms.length + 1) c := by have := own_form HN15.out.1.sts; simpa using this
            have CM : Hid (Calls Try.prog 21 #[.pointer (some ⟨w4.heap.size + 1, 0, none⟩)] w15 fun e w' => e = .returned (.int .i64 (ms.length : Int)) ∧ w' = w15) := by
              show Calls _ _ _ _ _
              rw [← HTl.out.1]
              exact memberCount_any _ T _ _ w15 (HTk.out w15 HN15.out.2.1)
            go_wp2_with fail
            refine CM.out.mono ?_
            clear CM
            rintro e w16 ⟨rfl, rfl⟩
            have ldx := (HLX.out w16 (H5.out.1.trans (HN15.out.2.1.mono H5.out.1.size))).1
            go_wp2_with fail
            refine (toHead_any x w16).mono ?_
            rintro e w17 ⟨rfl, hb17⟩
            have HN17 : Hid (Rows4 w5.heap.size w17 (ms.map Prod.fst) ((List.range ms.length).map (startsOf ms) ++ [N]) (ms.flatMap Prod.snd) (ms.flatMap Prod.snd) (.slice am ms.length cm) (.slice ax (ms.length + 1) cx) (.slice ai N ci) (.slice an N cn) ∧ Below w5.heap.size w5 w17 ∧ w5.heap.size ≤ w17.heap.size) := ⟨HN15.out.1.below (fun b _ hb' => hb17.block b hb'), HN15.out.2.1.trans (hb17.mono HN15.out.2.2), Nat.le_trans HN15.out.2.2 hb17.size⟩
            clear HN15 hb17 ldx
            have CA : Hid (Calls Try.prog 22 #[.pointer (some ⟨w4.heap.size + 1, 0, none⟩), .agg (encH x).toArray] w17 fun e w' => e = .returned (.tuple #[]) ∧ ∃ T', AddTo T x.mem x.rev x.num T' ∧ HeldT w' (w4.heap.size + 1) T' w4.heap.size w'.heap.size ∧ Only (fun b => w4.heap.size ≤ b ∧ b < w5.heap.size) w17 w') := add_any x _ T _ _ w17 (HTk.out w17 HN17.out.2.1) HN17.out.2.2 (fun t ht => by have := H5.out.2.2.1.len t ht; rw [List.length_reverse] at this; omega)
            go_wp2_with fail
            refine CA.out.mono ?_
            clear CA
            rintro e w18 ⟨rfl, T', hA, hT', ho18⟩
            have H18 : Hid (After x hs.reverse T T' ∧ HeldT w18 (w4.heap.size + 1) T' w4.heap.size w18.heap.size ∧ Rows4 w5.heap.size w18 (ms.map Prod.fst) ((List.range ms.length).map (startsOf ms) ++ [N]) (ms.flatMap Prod.snd) (ms.flatMap Prod.snd) (.slice am ms.length cm) (.slice ax (ms.length + 1) cx) (.slice ai N ci) (.slice an N cn) ∧ Below w1.heap.size w1 w18) := by
              refine ⟨after_of H5.out.2.2.1 hA, hT', HN17.out.1.below (fun b hb hb' => ho18.block b hb' (fun hh => by omega)), ?_⟩
              have hw : Below w1.heap.size w1 w17 := H5.out.1.trans (HN17.out.2.1.mono H5.out.1.size)
              have hl := H5.out.2.2.2
              have hsz := hw.size
              exact ⟨ho18.os.trans hw.os, ho18.tape.trans hw.tape, ho18.output.trans hw.output, Nat.le_trans hw.size ho18.size, fun b hb => (ho18.block b (by omega) (fun hh => by omega)).trans (hw.block b hb)⟩
            clear hA hT' ho18 HN17
            obtain ⟨Z, hZ, v27⟩ := zero27
            obtain ⟨w19, hw19⟩ : ∃ w19, w19 = w18.alloc (.cells (encI x.rev).toArray 27) := ⟨_, rfl⟩
            have hln : (encI x.rev).length = k32 := by rw [encI_length, HK.out.1]
            have st : Sem.run Try.prog (storeCells ⟨w18.heap.size, 0, none⟩ (encI x.rev) 0) (w18.alloc (.cells Z 27)) = .ok () (w18.alloc (.cells (encI x.rev).toArray 27)) := st_new w18 27 Z _ (by rw [encI_length]; exact hZ.out) (encI_one _)
            have HW : Hid (∀ W, Below w19.heap.size w19 W → HeldT W (w4.heap.size + 1) T' w4.heap.size w18.heap.size ∧ Rows4 w5.heap.size W (ms.map Prod.fst) ((List.range ms.length).map (startsOf ms) ++ [N]) (ms.flatMap Prod.snd) (ms.flatMap Prod.snd) (.slice am ms.length cm) (.slice ax (ms.length + 1) cx) (.slice ai N ci) (.slice an N cn) ∧ Below w1.heap.size w1 W ∧ Sem.run Try.prog (loadCellsFrom ⟨w18.heap.size, 0, none⟩ 0 k32 #[]) W = .ok (encI x.rev).toArray W ∧ w18.heap.size ≤ W.heap.size) := fun W hW => by
              have h19 : Below w18.heap.size w18 w19 := by rw [hw19]; exact alloc_below _ _
              have hlt : w18.heap.size < w19.heap.size := by rw [hw19]; simp
              have hW' : Below w18.heap.size w18 W := h19.trans (hW.mono (Nat.le_of_lt hlt))
              refine ⟨H18.out.2.1.kept (fun b _ hb' => hW'.block b hb'), H18.out.2.2.1.below (fun b _ hb' => hW'.block b hb'), H18.out.2.2.2.trans (hW'.mono H18.out.2.2.2.size), ?_, hW'.size⟩
              have hblk : W.heap[w18.heap.size]? = some (.cells (encI x.rev).toArray 27 (0, 0)) := by
                rw [hW.block _ hlt, hw19]
                exact heap_alloc_last _ _
              exact ld_block _ _ _ _ 27 (0, 0) _ _ hblk hln (by simp)
            obtain ⟨_, _, _, lr18⟩ := HLX.out w18 H18.out.2.2.2
            go_upto_region 37 with fail
            rw [← hw19]
            clear hw19 st lr18 v27 hZ
            obtain ⟨_, cM19, cU19, lr19⟩ := HLX.out w19 (HW.out w19 (Below.refl _ _)).2.2.1
            have CH : Hid (Calls Try.prog 24 #[.slice a hs.length c, .string x.mem, .agg (encI x.rev).toArray] w19 fun e w' => e = .returned (.int .u64 ((hiR x.mem x.rev hs.reverse).toNat : Int)) ∧ Below w19.heap.size w19 w') := highest_any a c hs x.mem x.rev w19 (HX.out w19 (HW.out w19 (Below.refl _ _)).2.2.1).2.1 (by omega)
            go_wp2_with fail
            refine CH.out.mono ?_
            clear CH
            rintro e w20 ⟨rfl, hb20⟩
            have H20 : Hid (Below w19.heap.size w19 w20) := hb20
            clear hb20 cM19 cU19 lr19
            obtain ⟨_, _, cU20, _⟩ := HLX.out w20 (HW.out w20 H20.out).2.2.1
            have HWa : Hid (((wantOf x hs.reverse).toNat : Int) = if ((hiR x.mem x.rev hs.reverse).toNat : Int) < (x.num.toNat : Int) then (x.num.toNat : Int) else ((hiR x.mem x.rev hs.reverse).toNat : Int)) := by
              show _ = _
              unfold wantOf
              by_cases h : hiR x.mem x.rev hs.reverse < x.num
              · rw [if_pos h, if_pos (by have := UInt64.lt_iff_toNat_lt.1 h; omega)]
              · rw [if_neg h, if_neg (fun hh => h (UInt64.lt_iff_toNat_lt.2 (by omega)))]
            generalize hiR x.mem x.rev hs.reverse = H at HWa
            obtain ⟨want, hwant⟩ : ∃ want, want = wantOf x hs.reverse := ⟨_, rfl⟩
            rw [← hwant] at HWa
            have HWn : Hid (want = wantOf x hs.reverse) := hwant
            clear hwant
            go_upto_if 127 with fail
            go_cut [16] from 124 (fun v wc => v = .int .u64 (want.toNat : Int) ∧ w20 = wc)
            case first =>
              by_cases hq : (H.toNat : Int) < (x.num.toNat : Int)
              · have := HWa.out
                rw [if_pos hq] at this
                go_wp2
                go_meet
                case rel => exact ⟨by rw [this], rfl⟩
              · have := HWa.out
                rw [if_neg hq] at this
                go_wp2
                go_meet
                case rel => exact ⟨by rw [this], rfl⟩
            case rest =>
              obtain ⟨rfl, rfl⟩ := hcut
              clear cU20 HWa
              go_wp2
              go_loopg [17, 18] ms.length (fun gk bv iv wr => ∃ (k : Nat) (nb : Bool), bv = .bool nb ∧ iv = .int .i64 k ∧ gk = ms.length - k ∧ k ≤ ms.length ∧ Hid ((nb = true ↔ x.mem ∉ (ms.take k).map Prod.fst) ∧ Below w19.heap.size w19 wr))
              case atStart => exact ⟨0, true, rfl, rfl, rfl, Nat.zero_le _, by simp, H20.out⟩
              case round =>
                obtain ⟨k, nb, rfl, rfl, hgk, hkl, HL3⟩ := hrel
                obtain ⟨wp, hwp⟩ : ∃ wp, wp = wr := ⟨_, rfl⟩
                subst hwp
                rcases Nat.eq_or_lt_of_le hkl with hE3 | hE3
                · subst hE3
                  obtain ⟨s3, hs3T, hs3e⟩ := H18.out.1.have1
                  have CAT : Hid (∀ W, Below w19.heap.size w19 W → (Calls Try.prog 25 #[.pointer (some ⟨w4.heap.size + 1, 0, none⟩), .string x.mem, .agg (encI x.rev).toArray] W fun e w' => e = .returned (.bool true) ∧ Below W.heap.size W w') ∧ (Calls Try.prog 26 #[.pointer (some ⟨w4.heap.size + 1, 0, none⟩), .string x.mem, .agg (encI x.rev).toArray] W fun e w' => e = .returned (.int .u64 (want.toNat : Int)) ∧ Below W.heap.size W w') ∧ (Calls Try.prog 28 #[.pointer (some ⟨w4.heap.size + 1, 0, none⟩), .string x.mem, .agg (encI x.rev).toArray] W fun e w' => e = .returned (.bool true) ∧ Below W.heap.size W w')) := fun W hW =>
                    atAny _ T' _ _ x.mem s3 hs3T x.rev want (by rw [HWn.out]; exact hs3e) W (HW.out W hW).1 (HW.out W hW).2.2.2.2
                  clear hs3T hs3e
                  have hnb : nb = true ↔ x.mem ∉ T.map Prod.fst := by rw [HL3.out.1, List.take_length, HTl.out.2]
                  have HBP : Hid (Below w19.heap.size w19 wp) := HL3.out.2
                  clear HL3
                  obtain ⟨_, cx3, _, _⟩ := HLX.out wp (HW.out wp HBP.out).2.2.1
                  cases nb with
                  | true =>
                    obtain ⟨hl1, s4, hs4T, hs4l⟩ := H18.out.1.new (hnb.1 rfl)
                    have C21 : Hid (Calls Try.prog 21 #[.pointer (some ⟨w4.heap.size + 1, 0, none⟩)] wp fun e w' => e = .returned (.int .i64 ((ms.length : Int) + 1)) ∧ w' = wp) := by
                      have h := memberCount_any _ T' _ _ wp (HW.out wp HBP.out).1
                      rw [hl1, HTl.out.1] at h
                      exact h
                    have C17 : Hid (Calls Try.prog 17 #[.pointer (some ⟨w4.heap.size + 1, 0, none⟩), .string x.mem] wp fun e w' => e = .returned (.bool true) ∧ w' = wp) := hasLogs_true _ T' _ _ x.mem s4 hs4T wp (HW.out wp HBP.out).1
                    have C18 : Hid (Calls Try.prog 18 #[.pointer (some ⟨w4.heap.size + 1, 0, none⟩), .string x.mem] wp fun e w' => e = .returned (.int .i64 1) ∧ w' = wp) := by
                      have h := cursorCount_any _ T' _ _ x.mem s4 hs4T wp (HW.out wp HBP.out).1
                      rw [hs4l] at h
                      exact h
                    clear hl1 hs4T hs4l hnb
                    go_wp2_with fail
                    refine C21.out.mono ?_
                    clear C21
                    rintro e w25 ⟨rfl, rfl⟩
                    go_wp2_with fail
                    refine C17.out.mono ?_
                    clear C17
                    rintro e w26 ⟨rfl, rfl⟩
                    go_wp2_with fail
                    refine C18.out.mono ?_
                    clear C18
                    rintro e w27 ⟨rfl, rfl⟩
                    clear cx3
                    have l4 := (HW.out w27 HBP.out).2.2.2.1
                    obtain ⟨_, c4, _, _⟩ := HLX.out w27 (HW.out w27 HBP.out).2.2.1
                    go_wp2_with fail
                    refine (CAT.out w27 HBP.out).1.mono ?_
                    rintro e w31 ⟨rfl, hb31⟩
                    have HB31 : Hid (Below w19.heap.size w19 w31) := HBP.out.trans (hb31.mono HBP.out.size)
                    clear hb31 l4 c4
                    have l4 := (HW.out w31 HB31.out).2.2.2.1
                    obtain ⟨_, c4, _, _⟩ := HLX.out w31 (HW.out w31 HB31.out).2.2.1
                    go_wp2_with fail
                    refine (CAT.out w31 HB31.out).2.2.mono ?_
                    rintro e w32 ⟨rfl, hb32⟩
                    have HB32 : Hid (Below w19.heap.size w19 w32) := HB31.out.trans (hb32.mono HB31.out.size)
                    clear hb32 l4 c4
                    have l4 := (HW.out w32 HB32.out).2.2.2.1
                    obtain ⟨_, c4, _, _⟩ := HLX.out w32 (HW.out w32 HB32.out).2.2.1
                    go_wp2_with fail
                    refine (CAT.out w32 HB32.out).2.1.mono ?_
                    rintro e w33 ⟨rfl, hb33⟩
                    have HB33 : Hid (Below w19.heap.size w19 w33) := HB32.out.trans (hb33.mono HB32.out.size)
                    clear hb33 l4 c4
                    go_wp2
                    go_ret
                    exact ⟨rfl, (HX.out w33 (HW.out w33 HB33.out).2.2.1).2.2⟩
                  | false =>
                    have hl1 := H18.out.1.old (Classical.byContradiction fun hh => absurd (hnb.2 hh) (by decide))
                    have C21 : Hid (Calls Try.prog 21 #[.pointer (some ⟨w4.heap.size + 1, 0, none⟩)] wp fun e w' => e = .returned (.int .i64 (ms.length : Int)) ∧ w' = wp) := by
                      have h := memberCount_any _ T' _ _ wp (HW.out wp HBP.out).1
                      rw [hl1, HTl.out.1] at h
                      exact h
                    clear hl1 hnb
                    go_wp2_with fail
                    refine C21.out.mono ?_
                    clear C21
                    rintro e w25 ⟨rfl, rfl⟩
                    clear cx3
                    have l4 := (HW.out w25 HBP.out).2.2.2.1
                    obtain ⟨_, c4, _, _⟩ := HLX.out w25 (HW.out w25 HBP.out).2.2.1
                    go_wp2_with fail
                    refine (CAT.out w25 HBP.out).1.mono ?_
                    rintro e w31 ⟨rfl, hb31⟩
                    have HB31 : Hid (Below w19.heap.size w19 w31) := HBP.out.trans (hb31.mono HBP.out.size)
                    clear hb31 l4 c4
                    have l4 := (HW.out w31 HB31.out).2.2.2.1
                    obtain ⟨_, c4, _, _⟩ := HLX.out w31 (HW.out w31 HB31.out).2.2.1
                    go_wp2_with fail
                    refine (CAT.out w31 HB31.out).2.2.mono ?_
                    rintro e w32 ⟨rfl, hb32⟩
                    have HB32 : Hid (Below w19.heap.size w19 w32) := HB31.out.trans (hb32.mono HB31.out.size)
                    clear hb32 l4 c4
                    have l4 := (HW.out w32 HB32.out).2.2.2.1
                    obtain ⟨_, c4, _, _⟩ := HLX.out w32 (HW.out w32 HB32.out).2.2.1
                    go_wp2_with fail
                    refine (CAT.out w32 HB32.out).2.1.mono ?_
                    rintro e w33 ⟨rfl, hb33⟩
                    have HB33 : Hid (Below w19.heap.size w19 w33) := HB32.out.trans (hb33.mono HB32.out.size)
                    clear hb33 l4 c4
                    go_wp2
                    go_ret
                    exact ⟨rfl, (HX.out w33 (HW.out w33 HB33.out).2.2.1).2.2⟩
                · obtain ⟨⟨m, s⟩, hms⟩ : ∃ t, t = ms[k] := ⟨_, rfl⟩
                  obtain ⟨gm, rfl⟩ := own_at (HW.out wp HL3.out.2).2.1.mems (by rw [List.length_map]; omega)
                  obtain ⟨gs, rfl⟩ := own_at (HW.out wp HL3.out.2).2.1.sts (by simp)
                  obtain ⟨A, hA⟩ : ∃ A, A = startsOf ms k := ⟨_, rfl⟩
                  obtain ⟨A2, hA2⟩ : ∃ A2, A2 = A + s.length := ⟨_, rfl⟩
                  have hA2N : A2 ≤ N := by have := startsOf_le ms k hE3; rw [← hms, ← hA, ← HN.out.2] at this; have h2 : A + s.length ≤ N := this; omega
                  have HCE : Hid (∀ W, Below w19.heap.size w19 W → W.cell? ⟨gm, k, none⟩ = some (.string m) ∧ W.cell? ⟨gs, k, none⟩ = some (.int .i64 (A : Int)) ∧ W.cell? ⟨gs, k + 1, none⟩ = some (.int .i64 (A2 : Int))) := fun W hW => by
                    have hr4 := (HW.out W hW).2.1
                    refine ⟨?_, ?_, ?_⟩
                    · have := hr4.mems
                      rw [List.length_map] at this
                      rw [this.cellAt k (by omega), List.getElem?_map, List.getElem?_map, List.getElem?_eq_getElem hE3, ← hms]
                      rfl
                    · have := hr4.sts
                      simp only [List.length_append, List.length_map, List.length_range, List.length_singleton] at this
                      rw [this.cellAt k (by omega), HN.out.2, starts_at ms k (by omega), ← hA]
                      rfl
                    · have := hr4.sts
                      simp only [List.length_append, List.length_map, List.length_range, List.length_singleton] at this
                      rw [this.cellAt (k + 1) (by omega), HN.out.2, starts_at ms (k + 1) (by omega), startsOf_succ ms k hE3, ← hms, ← hA, ← hA2]
                      rfl
                  have HEL : Hid (∀ j (hj : j < s.length), (ms.flatMap Prod.snd)[A + j]? = some s[j]) := fun j hj => by
                    have : j < ms[k].2.length := by rw [← hms]; exact hj
                    rw [hA, starts_get ms k hE3 j this]
                    simp only [← hms]
                  have HMT : Hid ((m, s) ∈ T ∧ (ms.take (k + 1)).map Prod.fst = (ms.take k).map Prod.fst ++ [m]) := by
                    refine ⟨HN.out.1.noted.sub _ (by rw [hms]; exact List.getElem_mem hE3), ?_⟩
                    rw [List.take_succ_eq_append_getElem hE3, ← hms]
                    simp
                  have kb0 : (0 : Int) ≤ (k : Int) := by omega
                  have kb : (k : Int) < (ms.length : Int) := by omega
                  have kb1 : (k : Int) < (ms.length : Int) + 1 := by omega
                  have kb2 : (k : Int) + 1 < (ms.length : Int) + 1 := by omega
                  have kb3 : (0 : Int) ≤ (k : Int) + 1 := by omega
                  obtain ⟨cm3, cs3, ct3⟩ := HCE.out wp HL3.out.2
                  obtain ⟨_, cx3, _, _⟩ := HLX.out wp (HW.out wp HL3.out.2).2.2.1
                  have hsub : (A2 : Int) - (A : Int) = (s.length : Int) := by omega
                  have hsN : s.length ≤ N := by omega
                  have HA2 : Hid (A2 = A + s.length) := hA2
                  clear hms hA HCE hA2
                  by_cases hmx : m = x.mem
                  · subst hmx
                    obtain ⟨s2, hs2T, hs2l, hs2e⟩ := H18.out.1.own s HMT.out.1
                    obtain ⟨L2, hL2⟩ : ∃ L2, L2 = s2.length := ⟨_, rfl⟩
                    have hL2b : L2 ≤ s.length + 1 := by rw [hL2, hs2l]; split <;> omega
                    have C17 : Hid (Calls Try.prog 17 #[.pointer (some ⟨w4.heap.size + 1, 0, none⟩), .string x.mem] wp fun e w' => e = .returned (.bool true) ∧ w' = wp) := hasLogs_true _ T' _ _ x.mem s2 hs2T wp (HW.out wp HL3.out.2).1
                    have C18 : Hid (Calls Try.prog 18 #[.pointer (some ⟨w4.heap.size + 1, 0, none⟩), .string x.mem] wp fun e w' => e = .returned (.int .i64 (L2 : Int)) ∧ w' = wp) := by rw [hL2]; exact cursorCount_any _ T' _ _ x.mem s2 hs2T wp (HW.out wp HL3.out.2).1
                    have HS2 : Hid ((x.mem, s2) ∈ T' ∧ L2 = s2.length ∧ (s2.length = if x.rev ∈ s.map Prod.fst then s.length else s.length + 1) ∧ ∀ e ∈ s, (e.1, if e.1 = x.rev then want else e.2) ∈ s2) := ⟨hs2T, hL2, hs2l, fun e he => by rw [HWn.out]; exact hs2e e he⟩
                    clear hs2T hs2l hs2e hL2
                    go_wp2_with fail
                    refine C17.out.mono ?_
                    clear C17
                    rintro e w21 ⟨rfl, rfl⟩
                    go_wp2_with fail
                    refine C18.out.mono ?_
                    clear C18
                    rintro e w22 ⟨rfl, rfl⟩
                    go_wp2
                    go_loopg [24, 25] (A2 - A) (fun gk nv qv wr => ∃ (q : Nat) (nw : Bool), nv = .bool nw ∧ qv = .int .i64 q ∧ gk = A2 - q ∧ A ≤ q ∧ q ≤ A2 ∧ Hid ((nw = true ↔ x.rev ∉ (s.take (q - A)).map Prod.fst) ∧ Below w19.heap.size w19 wr))
                    case atStart => exact ⟨A, true, rfl, rfl, rfl, Nat.le_refl _, by omega, by simp, HL3.out.2⟩
                    case round =>
                      obtain ⟨q, nw, rfl, rfl, hgk5, hqA, hqA2, HL5⟩ := hrel
                      obtain ⟨wq, hwq⟩ : ∃ wq, wq = wr := ⟨_, rfl⟩
                      subst hwq
                      clear cm3 cs3 ct3 cx3
                      rcases Nat.eq_or_lt_of_le hqA2 with hE5 | hE5
                      · have HF : Hid ((false = true ↔ x.mem ∉ (ms.take (k + 1)).map Prod.fst) ∧ Below w19.heap.size w19 wq) := by
                          refine ⟨?_, HL5.out.2⟩
                          rw [HMT.out.2]
                          simp
                        have hnw : nw = true ↔ x.rev ∉ s.map Prod.fst := by
                          have := HL5.out.1
                          rw [show q - A = s.length by have := HA2.out; omega, List.take_length] at this
                          exact this
                        have C27 : Hid (Calls Try.prog 27 #[.pointer (some ⟨w4.heap.size + 1, 0, none⟩), .string x.mem] wq fun e w' => e = .returned (.int .i64 (L2 : Int)) ∧ w' = wq) := by rw [HS2.out.2.1]; exact passedCount_any _ T' _ _ x.mem s2 HS2.out.1 wq (HW.out wq HL5.out.2).1
                        clear HL5
                        subst hE5
                        cases nw with
                        | true =>
                          have hL : L2 = s.length + 1 := by rw [HS2.out.2.1, HS2.out.2.2.1, if_neg (hnw.1 rfl)]
                          clear HS2 hnw
                          subst hL
                          go_wp2_with fail
                          refine C27.out.mono ?_
                          clear C27
                          rintro e w23 ⟨rfl, rfl⟩
                          go_wp2
                          go_roundg (ms.length - (k + 1))
                          case measure => omega
                          case rel => exact ⟨k + 1, false, rfl, by go_num, rfl, by omega, HF⟩
                        | false =>
                          have hL : L2 = s.length := by rw [HS2.out.2.1, HS2.out.2.2.1, if_pos (Classical.byContradiction fun hh => absurd (hnw.2 hh) (by decide))]
                          clear HS2 hnw
                          subst hL
                          go_wp2_with fail
                          refine C27.out.mono ?_
                          clear C27
                          rintro e w23 ⟨rfl, rfl⟩
                          go_wp2
                          go_roundg (ms.length - (k + 1))
                          case measure => omega
                          case rel => exact ⟨k + 1, false, rfl, by go_num, rfl, by omega, HF⟩
                      · have hNp : 0 < N := by omega
                        have hjs : q - A < s.length := by have := HA2.out; omega
                        obtain ⟨gi, rfl⟩ := own_at (HW.out wq HL5.out.2).2.1.ids (by rw [← HN.out.2]; exact hNp)
                        obtain ⟨gn, rfl⟩ := own_at (HW.out wq HL5.out.2).2.1.nums (by rw [← HN.out.2]; exact hNp)
                        obtain ⟨e0, he0⟩ : ∃ e0, e0 = s[q - A] := ⟨_, rfl⟩
                        have hE0 : (ms.flatMap Prod.snd)[q]? = some e0 := by
                          have := HEL.out (q - A) hjs
                          rw [show A + (q - A) = q by omega] at this
                          rw [this, he0]
                        have HL1 : Hid (∀ W, Below w19.heap.size w19 W → Sem.run Try.prog (loadCellsFrom ⟨gi, q * k32, none⟩ 0 k32 #[]) W = .ok (encI e0.1).toArray W) := fun W hW => by
                          have h := (HW.out W hW).2.1.ids
                          rw [HN.out.2] at h
                          exact own_load h q e0 hE0 k32 HK.out.1
                        have l2 : wq.cell? ⟨gn, q, none⟩ = some (.int .u64 (e0.2.toNat : Int)) := by
                          have h := (HW.out wq HL5.out.2).2.1.nums
                          rw [HN.out.2] at h
                          exact own_num h q e0 hE0
                        have hBn : ∀ n, Below w19.heap.size w19 (wq.drewN n) := fun n => below_drewN HL5.out.2 n
                        have HBn : Hid (∀ n, Below w19.heap.size w19 (wq.drewN n)) := hBn
                        have l1 : ∀ n, Sem.run Try.prog (loadCellsFrom ⟨gi, q * k32, none⟩ 0 k32 #[]) (wq.drewN n) = .ok (encI e0.1).toArray (wq.drewN n) := fun n => HL1.out _ (hBn n)
                        have l3 : ∀ n, Sem.run Try.prog (loadCellsFrom ⟨w18.heap.size, 0, none⟩ 0 k32 #[]) (wq.drewN n) = .ok (encI x.rev).toArray (wq.drewN n) := fun n => (HW.out _ (hBn n)).2.2.2.1
                        have heq := eqlI27 e0.1 x.rev
                        have HTA : Hid (s.take (q + 1 - A) = s.take (q - A) ++ [e0]) := by
                          show _ = _
                          rw [show q + 1 - A = (q - A) + 1 by omega, List.take_succ_eq_append_getElem hjs, he0]
                        have HE0 : Hid ((e0.1, if e0.1 = x.rev then want else e0.2) ∈ s2) := HS2.out.2.2.2 e0 (by rw [he0]; exact List.getElem_mem hjs)
                        have CAT : Hid (∀ (v : UInt64) W, (e0.1, v) ∈ s2 → Below w19.heap.size w19 W → (Calls Try.prog 25 #[.pointer (some ⟨w4.heap.size + 1, 0, none⟩), .string x.mem, .agg (encI e0.1).toArray] W fun e w' => e = .returned (.bool true) ∧ Below W.heap.size W w') ∧ (Calls Try.prog 26 #[.pointer (some ⟨w4.heap.size + 1, 0, none⟩), .string x.mem, .agg (encI e0.1).toArray] W fun e w' => e = .returned (.int .u64 (v.toNat : Int)) ∧ Below W.heap.size W w')) := fun v W hv hW => by
                          have h := atAny _ T' _ _ x.mem s2 HS2.out.1 e0.1 v hv W (HW.out W hW).1 (HW.out W hW).2.2.2.2
                          exact ⟨h.1, h.2.1⟩
                        have ib0 : (0 : Int) ≤ (q : Int) := by omega
                        have ib : (q : Int) < (N : Int) := by omega
                        have ib2 : (q : Int) < (A2 : Int) := by omega
                        clear he0 hE0 hBn HS2
                        by_cases he : e0.1 = x.rev
                        · have hv : (e0.1, want) ∈ s2 := by have := HE0.out; rwa [if_pos he] at this
                          have HV : Hid ((e0.1, want) ∈ s2) := hv
                          have hnewf : ¬ (x.rev ∉ (s.take (q + 1 - A)).map Prod.fst) := by rw [HTA.out]; simp [he]
                          have HNF : Hid (¬ (x.rev ∉ (s.take (q + 1 - A)).map Prod.fst)) := hnewf
                          have heb : (e0.1 == x.rev) = true := by simpa using he
                          rw [heb] at heq
                          clear hv hnewf heb he HTA HE0
                          go_upto_region 64 with fail
                          go_quiet (fail)
                          obtain ⟨wk, hwk⟩ : ∃ wk, wk = wq.drewN nq := ⟨_, rfl⟩
                          have HBk : Hid (Below w19.heap.size w19 wk) := by rw [hwk]; exact HBn.out _
                          rw [← hwk]
                          clear hwk l1 l2 l3 heq
                          have l1 := HL1.out wk HBk.out
                          go_wp2_with fail
                          refine (CAT.out want wk HV.out HBk.out).1.mono ?_
                          rintro e w23 ⟨rfl, hb23⟩
                          have HB23 : Hid (Below w19.heap.size w19 w23) := HBk.out.trans (hb23.mono HBk.out.size)
                          clear hb23 l1
                          have l1 := HL1.out w23 HB23.out
                          go_wp2_with fail
                          refine (CAT.out want w23 HV.out HB23.out).2.mono ?_
                          rintro e w24 ⟨rfl, hb24⟩
                          have HB24 : Hid (Below w19.heap.size w19 w24) := HB23.out.trans (hb24.mono HB23.out.size)
                          clear hb24 l1
                          go_wp2
                          go_roundg (A2 - (q + 1))
                          case measure => omega
                          case rel => exact ⟨q + 1, false, rfl, by go_num, rfl, by omega, by omega, ⟨fun hh => absurd hh (by decide), fun hh => absurd hh HNF.out⟩, HB24.out⟩
                        · have hv : (e0.1, e0.2) ∈ s2 := by have := HE0.out; rwa [if_neg he] at this
                          have HV : Hid ((e0.1, e0.2) ∈ s2) := hv
                          have HNF : Hid (nw = true ↔ x.rev ∉ (s.take (q + 1 - A)).map Prod.fst) := by
                            show _ ↔ _
                            rw [HTA.out, HL5.out.1]
                            simp [Ne.symm he]
                          have heb : (e0.1 == x.rev) = false := by simpa using he
                          rw [heb] at heq
                          clear hv heb he HTA HE0
                          go_upto_region 64 with fail
                          go_quiet (fail)
                          obtain ⟨wk, hwk⟩ : ∃ wk, wk = wq.drewN nq := ⟨_, rfl⟩
                          have HBk : Hid (Below w19.heap.size w19 wk) := by rw [hwk]; exact HBn.out _
                          rw [← hwk]
                          clear hwk l1 l2 l3 heq
                          have l1 := HL1.out wk HBk.out
                          go_wp2_with fail
                          refine (CAT.out e0.2 wk HV.out HBk.out).1.mono ?_
                          rintro e w23 ⟨rfl, hb23⟩
                          have HB23 : Hid (Below w19.heap.size w19 w23) := HBk.out.trans (hb23.mono HBk.out.size)
                          clear hb23 l1
                          have l1 := HL1.out w23 HB23.out
                          go_wp2_with fail
                          refine (CAT.out e0.2 w23 HV.out HB23.out).2.mono ?_
                          rintro e w24 ⟨rfl, hb24⟩
                          have HB24 : Hid (Below w19.heap.size w19 w24) := HB23.out.trans (hb24.mono HB23.out.size)
                          clear hb24 l1
                          go_wp2
                          go_roundg (A2 - (q + 1))
                          case measure => omega
                          case rel => exact ⟨q + 1, nw, rfl, by go_num, rfl, by omega, by omega, HNF.out, HB24.out⟩
                  · have hmT : (m, s) ∈ T' := H18.out.1.other _ HMT.out.1 hmx
                    have C17 : Hid (Calls Try.prog 17 #[.pointer (some ⟨w4.heap.size + 1, 0, none⟩), .string m] wp fun e w' => e = .returned (.bool true) ∧ w' = wp) := hasLogs_true _ T' _ _ m s hmT wp (HW.out wp HL3.out.2).1
                    have C18 : Hid (Calls Try.prog 18 #[.pointer (some ⟨w4.heap.size + 1, 0, none⟩), .string m] wp fun e w' => e = .returned (.int .i64 (s.length : Int)) ∧ w' = wp) := cursorCount_any _ T' _ _ m s hmT wp (HW.out wp HL3.out.2).1
                    have HmT : Hid ((m, s) ∈ T') := hmT
                    have hmb : (m.toList == x.mem.toList) = false := by rw [toList_beq]; simpa using hmx
                    clear hmT
                    go_wp2_with fail
                    refine C17.out.mono ?_
                    clear C17
                    rintro e w21 ⟨rfl, rfl⟩
                    go_wp2_with fail
                    refine C18.out.mono ?_
                    clear C18
                    rintro e w22 ⟨rfl, rfl⟩
                    go_wp2
                    go_loopg [23] s.length (fun gk jv wr => ∃ j : Nat, jv = .int .i64 j ∧ gk = s.length - j ∧ j ≤ s.length ∧ Hid (Below w19.heap.size w19 wr))
                    case atStart => exact ⟨0, rfl, rfl, Nat.zero_le _, HL3.out.2⟩
                    case round =>
                      obtain ⟨j, rfl, hgk4, hjl, HL4⟩ := hrel
                      obtain ⟨wq, hwq⟩ : ∃ wq, wq = wr := ⟨_, rfl⟩
                      subst hwq
                      clear cm3 cs3 ct3 cx3
                      rcases Nat.eq_or_lt_of_le hjl with hE4 | hE4
                      · subst hE4
                        have HF : Hid ((nb = true ↔ x.mem ∉ (ms.take (k + 1)).map Prod.fst) ∧ Below w19.heap.size w19 wq) := by
                          refine ⟨?_, HL4.out⟩
                          rw [HL3.out.1, HMT.out.2]
                          simp [Ne.symm hmx]
                        go_wp2
                        go_roundg (ms.length - (k + 1))
                        case measure => omega
                        case rel => exact ⟨k + 1, nb, rfl, by go_num, rfl, by omega, HF⟩
                      · have hA2 := HA2.out
                        have hNp : 0 < N := by omega
                        obtain ⟨gi, rfl⟩ := own_at (HW.out wq HL4.out).2.1.ids (by rw [← HN.out.2]; exact hNp)
                        obtain ⟨gn, rfl⟩ := own_at (HW.out wq HL4.out).2.1.nums (by rw [← HN.out.2]; exact hNp)
                        obtain ⟨e0, he0⟩ : ∃ e0, e0 = s[j] := ⟨_, rfl⟩
                        have hB : ∀ n os, Below w19.heap.size w19 (grow (wq.drewN n) os) := fun n os => HL4.out.trans ((grow_below wq n os).mono HL4.out.size)
                        have l1 : ∀ n os, Sem.run Try.prog (loadCellsFrom ⟨gi, (A + j) * k32, none⟩ 0 k32 #[]) (grow (wq.drewN n) os) = .ok (encI e0.1).toArray (grow (wq.drewN n) os) := fun n os => by
                          have h := (HW.out _ (hB n os)).2.1.ids
                          rw [HN.out.2] at h
                          exact own_load h (A + j) e0 (by rw [he0]; exact HEL.out j hE4) k32 HK.out.1
                        have l2 : ∀ n os, (grow (wq.drewN n) os).cell? ⟨gn, A + j, none⟩ = some (.int .u64 (e0.2.toNat : Int)) := fun n os => by
                          have h := (HW.out _ (hB n os)).2.1.nums
                          rw [HN.out.2] at h
                          exact own_num h (A + j) e0 (by rw [he0]; exact HEL.out j hE4)
                        have C19 : Hid (∀ n os, Calls Try.prog 19 #[.pointer (some ⟨w4.heap.size + 1, 0, none⟩), .string m, .int .i64 j] (grow (wq.drewN n) os) fun e w' => e = .returned (.agg (encI e0.1).toArray) ∧ ∃ q os', w' = grow ((grow (wq.drewN n) os).drewN q) os') := fun n os => by rw [he0]; exact heapID_gr _ T' _ _ m s HmT.out j hE4 _ (HW.out _ (hB n os)).1 (HW.out _ (hB n os)).2.2.2.2
                        have C20 : Hid (∀ n os, Calls Try.prog 20 #[.pointer (some ⟨w4.heap.size + 1, 0, none⟩), .string m, .int .i64 j] (grow (wq.drewN n) os) fun e w' => e = .returned (.int .u64 (e0.2.toNat : Int)) ∧ ∃ q os', w' = grow ((grow (wq.drewN n) os).drewN q) os') := fun n os => by rw [he0]; exact heapNumber_gr _ T' _ _ m s HmT.out j hE4 _ (HW.out _ (hB n os)).1
                        have HBn : Hid (∀ n os, Below w19.heap.size w19 (grow (wq.drewN n) os)) := hB
                        obtain ⟨Q, hQ⟩ : ∃ Q, Q = A + j := ⟨_, rfl⟩
                        have hwr : IntKind.i64.wrap ((A : Int) + (j : Int)) = (Q : Int) := by rw [IntKind.wrap_i64]; omega
                        have jb0 : (0 : Int) ≤ (Q : Int) := by omega
                        have jb : (Q : Int) < (N : Int) := by omega
                        rw [← hQ] at l1 l2
                        clear hQ hA2
                        have jl : (j : Int) < (s.length : Int) := by omega
                        have hneq := neqI27 e0.1
                        clear hB he0
                        go_upto_region 56 with fail
                        go_cut [193] from 165 to 193 (fun bv wc => bv = .bool false ∧ Hid (Below w19.heap.size w19 wc))
                        case first =>
                          go_quiet_grown (first | (go_at_call 19; exact Calls.grown_of (C19.out _ _)) | (go_at_call 20; exact Calls.grown_of (C20.out _ _)))
                          go_wp2
                          go_meet
                          case rel => exact ⟨rfl, HBn.out _ _⟩
                        case rest =>
                          obtain ⟨rfl, HB5⟩ := hcut
                          clear l1 l2 C19 C20 HBn hneq HL4
                          go_wp2
                          go_roundg (s.length - (j + 1))
                          case measure => omega
                          case rel => exact ⟨j + 1, by go_num, rfl, by omega, HB5⟩
          · obtain ⟨ms, hN⟩ := HR.out
            have hbo : Below w1.heap.size w1 wo := H5.out.1.trans (hN.below.mono H5.out.1.size)
            have HN : Hid (Note w5.heap.size w5 hs i T ms vm vs vi vn wo) := hN
            have CF : Hid (Calls Try.prog 16 #[.slice a hs.length c, .int .i64 i] wo fun e w' => (∃ b : Bool, Hid (b = true ↔ ∀ j (hj : j < hs.length), j < i → hs[j].mem ≠ hs[i].mem) ∧ e = .returned (.bool b)) ∧ Below wo.heap.size wo w') := first_any a c hs i hE wo (HX.out wo hbo).2.1 (by omega)
            clear hN HR hbo
            go_wp2_with fail
            refine CF.out.mono ?_
            rintro e w6 ⟨⟨b6, HB6, rfl⟩, hb6⟩
            have HN6 : Hid (Note w5.heap.size w5 hs i T ms vm vs vi vn w6 ∧ Below w1.heap.size w1 w6) := by
              have h := HN.out
              have hbel := h.below.trans (hb6.mono h.room)
              exact ⟨⟨h.noted, h.rows.below (fun b _ hb' => hb6.block b hb'), hbel, h.big, h.few, Nat.le_trans h.room hb6.size⟩, H5.out.1.trans (hbel.mono H5.out.1.size)⟩
            clear hb6 HN CF
            cases b6 with
            | false =>
              go_wp2
              go_roundg (hs.length - (i + 1))
              case measure => omega
              case rel => exact ⟨i + 1, vm, vs, vi, vn, rfl, rfl, rfl, rfl, by go_num, rfl, by omega, ms, HN6.out.1.noted.skip hE (fun hh => absurd (HB6.out.2 hh) (by decide)), HN6.out.1.rows, HN6.out.1.below, by have := HN6.out.1.big; omega, by have := HN6.out.1.few; omega, HN6.out.1.room⟩
            | true =>
              obtain ⟨m, hm⟩ : ∃ m, m = hs[i].mem := ⟨_, rfl⟩
              obtain ⟨s, hs'⟩ : ∃ s, (m, s) ∈ T := by
                have : m ∈ T.map Prod.fst := (H5.out.2.2.1.keys m).2 ⟨hs[i], by simp [List.getElem_mem], hm.symm⟩
                obtain ⟨⟨m', s⟩, h1, h2⟩ := List.mem_map.1 this
                simp only at h2
                subst h2
                exact ⟨s, h1⟩
              have hsl : s.length ≤ hs.length := by have := H5.out.2.2.1.len _ hs'; simpa using this
              obtain ⟨ba, oa, rfl, _⟩ := (HX.out w6 HN6.out.2).2.1 i hE
              have cm := (rd_hd (HX.out w6 HN6.out.2).2.1 i hE k32 HK.out.1).2.1
              rw [← hm, ← HK.out.2] at cm
              have HM : Hid (m = hs[i].mem ∧ (m, s) ∈ T ∧ ∀ j (hj : j < hs.length), j < i → hs[j].mem ≠ hs[i].mem) := ⟨hm, hs', HB6.out.1 rfl⟩
              have HTk : Hid (∀ W, Below w5.heap.size w5 W → HeldT W (w4.heap.size + 1) T w4.heap.size w5.heap.size) := fun W hW => H5.out.2.1.kept (fun b _ hb' => hW.block b hb')
              have ib0 : (0 : Int) ≤ (i : Int) := by omega
              have ib : (i : Int) < (hs.length : Int) := by omega
              have nb : ¬ ((hs.length : Int) < (s.length : Int)) := by omega
              clear hm hs' HB6
              go_wp2_with fail
              refine (hasLogs_true _ T _ _ m s HM.out.2.1 w6 (HTk.out w6 HN6.out.1.below)).mono ?_
              rintro e w7 ⟨rfl, rfl⟩
              go_wp2_with fail
              refine (cursorCount_any _ T _ _ m s HM.out.2.1 w7 (HTk.out w7 HN6.out.1.below)).mono ?_
              rintro e w8 ⟨rfl, rfl⟩
              have hfew := HN6.out.1.few
              have hbig := HN6.out.1.big
              have hroom := HN6.out.1.room
              obtain ⟨ai, ci, hvi⟩ := own_form HN6.out.1.rows.ids
              subst hvi
              obtain ⟨N, hN⟩ : ∃ N, N = (ms.flatMap Prod.snd).length := ⟨_, rfl⟩
              rw [← hN] at hbig ⊢
              have HNN : Hid (N = (ms.flatMap Prod.snd).length) := hN
              rw [← hN] at HN6
              clear hN
              go_upto_region 25 with (at_builtin; refine wpList_append_own _ rfl (.tmp 73) (.tmp 75) 45 rfl w5.heap.size 9 i9 _ 1 16 Try.underlying45 hi9 hz9 hs9 hy9 rfl (by decide) vm ms.length ((ms.map Prod.fst).map Value.string) rfl (by have := HN6.out.1.rows.mems.alloc (.cells #[.string m] 9); rwa [List.length_map] at this) ⟨w8.heap.size, 0, none⟩ 1 1 [.string m] rfl rfl (cells_row w8 9 [.string m]) (by intro u hu; simp at hu; subst hu; rfl) (by unfold maxLen; omega) (by omega) (by simp; omega) ?_; intro vm' w9 ho9 hg9 _)
              have HN9 : Hid (Rows4 w5.heap.size w9 (ms.map Prod.fst ++ [m]) ((List.range ms.length).map (startsOf ms)) (ms.flatMap Prod.snd) (ms.flatMap Prod.snd) vm' vs (.slice ai N ci) vn ∧ Below w5.heap.size w5 w9 ∧ w5.heap.size ≤ w9.heap.size) := rows_m HN6.out.1.rows HN6.out.1.below hroom _ (by rw [List.length_map]; exact ho9) hg9
              clear ho9 hg9 hroom
              have hroom9 := HN9.out.2.2
              go_upto_region 26 with (at_builtin; refine wpList_append_own _ rfl (.tmp 77) (.tmp 80) 46 rfl w5.heap.size 3 i3 _ 1 8 Try.underlying46 hi3 hz3 hs3 hy3 rfl (by decide) vs ms.length (((List.range ms.length).map (startsOf ms)).map stV) rfl (by have := HN9.out.1.sts.alloc (.cells #[.int .i64 (N : Int)] 3); rwa [List.length_map, List.length_range] at this) ⟨w9.heap.size, 0, none⟩ 1 1 [.int .i64 (N : Int)] rfl rfl (cells_row w9 3 [.int .i64 (N : Int)]) (by intro u hu; simp at hu; subst hu; rfl) (by unfold maxLen; omega) (by omega) (by simp; omega) ?_; intro vs' w10 ho10 hg10 _)
              have HN10 : Hid (Rows4 w5.heap.size w10 (ms.map Prod.fst ++ [m]) ((List.range ms.length).map (startsOf ms) ++ [N]) (ms.flatMap Prod.snd) (ms.flatMap Prod.snd) vm' vs' (.slice ai N ci) vn ∧ Below w5.heap.size w5 w10 ∧ w5.heap.size ≤ w10.heap.size) := rows_s HN9.out.1 HN9.out.2.1 hroom9 _ (by rw [List.length_map, List.length_range]; exact ho10) hg10
              clear ho10 hg10 hroom9 HN9
              go_wp2
              go_loopg [8, 9, 13] s.length (fun gk iv' nv pv wr => ∃ (p : Nat) (vi vn : Value), vi = iv' ∧ vn = nv ∧ pv = .int .i64 p ∧ gk = s.length - p ∧ p ≤ s.length ∧ Hid (Rows4 w5.heap.size wr (ms.map Prod.fst ++ [m]) ((List.range ms.length).map (startsOf ms) ++ [N]) (ms.flatMap Prod.snd ++ s.take p) (ms.flatMap Prod.snd ++ s.take p) vm' vs' vi vn ∧ Below w5.heap.size w5 wr ∧ w5.heap.size ≤ wr.heap.size))
              case atStart => exact ⟨0, _, _, rfl, rfl, rfl, rfl, by omega, by have h10 := HN10.out; show _ ∧ _ ∧ _; simpa using h10⟩
              case round =>
                clear HN10
                obtain ⟨p, vi, vn, rfl, rfl, rfl, hgk2, hpl, HP⟩ := hrel
                rcases Nat.eq_or_lt_of_le hpl with hE2 | hE2
                · subst hE2
                  have HF : Hid (∃ ms, Note w5.heap.size w5 hs (i + 1) T ms vm' vs' vi vn wr) := by
                    refine ⟨ms ++ [(m, s)], ?_, ?_, HP.out.2.1, ?_, ?_, HP.out.2.2⟩
                    · have := HN6.out.1.noted.more hE HM.out.2.2 s (HM.out.1 ▸ HM.out.2.1)
                      rwa [← HM.out.1] at this
                    · have := HP.out.1
                      rw [List.take_length, HNN.out] at this
                      rw [List.map_append, List.flatMap_append, starts_list]
                      simpa using this
                    · rw [List.flatMap_append, List.length_append, ← HNN.out]
                      simp
                      omega
                    · rw [List.length_append]; simp; omega
                  clear HP
                  go_wp2
                  go_roundg (hs.length - (i + 1))
                  case measure => omega
                  case rel => exact ⟨i + 1, vm', vs', vi, vn, rfl, rfl, rfl, rfl, by go_num, rfl, by omega, HF⟩
                · obtain ⟨E, hEE⟩ : ∃ E, E = ms.flatMap Prod.snd ++ s.take p := ⟨_, rfl⟩
                  have hEl : E.length = N + p := by rw [hEE, List.length_append, ← HNN.out, List.length_take]; omega
                  have HEE : Hid (E ++ [s[p]] = ms.flatMap Prod.snd ++ s.take (p + 1)) := by show _ = _; rw [hEE, List.append_assoc, List.take_succ_eq_append_getElem hE2]
                  rw [← hEE] at HP
                  clear hEE
                  have hpr := HP.out.2.2
                  have pb : (p : Int) < (s.length : Int) := by omega
                  have CI : Hid (Calls Try.prog 19 #[.pointer (some ⟨w4.heap.size + 1, 0, none⟩), .string m, .int .i64 p] wr fun e w' => e = .returned (.agg (encI s[p].1).toArray) ∧ Below wr.heap.size wr w') := heapID_any _ T _ _ m s HM.out.2.1 p hE2 wr (HTk.out wr HP.out.2.1) hpr
                  go_wp2_with fail
                  refine CI.out.mono ?_
                  rintro e w11 ⟨rfl, hb11⟩
                  have HP11 : Hid (Rows4 w5.heap.size w11 (ms.map Prod.fst ++ [m]) ((List.range ms.length).map (startsOf ms) ++ [N]) E E vm' vs' vi vn ∧ Below w5.heap.size w5 w11 ∧ w5.heap.size ≤ w11.heap.size) := ⟨HP.out.1.below (fun b _ hb' => hb11.block b hb'), HP.out.2.1.trans (hb11.mono hpr), Nat.le_trans hpr hb11.size⟩
                  clear CI HP hb11 hpr
                  have hpr := HP11.out.2.2
                  have hz : s[p] = s[p] := rfl
                  obtain ⟨e0, he0⟩ : ∃ e0, e0 = s[p] := ⟨_, rfl⟩
                  have CN : Hid (∀ W, Below w5.heap.size w5 W → Calls Try.prog 20 #[.pointer (some ⟨w4.heap.size + 1, 0, none⟩), .string m, .int .i64 p] W fun e w' => e = .returned (.int .u64 (e0.2.toNat : Int)) ∧ w' = W) := fun W hW => by rw [he0]; exact heapNumber_any _ T _ _ m s HM.out.2.1 p hE2 W (HTk.out W hW)
                  rw [← he0] at HEE ⊢
                  clear he0 hz
                  go_upto_region 30 with (first | (refine wpList_bs1 rfl 26 (.tmp 91) rfl (.agg (encI e0.1).toArray) _ rfl (bs26 _ _) ?_) | (at_builtin; refine wpList_append_own _ rfl (.tmp 87) (.tmp 92) 26 rfl w5.heap.size 27 i27 _ 32 32 Try.underlying26 hi27 hz27 hs27 hy27 rfl (by decide) vi E.length (flatI E) rfl (HP11.out.1.ids.alloc (.cells (encI e0.1).toArray 27)) ⟨w11.heap.size, 0, none⟩ 1 1 (encI e0.1) rfl (encI_length _) (cells_row w11 27 (encI e0.1)) (encI_one _) (by unfold maxLen; omega) (by omega) (by simp; omega) ?_; intro vi' w12 ho12 hg12 _))
                  have HP12 : Hid (Rows4 w5.heap.size w12 (ms.map Prod.fst ++ [m]) ((List.range ms.length).map (startsOf ms) ++ [N]) (E ++ [e0]) E vm' vs' vi' vn ∧ Below w5.heap.size w5 w12 ∧ w5.heap.size ≤ w12.heap.size) := rows_i HP11.out.1 HP11.out.2.1 hpr _ ho12 hg12
                  clear ho12 hg12 hpr HP11
                  have hpr := HP12.out.2.2
                  go_wp2_with fail
                  refine (CN.out w12 HP12.out.2.1).mono ?_
                  rintro e w13 ⟨rfl, rfl⟩
                  go_upto_region 28 with (at_builtin; refine wpList_append_own _ rfl (.tmp 94) (.tmp 99) 47 rfl w5.heap.size 23 i23 _ 1 8 Try.underlying47 hi23 hz23 hs23 hy23 rfl (by decide) vn E.length (E.map numV) rfl (HP12.out.1.nums.alloc (.cells #[.int .u64 (e0.2.toNat : Int)] 23)) ⟨w13.heap.size, 0, none⟩ 1 1 [numV e0] rfl rfl (cells_row w13 23 [.int .u64 (e0.2.toNat : Int)]) (by intro u hu; simp at hu; subst hu; rfl) (by unfold maxLen; omega) (by omega) (by simp; omega) ?_; intro vn' w14 ho14 hg14 _)
                  have HP14 : Hid (Rows4 w5.heap.size w14 (ms.map Prod.fst ++ [m]) ((List.range ms.length).map (startsOf ms) ++ [N]) (E ++ [e0]) (E ++ [e0]) vm' vs' vi' vn' ∧ Below w5.heap.size w5 w14 ∧ w5.heap.size ≤ w14.heap.size) := rows_n HP12.out.1 HP12.out.2.1 hpr _ ho14 hg14
                  clear ho14 hg14 hpr HP12
                  rw [HEE.out] at HP14
                  go_wp2
                  go_roundg (s.length - (p + 1))
                  case measure => omega
                  case rel => exact ⟨p + 1, vi', vn', rfl, rfl, by go_num, rfl, by omega, HP14⟩
end Go.Proofs.Qxb6615634a
