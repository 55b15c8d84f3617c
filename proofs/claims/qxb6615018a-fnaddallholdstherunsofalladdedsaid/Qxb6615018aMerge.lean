/-
  DERIVED. mergeSerials.
-/
import Derived.Test.Qxb6615018aRead
import Derived.Deep.LoopGhost
import Derived.Deep.RegionWith
namespace Go.Proofs.Qxb6615018a
open Go.RowKit Go.Sort

def rgOf (s : Sn) : Rg := (s.1, s.2, s.2)
def firstOf (r : Rg) : Sn := (r.1, r.2.1)

theorem ht63 : Try.prog.underlying 63 = some (.slice (Try.prog.elem 63)) := by kernel_rfl
theorem el63 : Try.prog.elem 63 = 62 := by kernel_rfl
theorem ht31 : Try.prog.underlying 31 = some (.slice (Try.prog.elem 31)) := by kernel_rfl
theorem el31 : Try.prog.elem 31 = 27 := by kernel_rfl

theorem rangeOf_rg (s : Sn) (w : World) : Calls Try.prog 25 #[.agg (encS s).toArray] w fun e w' => e = .returned (.agg (encR (rgOf s)).toArray) ∧ Gr w w' := rangeOf_any s w

/-- The order in which held ranges and serial numbers are taken. -/
def leR (a b : Rg) : Bool := decide (cmpS (firstOf a) (firstOf b) ≤ 0)

theorem apR_length (acc : List Rg) (r : Rg) : (apR acc r).length ≤ acc.length + 1 := by
  unfold apR
  cases h : acc.getLast? with
  | none => simp
  | some l =>
    simp only
    split
    · rw [List.length_append, List.length_dropLast]; simp
    · simp

/-- What mergeSerials returns. -/
def mergeL (hs : List Rg) (ss : List Sn) : List Rg := (List.merge hs (ss.map rgOf) leR).foldl apR []

theorem heap_setRow_same (w : World) (b : Nat) (cs cs' : Array Value) (t : TypeId) (fr : Nat × Nat) (h : w.heap[b]? = some (.cells cs t fr)) : (w.setRow b cs').heap[b]? = some (.cells cs' t fr) := by
  simp only [World.setRow, Array.getElem?_modify, if_true, h, Option.map_some]
theorem heap_setRow_other (w : World) (b k : Nat) (cs' : Array Value) (h : b ≠ k) : (w.setRow b cs').heap[k]? = w.heap[k]? := by
  simp only [World.setRow, Array.getElem?_modify, h, if_false]

theorem ownsRow_block {w w' : World} {base : Nat} {e : TypeId} {size : Nat} {v : Value} {n : Nat} {xs : List Value} (h : w.ownsRow base e size v n xs) (hh : ∀ g, v.ownBlock = some g → w'.heap[g]? = w.heap[g]?) : w'.ownsRow base e size v n xs := by
  refine ⟨h.1, ?_⟩
  rcases h.2 with h1 | ⟨g, cap, cur, rfl, h2, h3, h4⟩
  · exact .inl h1
  · exact .inr ⟨g, cap, cur, rfl, h2, (hh g rfl).trans h3, h4⟩

/-- The box 'next': what a whole range stored in it leaves. -/
theorem next_box {w wr X : World} {B : Nat} {v : Value} {acc : List Rg} {Z : Array Value} (hZ : Z.size = 18) (hG : Gr (wr.alloc (.cells Z 62)) X) (hown : wr.ownsRow B 62 18 v acc.length (flatR acc)) (hbel : Below B w wr) (hB : B ≤ wr.heap.size) (r : Rg) (kk : Nat) (hk : kk = 18) :
    ∃ Y, Sem.run Try.prog (storeCells ⟨wr.heap.size, 0, none⟩ (encR r) 0) X = .ok () Y ∧ Sem.run Try.prog (loadCellsFrom ⟨wr.heap.size, 0, none⟩ 0 kk #[]) Y = .ok (encR r).toArray Y ∧ Y.ownsRow B 62 18 v acc.length (flatR acc) ∧ Below B w Y ∧ B ≤ Y.heap.size := by
  have hX0 : (wr.alloc (.cells Z 62)).heap[wr.heap.size]? = some (.cells Z 62 (0, 0)) := heap_alloc_last wr _
  have hsz : (wr.alloc (.cells Z 62)).heap.size = wr.heap.size + 1 := by simp
  have hXb : X.heap[wr.heap.size]? = some (.cells Z 62 (0, 0)) := by
    rw [hG.below.block wr.heap.size (by rw [hsz]; omega)]; exact hX0
  have hXs := hG.below.size
  refine ⟨X.setRow wr.heap.size (encR r).toArray, ?_, ?_, ?_, ?_, ?_⟩
  · have := run_storeCells_from (P := Try.prog) wr.heap.size 62 (encR r) 0 Z X hXb (by rw [encR_length, hZ]) (encR_one r)
    rw [this]
    simp
  · exact ld_block _ _ _ (encR r).toArray 62 (0, 0) _ _ (heap_setRow_same _ _ _ _ _ _ hXb) (by rw [encR_length, hk]) (by simp)
  · refine ownsRow_block hown (fun g hg => ?_)
    have hlt := (hown.lt g hg).2
    rw [heap_setRow_other _ _ _ _ (by omega), hG.below.block g (by rw [hsz]; omega)]
    exact Below.heap_alloc _ _ _ hlt
  · have h1 : Below B w X := (hbel.alloc hB _).trans (hG.below.mono (by rw [hsz]; omega))
    exact h1.trans ⟨rfl, rfl, rfl, by simp [World.setRow], fun k hk' => heap_setRow_other _ _ _ _ (by omega)⟩
  · simp [World.setRow]; omega

set_option maxRecDepth 100000 in
set_option maxHeartbeats 1000000 in
theorem merge_any (a1 a2 : Option Addr) (c1 c2 : Nat) (hs : List Rg) (ss : List Sn) (w : World) (hp1 : Plain a1 c1) (hp2 : Plain a2 c2) (hc1 : hs.length ≤ c1) (hc2 : ss.length ≤ c2) (hcm1 : c1 ≤ 9223372036854775807) (hcm2 : c2 ≤ 9223372036854775807) (hLn : hs.length + ss.length ≤ 1000000000)
    (hr1 : RdB encR 18 w.heap.size w a1 hs) (hr2 : RdB encS 17 w.heap.size w a2 ss) :
    Calls Try.prog 28 #[.slice a1 hs.length c1, .slice a2 ss.length c2] w fun e w' => ∃ v', e = .returned v' ∧ w'.ownsRow w.heap.size 62 18 v' (mergeL hs ss).length (flatR (mergeL hs ss)) ∧ Below w.heap.size w w' := by
  obtain ⟨k16, k17, k18, ⟨z22, z24, z27, z30, z53, z40, z62, n16, n17, n18⟩, HK⟩ := sz_ex
  clear z22 z24 z30 z53 z40 n16
  have mixed : Try.prog.follows .mixedOrders = true := by kernel_rfl
  obtain ⟨Z17, hZ17, v27⟩ := zero27
  obtain ⟨Z18, hZ18, v62⟩ := zero62
  obtain ⟨i0, hi, hz0, hz1, hz2⟩ := info_parts Try.info62
  have HR1 : Hid (RdB encR 18 w.heap.size w a1 hs) := hr1
  have HR2 : Hid (RdB encS 17 w.heap.size w a2 ss) := hr2
  have HP : Hid (Plain a1 c1 ∧ Plain a2 c2) := ⟨hp1, hp2⟩
  clear hr1 hr2 hp1 hp2
  obtain ⟨L, hL⟩ : ∃ L, L = ss.length := ⟨_, rfl⟩
  obtain ⟨H, hH⟩ : ∃ H, H = hs.length := ⟨_, rfl⟩
  have hLn' : Hid (hs.length + ss.length ≤ 1000000000) := hLn
  rw [← hL] at hc2 hLn ⊢
  rw [← hH] at hc1 hLn ⊢
  have HL : Hid (L = ss.length ∧ H = hs.length) := ⟨hL, hH⟩
  clear hL hH
  go_enter Try.func28, Try.ntmps28
  go_wp2_with fail
  go_loopw [5, 14] (fun sz i wr => ∃ k z : Nat, k ≤ L ∧ i = .int .i64 k ∧ sz = .int .i64 z ∧ z ≤ H + k ∧ Below w.heap.size w wr) (fun _ i _ => L - (intOf i).toNat)
  case atStart => exact ⟨0, H, by omega, rfl, rfl, by omega, Below.refl _ _⟩
  case round =>
    obtain ⟨k, z, hk, rfl, rfl, hz, hbel⟩ := hrel
    have hbs := hbel.size
    by_cases hlt : k < L
    · have hkl : k < ss.length := by rw [← HL.out.1]; exact hlt
      obtain ⟨b, o, rfl, hbB⟩ : ∃ b o, a2 = some ⟨b, o, none⟩ ∧ b < w.heap.size := by
        obtain ⟨b, o, h1, h2, _⟩ := HR2.out k hkl
        exact ⟨b, o, h1, h2⟩
      obtain ⟨s, hs'⟩ : ∃ s, Hid (s = ss[k]) := ⟨ss[k], (rfl : ss[k] = ss[k])⟩
      have ld1 : Sem.run Try.prog (loadCellsFrom ⟨b, o + k * k17, none⟩ 0 k17 #[]) wr = .ok (encS s).toArray wr := by rw [hs'.out]; exact (HR2.out.below hbel).ld encS_length k hkl k17 HK.out.2.1
      have hlen : (encS s).length = k17 := by rw [encS_length, HK.out.2.1]
      have st1 : Sem.run Try.prog (storeCells ⟨wr.heap.size, 0, none⟩ (encS s) 0) (wr.alloc (.cells Z17 27)) = .ok () (wr.alloc (.cells (encS s).toArray 27)) := st_new wr 27 Z17 (encS s) (by rw [encS_length]; exact hZ17.out) (encS_one s)
      obtain ⟨W, hW⟩ : ∃ W, W = wr.alloc (.cells (encS s).toArray 27) := ⟨_, rfl⟩
      have hbW : Below w.heap.size w W := by rw [hW]; exact hbel.alloc hbs _
      have hWlt : wr.heap.size < W.heap.size := by rw [hW]; simp
      have hWb : W.heap[wr.heap.size]? = some (.cells (encS s).toArray 27 (0, 0)) := by rw [hW]; exact heap_alloc_last wr _
      have hfin : ∀ W', Gr W W' → Below w.heap.size w W' := fun W' h => hbW.trans (h.below.mono (by omega))
      have HFIN : Hid (∀ W', Gr W W' → Below w.heap.size w W') := hfin
      go_wp2_with fail
      rw [← hW]
      have HW : Hid (W = wr.alloc (.cells (encS s).toArray 27)) := hW
      rcases Nat.eq_zero_or_pos k with hk0 | hk0
      · subst hk0
        clear hW ld1 st1 hfin hbW hWlt hWb hbel
        go_quiet (fail)
        go_wp2
        go_roundw
        case rel => exact ⟨1, z + 1, by omega, rfl, by go_num, by omega, HFIN.out _ ((Gr.refl W).drewN _)⟩
        case measure => simp [intOf]; omega
      · obtain ⟨kp, rfl⟩ : ∃ kp, k = kp + 1 := ⟨k - 1, by omega⟩
        have hkp : kp < ss.length := by omega
        obtain ⟨sp, hsp⟩ : ∃ s, Hid (s = ss[kp]) := ⟨ss[kp], (rfl : ss[kp] = ss[kp])⟩
        have ld2 : ∀ n os, Sem.run Try.prog (loadCellsFrom ⟨b, o + kp * k17, none⟩ 0 k17 #[]) (grow (W.drewN n) os) = .ok (encS sp).toArray (grow (W.drewN n) os) := fun n os => by
          rw [hsp.out]; exact (HR2.out.below (hfin _ ⟨n, os, rfl⟩)).ld encS_length kp hkp k17 HK.out.2.1
        have ld3 : ∀ n os, Sem.run Try.prog (loadCellsFrom ⟨wr.heap.size, 0, none⟩ 0 k17 #[]) (grow (W.drewN n) os) = .ok (encS s).toArray (grow (W.drewN n) os) := fun n os =>
          ld_block _ _ _ (encS s).toArray 27 (0, 0) _ _ ((heap_grow_old _ os (by exact hWlt)).trans hWb) (by rw [encS_length, HK.out.2.1]) (by simp)
        have C1 : Hid (∀ (t : Sn) n os, Calls Try.prog 25 #[.agg (encS t).toArray] (grow (W.drewN n) os) fun e w' => e = .returned (.agg (encR (rgOf t)).toArray) ∧ ∃ q os', w' = grow ((grow (W.drewN n) os).drewN q) os') := fun t n os => rangeOf_any t _
        have C2 : Hid (∀ (r t : Rg) n os, Calls Try.prog 24 #[.agg (encR r).toArray, .agg (encR t).toArray] (grow (W.drewN n) os) fun e w' => e = .returned (.bool (joinsB r t)) ∧ ∃ q os', w' = grow ((grow (W.drewN n) os).drewN q) os') := fun r t n os => joins_any r t _
        have ib : (kp : Int) < (L : Int) := by omega
        have ib0 : (0 : Int) ≤ (kp : Int) := by omega
        have hwp : IntKind.i64.wrap (kp : Int) = (kp : Int) := by rw [IntKind.wrap_i64]; omega
        have hne : ((kp : Int) + 1 == 0) = false := by simp; omega
        clear hW ld1 st1 hfin hbW hWlt hWb hbel
        go_quiet_grown (first | (go_at_call 25; exact Calls.grown_of (C1.out _ _ _)) | (go_at_call 24; exact Calls.grown_of (C2.out _ _ _ _)))
        have HX : Hid (Below w.heap.size w (grow (W.drewN nq) osq)) := HFIN.out _ ⟨nq, osq, rfl⟩
        cases hj : joinsB (rgOf sp) (rgOf s)
        · go_wp2
          go_roundw
          case rel => exact ⟨kp + 2, z + 1, by omega, by go_num, by go_num, by omega, HX.out⟩
          case measure => simp [intOf]; omega
        · go_wp2
          go_roundw
          case rel => exact ⟨kp + 2, z, by omega, by go_num, rfl, by omega, HX.out⟩
          case measure => simp [intOf]; omega
    · obtain rfl : L = k := by omega
      clear v27 hZ17
      go_wp2_with (at_make; refine wpList_make_own _ rfl (.const (.int .i64 0)) (.tmp 36) 63 rfl w.heap.size 62 i0 _ 18 Try.underlying63 hi hz0 hz1 .i64 .i64 _ z rfl rfl rfl ?b2 ?b3 ?b4 ?_)
      case b2 => rw [hz2]; omega
      case b3 => unfold maxLen; omega
      case b4 => exact hbs
      intro w1 hown1 hgrow1
      have hbel1 : Below w.heap.size w w1 := hbel.grown hgrow1 hbs (fun j hj => by cases hj)
      have hgo : Hid (∃ b, Value.slice (some ⟨wr.heap.size, 0, none⟩) 0 z = b) := ⟨_, rfl⟩
      clear hgrow1 hbel
      have HM0 : Hid ((List.merge hs (ss.map rgOf) leR).foldl apR [] = mergeL hs ss) := (rfl : _ = _)
      have q10 : hs.length ≤ c1 := by rw [← HL.out.2]; exact hc1
      have q20 : ss.length ≤ c2 := by rw [← HL.out.1]; exact hc2
      have hHL : hs.length + ss.length ≤ 1000000000 := hLn'.out
      have hLL : Hid (L = ss.length ∧ H = hs.length) := HL
      clear hc1 hc2 hlt hz hk
      go_wp2_with fail
      go_loopg [0, 1, 8] (hs.length + ss.length) (fun gk hv sv mv wr => ∃ (h' : List Rg) (s' : List Sn) (acc : List Rg) (a1 : Option Addr) (d1 : Nat) (a2 : Option Addr) (d2 : Nat) (v : Value), hv = .slice a1 h'.length d1 ∧ sv = .slice a2 s'.length d2 ∧ v = mv ∧ gk = h'.length + s'.length ∧
          Hid (Plain a1 d1) ∧ Hid (Plain a2 d2) ∧ h'.length ≤ d1 ∧ s'.length ≤ d2 ∧ d1 ≤ 9223372036854775807 ∧ d2 ≤ 9223372036854775807 ∧ Hid (RdB encR 18 w.heap.size w a1 h') ∧ Hid (RdB encS 17 w.heap.size w a2 s') ∧ wr.ownsRow w.heap.size 62 18 v acc.length (flatR acc) ∧ Below w.heap.size w wr ∧
          Hid ((List.merge h' (s'.map rgOf) leR).foldl apR acc = mergeL hs ss) ∧ acc.length + h'.length + s'.length ≤ 1000000000)
      case atStart => exact ⟨hs, ss, [], a1, c1, a2, c2, _, by rw [hLL.out.2], by rw [hLL.out.1], rfl, rfl, HP.out.1, HP.out.2, q10, q20, hcm1, hcm2, HR1.out, HR2.out, hown1, hbel1, HM0, by simpa using hHL⟩
      case round =>
        clear hown1 hbel1 HM0 HR1 HR2 HP q10 q20 hHL
        obtain ⟨h', s', acc, a1, d1, a2, d2, v, rfl, rfl, rfl, hgk, P1, P2, q1, q2, t1, t2, R1, R2, ho, hbel, HM, hbd⟩ := hrel
        have hbs := hbel.size
        cases h' with
        | nil =>
          cases s' with
          | nil =>
            go_wp2
            go_ret
            exact ⟨v, rfl, by rw [← HM.out]; simpa using ho, hbel⟩
          | cons s sr =>
            obtain ⟨b2, o2, rfl, hb2⟩ := R2.out.addr
            have hne : ((sr.length : Int) + 1 == 0) = false := by simp; omega
            go_wp2_with fail
            go_quiet (fail)
            have hG : Gr (wr.alloc (.cells Z18 62)) ((wr.alloc (.cells Z18 62)).drewN nq) := (Gr.refl _).drewN nq
            generalize (wr.alloc (.cells Z18 62)).drewN nq = X1 at *
            have hkl : (encR (rgOf s)).length = k18 := by rw [encR_length, HK.out.2.2]
            have lds : Sem.run Try.prog (loadCellsFrom ⟨b2, o2, none⟩ 0 k17 #[]) X1.drew = .ok (encS s).toArray X1.drew := by
              have hB' : Below w.heap.size w X1.drew := (hbel.alloc hbs (.cells Z18 62)).trans (hG.drew.below.mono (by simp; omega))
              exact (R2.out.below hB').ld0 encS_length k17 HK.out.2.1
            obtain ⟨a2n, hpn, hrn, hsl⟩ := cut_from 31 27 ht31 el31 encS_length k17 HK.out.2.1 z27 P2.out (by simpa using q2) (by omega) R2.out 1 (by simp)
            have hsl' : ∀ w, (Instr.slice 31 (.slice (some ⟨b2, o2, none⟩) (sr.length + 1) d2) (some (.int .i64 1)) none none).run Try.prog w = .ok (.slice a2n sr.length (d2 - 1)) w := fun w => hsl w
            have hrn' : RdB encS 17 w.heap.size w a2n sr := hrn
            clear hsl hrn
            have NB : Hid (∀ X, Gr (wr.alloc (.cells Z18 62)) X → ∃ Y, Sem.run Try.prog (storeCells ⟨wr.heap.size, 0, none⟩ (encR (rgOf s)) 0) X = .ok () Y ∧ Sem.run Try.prog (loadCellsFrom ⟨wr.heap.size, 0, none⟩ 0 k18 #[]) Y = .ok (encR (rgOf s)).toArray Y ∧ Y.ownsRow w.heap.size 62 18 v acc.length (flatR acc) ∧ Below w.heap.size w Y ∧ w.heap.size ≤ Y.heap.size) :=
              fun X hX => next_box hZ18.out hX ho hbel hbs (rgOf s) k18 HK.out.2.2
            have HPN : Hid (Plain a2n (d2 - 1) ∧ RdB encS 17 w.heap.size w a2n sr) := ⟨hpn, hrn'⟩
            have HGD : Hid (Gr (wr.alloc (.cells Z18 62)) X1.drew) := hG.drew
            clear hpn hrn' hG hbel ho
            go_wp2_with fail
            go_region_with (go_at_call 25; refine (rangeOf_rg s _).mono ?_; rintro e w5 ⟨rfl, hg5⟩; obtain ⟨Y, hst, hldY, hoY⟩ := NB.out w5 (HGD.out.trans hg5); have HOY : Hid (Y.ownsRow w.heap.size 62 18 v acc.length (flatR acc) ∧ Below w.heap.size w Y ∧ w.heap.size ≤ Y.heap.size) := hoY; clear hoY hg5)
            all_goals
              go_wp2_with fail
              refine (appendRange_any w.heap.size v acc (rgOf s) _ HOY.out.1 HOY.out.2.2 (by omega)).mono ?_
              rintro e w6 ⟨v6, rfl, ho6, hb6⟩
              have hal := apR_length acc (rgOf s)
              go_wp2
              go_roundg (([] : List Rg).length + sr.length)
              case measure => simp at hgk ⊢; omega
              case rel => exact ⟨([] : List Rg), sr, apR acc (rgOf s), a1, d1, a2n, d2 - 1, v6, rfl, rfl, rfl, rfl, P1.out, HPN.out.1, q1, by simp at q2; omega, t1, by omega, R1.out, HPN.out.2, ho6, HOY.out.2.1.trans hb6, (by show _ = _; rw [← HM.out]; simp), by simp at hbd ⊢; omega⟩
        | cons r hr =>
          obtain ⟨b1, o1, rfl, hb1⟩ := R1.out.addr
          cases s' with
          | nil =>
            go_wp2_with fail
            go_quiet (fail)
            have hG : Gr (wr.alloc (.cells Z18 62)) ((wr.alloc (.cells Z18 62)).drewN nq) := (Gr.refl _).drewN nq
            generalize (wr.alloc (.cells Z18 62)).drewN nq = X1 at *
            have hkl : (encR r).length = k18 := by rw [encR_length, HK.out.2.2]
            have ldr : Sem.run Try.prog (loadCellsFrom ⟨b1, o1, none⟩ 0 k18 #[]) X1.drew = .ok (encR r).toArray X1.drew := by
              have hB' : Below w.heap.size w X1.drew := (hbel.alloc hbs (.cells Z18 62)).trans (hG.drew.below.mono (by simp; omega))
              exact (R1.out.below hB').ld0 encR_length k18 HK.out.2.2
            obtain ⟨a1n, hpn, hrn, hsl⟩ := cut_from 63 62 ht63 el63 encR_length k18 HK.out.2.2 z62 P1.out (by simpa using q1) (by omega) R1.out 1 (by simp)
            have hsl' : ∀ w, (Instr.slice 63 (.slice (some ⟨b1, o1, none⟩) (hr.length + 1) d1) (some (.int .i64 1)) none none).run Try.prog w = .ok (.slice a1n hr.length (d1 - 1)) w := fun w => hsl w
            have hrn' : RdB encR 18 w.heap.size w a1n hr := hrn
            clear hsl hrn
            obtain ⟨Y, hst, hldY, hoY, hbY, hBY⟩ := next_box hZ18.out hG.drew ho hbel hbs r k18 HK.out.2.2
            have HPN : Hid (Plain a1n (d1 - 1) ∧ RdB encR 18 w.heap.size w a1n hr) := ⟨hpn, hrn'⟩
            have HOY : Hid (Y.ownsRow w.heap.size 62 18 v acc.length (flatR acc) ∧ Below w.heap.size w Y ∧ w.heap.size ≤ Y.heap.size) := ⟨hoY, hbY, hBY⟩
            have HBL : Hid (Below w.heap.size w wr) := hbel
            clear hpn hrn' hoY hbY hBY hG hbel ho
            go_wp2_with fail
            go_region
            all_goals
              go_wp2_with fail
              refine (appendRange_any w.heap.size v acc r _ HOY.out.1 HOY.out.2.2 (by omega)).mono ?_
              rintro e w6 ⟨v6, rfl, ho6, hb6⟩
              have hal := apR_length acc r
              go_wp2
              go_roundg (hr.length + 0)
              case measure => simp at hgk; omega
              case rel => exact ⟨hr, [], apR acc r, a1n, d1 - 1, a2, d2, v6, rfl, rfl, rfl, rfl, HPN.out.1, P2.out, by simp at q1; omega, q2, by omega, t2, HPN.out.2, R2.out, ho6, HOY.out.2.1.trans hb6, (by show _ = _; rw [← HM.out]; simp), by simp at hbd ⊢; omega⟩
          | cons s sr =>
            obtain ⟨b2, o2, rfl, hb2⟩ := R2.out.addr
            obtain ⟨X0, hX0⟩ : ∃ X, X = wr.alloc (.cells Z18 62) := ⟨_, rfl⟩
            have hB0 : ∀ n os, Below w.heap.size w (grow (X0.drewN n) os) := fun n os => by
              rw [hX0]; exact (hbel.alloc hbs (.cells Z18 62)).trans ((Gr.below ⟨n, os, rfl⟩).mono (by simp; omega))
            have ldr0 : ∀ n os, Sem.run Try.prog (loadCellsFrom ⟨b1, o1, none⟩ 0 k18 #[]) (grow (X0.drewN n) os) = .ok (encR r).toArray (grow (X0.drewN n) os) := fun n os => (R1.out.below (hB0 n os)).ld0 encR_length k18 HK.out.2.2
            have lds0 : ∀ n os, Sem.run Try.prog (loadCellsFrom ⟨b2, o2, none⟩ 0 k17 #[]) (grow (X0.drewN n) os) = .ok (encS s).toArray (grow (X0.drewN n) os) := fun n os => (R2.out.below (hB0 n os)).ld0 encS_length k17 HK.out.2.1
            have C1 : Hid (∀ n os, Calls Try.prog 26 #[.agg (encR r).toArray] (grow (X0.drewN n) os) fun e w' => e = .returned (.agg (encS (firstOf r)).toArray) ∧ ∃ q os', w' = grow ((grow (X0.drewN n) os).drewN q) os') := fun n os => first_any r _
            have C2 : Hid (∀ n os, Calls Try.prog 21 #[.agg (encS (firstOf r)).toArray, .agg (encS s).toArray] (grow (X0.drewN n) os) fun e w' => e = .returned (.int .i64 (cmpS (firstOf r) s)) ∧ ∃ q os', w' = grow ((grow (X0.drewN n) os).drewN q) os') := fun n os => compare_any _ _ _
            have hne : ((sr.length : Int) + 1 == 0) = false := by simp; omega
            have ib1 : (0 : Int) < (hr.length : Int) + 1 := by omega
            have ib2 : (0 : Int) < (sr.length : Int) + 1 := by omega
            have HM2 : Hid (∀ c, c = cmpS (firstOf r) s → (if c ≤ 0 then (List.merge hr ((s :: sr).map rgOf) leR).foldl apR (apR acc r) else (List.merge (r :: hr) (sr.map rgOf) leR).foldl apR (apR acc (rgOf s))) = mergeL hs ss) := fun c hc => by
              rw [hc, ← HM.out]
              have hle : leR r (rgOf s) = decide (cmpS (firstOf r) s ≤ 0) := rfl
              by_cases h : cmpS (firstOf r) s ≤ 0
              · rw [if_pos h, List.map_cons, List.cons_merge_cons, hle]; simp [h]
              · rw [if_neg h, List.map_cons, List.cons_merge_cons, hle]; simp [h]
            have HMC := HM2.out _ rfl
            have HMD : Hid _ := HMC
            clear HMC HM2
            generalize cmpS (firstOf r) s = c at C2 HMD
            clear hB0
            by_cases hc : c ≤ 0
            · go_wp2_with fail
              rw [← hX0]
              have HX0 : Hid (X0 = wr.alloc (.cells Z18 62)) := hX0
              clear hX0
              go_quiet_grown (first | (go_at_call 26; exact Calls.grown_of (C1.out _ _)) | (go_at_call 21; exact Calls.grown_of (C2.out _ _)))
              have hG : Gr (wr.alloc (.cells Z18 62)) (grow (X0.drewN nq) osq) := by rw [← HX0.out]; exact ⟨nq, osq, rfl⟩
              clear ldr0 lds0 C1 C2
              generalize grow (X0.drewN nq) osq = X1 at *
              have hkl : (encR r).length = k18 := by rw [encR_length, HK.out.2.2]
              have ldr : Sem.run Try.prog (loadCellsFrom ⟨b1, o1, none⟩ 0 k18 #[]) X1.drew = .ok (encR r).toArray X1.drew := by
                have hB' : Below w.heap.size w X1.drew := (hbel.alloc hbs (.cells Z18 62)).trans (hG.drew.below.mono (by simp; omega))
                exact (R1.out.below hB').ld0 encR_length k18 HK.out.2.2
              obtain ⟨a1n, hpn, hrn, hsl⟩ := cut_from 63 62 ht63 el63 encR_length k18 HK.out.2.2 z62 P1.out (by simpa using q1) (by omega) R1.out 1 (by simp)
              have hsl' : ∀ w, (Instr.slice 63 (.slice (some ⟨b1, o1, none⟩) (hr.length + 1) d1) (some (.int .i64 1)) none none).run Try.prog w = .ok (.slice a1n hr.length (d1 - 1)) w := fun w => hsl w
              have hrn' : RdB encR 18 w.heap.size w a1n hr := hrn
              clear hsl hrn
              obtain ⟨Y, hst, hldY, hoY, hbY, hBY⟩ := next_box hZ18.out hG.drew ho hbel hbs r k18 HK.out.2.2
              have HPN : Hid (Plain a1n (d1 - 1) ∧ RdB encR 18 w.heap.size w a1n hr) := ⟨hpn, hrn'⟩
              have HOY : Hid (Y.ownsRow w.heap.size 62 18 v acc.length (flatR acc) ∧ Below w.heap.size w Y ∧ w.heap.size ≤ Y.heap.size) := ⟨hoY, hbY, hBY⟩
              have HBL : Hid (Below w.heap.size w wr) := hbel
              clear hpn hrn' hoY hbY hBY hG hbel ho
              go_wp2_with fail
              go_region
              all_goals
                go_wp2_with fail
                refine (appendRange_any w.heap.size v acc r _ HOY.out.1 HOY.out.2.2 (by omega)).mono ?_
                rintro e w6 ⟨v6, rfl, ho6, hb6⟩
                have hal := apR_length acc r
                go_wp2
                go_roundg (hr.length + (s :: sr).length)
                case measure => simp at hgk ⊢; omega
                case rel => exact ⟨hr, (s :: sr), apR acc r, a1n, d1 - 1, (some ⟨b2, o2, none⟩), d2, v6, rfl, rfl, rfl, rfl, HPN.out.1, P2.out, by simp at q1; omega, q2, by omega, t2, HPN.out.2, R2.out, ho6, HOY.out.2.1.trans hb6, (by have := HMD.out; rw [if_pos (by omega)] at this; exact this), by simp at hbd ⊢; omega⟩
            · go_wp2_with fail
              rw [← hX0]
              have HX0 : Hid (X0 = wr.alloc (.cells Z18 62)) := hX0
              clear hX0
              go_quiet_grown (first | (go_at_call 26; exact Calls.grown_of (C1.out _ _)) | (go_at_call 21; exact Calls.grown_of (C2.out _ _)))
              have hG : Gr (wr.alloc (.cells Z18 62)) (grow (X0.drewN nq) osq) := by rw [← HX0.out]; exact ⟨nq, osq, rfl⟩
              clear ldr0 lds0 C1 C2
              generalize grow (X0.drewN nq) osq = X1 at *
              have hkl : (encR (rgOf s)).length = k18 := by rw [encR_length, HK.out.2.2]
              have lds : Sem.run Try.prog (loadCellsFrom ⟨b2, o2, none⟩ 0 k17 #[]) X1.drew = .ok (encS s).toArray X1.drew := by
                have hB' : Below w.heap.size w X1.drew := (hbel.alloc hbs (.cells Z18 62)).trans (hG.drew.below.mono (by simp; omega))
                exact (R2.out.below hB').ld0 encS_length k17 HK.out.2.1
              obtain ⟨a2n, hpn, hrn, hsl⟩ := cut_from 31 27 ht31 el31 encS_length k17 HK.out.2.1 z27 P2.out (by simpa using q2) (by omega) R2.out 1 (by simp)
              have hsl' : ∀ w, (Instr.slice 31 (.slice (some ⟨b2, o2, none⟩) (sr.length + 1) d2) (some (.int .i64 1)) none none).run Try.prog w = .ok (.slice a2n sr.length (d2 - 1)) w := fun w => hsl w
              have hrn' : RdB encS 17 w.heap.size w a2n sr := hrn
              clear hsl hrn
              have NB : Hid (∀ X, Gr (wr.alloc (.cells Z18 62)) X → ∃ Y, Sem.run Try.prog (storeCells ⟨wr.heap.size, 0, none⟩ (encR (rgOf s)) 0) X = .ok () Y ∧ Sem.run Try.prog (loadCellsFrom ⟨wr.heap.size, 0, none⟩ 0 k18 #[]) Y = .ok (encR (rgOf s)).toArray Y ∧ Y.ownsRow w.heap.size 62 18 v acc.length (flatR acc) ∧ Below w.heap.size w Y ∧ w.heap.size ≤ Y.heap.size) :=
                fun X hX => next_box hZ18.out hX ho hbel hbs (rgOf s) k18 HK.out.2.2
              have HPN : Hid (Plain a2n (d2 - 1) ∧ RdB encS 17 w.heap.size w a2n sr) := ⟨hpn, hrn'⟩
              have HGD : Hid (Gr (wr.alloc (.cells Z18 62)) X1.drew) := hG.drew
              clear hpn hrn' hG hbel ho
              go_wp2_with fail
              go_region_with (go_at_call 25; refine (rangeOf_rg s _).mono ?_; rintro e w5 ⟨rfl, hg5⟩; obtain ⟨Y, hst, hldY, hoY⟩ := NB.out w5 (HGD.out.trans hg5); have HOY : Hid (Y.ownsRow w.heap.size 62 18 v acc.length (flatR acc) ∧ Below w.heap.size w Y ∧ w.heap.size ≤ Y.heap.size) := hoY; clear hoY hg5)
              all_goals
                go_wp2_with fail
                refine (appendRange_any w.heap.size v acc (rgOf s) _ HOY.out.1 HOY.out.2.2 (by omega)).mono ?_
                rintro e w6 ⟨v6, rfl, ho6, hb6⟩
                have hal := apR_length acc (rgOf s)
                go_wp2
                go_roundg ((r :: hr).length + sr.length)
                case measure => simp at hgk ⊢; omega
                case rel => exact ⟨(r :: hr), sr, apR acc (rgOf s), (some ⟨b1, o1, none⟩), d1, a2n, d2 - 1, v6, rfl, rfl, rfl, rfl, P1.out, HPN.out.1, q1, by simp at q2; omega, t1, by omega, R1.out, HPN.out.2, ho6, HOY.out.2.1.trans hb6, (by have := HMD.out; rw [if_neg (by omega)] at this; exact this), by simp at hbd ⊢; omega⟩
end Go.Proofs.Qxb6615018a
