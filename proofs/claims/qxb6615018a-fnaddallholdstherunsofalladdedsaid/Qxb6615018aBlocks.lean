/-
  DERIVED. blocksOf: the ranges in blocks of at most 128.
-/
import Derived.Test.Qxb6615018aMerge
namespace Go.Proofs.Qxb6615018a
open Go.RowKit Go.Sort

def chk : Nat → List Rg → List (List Rg)
  | 0, _ => []
  | _ + 1, [] => []
  | f + 1, r :: rs => (r :: rs).take 128 :: chk f ((r :: rs).drop 128)
/-- Blocks of 128, the last one what is left. -/
def chunks (rs : List Rg) : List (List Rg) := chk rs.length rs

theorem chk_fuel : ∀ (f : Nat) (rs : List Rg), rs.length ≤ f → chk f rs = chk rs.length rs
  | 0, [], _ => rfl
  | 0, _ :: _, h => by simp at h
  | f + 1, [], _ => rfl
  | f + 1, r :: rs, h => by
    have h1 : ((r :: rs).drop 128).length ≤ f := by simp at h ⊢; omega
    have h2 : ((r :: rs).drop 128).length ≤ rs.length := by simp
    simp only [chk, List.length_cons]
    rw [chk_fuel f _ h1, chk_fuel rs.length _ h2]

theorem chunks_nil : chunks [] = [] := rfl
theorem chunks_cons (r : Rg) (rs : List Rg) : chunks (r :: rs) = (r :: rs).take 128 :: chunks ((r :: rs).drop 128) := by
  have h2 : ((r :: rs).drop 128).length ≤ rs.length := by simp
  show chk (rs.length + 1) (r :: rs) = _
  simp only [chk]
  rw [chk_fuel rs.length _ h2]
  rfl

def ptrV (p : Nat) : Value := .pointer (some ⟨p, 0, none⟩)

/-- Block p is a rangeBlock that holds rs; its array lies in a block of ranges. -/
def BlkAt (w : World) (p : Nat) (rs : List Rg) : Prop :=
  ∃ a, w.heap[p]? = some (.cells #[.slice a rs.length rs.length] 65 (0, 0)) ∧ Plain a rs.length ∧ RdT encR 18 62 w a rs

theorem BlkAt.kt {T : List TypeId} {w w' : World} {p : Nat} {rs : List Rg} (h : BlkAt w p rs) (hk : KT T w w') (h5 : 65 ∉ T) (h2 : 62 ∉ T) : BlkAt w' p rs := by
  obtain ⟨a, e1, e2, e3⟩ := h
  exact ⟨a, hk _ _ _ _ h5 e1, e2, e3.kt hk h2⟩

/-- The pointers ps lead to the blocks bs. -/
def BlksAt (w : World) (ps : List Nat) (bs : List (List Rg)) : Prop := ps.length = bs.length ∧ ∀ i (hi : i < ps.length) (hj : i < bs.length), BlkAt w ps[i] bs[i]

theorem BlksAt.kt {T : List TypeId} {w w' : World} {ps : List Nat} {bs : List (List Rg)} (h : BlksAt w ps bs) (hk : KT T w w') (h5 : 65 ∉ T) (h2 : 62 ∉ T) : BlksAt w' ps bs :=
  ⟨h.1, fun i hi hj => (h.2 i hi hj).kt hk h5 h2⟩
theorem BlksAt.nil (w : World) : BlksAt w [] [] := ⟨rfl, fun i hi => absurd hi (by simp)⟩
theorem BlksAt.snoc {w : World} {ps : List Nat} {bs : List (List Rg)} (h : BlksAt w ps bs) {p : Nat} {rs : List Rg} (hb : BlkAt w p rs) : BlksAt w (ps ++ [p]) (bs ++ [rs]) := by
  refine ⟨by simp [h.1], fun i hi hj => ?_⟩
  by_cases hi' : i < ps.length
  · have hj' : i < bs.length := by rw [← h.1]; exact hi'
    rw [List.getElem_append_left hi', List.getElem_append_left hj']
    exact h.2 i hi' hj'
  · have e : i = ps.length := by simp at hi; omega
    subst e
    have : bs.length = ps.length := h.1.symm
    simp only [List.getElem_append_right (Nat.le_refl _), Nat.sub_self, List.getElem_singleton]
    rw [List.getElem_append_right (by omega)]
    simp [this, hb]
theorem BlksAt.append {w : World} {ps qs : List Nat} {bs cs : List (List Rg)} (h : BlksAt w ps bs) (k : BlksAt w qs cs) : BlksAt w (ps ++ qs) (bs ++ cs) := by
  refine ⟨by simp [h.1, k.1], fun i hi hj => ?_⟩
  by_cases hi' : i < ps.length
  · have hj' : i < bs.length := by rw [← h.1]; exact hi'
    rw [List.getElem_append_left hi', List.getElem_append_left hj']
    exact h.2 i hi' hj'
  · have e := h.1
    rw [List.getElem_append_right (by omega), List.getElem_append_right (by omega)]
    simp only [e]
    exact k.2 _ (by simp at hi; omega) (by simp at hj; omega)
theorem BlksAt.take {w : World} {ps : List Nat} {bs : List (List Rg)} (h : BlksAt w ps bs) (n : Nat) : BlksAt w (ps.take n) (bs.take n) := by
  refine ⟨by simp [h.1], fun i hi hj => ?_⟩
  rw [List.getElem_take, List.getElem_take]
  exact h.2 i (by simp at hi; omega) (by simp at hj; omega)
theorem BlksAt.drop {w : World} {ps : List Nat} {bs : List (List Rg)} (h : BlksAt w ps bs) (n : Nat) : BlksAt w (ps.drop n) (bs.drop n) := by
  refine ⟨by simp [h.1], fun i hi hj => ?_⟩
  rw [List.getElem_drop, List.getElem_drop]
  exact h.2 (n + i) (by simp at hi; omega) (by simp at hj; omega)

theorem Try.info66 : (Try.prog.info? 66).map (fun i => (i.zero, i.size, i.bytes)) = some (some (.pointer none), 1, 8) := by kernel_rfl

theorem blocks_step {w wr w' : World} {ds : List (List Rg)} {ps : List Nat} {v v' : Value} {b1 o1 : Nat} {rest : List Rg} (hbk : BlksAt wr ps ds) (how : wr.ownsRow w.heap.size 66 1 v ds.length (ps.map ptrV))
    (hr : RdT encR 18 62 w (some ⟨b1, o1, none⟩) rest) (hbel : Below w.heap.size w wr) (hbs : w.heap.size ≤ wr.heap.size) (n : Nat) (hn : n ≤ rest.length)
    (hg : ((wr.alloc (.cells #[.slice (some ⟨b1, o1, none⟩) n n] 65)).alloc (.cells #[.pointer (some ⟨wr.heap.size, 0, none⟩)] 66)).grownBy w' v.ownBlock) (ho' : w'.ownsRow w.heap.size 66 1 v' (ds.length + 1) (ps.map ptrV ++ [ptrV wr.heap.size])) :
    w'.ownsRow w.heap.size 66 1 v' (ds.length + 1) (ps.map ptrV ++ [ptrV wr.heap.size]) ∧ Below w.heap.size w w' ∧ BlksAt w' (ps ++ [wr.heap.size]) (ds ++ [rest.take n]) := by
  have hb2 : Below w.heap.size w ((wr.alloc (.cells #[.slice (some ⟨b1, o1, none⟩) n n] 65)).alloc (.cells #[.pointer (some ⟨wr.heap.size, 0, none⟩)] 66)) := (hbel.alloc hbs _).alloc (by simp; omega) _
  have how2 := (how.alloc (.cells #[.slice (some ⟨b1, o1, none⟩) n n] 65)).alloc (.cells #[.pointer (some ⟨wr.heap.size, 0, none⟩)] 66)
  have hB : Below w.heap.size w w' := grown_below hb2 hg (by simp; omega) how2
  refine ⟨ho', hB, ?_⟩
  have k2 : KT [66] _ w' := KT.grown hg how2
  have k1 : KT [66] wr w' := (KT.of_below ((Below.refl _ _).alloc (Nat.le_refl _) _)).trans ((KT.of_below ((Below.refl _ _).alloc (Nat.le_refl _) _)).trans k2)
  have hnew : w'.heap[wr.heap.size]? = some (.cells #[.slice (some ⟨b1, o1, none⟩) n n] 65 (0, 0)) := by
    refine k2 _ _ _ _ (by simp) ?_
    rw [(Below.alloc (B := wr.heap.size + 1) (Below.refl _ _) (by simp) _).block _ (by omega)]
    exact heap_alloc_last wr _
  exact (hbk.kt k1 (by simp) (by simp)).snoc ⟨some ⟨b1, o1, none⟩, by rw [List.length_take, Nat.min_eq_left hn]; exact hnew, .inr ⟨_, _, rfl⟩, ((hr.kt (KT.of_below hbel) (T := []) (by simp)).kt k1 (by simp)).take n⟩

set_option maxRecDepth 100000 in
set_option maxHeartbeats 1000000 in
theorem blocksOf_any (a : Option Addr) (c : Nat) (rs : List Rg) (w : World) (hp : Plain a c) (hc : rs.length ≤ c) (hcm : c ≤ 9223372036854775807) (hL : rs.length ≤ 1000000000) (hr : RdT encR 18 62 w a rs) :
    Calls Try.prog 41 #[.slice a rs.length c] w fun e w' => ∃ v' ps, e = .returned v' ∧ w'.ownsRow w.heap.size 66 1 v' (chunks rs).length (ps.map ptrV) ∧ BlksAt w' ps (chunks rs) ∧ (∀ p ∈ ps, w.heap.size ≤ p) ∧ Below w.heap.size w w' := by
  obtain ⟨k16, k17, k18, ⟨z22, z24, z27, z30, z53, z40, z62, n16, n17, n18⟩, HK⟩ := sz_ex
  clear z22 z24 z27 z30 z53 z40 n16 n17
  obtain ⟨i0, hi, hz0, hz1, hz2⟩ := info_parts Try.info66
  have HR : Hid (RdT encR 18 62 w a rs) := hr
  have HP : Hid (Plain a c) := hp
  clear hr hp
  go_enter Try.func41, Try.ntmps41
  go_wp2_with fail
  go_loopg [0, 3] rs.length (fun gk rv bv wr => ∃ (rest : List Rg) (a : Option Addr) (c : Nat) (ds : List (List Rg)) (ps : List Nat) (v : Value), rv = .slice a rest.length c ∧ v = bv ∧ gk = rest.length ∧ Hid (Plain a c) ∧ rest.length ≤ c ∧ c ≤ 9223372036854775807 ∧ Hid (RdT encR 18 62 w a rest) ∧
      wr.ownsRow w.heap.size 66 1 v ds.length (ps.map ptrV) ∧ BlksAt wr ps ds ∧ Hid (∀ p ∈ ps, w.heap.size ≤ p) ∧ Below w.heap.size w wr ∧ Hid (ds ++ chunks rest = chunks rs) ∧ ds.length + rest.length ≤ rs.length)
  case atStart => exact ⟨rs, a, c, [], [], _, rfl, rfl, rfl, HP.out, hc, hcm, HR.out, World.ownsRow_nil _ _ _ _, BlksAt.nil _, fun p hp => absurd hp (by simp), Below.refl _ _, rfl, by simp⟩
  case round =>
    clear HR HP
    obtain ⟨rest, a, c', ds, ps, v, rfl, rfl, hgk, P1, q1, t1, R1, ho, hbk, HPS, hbel, HD, hln⟩ := hrel
    have hbs := hbel.size
    cases rest with
    | nil =>
      go_wp2
      go_ret
      have e : ds = chunks rs := by rw [← HD.out]; simp [chunks_nil]
      subst e
      exact ⟨v, ps, rfl, ho, hbk, HPS.out, hbel⟩
    | cons r rr =>
      obtain ⟨b1, o1, rfl, hb1⟩ := R1.out.rdB.addr
      have HOW : Hid (wr.ownsRow w.heap.size 66 1 v ds.length (ps.map ptrV)) := ho
      have HBK : Hid (BlksAt wr ps ds) := hbk
      clear ho hbk
      by_cases hl : rr.length + 1 ≤ 128
      · have hmin : min ((rr.length : Int) + 1) 128 = (rr.length : Int) + 1 := by omega
        have q2 : (rr.length : Int) + 1 ≤ (c' : Int) := by simp at q1; omega
        have q3 : (0 : Int) ≤ (rr.length : Int) + 1 := by omega
        obtain ⟨a1n, hpn, hrn, hsl⟩ := cut_fromT 63 62 ht63 el63 encR_length k18 HK.out.2.2 z62 P1.out (by simpa using q1) (by omega) R1.out (rr.length + 1) (by simp)
        have hsl' : ∀ w, (Instr.slice 63 (.slice (some ⟨b1, o1, none⟩) (rr.length + 1) c') (some (.int .i64 ((rr.length : Int) + 1))) none none).run Try.prog w = .ok (.slice a1n (rr.length + 1 - (rr.length + 1)) (c' - (rr.length + 1))) w := fun w => hsl w
        have HPN : Hid (Plain a1n (c' - (rr.length + 1)) ∧ RdT encR 18 62 w a1n ((r :: rr).drop (rr.length + 1))) := ⟨hpn, hrn⟩
        have hbel2 : Below w.heap.size w ((wr.alloc (.cells #[.slice (some ⟨b1, o1, none⟩) (rr.length + 1) (rr.length + 1)] 65)).alloc (.cells #[.pointer (some ⟨wr.heap.size, 0, none⟩)] 66)) := (hbel.alloc hbs _).alloc (by simp; omega) _
        have hB2 : Hid (Below w.heap.size w ((wr.alloc (.cells #[.slice (some ⟨b1, o1, none⟩) (rr.length + 1) (rr.length + 1)] 65)).alloc (.cells #[.pointer (some ⟨wr.heap.size, 0, none⟩)] 66))) := hbel2
        clear hpn hrn hsl hbel2
        go_wp2_with (at_builtin; refine wpList_append_own _ rfl (.tmp 11) (.tmp 18) 58 rfl w.heap.size 66 i0 _ 1 8 Try.underlying58 hi hz0 hz1 hz2 rfl (by decide) _ ds.length (ps.map ptrV) rfl ?own ⟨wr.heap.size + 1, 0, none⟩ 1 1 [ptrV wr.heap.size] rfl ?ll ?news ?one ?c3 ?c4 ?c5 ?_)
        case own => exact (HOW.out.alloc _).alloc _
        case ll => rfl
        case news => exact cells_at (heap_alloc_at _ _ _ (by simp))
        case one => intro u hu; simp at hu; subst hu; rfl
        case c3 => unfold maxLen; omega
        case c4 => omega
        case c5 => simp; omega
        intro v' w' ho' hg _
        have HX : Hid (w'.ownsRow w.heap.size 66 1 v' (ds.length + 1) (ps.map ptrV ++ [ptrV wr.heap.size]) ∧ Below w.heap.size w w' ∧ BlksAt w' (ps ++ [wr.heap.size]) (ds ++ [(r :: rr).take (rr.length + 1)])) :=
          blocks_step HBK.out HOW.out R1.out hbel hbs (rr.length + 1) (by simp) hg ho'
        clear ho' hg hB2
        go_wp2
        go_roundg ((r :: rr).drop (rr.length + 1)).length
        case measure => simp at hgk ⊢; omega
        case rel =>
          refine ⟨(r :: rr).drop (rr.length + 1), a1n, c' - (rr.length + 1), ds ++ [(r :: rr).take (rr.length + 1)], ps ++ [wr.heap.size], v', by simp, rfl, rfl, HPN.out.1, by simp, by omega, HPN.out.2, ?_, HX.out.2.2, ?_, HX.out.2.1, ?_, by simp at hln ⊢; omega⟩
          · simpa using HX.out.1
          · intro p hp
            rcases List.mem_append.1 hp with h | h
            · exact HPS.out p h
            · simp at h; subst h; exact hbs
          · show _ = _
            rw [← HD.out, chunks_cons r rr, List.append_assoc]
            congr 2
            rw [List.take_of_length_le (by simp), List.take_of_length_le (by simp; omega), List.drop_of_length_le (by simp), List.drop_of_length_le (by simp; omega)]
            rfl
      · have hmin : min ((rr.length : Int) + 1) 128 = 128 := by omega
        have q2 : (128 : Int) ≤ (c' : Int) := by simp at q1; omega
        obtain ⟨a1n, hpn, hrn, hsl⟩ := cut_fromT 63 62 ht63 el63 encR_length k18 HK.out.2.2 z62 P1.out (by simpa using q1) (by omega) R1.out (128) (by simp; omega)
        have hsl' : ∀ w, (Instr.slice 63 (.slice (some ⟨b1, o1, none⟩) (rr.length + 1) c') (some (.int .i64 (128))) none none).run Try.prog w = .ok (.slice a1n (rr.length + 1 - (128)) (c' - (128))) w := fun w => hsl w
        have HPN : Hid (Plain a1n (c' - (128)) ∧ RdT encR 18 62 w a1n ((r :: rr).drop (128))) := ⟨hpn, hrn⟩
        have hbel2 : Below w.heap.size w ((wr.alloc (.cells #[.slice (some ⟨b1, o1, none⟩) (128) (128)] 65)).alloc (.cells #[.pointer (some ⟨wr.heap.size, 0, none⟩)] 66)) := (hbel.alloc hbs _).alloc (by simp; omega) _
        have hB2 : Hid (Below w.heap.size w ((wr.alloc (.cells #[.slice (some ⟨b1, o1, none⟩) (128) (128)] 65)).alloc (.cells #[.pointer (some ⟨wr.heap.size, 0, none⟩)] 66))) := hbel2
        clear hpn hrn hsl hbel2
        go_wp2_with (at_builtin; refine wpList_append_own _ rfl (.tmp 11) (.tmp 18) 58 rfl w.heap.size 66 i0 _ 1 8 Try.underlying58 hi hz0 hz1 hz2 rfl (by decide) _ ds.length (ps.map ptrV) rfl ?own ⟨wr.heap.size + 1, 0, none⟩ 1 1 [ptrV wr.heap.size] rfl ?ll ?news ?one ?c3 ?c4 ?c5 ?_)
        case own => exact (HOW.out.alloc _).alloc _
        case ll => rfl
        case news => exact cells_at (heap_alloc_at _ _ _ (by simp))
        case one => intro u hu; simp at hu; subst hu; rfl
        case c3 => unfold maxLen; omega
        case c4 => omega
        case c5 => simp; omega
        intro v' w' ho' hg _
        have HX : Hid (w'.ownsRow w.heap.size 66 1 v' (ds.length + 1) (ps.map ptrV ++ [ptrV wr.heap.size]) ∧ Below w.heap.size w w' ∧ BlksAt w' (ps ++ [wr.heap.size]) (ds ++ [(r :: rr).take (128)])) :=
          blocks_step HBK.out HOW.out R1.out hbel hbs (128) (by simp; omega) hg ho'
        clear ho' hg hB2
        go_wp2
        go_roundg ((r :: rr).drop (128)).length
        case measure => simp at hgk ⊢; omega
        case rel =>
          refine ⟨(r :: rr).drop (128), a1n, c' - (128), ds ++ [(r :: rr).take (128)], ps ++ [wr.heap.size], v', by simp, rfl, rfl, HPN.out.1, by simp at q1 ⊢; omega, by omega, HPN.out.2, ?_, HX.out.2.2, ?_, HX.out.2.1, ?_, by simp at hln ⊢; omega⟩
          · simpa using HX.out.1
          · intro p hp
            rcases List.mem_append.1 hp with h | h
            · exact HPS.out p h
            · simp at h; subst h; exact hbs
          · show _ = _
            rw [← HD.out, chunks_cons r rr, List.append_assoc]
            congr 2
end Go.Proofs.Qxb6615018a
