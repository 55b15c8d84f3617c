/-
  DERIVED. Knowledge.replace, over what slices.Concat and slices.Replace do.
-/
import Derived.Test.Qxb6615018aKnow
import Derived.Deep.CutBlock
namespace Go.Proofs.Qxb6615018a
open Go.RowKit Go.Sort

/-- What a slice that owns its row is to a reader. -/
theorem own_rdT {w : World} {B : Nat} {v : Value} {zs : List Rg} {n : Nat} (h : w.ownsRow B 62 18 v n (flatR zs)) : ∃ a c, v = .slice a zs.length c ∧ Plain a c ∧ zs.length ≤ c ∧ c ≤ 9223372036854775807 ∧ RdT encR 18 62 w a zs := by
  have hn : n = zs.length := by have := h.1; rw [flatR_length] at this; omega
  subst hn
  rcases h.2 with ⟨rfl, hz⟩ | ⟨g, cap, cur, rfl, _, hb, h1, h2, h3, h4⟩
  · have : zs = [] := List.length_eq_zero_iff.1 hz
    subst this
    exact ⟨none, 0, rfl, .inl ⟨rfl, rfl⟩, by simp, by omega, RdT.nil⟩
  · refine ⟨_, cap, rfl, .inr ⟨_, _, rfl⟩, h1, by unfold maxLen at h2; omega, fun i hi => ⟨g, 0, cur, (0, 0), rfl, hb, fun j x hx => ?_⟩⟩
    have hj : j < 18 := by have := (List.getElem?_eq_some_iff.1 hx).1; rwa [encR_length] at this
    have e := flatR_get zs i hi j hj
    rw [hx, ← h4, List.getElem?_take_of_lt (by have := Nat.mul_le_mul_right 18 (show i + 1 ≤ zs.length from hi); omega), Array.getElem?_toList] at e
    rw [Nat.zero_add]
    exact e

def ConcatOK : Prop := ∀ (W : World) (q : Nat) (a1 a2 : Option Addr) (c1 c2 : Nat) (xs ys : List Rg), W.heap[q]? = some (.cells #[.slice a1 xs.length c1, .slice a2 ys.length c2] 63 (0, 0)) →
  RdT encR 18 62 W a1 xs → RdT encR 18 62 W a2 ys → xs ≠ [] → ys ≠ [] → xs.length + ys.length ≤ 1000000000 →
  Calls Try.prog 40 #[.slice (some ⟨q, 0, none⟩) 2 2] W fun e w' => ∃ v', e = .returned v' ∧ w'.ownsRow W.heap.size 62 18 v' (xs.length + ys.length) (flatR (xs ++ ys)) ∧ Below W.heap.size W w'

def ReplaceOK (B : Nat) (v : Value) (n : Nat) : Prop := ∀ (W : World) (xs : List Value) (u : Value) (m : Nat) (ys : List Value) (l h B' : Nat), B ≤ W.heap.size → W.ownsRow B 66 1 v n xs → W.ownsRow B' 66 1 u m ys → (∀ g, v.ownBlock = some g → g < B') →
  (∀ x ∈ xs, x.oneCell' = true) → (∀ x ∈ ys, x.oneCell' = true) → 0 < m → l ≤ h → h ≤ n → n + m ≤ 1000000000 →
  Calls Try.prog 42 #[v, .int .i64 l, .int .i64 h, u] W fun e w' => ∃ v', e = .returned v' ∧ w'.ownsRow B 66 1 v' (n + m - (h - l)) (xs.take l ++ ys ++ xs.drop h) ∧ W.grownBy w' v.ownBlock

/-- The reads of block i. -/
theorem blk_reads {w : World} {B : Nat} {aB : Option Addr} {cap : Nat} {ps : List Nat} {bs : List (List Rg)} (ho : w.ownsRow B 66 1 (.slice aB bs.length cap) bs.length (ps.map ptrV)) (hb : BlksAt w ps bs) (i : Nat) (hi : i < bs.length) :
    ∃ g p a, aB = some ⟨g, 0, none⟩ ∧ g < w.heap.size ∧ p < w.heap.size ∧ w.cell? ⟨g, i, none⟩ = some (.pointer (some ⟨p, 0, none⟩)) ∧ w.cell? ⟨p, 0, none⟩ = some (.slice a bs[i].length bs[i].length) ∧ Plain a bs[i].length ∧ RdT encR 18 62 w a bs[i] := by
  have hp : i < ps.length := by rw [hb.1]; exact hi
  obtain ⟨a, e1, e2, e3⟩ := hb.2 i hp hi
  have hpl := (Array.getElem?_eq_some_iff.1 e1).1
  rcases ho.2 with ⟨h1, h2⟩ | ⟨g, cap', cur, h1, _⟩
  · omega
  · cases h1
    refine ⟨g, ps[i], a, rfl, (ho.lt g rfl).2, hpl, ?_, by simp [World.cell?, e1], e2, e3⟩
    rw [ho.cellAt i (by omega)]
    simp [hp, ptrV]

theorem own_form {w : World} {B : Nat} {e : TypeId} {size n : Nat} {v : Value} {xs : List Value} (h : w.ownsRow B e size v n xs) : ∃ a c, v = .slice a n c := by
  rcases h.2 with ⟨rfl, rfl⟩ | ⟨g, cap, cur, rfl, _⟩
  · exact ⟨none, 0, rfl⟩
  · exact ⟨_, _, rfl⟩
theorem chk_le : ∀ (f : Nat) (rs : List Rg), (chk f rs).length ≤ rs.length
  | 0, rs => by simp [chk]
  | f + 1, [] => by simp [chk]
  | f + 1, r :: rs => by
    have := chk_le f ((r :: rs).drop 128)
    simp only [chk, List.length_cons]
    simp only [List.length_drop, List.length_cons] at this
    omega
theorem chunks_le (rs : List Rg) : (chunks rs).length ≤ rs.length := chk_le _ rs

/-- Where the two loops of replace end. -/
structure Rep (bs : List (List Rg)) (lo hi : Nat) (rs : List Rg) (lo' hi' : Nat) (rs' : List Rg) : Prop where
  lo_le : lo' ≤ lo
  hi_ge : hi ≤ hi'
  hi_le : hi' ≤ bs.length
  both : ∃ r1 : List Rg, (bs.take lo').flatten ++ r1 = (bs.take lo).flatten ++ rs ∧ rs' ++ (bs.drop hi').flatten = r1 ++ (bs.drop hi).flatten ∧ r1.length ≤ rs'.length ∧ (lo' = 0 ∨ 128 < (bs[lo' - 1]?.getD []).length + r1.length)
  last : hi' = bs.length ∨ 128 < (rs'.length - 1) % 128 + 1 + (bs[hi']?.getD []).length

theorem heap_set1 (w : World) (P : Nat) (v u : Value) (t : TypeId) (h : w.heap[P]? = some (.cells #[v] t (0, 0))) : (w.setCell ⟨P, 0, none⟩ u).heap[P]? = some (.cells #[u] t (0, 0)) := by
  simp [World.setCell, Array.getElem?_modify, h]
theorem heap_set_other (w : World) (P k : Nat) (u : Value) (h : k ≠ P) : (w.setCell ⟨P, 0, none⟩ u).heap[k]? = w.heap[k]? := by
  simp [World.setCell, Array.getElem?_modify, Ne.symm h]
theorem size_set1 (w : World) (P : Nat) (u : Value) : (w.setCell ⟨P, 0, none⟩ u).heap.size = w.heap.size := by simp [World.setCell]
/-- A store into a box of the type t. -/
theorem kt_set1 (w : World) (P : Nat) (v u : Value) (t : TypeId) (h : w.heap[P]? = some (.cells #[v] t (0, 0))) : KT [t] w (w.setCell ⟨P, 0, none⟩ u) := fun b cs t' fr ht hb => by
  rw [heap_set_other _ _ _ _ (fun e => ?_)]
  · exact hb
  · subst e; rw [h] at hb; simp only [Option.some.injEq, Obj.cells.injEq] at hb; exact ht (by simp [hb.2.1])
theorem fr_set1 {F : Nat → Option TypeId → Prop} (w : World) (P : Nat) (v u : Value) (t : TypeId) (h : w.heap[P]? = some (.cells #[v] t (0, 0))) (hF : ¬ F P (some t)) : Fr F w (w.setCell ⟨P, 0, none⟩ u) :=
  ⟨rfl, rfl, rfl, by rw [size_set1]; exact Nat.le_refl _, fun b o hb ho => by
    rw [heap_set_other _ _ _ _ (fun e => ?_)]
    · exact ho
    · subst e; rw [h] at ho; cases ho; exact hF hb⟩

theorem repl_end {B K P : Nat} {w W w6 : World} {v v' : Value} {n l h : Nat} {ps qs : List Nat} {bs cs : List (List Rg)} {n' : Nat}
    (hK : W.heap[K]? = some (.cells #[.pointer (some ⟨P, 0, none⟩)] 34 (0, 0))) (hP : W.heap[P]? = some (.cells #[v] 58 (0, 0))) (hBP : B ≤ P) (hv : W.ownsRow B 66 1 v n ((ps.map ptrV))) (hb : BlksAt W ps bs) (hq : BlksAt W qs cs) (hF : Fr (FK B K) w W)
    (hg : W.grownBy w6 v.ownBlock) (ho : w6.ownsRow B 66 1 v' n' ((ps.map ptrV).take l ++ qs.map ptrV ++ (ps.map ptrV).drop h)) :
    Fr (FK B K) w (w6.setCell ⟨P, 0, none⟩ v') ∧ Know B (w6.setCell ⟨P, 0, none⟩ v') K (bs.take l ++ cs ++ bs.drop h) := by
  have k1 : KT [66] W w6 := KT.grown hg hv
  have hP6 : w6.heap[P]? = some (.cells #[v] 58 (0, 0)) := k1 _ _ _ _ (by simp) hP
  have k2 : KT [58] w6 (w6.setCell ⟨P, 0, none⟩ v') := kt_set1 w6 P v v' 58 hP6
  have hPK : P ≠ K := fun e => by subst e; rw [hK] at hP; cases hP
  have f1 : Fr (FK B K) W w6 := Fr.of_grown hg (fun k o hk hko hf => by
    rcases hv.2 with ⟨rfl, _⟩ | ⟨g, cap, cur, rfl, h1, h2, _⟩
    · cases hk
    · cases hk
      rw [h2] at hko
      cases hko
      rcases hf.2 with h3 | h3
      · have : B ≤ g := h1
        have : g < B := h3
        omega
      · exact h3.2 rfl)
  have f2 : Fr (FK B K) w6 (w6.setCell ⟨P, 0, none⟩ v') := fr_set1 w6 P v v' 58 hP6 (fun hf => by
    rcases hf.2 with h1 | h1
    · omega
    · exact h1.1 rfl)
  refine ⟨(hF.trans f1).trans f2, some ⟨P, 0, none⟩, v', ps.take l ++ qs ++ ps.drop h, k2 _ _ _ _ (by simp) (k1 _ _ _ _ (by simp) hK), ?_, ?_, .inr ⟨P, rfl, hBP, heap_set1 w6 P v v' 58 hP6⟩⟩
  · have e : (ps.map ptrV).take l ++ qs.map ptrV ++ (ps.map ptrV).drop h = (ps.take l ++ qs ++ ps.drop h).map ptrV := by simp [List.map_take, List.map_drop]
    rw [e] at ho
    have en : n' = (bs.take l ++ cs ++ bs.drop h).length := by
      have := ho.1
      simp only [List.length_map, List.length_append, List.length_take, List.length_drop, Nat.mul_one] at this
      simp only [List.length_append, List.length_take, List.length_drop, ← hb.1, ← hq.1]
      omega
    rw [← en]
    exact ownsRow_kt ho k2 (by simp)
  · have hb6 := (hb.kt k1 (by simp) (by simp)).kt k2 (by simp) (by simp)
    have hq6 := (hq.kt k1 (by simp) (by simp)).kt k2 (by simp) (by simp)
    exact ((hb6.take l).append hq6).append (hb6.drop h)

theorem Fr.drewN {F : Nat → Option TypeId → Prop} {w w' : World} (h : Fr F w w') (n : Nat) : Fr F w (w'.drewN n) := h.trans (Fr.of_below ((Gr.refl w').drewN n).below)
theorem Know.drewN {B : Nat} {w : World} {K : Nat} {bs : List (List Rg)} (h : Know B w K bs) (n : Nat) : Know B (w.drewN n) K bs := h.below ((Gr.refl w).drewN n).below

/-- The call of slices.Replace and the store behind it, as region 11 of replace wants them. -/
theorem repl_call {B K P D : Nat} {w W : World} {aB a3 : Option Addr} {cB c3 l h M : Nat} {ps qs : List Nat} {bs cs : List (List Rg)}
    (hK : W.heap[K]? = some (.cells #[.pointer (some ⟨P, 0, none⟩)] 34 (0, 0))) (hP : W.heap[P]? = some (.cells #[.slice aB bs.length cB] 58 (0, 0))) (hBP : B ≤ P) (hv : W.ownsRow B 66 1 (.slice aB bs.length cB) bs.length (ps.map ptrV)) (hb : BlksAt W ps bs) (hq : BlksAt W qs cs)
    (hu : W.ownsRow D 66 1 (.slice a3 M c3) M (qs.map ptrV)) (hD : ∀ g, (Value.slice aB bs.length cB).ownBlock = some g → g < D) (hF : Fr (FK B K) w W) (hBW : B ≤ W.heap.size) (HR : ReplaceOK B (.slice aB bs.length cB) bs.length) (hM0 : 0 < M) (hlh : l ≤ h) (hh : h ≤ bs.length) (hM : bs.length + M ≤ 1000000000) (n : Nat) :
    Calls Try.prog 42 #[.slice aB bs.length cB, .int .i64 l, .int .i64 h, .slice a3 M c3] (W.drewN n) fun e w' => ∃ a4 n4 c4, e = .returned (.slice a4 n4 c4) ∧ w'.cell? ⟨K, 0, none⟩ = some (.pointer (some ⟨P, 0, none⟩)) ∧ w'.cell? ⟨P, 0, none⟩ = some (.slice aB bs.length cB) ∧ w'.frozen? ⟨P, 0, none⟩ = false ∧
      Hid (∀ q, Fr (FK B K) w ((w'.setCell ⟨P, 0, none⟩ (.slice a4 n4 c4)).drewN q) ∧ Know B ((w'.setCell ⟨P, 0, none⟩ (.slice a4 n4 c4)).drewN q) K (bs.take l ++ cs ++ bs.drop h)) := by
  have g := ((Gr.refl W).drewN n).below
  have k : KT [] W (W.drewN n) := KT.of_below g
  have hv' := ownsRow_kt hv k (by simp)
  have hK' : (W.drewN n).heap[K]? = some (.cells #[.pointer (some ⟨P, 0, none⟩)] 34 (0, 0)) := k _ _ _ _ (by simp) hK
  have hP' : (W.drewN n).heap[P]? = some (.cells #[.slice aB bs.length cB] 58 (0, 0)) := k _ _ _ _ (by simp) hP
  refine (HR (W.drewN n) (ps.map ptrV) _ M (qs.map ptrV) l h D (by have := g.size; omega) hv' (ownsRow_kt hu k (by simp)) hD (fun x hx => ?_) (fun x hx => ?_) hM0 hlh hh hM).mono ?_
  · obtain ⟨y, _, rfl⟩ := List.mem_map.1 hx; rfl
  · obtain ⟨y, _, rfl⟩ := List.mem_map.1 hx; rfl
  rintro e w' ⟨v', rfl, ho, hg⟩
  obtain ⟨a4, c4, rfl⟩ := own_form ho
  have k1 : KT [66] (W.drewN n) w' := KT.grown hg hv'
  have hK6 : w'.heap[K]? = some (.cells #[.pointer (some ⟨P, 0, none⟩)] 34 (0, 0)) := k1 _ _ _ _ (by simp) hK'
  have hP6 : w'.heap[P]? = some (.cells #[.slice aB bs.length cB] 58 (0, 0)) := k1 _ _ _ _ (by simp) hP'
  have he := repl_end (cs := cs) (l := l) (h := h) hK' hP' hBP hv' (hb.kt k (by simp) (by simp)) (hq.kt k (by simp) (by simp)) (hF.drewN n) hg ho
  exact ⟨a4, _, c4, rfl, by simp [World.cell?, hK6], by simp [World.cell?, hP6], by simp [World.frozen?, hP6], fun q => ⟨he.1.drewN q, he.2.drewN q⟩⟩

theorem back_ne {bs : List (List Rg)} {l lo : Nat} {r1 rs : List Rg} (h : l ≤ lo) (hf : (bs.take l).flatten ++ r1 = (bs.take lo).flatten ++ rs) (hrs : rs ≠ []) : r1 ≠ [] := fun e => by
  subst e
  have h1 := congrArg List.length hf
  simp only [List.length_append, List.length_nil] at h1
  have h2 : ((bs.take l).flatten).length ≤ ((bs.take lo).flatten).length := by
    rw [show l = min l lo from by omega, ← List.take_take]
    conv => rhs; rw [← List.take_append_drop l (bs.take lo)]
    rw [List.flatten_append, List.length_append]; omega
  have h3 : 0 < rs.length := List.length_pos_iff.2 hrs
  omega

set_option maxRecDepth 100000 in
set_option maxHeartbeats 1000000 in
theorem replace_any (B K : Nat) (bs : List (List Rg)) (lo hi : Nat) (v3 : Value) (rs : List Rg) (w : World) (hB : B ≤ w.heap.size) (hKB : B ≤ K) (hK : Know B w K bs) (hlo : lo ≤ hi) (hhi : hi ≤ bs.length) (hrs : rs ≠ []) (hbne : ∀ b ∈ bs, b ≠ []) (hbl : bs.length ≤ 100000000) (hbf : bs.flatten.length + rs.length ≤ 100000000)
    (h3 : w.ownsRow B 62 18 v3 rs.length (flatR rs)) (HC : bs = [] ∨ ConcatOK) (HR : ∀ v, (w.heap[K]? = some (.cells #[.pointer none] 34 (0, 0)) → v = .slice none 0 0) → ReplaceOK B v bs.length) :
    Calls Try.prog 27 #[.pointer (some ⟨K, 0, none⟩), .int .i64 lo, .int .i64 hi, v3] w fun e w' => e = .returned (.tuple #[]) ∧ Fr (FK B K) w w' ∧ ∃ lo' hi' rs', Rep bs lo hi rs lo' hi' rs' ∧ Know B w' K (bs.take lo' ++ chunks rs' ++ bs.drop hi') := by
  obtain ⟨a, c, rfl, hp, hc, hcm, hr⟩ := own_rdT h3
  obtain ⟨kc, v, ps, hK0, ho, hb, hH⟩ := hK
  have hKlt : K < w.heap.size := (Array.getElem?_eq_some_iff.1 hK0).1
  have hKc : w.cell? ⟨K, 0, none⟩ = some (.pointer kc) := by simp [World.cell?, hK0]
  have mixed : Try.prog.follows .mixedOrders = true := by kernel_rfl
  obtain ⟨k16, k17, k18, ⟨z22, z24, z27, z30, z53, z40, z62, n16, n17, n18⟩, HK⟩ := sz_ex
  clear z22 z24 z27 z30 z53 z40 n16 n17
  obtain ⟨aB, cB, hv⟩ : ∃ a c, v = .slice a bs.length c := by
    rcases ho.2 with ⟨rfl, h0⟩ | ⟨g, cap, cur, rfl, _⟩
    · exact ⟨none, 0, by rw [h0]⟩
    · exact ⟨_, _, rfl⟩
  subst hv
  have HH : Hid (w.heap[K]? = some (.cells #[.pointer kc] 34 (0, 0)) ∧ Held B w kc (.slice aB bs.length cB)) := ⟨hK0, hH⟩
  have CI : Hid (Calls Try.prog 22 #[.agg #[.pointer kc]] w fun e w' => e = .returned (.slice aB bs.length cB) ∧ Below w.heap.size w w') := inOrder_any B w kc _ hH
  have HO : Hid (w.ownsRow B 66 1 (.slice aB bs.length cB) bs.length (ps.map ptrV) ∧ BlksAt w ps bs) := ⟨ho, hb⟩
  have RH : Hid (RdT encR 18 62 w a rs ∧ Plain a c) := ⟨hr, hp⟩
  clear hr hp h3 hK0 hH ho hb
  have hflat : ∀ n, ((bs.take n).flatten).length + ((bs.drop n).flatten).length = bs.flatten.length := fun n => by
    conv => rhs; rw [← List.take_append_drop n bs]
    rw [List.flatten_append, List.length_append]
  have HBN : Hid (∀ b ∈ bs, b ≠ []) := hbne
  clear hbne
  have HFL : Hid (∀ n, ((bs.take n).flatten).length + ((bs.drop n).flatten).length = bs.flatten.length) := hflat
  have HBLK : Hid (∀ i (h : i < bs.length), bs[i].length ≤ 100000000) := fun i h => by
    have h1 := hflat i
    rw [List.drop_eq_getElem_cons h, List.flatten_cons, List.length_append] at h1
    omega
  clear hflat
  go_enter Try.func27, Try.ntmps27
  go_upto_block 0 with (go_at_call 22; refine CI.out.mono ?_; rintro e w1 ⟨rfl, hb1⟩)
  go_cut [1, 3] from 14 to 42 (fun lv rv wr => ∃ (l : Nat) (r1 : List Rg) (a : Option Addr) (c : Nat), lv = .int .i64 l ∧ rv = .slice a r1.length c ∧ l ≤ lo ∧ Hid ((bs.take l).flatten ++ r1 = (bs.take lo).flatten ++ rs) ∧ r1.length ≤ c ∧ c ≤ 9223372036854775807 ∧ Hid (RdT encR 18 62 wr a r1 ∧ Plain a c) ∧ Hid (Below w.heap.size w wr) ∧
      Hid (l = 0 ∨ 128 < (bs[l - 1]?.getD []).length + r1.length))
  case first =>
    go_wp2_with fail
    go_loopg [1, 3] lo (fun gk lv rv wr => ∃ (l : Nat) (r1 : List Rg) (a : Option Addr) (c : Nat), lv = .int .i64 l ∧ rv = .slice a r1.length c ∧ gk = l ∧ l ≤ lo ∧ Hid ((bs.take l).flatten ++ r1 = (bs.take lo).flatten ++ rs) ∧ r1.length ≤ c ∧ c ≤ 9223372036854775807 ∧ Hid (RdT encR 18 62 wr a r1 ∧ Plain a c) ∧ Hid (Below w.heap.size w wr))
    case atStart => exact ⟨lo, rs, a, c, rfl, rfl, rfl, Nat.le_refl _, rfl, hc, hcm, ⟨RH.out.1.kt (KT.of_below (T := []) hb1) (by simp), RH.out.2⟩, hb1⟩
    case round =>
      obtain ⟨l, r1, a1, c1, rfl, rfl, hgk, hll, HF, hc1, hcm1, HRd, HBel⟩ := hrel
      clear hc hcm
      have hlen : r1.length ≤ 100000000 := by
        have := congrArg List.length HF.out
        simp only [List.length_append] at this
        have h2 := HFL.out lo
        omega
      rcases Nat.eq_zero_or_pos l with h0 | h0
      · subst h0
        go_wp2_with fail
        go_meet
        case rel => exact ⟨0, r1, a1, c1, rfl, rfl, hll, HF, hc1, hcm1, HRd, HBel, .inl rfl⟩
      · obtain ⟨lp, rfl⟩ : ∃ lp, l = lp + 1 := ⟨l - 1, by omega⟩
        have hlpb : lp < bs.length := by omega
        obtain ⟨g, p, ap, rfl, hg1, hp1, cl1, cl2, hpl, hrd⟩ := blk_reads HO.out.1 HO.out.2 lp hlpb
        obtain ⟨L, hL⟩ : ∃ L, L = bs[lp].length := ⟨_, rfl⟩
        rw [← hL] at cl2 hpl
        have cl1' : wr.cell? ⟨g, lp, none⟩ = some (.pointer (some ⟨p, 0, none⟩)) := (HBel.out.cell (p := ⟨g, lp, none⟩) hg1).trans cl1
        have cl2' : wr.cell? ⟨p, 0, none⟩ = some (.slice ap L L) := (HBel.out.cell (p := ⟨p, 0, none⟩) hp1).trans cl2
        have hLb : L ≤ 100000000 := by rw [hL]; exact HBLK.out lp hlpb
        have HLL : Hid (L = bs[lp].length) := hL
        have HRB : Hid (RdT encR 18 62 w ap bs[lp] ∧ Plain ap L) := ⟨hrd, hpl⟩
        clear hL cl1 cl2 hrd hpl
        have ib : (lp : Int) < (bs.length : Int) := by omega
        have ib0 : (0 : Int) ≤ (lp : Int) := by omega
        by_cases hfit : L + r1.length ≤ 128
        · have hfit' : (L : Int) + (r1.length : Int) ≤ 128 := by omega
          have CC : Hid (ConcatOK) := by
            rcases HC with h | h
            · subst h; exact absurd hlpb (by simp)
            · exact h
          go_wp2_with (fail)
          have hW : Below wr.heap.size wr (wr.alloc (.cells #[.slice ap L L, .slice a1 r1.length c1] 63)) := (Below.refl _ _).alloc (Nat.le_refl _) _
          refine (CC.out _ wr.heap.size ap a1 L c1 bs[lp] r1 (by rw [← HLL.out]; exact heap_alloc_last _ _) ((HRB.out.1.kt (KT.of_below (T := []) HBel.out) (by simp)).kt (KT.of_below (T := []) hW) (by simp)) (HRd.out.1.kt (KT.of_below (T := []) hW) (by simp)) (HBN.out _ (List.getElem_mem hlpb)) (back_ne hll HF.out hrs) (by rw [← HLL.out]; omega)).mono ?_
          rintro e w2 ⟨v', rfl, ho2, hb2⟩
          rw [← List.length_append] at ho2
          obtain ⟨a2, c2, rfl, hp2, hc2, hcm2, hr2⟩ := own_rdT ho2
          have HR2 : Hid (RdT encR 18 62 w2 a2 (bs[lp] ++ r1) ∧ Plain a2 c2) := ⟨hr2, hp2⟩
          have HB2 : Hid (Below w.heap.size w w2) := HBel.out.trans ((hW.mono HBel.out.size).trans (hb2.mono (by have := HBel.out.size; simp; omega)))
          have HF2 : Hid ((bs.take lp).flatten ++ (bs[lp] ++ r1) = (bs.take lo).flatten ++ rs) := by
            show _ = _
            rw [← HF.out, List.take_add_one, List.getElem?_eq_getElem hlpb, Option.toList_some, List.flatten_append, List.append_assoc]
            simp
          clear hr2 hp2 ho2 hb2 hW HF HRd
          go_wp2
          go_roundg lp
          case measure => omega
          case rel => exact ⟨lp, bs[lp] ++ r1, a2, c2, rfl, by rw [List.length_append], rfl, by omega, HF2, hc2, hcm2, HR2, HB2⟩
        · have hfit' : ¬ ((L : Int) + (r1.length : Int) ≤ 128) := by omega
          go_wp2_with (fail)
          go_meet
          case rel =>
            refine ⟨lp + 1, r1, a1, c1, rfl, rfl, hll, HF, hc1, hcm1, HRd, HBel, .inr ?_⟩
            simp only [Nat.add_sub_cancel, List.getElem?_eq_getElem hlpb, Option.getD_some]
            rw [← HLL.out]; omega
  case rest =>
    obtain ⟨l, r1, a1, c1, rfl, rfl, hll, HF, hc1, hcm1, HRd, HBel, HX1⟩ := hcut
    clear hc hcm hb1
    have hl1 : r1.length + ((bs.take l).flatten).length = ((bs.take lo).flatten).length + rs.length := by
      have := congrArg List.length HF.out
      simp only [List.length_append] at this
      omega
    have hrspos : 0 < rs.length := List.length_pos_iff.2 hrs
    have hpos1 : 1 ≤ r1.length := by
      have h1 : ((bs.take l).flatten).length ≤ ((bs.take lo).flatten).length := by
        rw [show l = min l lo from by omega, ← List.take_take]
        conv => rhs; rw [← List.take_append_drop l (bs.take lo)]
        rw [List.flatten_append, List.length_append]; omega
      omega
    have hln1 : r1.length + ((bs.drop hi).flatten).length ≤ 100000000 := by
      have h1 := HFL.out lo
      have h2 : ((bs.drop hi).flatten).length ≤ ((bs.drop lo).flatten).length := by
        rw [show hi = lo + (hi - lo) from by omega, ← List.drop_drop]
        conv => rhs; rw [← List.take_append_drop (hi - lo) (bs.drop lo)]
        rw [List.flatten_append, List.length_append]; omega
      omega
    clear hl1
    go_upto_block 2 with fail
    go_cut [2, 3] from 43 to 75 (fun hv rv wr => ∃ (h : Nat) (r2 : List Rg) (a : Option Addr) (c : Nat), hv = .int .i64 h ∧ rv = .slice a r2.length c ∧ hi ≤ h ∧ h ≤ bs.length ∧ Hid (r2 ++ (bs.drop h).flatten = r1 ++ (bs.drop hi).flatten) ∧ r1.length ≤ r2.length ∧ r2.length ≤ c ∧ c ≤ 9223372036854775807 ∧ Hid (RdT encR 18 62 wr a r2 ∧ Plain a c) ∧ Hid (Below w.heap.size w wr) ∧
        Hid (h = bs.length ∨ 128 < (r2.length - 1) % 128 + 1 + (bs[h]?.getD []).length))
    case first =>
      go_wp2_with fail
      go_loopg [2, 3] (bs.length - hi) (fun gk hv rv wr => ∃ (h : Nat) (r2 : List Rg) (a : Option Addr) (c : Nat), hv = .int .i64 h ∧ rv = .slice a r2.length c ∧ gk = bs.length - h ∧ hi ≤ h ∧ h ≤ bs.length ∧ Hid (r2 ++ (bs.drop h).flatten = r1 ++ (bs.drop hi).flatten) ∧ r1.length ≤ r2.length ∧ r2.length ≤ c ∧ c ≤ 9223372036854775807 ∧ Hid (RdT encR 18 62 wr a r2 ∧ Plain a c) ∧ Hid (Below w.heap.size w wr))
      case atStart => exact ⟨hi, r1, a1, c1, rfl, rfl, rfl, Nat.le_refl _, hhi, rfl, Nat.le_refl _, hc1, hcm1, HRd, HBel⟩
      case round =>
        clear HRd HBel hc1 hcm1
        obtain ⟨h, r2, a1, c1, rfl, rfl, hgk, hhl, hhb, HF2, h12, hc1, hcm1, HRd, HBel⟩ := hrel
        have hlen : r2.length ≤ 100000000 := by
          have := congrArg List.length HF2.out
          simp only [List.length_append] at this
          omega
        rcases Nat.eq_or_lt_of_le hhb with h0 | h0
        · have ib : ¬ ((h : Int) < (bs.length : Int)) := by omega
          have H0 : Hid (h = bs.length) := h0
          clear h0
          go_wp2_with fail
          go_meet
          case rel => exact ⟨h, r2, a1, c1, rfl, rfl, hhl, hhb, HF2, h12, hc1, hcm1, HRd, HBel, .inl H0.out⟩
        · obtain ⟨g, p, ap, rfl, hg1, hp1, cl1, cl2, hpl, hrd⟩ := blk_reads HO.out.1 HO.out.2 h h0
          obtain ⟨L, hL⟩ : ∃ L, L = bs[h].length := ⟨_, rfl⟩
          rw [← hL] at cl2 hpl
          have cl1' : wr.cell? ⟨g, h, none⟩ = some (.pointer (some ⟨p, 0, none⟩)) := (HBel.out.cell (p := ⟨g, h, none⟩) hg1).trans cl1
          have cl2' : wr.cell? ⟨p, 0, none⟩ = some (.slice ap L L) := (HBel.out.cell (p := ⟨p, 0, none⟩) hp1).trans cl2
          have hLb : L ≤ 100000000 := by rw [hL]; exact HBLK.out h h0
          have HLL : Hid (L = bs[h].length) := hL
          have HRB : Hid (RdT encR 18 62 w ap bs[h] ∧ Plain ap L) := ⟨hrd, hpl⟩
          clear hL cl1 cl2 hrd hpl
          have ib : (h : Int) < (bs.length : Int) := by omega
          have ib0 : (0 : Int) ≤ (h : Int) := by omega
          obtain ⟨m, hm⟩ : ∃ m, r2.length = m + 1 := ⟨r2.length - 1, by omega⟩
          have htm : Int.tmod ((r2.length : Int) - 1) 128 = ((m % 128 : Nat) : Int) := by
            rw [hm]; simp only [Int.natCast_add, Int.natCast_one, Int.add_sub_cancel]
            rw [Int.tmod_eq_emod_of_nonneg (by omega)]; omega
          have HM : Hid (r2.length = m + 1) := hm
          clear hm
          by_cases hfit : m % 128 + 1 + L ≤ 128
          · have CC : Hid (ConcatOK) := by
              rcases HC with h | h
              · subst h; exact absurd h0 (by simp)
              · exact h
            go_wp2_with (fail)
            have hW : Below wr.heap.size wr (wr.alloc (.cells #[.slice a1 r2.length c1, .slice ap L L] 63)) := (Below.refl _ _).alloc (Nat.le_refl _) _
            refine (CC.out _ wr.heap.size a1 ap c1 L r2 bs[h] (by rw [← HLL.out]; exact heap_alloc_last _ _) (HRd.out.1.kt (KT.of_below (T := []) hW) (by simp)) ((HRB.out.1.kt (KT.of_below (T := []) HBel.out) (by simp)).kt (KT.of_below (T := []) hW) (by simp)) (List.length_pos_iff.1 (by omega)) (HBN.out _ (List.getElem_mem h0)) (by rw [← HLL.out]; omega)).mono ?_
            rintro e w2 ⟨v', rfl, ho2, hb2⟩
            rw [← List.length_append] at ho2
            obtain ⟨a2, c2, rfl, hp2, hc2, hcm2, hr2⟩ := own_rdT ho2
            have HR2 : Hid (RdT encR 18 62 w2 a2 (r2 ++ bs[h]) ∧ Plain a2 c2) := ⟨hr2, hp2⟩
            have HB2 : Hid (Below w.heap.size w w2) := HBel.out.trans ((hW.mono HBel.out.size).trans (hb2.mono (by have := HBel.out.size; simp; omega)))
            have HF3 : Hid ((r2 ++ bs[h]) ++ (bs.drop (h + 1)).flatten = r1 ++ (bs.drop hi).flatten) := by
              show _ = _
              rw [← HF2.out, List.drop_eq_getElem_cons h0, List.flatten_cons, List.append_assoc]
            have h12' : r1.length ≤ (r2 ++ bs[h]).length := by simp; omega
            clear hr2 hp2 ho2 hb2 hW HF2 HRd
            go_wp2
            go_roundg (bs.length - (h + 1))
            case measure => omega
            case rel => exact ⟨h + 1, r2 ++ bs[h], a2, c2, rfl, by rw [List.length_append], rfl, by omega, by omega, HF3, h12', hc2, hcm2, HR2, HB2⟩
          · go_wp2_with (fail)
            go_meet
            case rel =>
              refine ⟨h, r2, a1, c1, rfl, rfl, hhl, hhb, HF2, h12, hc1, hcm1, HRd, HBel, .inr ?_⟩
              rw [List.getElem?_eq_getElem h0, Option.getD_some, ← HLL.out, HM.out]
              simp only [Nat.add_sub_cancel]
              omega
    case rest =>
      clear HRd HBel hc1 hcm1
      obtain ⟨h, r2, a1, c1, rfl, rfl, hhl, hhb, HF2, h12, hc1, hcm1, HRd, HBel, HX2⟩ := hcut
      have hlen : r2.length ≤ 100000000 := by
        have := congrArg List.length HF2.out
        simp only [List.length_append] at this
        omega
      have hREP : Rep bs lo hi rs l h r2 := ⟨hll, hhl, hhb, ⟨r1, HF.out, HF2.out, h12, HX1.out⟩, HX2.out⟩
      have HREP : Hid (Rep bs lo hi rs l h r2) := hREP
      have hr2pos : r2 ≠ [] := List.length_pos_iff.1 (by omega)
      have HNE : Hid (r2 ≠ []) := hr2pos
      have CB : Hid (Calls Try.prog 41 #[.slice a1 r2.length c1] wc fun e w' => ∃ v' ps, e = .returned v' ∧ w'.ownsRow wc.heap.size 66 1 v' (chunks r2).length (ps.map ptrV) ∧ BlksAt w' ps (chunks r2) ∧ (∀ p ∈ ps, wc.heap.size ≤ p) ∧ Below wc.heap.size wc w') := blocksOf_any a1 c1 r2 wc HRd.out.2 hc1 hcm1 (by omega) HRd.out.1
      have hchl : (chunks r2).length ≤ r2.length := chunks_le r2
      have hchp : 0 < (chunks r2).length := by
        cases r2 with
        | nil => exact absurd rfl hr2pos
        | cons x y => rw [chunks_cons]; simp
      clear hr2pos
      have hHeld := HH.out.2
      rcases hHeld with ⟨rfl, hv⟩ | ⟨P, rfl, hBP, hP⟩
      · have HV : Hid (Value.slice aB bs.length cB = .slice none 0 0) := hv
        clear hv
        go_wp2_with fail
        refine CB.out.mono ?_
        rintro e w3 ⟨v3, qs, rfl, ho3, hbk3, _, hb3⟩
        obtain ⟨a3, c3, rfl⟩ := own_form ho3
        obtain ⟨M, hM⟩ : ∃ M, M = (chunks r2).length := ⟨_, rfl⟩
        rw [← hM] at ho3 hchl hchp ⊢
        have HM : Hid (M = (chunks r2).length) := hM
        clear hM
        have HB3 : Hid (Below w.heap.size w w3 ∧ w.heap.size ≤ wc.heap.size) := ⟨HBel.out.trans (hb3.mono HBel.out.size), HBel.out.size⟩
        have HO3 : Hid (w3.ownsRow wc.heap.size 66 1 (.slice a3 M c3) M (qs.map ptrV) ∧ BlksAt w3 qs (chunks r2)) := ⟨ho3, hbk3⟩
        have hKc3 : w3.cell? ⟨K, 0, none⟩ = some (.pointer none) := (HB3.out.1.cell (p := ⟨K, 0, none⟩) hKlt).trans hKc
        have hK3 : w3.heap[K]? = some (.cells #[.pointer none] 34 (0, 0)) := (HB3.out.1.block K hKlt).trans HH.out.1
        have hKlt3 : K < w3.heap.size := (Array.getElem?_eq_some_iff.1 hK3).1
        have HK3 : Hid (w3.heap[K]? = some (.cells #[.pointer none] 34 (0, 0))) := hK3
        have hKf3 : w3.frozen? ⟨K, 0, none⟩ = false := by simp [World.frozen?, hK3]
        have hfa : ∀ o, (w3.alloc o).frozen? ⟨K, 0, none⟩ = false := fun o => by rw [World.frozen?_of_block ((Below.refl w3.heap.size w3).alloc (Nat.le_refl _) o |>.block K hKlt3)]; exact hKf3
        have hca : ∀ o, (w3.alloc o).cell? ⟨K, 0, none⟩ = some (.pointer none) := fun o => by rw [World.cell?_alloc_past _ _ _ (by omega)]; exact hKc3
        clear hK3
        clear ho3 hbk3 hb3 CB
        go_upto_region 11 with fail
        have hB3 : B ≤ w3.heap.size := by have := HB3.out.1.size; omega
        have HRO : ReplaceOK B (.slice aB bs.length cB) bs.length := HR _ (fun _ => HV.out)
        obtain ⟨P, hPe⟩ : ∃ P, P = w3.heap.size := ⟨_, rfl⟩
        rw [← hPe]
        obtain ⟨W, hW⟩ : ∃ W, W = (w3.setCell ⟨K, 0, none⟩ (.pointer (some ⟨P, 0, none⟩))).alloc (.cells #[.slice none 0 0] 58) := ⟨_, rfl⟩
        rw [← hW]
        have ks : KT [34] w3 W := by rw [hW]; exact (kt_set1 w3 K _ _ 34 HK3.out).trans (KT.of_below ((Below.refl _ _).alloc (Nat.le_refl _) _))
        have hsz : (w3.setCell ⟨K, 0, none⟩ (.pointer (some ⟨P, 0, none⟩))).heap.size = w3.heap.size := size_set1 _ _ _
        have hWK : W.heap[K]? = some (.cells #[.pointer (some ⟨P, 0, none⟩)] 34 (0, 0)) := by
          rw [hW, ((Below.refl w3.heap.size _).alloc (by rw [hsz]; exact Nat.le_refl _) _).block K hKlt3]
          exact heap_set1 w3 K _ _ 34 HK3.out
        have hWP : W.heap[P]? = some (.cells #[.slice aB bs.length cB] 58 (0, 0)) := by rw [hW, HV.out]; exact heap_alloc_at _ _ _ (by rw [hsz, hPe])
        have hFW : Fr (FK B K) w W := (Fr.of_below HB3.out.1).trans (by
          rw [hW]
          exact (fr_set1 w3 K _ _ 34 HK3.out (fun hf => hf.1 rfl)).trans (Fr.of_below ((Below.refl _ _).alloc (Nat.le_refl _) _)))
        have k0 : KT [34] w W := (KT.of_below HB3.out.1).trans ks
        have hWs : w3.heap.size ≤ W.heap.size := by rw [hW]; simp only [World.size_alloc, hsz]; omega
        have CR : Hid (∀ n, Calls Try.prog 42 #[.slice aB bs.length cB, .int .i64 l, .int .i64 h, .slice a3 M c3] (W.drewN n) fun e w' => ∃ a4 n4 c4, e = .returned (.slice a4 n4 c4) ∧ w'.cell? ⟨K, 0, none⟩ = some (.pointer (some ⟨P, 0, none⟩)) ∧ w'.cell? ⟨P, 0, none⟩ = some (.slice aB bs.length cB) ∧ w'.frozen? ⟨P, 0, none⟩ = false ∧
            Hid (∀ q, Fr (FK B K) w ((w'.setCell ⟨P, 0, none⟩ (.slice a4 n4 c4)).drewN q) ∧ Know B ((w'.setCell ⟨P, 0, none⟩ (.slice a4 n4 c4)).drewN q) K (bs.take l ++ chunks r2 ++ bs.drop h))) := fun n =>
          repl_call hWK hWP (by omega) (ownsRow_kt HO.out.1 k0 (by simp)) (HO.out.2.kt k0 (by simp) (by simp)) (HO3.out.2.kt ks (by simp) (by simp)) (ownsRow_kt HO3.out.1 ks (by simp)) (fun g hg => by have := (HO.out.1.lt g hg).2; have := HB3.out.2; omega) hFW (by omega) HRO hchp (by omega) hhb (by omega) n
        have HWK : Hid (W.heap[K]? = some (.cells #[.pointer (some ⟨P, 0, none⟩)] 34 (0, 0))) := hWK
        clear hW hWK hWP hFW k0 hWs ks hsz hPe hKc3 hfa hca
        have hcK : W.cell? ⟨K, 0, none⟩ = some (.pointer (some ⟨P, 0, none⟩)) := by simp [World.cell?, HWK.out]
        clear HB3 HO3 hKf3 HK3 hKlt3
        go_region_with (go_at_call 42; refine (CR.out _).mono ?_; rintro e w6 ⟨a4, n4, c4, rfl, hc1, hc2, hc3, HFIN⟩)
        all_goals go_end0
        all_goals exact ⟨rfl, (HFIN.out 0).1, l, h, r2, HREP.out, (HFIN.out 0).2⟩
      · have HP : Hid (B ≤ P ∧ w.heap[P]? = some (.cells #[.slice aB bs.length cB] 58 (0, 0))) := ⟨hBP, hP⟩
        clear hBP hP
        go_wp2_with fail
        refine CB.out.mono ?_
        rintro e w3 ⟨v3, qs, rfl, ho3, hbk3, _, hb3⟩
        obtain ⟨a3, c3, rfl⟩ := own_form ho3
        obtain ⟨M, hM⟩ : ∃ M, M = (chunks r2).length := ⟨_, rfl⟩
        rw [← hM] at ho3 hchl hchp ⊢
        have HM : Hid (M = (chunks r2).length) := hM
        clear hM
        have HB3 : Hid (Below w.heap.size w w3 ∧ w.heap.size ≤ wc.heap.size) := ⟨HBel.out.trans (hb3.mono HBel.out.size), HBel.out.size⟩
        have HO3 : Hid (w3.ownsRow wc.heap.size 66 1 (.slice a3 M c3) M (qs.map ptrV) ∧ BlksAt w3 qs (chunks r2)) := ⟨ho3, hbk3⟩
        have hKc3 : w3.cell? ⟨K, 0, none⟩ = some (.pointer (some ⟨P, 0, none⟩)) := (HB3.out.1.cell (p := ⟨K, 0, none⟩) hKlt).trans hKc
        have hK3 : w3.heap[K]? = some (.cells #[.pointer (some ⟨P, 0, none⟩)] 34 (0, 0)) := (HB3.out.1.block K hKlt).trans HH.out.1
        have hKlt3 : K < w3.heap.size := (Array.getElem?_eq_some_iff.1 hK3).1
        have HK3 : Hid (w3.heap[K]? = some (.cells #[.pointer (some ⟨P, 0, none⟩)] 34 (0, 0))) := hK3
        have hKf3 : w3.frozen? ⟨K, 0, none⟩ = false := by simp [World.frozen?, hK3]
        clear hK3
        clear ho3 hbk3 hb3 CB
        go_upto_region 11 with fail
        have hB3 : B ≤ w3.heap.size := by have := HB3.out.1.size; omega
        have HRO : ReplaceOK B (.slice aB bs.length cB) bs.length := HR _ (fun hbs => by
          have ho := HH.out.1
          rw [hbs] at ho
          cases ho)
        obtain ⟨W, hW⟩ : ∃ W, W = w3 := ⟨_, rfl⟩
        rw [← hW]
        rw [← hW] at HB3 HO3 HK3 hB3
        have hWP : W.heap[P]? = some (.cells #[.slice aB bs.length cB] 58 (0, 0)) := (HB3.out.1.block P (Array.getElem?_eq_some_iff.1 HP.out.2).1).trans HP.out.2
        have k0 : KT [34] w W := KT.of_below HB3.out.1
        have CR : Hid (∀ n, Calls Try.prog 42 #[.slice aB bs.length cB, .int .i64 l, .int .i64 h, .slice a3 M c3] (W.drewN n) fun e w' => ∃ a4 n4 c4, e = .returned (.slice a4 n4 c4) ∧ w'.cell? ⟨K, 0, none⟩ = some (.pointer (some ⟨P, 0, none⟩)) ∧ w'.cell? ⟨P, 0, none⟩ = some (.slice aB bs.length cB) ∧ w'.frozen? ⟨P, 0, none⟩ = false ∧
            Hid (∀ q, Fr (FK B K) w ((w'.setCell ⟨P, 0, none⟩ (.slice a4 n4 c4)).drewN q) ∧ Know B ((w'.setCell ⟨P, 0, none⟩ (.slice a4 n4 c4)).drewN q) K (bs.take l ++ chunks r2 ++ bs.drop h))) := fun n =>
          repl_call HK3.out hWP HP.out.1 (ownsRow_kt HO.out.1 k0 (by simp)) (HO.out.2.kt k0 (by simp) (by simp)) HO3.out.2 HO3.out.1 (fun g hg => by have := (HO.out.1.lt g hg).2; have := HB3.out.2; omega) (Fr.of_below HB3.out.1) (by omega) HRO hchp (by omega) hhb (by omega) n
        have HWK : Hid (W.heap[K]? = some (.cells #[.pointer (some ⟨P, 0, none⟩)] 34 (0, 0))) := HK3
        clear hW hWP k0 hKc3
        have hcK : W.cell? ⟨K, 0, none⟩ = some (.pointer (some ⟨P, 0, none⟩)) := by simp [World.cell?, HWK.out]
        clear HB3 HO3 hKf3 HK3 hKlt3
        go_region_with (go_at_call 42; refine (CR.out _).mono ?_; rintro e w6 ⟨a4, n4, c4, rfl, hc1, hc2, hc3, HFIN⟩)
        all_goals go_end0
        all_goals exact ⟨rfl, (HFIN.out 0).1, l, h, r2, HREP.out, (HFIN.out 0).2⟩
end Go.Proofs.Qxb6615018a
