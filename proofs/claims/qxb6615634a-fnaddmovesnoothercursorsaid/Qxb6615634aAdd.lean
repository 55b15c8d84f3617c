/-
  DERIVED. Add.
-/
import Derived.Test.Qxb6615634aHeld
namespace Go.Proofs.Qxb6615634a
open Go.RowKit Go.Sort

/-- What stand, at one log among those held, leaves of all. -/
theorem held_stood {w w' : World} {hb lm : Nat} {G1 G2 : List (ByteArray × Lg)} {m : ByteArray} {L : Lg} {id : Id} {n : UInt64} {lo hi : Nat} (h : HeldAt w hb lm (G1 ++ (m, L) :: G2)) (hlo : lo ≤ hb ∧ hb < hi) (hlm : lo ≤ lm ∧ lm < hi) (hf : ∀ g ∈ G1 ++ (m, L) :: G2, ∀ b, g.2.foot b → lo ≤ b ∧ b < hi) (hhi : hi ≤ w.heap.size) (hs : Stood w L id n w') :
    ∃ s', s'.Perm (upd (ab L.S) id n) ∧ HeldT w' hb (G1.map (fun g => (g.1, ab g.2.S)) ++ (m, s') :: G2.map (fun g => (g.1, ab g.2.S))) lo w'.heap.size ∧ Only (fun b => lo ≤ b ∧ b < hi) w w' := by
  obtain ⟨L', e1, e2, e3, hL', hp, ho, hfo⟩ := hs
  have hmem : (m, L) ∈ G1 ++ (m, L) :: G2 := by simp
  have hlog := h.logs _ hmem
  have hsz := ho.size
  have hfL : ∀ b, L.foot b → lo ≤ b ∧ b < hi := fun b hb' => hf _ hmem b hb'
  have hfL' : ∀ b, L'.foot b → lo ≤ b ∧ b < w'.heap.size := fun b hb' => by
    refine ⟨?_, hL'.lt b hb'⟩
    rcases hfo b hb' with h1 | h1
    · exact (hfL b h1).1
    · omega
  have hother : ∀ g, g ∈ G1 ∨ g ∈ G2 → ∀ x, g.2.foot x → ¬ L.foot x := fun g hg x hx hL => by
    have hd := List.pairwise_append.1 h.dj
    rcases hg with hg | hg
    · exact hd.2.2 g hg (m, L) (by simp) x hx hL
    · exact (List.pairwise_cons.1 hd.2.1).1 g hg x hL hx
  have hin : ∀ g, g ∈ G1 ∨ g ∈ G2 → g ∈ G1 ++ (m, L) :: G2 := fun g hg => by
    rcases hg with hg | hg
    · exact List.mem_append_left _ hg
    · exact List.mem_append_right _ (List.mem_cons_of_mem _ hg)
  have hkeep : ∀ b, b < hi → ¬ L.foot b → w'.heap[b]? = w.heap[b]? := fun b hb' hn => ho.block b (by omega) hn
  have hfar := h.far _ hmem
  obtain ⟨x, hx⟩ := h.blk
  have hmemG : ∀ g, g ∈ G1 ++ (m, L') :: G2 → (g ∈ G1 ∨ g ∈ G2) ∨ g = (m, L') := fun g hg => by
    rcases List.mem_append.1 hg with hg | hg
    · exact .inl (.inl hg)
    · rcases List.mem_cons.1 hg with hg | hg
      · exact .inr hg
      · exact .inl (.inr hg)
  refine ⟨ab L'.S, hp, ⟨lm, G1 ++ (m, L') :: G2, ⟨⟨x, ?_⟩, ?_, fun g hg => ?_, ?_, ?_, fun g hg => ?_⟩, by simp, ⟨hlo.1, by omega⟩, ⟨hlm.1, by omega⟩, fun g hg b hb' => ?_⟩, ?_⟩
  · rw [hkeep hb hlo.2 hfar.1]; exact hx
  · have e : (G1 ++ (m, L') :: G2).map lptr = (G1 ++ (m, L) :: G2).map lptr := by simp [lptr, e1]
    rw [e]
    exact h.map.block (hkeep lm hlm.2 hfar.2)
  · rcases hmemG g hg with hg | rfl
    · exact (h.logs g (hin g hg)).kept (fun b hb' => hkeep b (hf g (hin g hg) b hb').2 (hother g hg b hb'))
    · exact hL'
  · have := h.nd
    simpa using this
  · have hd := List.pairwise_append.1 h.dj
    have hd2 := List.pairwise_cons.1 hd.2.1
    refine List.pairwise_append.2 ⟨hd.1, List.pairwise_cons.2 ⟨fun g hg y hy hy' => ?_, hd2.2⟩, fun g hg g' hg' y hy hy' => ?_⟩
    · rcases hfo y hy with h1 | h1
      · exact hd2.1 g hg y h1 hy'
      · have := (hf g (hin g (.inr hg)) y hy').2; omega
    · rcases List.mem_cons.1 hg' with rfl | hg'
      · rcases hfo y hy' with h1 | h1
        · exact hd.2.2 g hg (m, L) (by simp) y hy h1
        · have := (hf g (hin g (.inl hg)) y hy).2; omega
      · exact hd.2.2 g hg g' (by simp [hg']) y hy hy'
  · rcases hmemG g hg with hg | rfl
    · exact h.far g (hin g hg)
    · refine ⟨fun hh => ?_, fun hh => ?_⟩
      · rcases hfo hb hh with h1 | h1
        · exact hfar.1 h1
        · omega
      · rcases hfo lm hh with h1 | h1
        · exact hfar.2 h1
        · omega
  · rcases hmemG g hg with hg | rfl
    · have := hf g (hin g hg) b hb'; exact ⟨this.1, by omega⟩
    · exact hfL' b hb'
  · exact ho.mono (fun b _ hb' => hfL b hb')

theorem Only.dr {Ch : Nat → Prop} {w w' w'' : World} (h : Only Ch w w') (e : w''.heap = w'.heap) (e1 : w''.os = w'.os) (e2 : w''.tape = w'.tape) (e3 : w''.output = w'.output) : Only Ch w w'' :=
  ⟨e1.trans h.os, e2.trans h.tape, e3.trans h.output, by rw [e]; exact h.size, fun b hb hn => by rw [e]; exact h.block b hb hn⟩

set_option maxRecDepth 100000 in
set_option maxHeartbeats 1000000 in
/-- Add, a log of the member is held. -/
theorem add_hit (x : Hd) (hb lm : Nat) (G1 G2 : List (ByteArray × Lg)) (L : Lg) (lo hi : Nat) (w : World) (h : HeldAt w hb lm (G1 ++ (x.mem, L) :: G2)) (hlo : lo ≤ hb ∧ hb < hi) (hlm : lo ≤ lm ∧ lm < hi) (hf : ∀ g ∈ G1 ++ (x.mem, L) :: G2, ∀ b, g.2.foot b → lo ≤ b ∧ b < hi) (hhi : hi ≤ w.heap.size) (hL : L.S.length ≤ 100000) :
    Calls Try.prog 22 #[.pointer (some ⟨hb, 0, none⟩), .agg (encH x).toArray] w fun e w' => e = .returned (.tuple #[]) ∧ ∃ s', s'.Perm (upd (ab L.S) x.rev x.num) ∧ HeldT w' hb (G1.map (fun g => (g.1, ab g.2.S)) ++ (x.mem, s') :: G2.map (fun g => (g.1, ab g.2.S))) lo w'.heap.size ∧ Only (fun b => lo ≤ b ∧ b < hi) w w' := by
  obtain ⟨k32, k66, ⟨z22, z27, z38, z55, n32, n66⟩, HK⟩ := sz_ex
  clear z22 z38 n66
  have mixed : Try.prog.follows .mixedOrders = true := by kernel_rfl
  obtain ⟨w1, hw1⟩ : ∃ w1, w1 = w.alloc (.cells (encH x).toArray 55) := ⟨_, rfl⟩
  have hb1 : Below w.heap.size w w1 := by rw [hw1]; exact (Below.refl _ _).alloc (Nat.le_refl _) _
  have hbx : w1.heap[w.heap.size]? = some (.cells (encH x).toArray 55 (0, 0)) := by rw [hw1]; exact heap_alloc_last _ _
  have h1 : HeldAt w1 hb lm (G1 ++ (x.mem, L) :: G2) := by
    obtain ⟨y, hy⟩ := h.blk
    exact ⟨⟨y, (hb1.block hb (by omega)).trans hy⟩, h.map.block (hb1.block lm (by omega)), fun g hg => (h.logs g hg).kept (fun b hf' => hb1.block b (by have := hf g hg b hf'; omega)), h.nd, h.dj, h.far⟩
  obtain ⟨y, hy⟩ := h1.blk
  have cL : w1.cell? ⟨hb, 1, none⟩ = some (.map (some lm)) := by simp [World.cell?, hy]
  have cM : w1.cell? ⟨w.heap.size, 32, none⟩ = some (.string x.mem) := by simpa [World.cell?, hbx] using encH_32 x
  have cN : w1.cell? ⟨w.heap.size, 33, none⟩ = some (.int .u64 (x.num.toNat : Int)) := by simpa [World.cell?, hbx] using encH_33 x
  have hk1 : ∀ q, HeldAt (w1.drewN q) hb lm (G1 ++ (x.mem, L) :: G2) := fun q => ⟨h1.blk, h1.map.block rfl, fun g hg => (h1.logs g hg).kept (fun _ _ => rfl), h1.nd, h1.dj, h1.far⟩
  have lk : ∀ q, Sem.run Try.prog (Instr.lookup 64 (.map (some lm)) (.string x.mem) false) (w1.drewN q) = .ok (.pointer (some ⟨L.lb, 0, none⟩)) (w1.drewN q) := fun q => ((hk1 q).look x.mem).1 L (by simp)
  have ldR : ∀ q, Sem.run Try.prog (loadCellsFrom ⟨w.heap.size, 34, none⟩ 0 k32 #[]) (w1.drewN q) = .ok (encI x.rev).toArray (w1.drewN q) := fun q => ld_block (w1.drewN q) w.heap.size 34 (encH x).toArray 55 (0, 0) (encI x.rev) k32 hbx (by rw [encI_length, HK.out.1]) (encH_rev x)
  have CS : Hid (∀ q, Calls Try.prog 30 #[.pointer (some ⟨L.lb, 0, none⟩), .agg (encI x.rev).toArray, .int .u64 (x.num.toNat : Int)] (w1.drewN q) fun e w' => e = .returned (.tuple #[]) ∧ ∃ s', s'.Perm (upd (ab L.S) x.rev x.num) ∧ HeldT w' hb (G1.map (fun g => (g.1, ab g.2.S)) ++ (x.mem, s') :: G2.map (fun g => (g.1, ab g.2.S))) lo w'.heap.size ∧ Only (fun b => lo ≤ b ∧ b < hi) w w') := fun q => by
    refine (stand_any L x.rev x.num (w1.drewN q) ((hk1 q).logs (x.mem, L) (by simp)) hL).mono ?_
    rintro e w' ⟨rfl, hs⟩
    obtain ⟨s', r1, r2, r3⟩ := held_stood (hk1 q) hlo hlm hf (show hi ≤ w1.heap.size by have := hb1.size; omega) hs
    have o1 : Only (fun b => lo ≤ b ∧ b < hi) w (w1.drewN q) := (Only.below hb1).drewN q
    exact ⟨rfl, s', r1, r2, o1.trans r3⟩
  clear h h1 hy hk1 hbx hb1 hf
  go_enter Try.func22, Try.ntmps22
  go_upto_region 1 with fail
  rw [← hw1]
  clear hw1
  go_quiet (fail)
  have CSq := CS.out nq
  have ldq := ldR nq
  have HCS : Hid (∀ W, W = w1.drewN nq → Calls Try.prog 30 #[.pointer (some ⟨L.lb, 0, none⟩), .agg (encI x.rev).toArray, .int .u64 (x.num.toNat : Int)] W fun e w' => e = .returned (.tuple #[]) ∧ ∃ s', s'.Perm (upd (ab L.S) x.rev x.num) ∧ HeldT w' hb (G1.map (fun g => (g.1, ab g.2.S)) ++ (x.mem, s') :: G2.map (fun g => (g.1, ab g.2.S))) lo w'.heap.size ∧ Only (fun b => lo ≤ b ∧ b < hi) w w') := fun W hW => by rw [hW]; exact CSq
  obtain ⟨wx, hwx⟩ : ∃ wx, wx = w1.drewN nq := ⟨_, rfl⟩
  have HCX := HCS.out wx hwx
  rw [← hwx] at ldq ⊢
  have cNx : wx.cell? ⟨w.heap.size, 33, none⟩ = some (.int .u64 (x.num.toNat : Int)) := by rw [hwx]; exact cN
  have HC2 : Hid (Calls Try.prog 30 #[.pointer (some ⟨L.lb, 0, none⟩), .agg (encI x.rev).toArray, .int .u64 (x.num.toNat : Int)] wx fun e w' => e = .returned (.tuple #[]) ∧ ∃ s', s'.Perm (upd (ab L.S) x.rev x.num) ∧ HeldT w' hb (G1.map (fun g => (g.1, ab g.2.S)) ++ (x.mem, s') :: G2.map (fun g => (g.1, ab g.2.S))) lo w'.heap.size ∧ Only (fun b => lo ≤ b ∧ b < hi) w w') := HCX
  clear hwx HCX HCS CSq CS ldR lk cL cM cN
  go_wp2_with fail
  refine HC2.out.mono ?_
  rintro e w3 ⟨rfl, hres⟩
  have HF : Hid (∃ s', s'.Perm (upd (ab L.S) x.rev x.num) ∧ HeldT w3 hb (G1.map (fun g => (g.1, ab g.2.S)) ++ (x.mem, s') :: G2.map (fun g => (g.1, ab g.2.S))) lo w3.heap.size ∧ Only (fun b => lo ≤ b ∧ b < hi) w w3) := hres
  clear hres HC2
  go_wp2
  go_end0
  exact ⟨rfl, HF.out⟩
theorem make_map (t : TypeId) (w : World) : (Instr.makeMap t none).run Try.prog w = .ok (.map (some w.heap.size)) (w.alloc (.map #[] 0)) := rfl

/-- A new log among those held. -/
theorem held_new {w W2 W3 : World} {hb lm p0 : Nat} {G : List (ByteArray × Lg)} {m : ByteArray} {lo hi : Nat} (h : HeldAt w hb lm G) (hm : m ∉ G.map Prod.fst) (hlo : lo ≤ hb ∧ hb < hi) (hlm : lo ≤ lm ∧ lm < hi) (hf : ∀ g ∈ G, ∀ b, g.2.foot b → lo ≤ b ∧ b < hi) (hhi : hi ≤ w.heap.size) (hp0 : w.heap.size ≤ p0)
    (hb2 : Below w.heap.size w W2) (e0 : W2.heap[p0]? = some (.map #[] 0)) (e1 : W2.heap[p0 + 1]? = some (.map #[] 0)) (e2 : W2.heap[p0 + 2]? = some (.cells #[.map (some p0), .slice none 0 0, .map (some (p0 + 1))] 73 (0, 0)))
    (hM : MapS W3 lm (G.map lptr ++ [(m, .pointer (some ⟨p0 + 2, 0, none⟩))])) (hg : W2.grownBy W3 (some lm)) :
    HeldAt W3 hb lm (G ++ [(m, ⟨p0 + 2, p0, p0 + 1, .slice none 0 0, []⟩)]) ∧ ∀ b, Lg.foot ⟨p0 + 2, p0, p0 + 1, .slice none 0 0, []⟩ b → w.heap.size ≤ b := by
  have hk : ∀ b, b < w.heap.size → b ≠ lm → W3.heap[b]? = w.heap[b]? := fun b hb' hne => by
    rw [hg.block b (Nat.lt_of_lt_of_le hb' hb2.size) (fun e => hne (Option.some.inj e)), hb2.block b hb']
  have hk2 : ∀ b, b < W2.heap.size → w.heap.size ≤ b → W3.heap[b]? = W2.heap[b]? := fun b hb' hge => hg.block b hb' (fun e => by have := Option.some.inj e; omega)
  have l0 := (Array.getElem?_eq_some_iff.1 e0).1
  have l1 := (Array.getElem?_eq_some_iff.1 e1).1
  have l2 := (Array.getElem?_eq_some_iff.1 e2).1
  have hfoot : ∀ b, Lg.foot ⟨p0 + 2, p0, p0 + 1, .slice none 0 0, []⟩ b → w.heap.size ≤ b := fun b hb' => by
    rcases hb' with rfl | rfl | rfl | hb' | hb'
    · show _ ≤ p0 + 2; omega
    · exact hp0
    · show _ ≤ p0 + 1; omega
    · cases hb'
    · cases hb'
  have hlog : LogAt W3 ⟨p0 + 2, p0, p0 + 1, .slice none 0 0, []⟩ := by
    refine ⟨by rw [hk2 _ l2 (by omega)]; exact e2, ⟨World.ownsRow_nil _ _ _ _, fun k hk' => absurd hk' (by simp), by simp⟩, ⟨[], by simp, by simp, ⟨#[], 0, by rw [hk2 _ l0 hp0]; exact e0, rfl⟩, ⟨#[], 0, by rw [hk2 _ l1 (by omega)]; exact e1, rfl⟩⟩, ?_⟩
    show p0 ≠ p0 + 1
    omega
  obtain ⟨x, hx⟩ := h.blk
  have hhl : hb ≠ lm := fun e => by
    obtain ⟨es, c, h1, _⟩ := h.map
    rw [← e, hx] at h1; cases h1
  refine ⟨⟨⟨x, by rw [hk hb (by omega) hhl]; exact hx⟩, ?_, fun g hg' => ?_, ?_, ?_, fun g hg' => ?_⟩, hfoot⟩
  · rw [List.map_append]; exact hM
  · rcases List.mem_append.1 hg' with hg' | hg'
    · refine (h.logs g hg').kept (fun b hb' => hk b (by have := hf g hg' b hb'; omega) (fun e => (h.far g hg').2 (e ▸ hb')))
    · simp at hg'; subst hg'; exact hlog
  · rw [List.map_append, List.nodup_append]
    refine ⟨h.nd, by simp, fun y hy z hz e => ?_⟩
    simp at hz
    subst e; subst hz
    exact hm hy
  · refine List.pairwise_append.2 ⟨h.dj, by simp, fun g hg' g' hg'' y hy hy' => ?_⟩
    simp at hg''
    subst hg''
    have h1 := (hf g hg' y hy).2
    have h2 := hfoot y hy'
    omega
  · rcases List.mem_append.1 hg' with hg' | hg'
    · exact h.far g hg'
    · simp at hg'
      subst hg'
      exact ⟨fun hh => by have := hfoot _ hh; omega, fun hh => by have := hfoot _ hh; omega⟩

set_option maxRecDepth 100000 in
set_option maxHeartbeats 1000000 in
/-- Add, no log of the member is held. -/
theorem add_miss (x : Hd) (hb lm : Nat) (G : List (ByteArray × Lg)) (lo hi : Nat) (w : World) (h : HeldAt w hb lm G) (hm : x.mem ∉ G.map Prod.fst) (hlo : lo ≤ hb ∧ hb < hi) (hlm : lo ≤ lm ∧ lm < hi) (hf : ∀ g ∈ G, ∀ b, g.2.foot b → lo ≤ b ∧ b < hi) (hhi : hi ≤ w.heap.size) :
    Calls Try.prog 22 #[.pointer (some ⟨hb, 0, none⟩), .agg (encH x).toArray] w fun e w' => e = .returned (.tuple #[]) ∧ HeldT w' hb (G.map (fun g => (g.1, ab g.2.S)) ++ [(x.mem, [(x.rev, x.num)])]) lo w'.heap.size ∧ Only (fun b => lo ≤ b ∧ b < hi) w w' := by
  obtain ⟨k32, k66, ⟨z22, z27, z38, z55, n32, n66⟩, HK⟩ := sz_ex
  clear z22 z38 n66
  have mixed : Try.prog.follows .mixedOrders = true := by kernel_rfl
  obtain ⟨w1, hw1⟩ : ∃ w1, w1 = w.alloc (.cells (encH x).toArray 55) := ⟨_, rfl⟩
  have hb1 : Below w.heap.size w w1 := by rw [hw1]; exact (Below.refl _ _).alloc (Nat.le_refl _) _
  have hs1 : w1.heap.size = w.heap.size + 1 := by rw [hw1]; simp
  have hbx : w1.heap[w.heap.size]? = some (.cells (encH x).toArray 55 (0, 0)) := by rw [hw1]; exact heap_alloc_last _ _
  have h1 : HeldAt w1 hb lm G := by
    obtain ⟨y, hy⟩ := h.blk
    exact ⟨⟨y, (hb1.block hb (by omega)).trans hy⟩, h.map.block (hb1.block lm (by omega)), fun g hg => (h.logs g hg).kept (fun b hf' => hb1.block b (by have := hf g hg b hf'; omega)), h.nd, h.dj, h.far⟩
  obtain ⟨y, hy⟩ := h1.blk
  have cL : w1.cell? ⟨hb, 1, none⟩ = some (.map (some lm)) := by simp [World.cell?, hy]
  have cM : w1.cell? ⟨w.heap.size, 32, none⟩ = some (.string x.mem) := by simpa [World.cell?, hbx] using encH_32 x
  have hk1 : ∀ q, HeldAt (w1.drewN q) hb lm G := fun q => ⟨h1.blk, h1.map.block rfl, fun g hg => (h1.logs g hg).kept (fun _ _ => rfl), h1.nd, h1.dj, h1.far⟩
  have lk : ∀ q, Sem.run Try.prog (Instr.lookup 64 (.map (some lm)) (.string x.mem) false) (w1.drewN q) = .ok (.pointer none) (w1.drewN q) := fun q => ((hk1 q).look x.mem).2 hm
  have HH : Hid (HeldAt w1 hb lm G ∧ Below w.heap.size w w1 ∧ w1.heap[w.heap.size]? = some (.cells (encH x).toArray 55 (0, 0)) ∧ x.mem ∉ G.map Prod.fst ∧ (∀ g ∈ G, ∀ b, g.2.foot b → lo ≤ b ∧ b < hi) ∧ w1.heap.size = w.heap.size + 1) := ⟨h1, hb1, hbx, hm, hf, hs1⟩
  clear h h1 hy hk1 hbx hb1 hf hs1 hm
  go_enter Try.func22, Try.ntmps22
  go_upto_region 1 with fail
  rw [← hw1]
  clear hw1
  go_quiet (fail)
  obtain ⟨wx, hwx⟩ : ∃ wx, wx = w1.drewN nq := ⟨_, rfl⟩
  rw [← hwx]
  have HX : Hid (wx.heap = w1.heap ∧ wx.os = w1.os ∧ wx.tape = w1.tape ∧ wx.output = w1.output) := by rw [hwx]; exact ⟨rfl, rfl, rfl, rfl⟩
  clear hwx cL cM lk
  have mk := make_map
  go_upto_region 4 with fail
  obtain ⟨W2, hW2⟩ : ∃ W2, W2 = ((wx.alloc (.map #[] 0)).alloc (.map #[] 0)).alloc (.cells #[.map (some wx.heap.size), .slice none 0 0, .map (some (wx.heap.size + 1))] 73) := ⟨_, rfl⟩
  rw [← hW2]
  have hxs : wx.heap.size = w.heap.size + 1 := by rw [HX.out.1]; exact HH.out.2.2.2.2.2
  have hbA : Below wx.heap.size wx W2 := by
    rw [hW2]
    exact (((Below.refl _ _).alloc (Nat.le_refl _) _).alloc (by simp) _).alloc (by simp; omega) _
  have hb2 : Below w.heap.size w W2 := by
    have h0 : Below w.heap.size w wx := ⟨HX.out.2.1.trans HH.out.2.1.os, HX.out.2.2.1.trans HH.out.2.1.tape, HX.out.2.2.2.trans HH.out.2.1.output, by omega, fun k hk => by rw [HX.out.1]; exact HH.out.2.1.block k hk⟩
    exact h0.trans (hbA.mono (by omega))
  have e0 : W2.heap[wx.heap.size]? = some (.map #[] 0) := by
    rw [hW2, ((Below.refl _ _).alloc (Nat.le_refl _) _).block _ (by simp; omega), ((Below.refl _ _).alloc (Nat.le_refl _) _).block _ (by simp)]
    exact heap_alloc_last _ _
  have e1 : W2.heap[wx.heap.size + 1]? = some (.map #[] 0) := by
    rw [hW2, ((Below.refl _ _).alloc (Nat.le_refl _) _).block _ (by simp)]
    have := heap_alloc_last (wx.alloc (.map #[] 0)) (.map #[] 0)
    simpa using this
  have e2 : W2.heap[wx.heap.size + 2]? = some (.cells #[.map (some wx.heap.size), .slice none 0 0, .map (some (wx.heap.size + 1))] 73 (0, 0)) := by
    have := heap_alloc_last ((wx.alloc (.map #[] 0)).alloc (.map #[] 0)) (.cells #[.map (some wx.heap.size), .slice none 0 0, .map (some (wx.heap.size + 1))] 73)
    rw [← hW2] at this
    simpa using this
  have hM2 : MapS W2 lm (G.map lptr) := HH.out.1.map.block (by rw [hbA.block lm (by omega), HX.out.1])
  obtain ⟨W3, hu3, hM3, hg3⟩ := upd_S 64 67 Try.underlying64 x.mem (.pointer (some ⟨wx.heap.size + 1 + 1, 0, none⟩)) (w := W2.drew) hM2 (firstS_none x.mem G 0 HH.out.2.2.2.1)
  have hHw : HeldAt w hb lm G := by
    have h1 := HH.out.1
    have hbk := HH.out.2.1
    obtain ⟨y, hy⟩ := h1.blk
    exact ⟨⟨y, by rw [← hbk.block hb (by omega)]; exact hy⟩, h1.map.block (hbk.block lm (by omega)).symm, fun g hg => (h1.logs g hg).kept (fun b hf' => (hbk.block b (by have := HH.out.2.2.2.2.1 g hg b hf'; omega)).symm), h1.nd, h1.dj, h1.far⟩
  obtain ⟨hN3, hfoot⟩ := held_new (W2 := W2.drew) (p0 := wx.heap.size) hHw HH.out.2.2.2.1 hlo hlm HH.out.2.2.2.2.1 hhi (by omega) ⟨hb2.os, hb2.tape, hb2.output, hb2.size, hb2.block⟩ e0 e1 e2 hM3 hg3
  have hsz3 : w.heap.size ≤ W3.heap.size := Nat.le_trans hb2.size hg3.size
  have hO3 : Only (fun b => lo ≤ b ∧ b < hi) w W3 := ((Only.below hb2).drewN 1).trans (Only.grown hg3 (fun b hb' => by have := Option.some.inj hb'; omega))
  obtain ⟨y, hy⟩ := HH.out.1.blk
  have hyx : W2.heap[hb]? = some (.cells #[y, .map (some lm)] 66 (0, 0)) := by rw [hbA.block hb (by omega), HX.out.1]; exact hy
  have hbx2 : W2.heap[w.heap.size]? = some (.cells (encH x).toArray 55 (0, 0)) := by rw [hbA.block _ (by omega), HX.out.1]; exact HH.out.2.2.1
  have hbx3 : W3.heap[w.heap.size]? = some (.cells (encH x).toArray 55 (0, 0)) := by rw [hg3.block _ (show w.heap.size < W2.heap.size by have := hbA.size; omega) (fun e => by have := Option.some.inj e; omega)]; exact hbx2
  have cL2 : W2.drew.cell? ⟨hb, 1, none⟩ = some (.map (some lm)) := by show W2.cell? _ = _; simp [World.cell?, hyx]
  have cM2 : W2.drew.cell? ⟨w.heap.size, 32, none⟩ = some (.string x.mem) := by show W2.cell? _ = _; simpa [World.cell?, hbx2] using encH_32 x
  have cN3 : W3.cell? ⟨w.heap.size, 33, none⟩ = some (.int .u64 (x.num.toNat : Int)) := by simpa [World.cell?, hbx3] using encH_33 x
  have ldR : Sem.run Try.prog (loadCellsFrom ⟨w.heap.size, 34, none⟩ 0 k32 #[]) W3 = .ok (encI x.rev).toArray W3 := ld_block W3 w.heap.size 34 (encH x).toArray 55 (0, 0) (encI x.rev) k32 hbx3 (by rw [encI_length, HK.out.1]) (encH_rev x)
  have CS : Hid (Calls Try.prog 30 #[.pointer (some ⟨wx.heap.size + 1 + 1, 0, none⟩), .agg (encI x.rev).toArray, .int .u64 (x.num.toNat : Int)] W3 fun e w' => e = .returned (.tuple #[]) ∧ HeldT w' hb (G.map (fun g => (g.1, ab g.2.S)) ++ [(x.mem, [(x.rev, x.num)])]) lo w'.heap.size ∧ Only (fun b => lo ≤ b ∧ b < hi) w w') := by
    have hL0 := hN3.logs (x.mem, ⟨wx.heap.size + 2, wx.heap.size, wx.heap.size + 1, .slice none 0 0, []⟩) (by simp)
    refine (stand_any ⟨wx.heap.size + 2, wx.heap.size, wx.heap.size + 1, .slice none 0 0, []⟩ x.rev x.num W3 hL0 (by simp)).mono ?_
    rintro e w' ⟨rfl, hs⟩
    have hfall : ∀ g ∈ G ++ [(x.mem, (⟨wx.heap.size + 2, wx.heap.size, wx.heap.size + 1, .slice none 0 0, []⟩ : Lg))], ∀ b, g.2.foot b → lo ≤ b ∧ b < W3.heap.size := fun g hg b hb' => by
      refine ⟨?_, (hN3.logs g hg).lt b hb'⟩
      rcases List.mem_append.1 hg with hg | hg
      · exact (HH.out.2.2.2.2.1 g hg b hb').1
      · simp at hg; subst hg; have := hfoot b hb'; omega
    obtain ⟨s', r1, r2, _⟩ := held_stood (G2 := []) hN3 ⟨hlo.1, by omega⟩ ⟨hlm.1, by omega⟩ hfall (Nat.le_refl _) hs
    have es : s' = [(x.rev, x.num)] := by
      have : s'.Perm [(x.rev, x.num)] := r1
      exact List.perm_singleton.1 this
    rw [es] at r2
    refine ⟨rfl, r2, ?_⟩
    obtain ⟨L', _, _, _, _, _, ho, _⟩ := hs
    refine ⟨ho.os.trans hO3.os, ho.tape.trans hO3.tape, ho.output.trans hO3.output, Nat.le_trans hO3.size ho.size, fun b hb' hn => ?_⟩
    rw [ho.block b (by omega) (fun hh => by have := hfoot b hh; omega), hO3.block b hb' hn]
  clear hbA hb2 e0 e1 e2 hM2 hM3 hg3 hHw hN3 hfoot hsz3 hO3 hy hyx hbx2 hbx3 hW2 HH mk hxs
  go_region
  go_wp2_with fail
  refine CS.out.mono ?_
  rintro e w5 ⟨rfl, hres⟩
  have HF : Hid (HeldT w5 hb (G.map (fun g => (g.1, ab g.2.S)) ++ [(x.mem, [(x.rev, x.num)])]) lo w5.heap.size ∧ Only (fun b => lo ≤ b ∧ b < hi) w w5) := hres
  clear hres CS
  go_wp2
  go_end0
  exact ⟨rfl, HF.out⟩
/-- Add. -/
theorem add_any (x : Hd) (hb : Nat) (T : List (ByteArray × List (Id × UInt64))) (lo hi : Nat) (w : World) (h : HeldT w hb T lo hi) (hhi : hi ≤ w.heap.size) (hT : ∀ t ∈ T, t.2.length ≤ 100000) :
    Calls Try.prog 22 #[.pointer (some ⟨hb, 0, none⟩), .agg (encH x).toArray] w fun e w' => e = .returned (.tuple #[]) ∧ ∃ T', AddTo T x.mem x.rev x.num T' ∧ HeldT w' hb T' lo w'.heap.size ∧ Only (fun b => lo ≤ b ∧ b < hi) w w' := by
  obtain ⟨lm, G, h1, rfl, h3, h4, h5⟩ := h
  by_cases hm : x.mem ∈ G.map Prod.fst
  · obtain ⟨⟨m, L⟩, hg, hgm⟩ := List.mem_map.1 hm
    simp only at hgm
    subst hgm
    obtain ⟨G1, G2, rfl⟩ := List.append_of_mem hg
    refine (add_hit x hb lm G1 G2 L lo hi w h1 h3 h4 h5 hhi ?_).mono ?_
    · have := hT (x.mem, ab L.S) (by simp)
      simpa [ab] using this
    · rintro e w' ⟨rfl, s', r1, r2, r3⟩
      exact ⟨rfl, _, .inr ⟨G1.map (fun g => (g.1, ab g.2.S)), ab L.S, G2.map (fun g => (g.1, ab g.2.S)), s', by simp, r1, rfl⟩, r2, r3⟩
  · refine (add_miss x hb lm G lo hi w h1 hm h3 h4 h5 hhi).mono ?_
    rintro e w' ⟨rfl, r2, r3⟩
    exact ⟨rfl, _, .inl ⟨by simpa [Function.comp_def] using hm, rfl⟩, r2, r3⟩
end Go.Proofs.Qxb6615634a
