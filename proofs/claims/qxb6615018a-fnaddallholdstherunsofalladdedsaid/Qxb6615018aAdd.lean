/-
  DERIVED. Knowledge.AddAll, over what findBlock, slices.Concat and slices.Replace do.
-/
import Derived.Test.Qxb6615018aRuns
namespace Go.Proofs.Qxb6615018a
open Go.RowKit Go.Sort

/-- i is the first block that ends at s or after it. -/
def FB (bs : List (List Rg)) (s : Sn) (i : Nat) : Prop := i ≤ bs.length ∧ (∀ r ∈ (bs.take i).flatten, hi r < key s) ∧ ∀ h : i < bs.length, ∃ r ∈ bs[i], key s ≤ hi r

def FindOK : Prop := ∀ (W : World) (B : Nat) (aB : Option Addr) (cB : Nat) (ps : List Nat) (bs : List (List Rg)) (s : Sn), W.ownsRow B 66 1 (.slice aB bs.length cB) bs.length (ps.map ptrV) → BlksAt W ps bs → Good bs → bs.length ≤ 100000000 →
  Calls Try.prog 23 #[.slice aB bs.length cB, .agg (encS s).toArray] W fun e w' => ∃ i : Nat, e = .returned (.int .i64 i) ∧ FB bs s i ∧ Gr W w'

def Gen (B : Nat) : Prop := FindOK ∧ ConcatOK ∧ ∀ v n, ReplaceOK B v n

/-- What is left when the null serial numbers ahead are passed over. -/
def strip (ss : List Sn) : List Sn := ss.dropWhile (· == nullS)
theorem strip_cons_eq (ss : List Sn) : strip (nullS :: ss) = strip ss := by simp [strip]
theorem strip_cons_ne {s : Sn} {ss : List Sn} (h : (s == nullS) = false) : strip (s :: ss) = s :: ss := by simp [strip, h]

theorem sortS_sorted (ss : List Sn) : Sorted (sortS ss) := by
  have := List.pairwise_mergeSort (le := fun x y => !(ltOf cmpS y x)) (fun a b c h1 h2 => by rw [ltOf_key] at *; simp at *; omega) (fun a b => by rw [ltOf_key, ltOf_key]; simp; omega) ss
  exact pw_to (fun a b h => by rw [ltOf_key] at h; simpa using h) this

theorem Good.len_le {bs : List (List Rg)} (h : Good bs) : bs.length ≤ bs.flatten.length := by
  have : ∀ l : List (List Rg), (∀ b ∈ l, b ≠ []) → l.length ≤ l.flatten.length := by
    intro l
    induction l with
    | nil => intro _; simp
    | cons b l ih =>
      intro hb
      have h1 := ih (fun x hx => hb x (by simp [hx]))
      have h2 : 0 < b.length := List.length_pos_iff.2 (hb b (by simp))
      rw [List.flatten_cons, List.length_append, List.length_cons]
      omega
  exact this bs (fun b hb => (h.ne b hb).1)

/-- Own row of serial numbers, to a reader. -/
theorem own_rdS {w : World} {B : Nat} {v : Value} {zs : List Sn} {n : Nat} (h : w.ownsRow B 27 17 v n (flatS zs)) : ∃ a c, v = .slice a zs.length c ∧ Plain a c ∧ zs.length ≤ c ∧ c ≤ 9223372036854775807 ∧ RdT encS 17 27 w a zs := by
  have hn : n = zs.length := by have := h.1; rw [flatS_length] at this; omega
  subst hn
  rcases h.2 with ⟨rfl, hz⟩ | ⟨g, cap, cur, rfl, _, hb, h1, h2, h3, h4⟩
  · have : zs = [] := List.length_eq_zero_iff.1 hz
    subst this
    exact ⟨none, 0, rfl, .inl ⟨rfl, rfl⟩, by simp, by omega, RdT.nil⟩
  · refine ⟨_, cap, rfl, .inr ⟨_, _, rfl⟩, h1, by unfold maxLen at h2; omega, fun i hi => ⟨g, 0, cur, (0, 0), rfl, hb, fun j x hx => ?_⟩⟩
    have hj : j < 17 := by have := (List.getElem?_eq_some_iff.1 hx).1; rwa [encS_length] at this
    have e := flatS_get zs i hi j hj
    rw [hx, ← h4, List.getElem?_take_of_lt (by have := Nat.mul_le_mul_right 17 (show i + 1 ≤ zs.length from hi); omega), Array.getElem?_toList] at e
    rw [Nat.zero_add]
    exact e

theorem Know.of_fr {F : Nat → Option TypeId → Prop} {w w' : World} {B K : Nat} {bs : List (List Rg)} (h : Know B w K bs) (hf : Fr F w w') (hF : ∀ b t, t = 34 ∨ t = 58 ∨ t = 66 ∨ t = 65 ∨ t = 62 → F b (some t)) : Know B w' K bs := by
  have k : KT [27] w w' ∨ True := .inr trivial
  obtain ⟨kc, v, ps, e1, q4, q5, q6⟩ := h
  refine ⟨kc, v, ps, hf.block _ _ (hF _ _ (by simp)) e1, ⟨q4.1, ?_⟩, ⟨q5.1, fun i hi hj => ?_⟩, ?_⟩
  · rcases q4.2 with h1 | ⟨g, cap, cur, rfl, h2, h3, h4⟩
    · exact .inl h1
    · exact .inr ⟨g, cap, cur, rfl, h2, hf.block _ _ (hF _ _ (by simp)) h3, h4⟩
  · obtain ⟨a, a1, a2, a3⟩ := q5.2 i hi hj
    refine ⟨a, hf.block _ _ (hF _ _ (by simp)) a1, a2, fun j hj' => ?_⟩
    obtain ⟨b, o, cs, fr, x1, x2, x3⟩ := a3 j hj'
    exact ⟨b, o, cs, fr, x1, hf.block _ _ (hF _ _ (by simp)) x2, x3⟩
  · rcases q6 with h | ⟨P, p1, p2, p3⟩
    · exact .inl h
    · exact .inr ⟨P, p1, p2, hf.block _ _ (hF _ _ (by simp)) p3⟩

/-- A change of K leaves the serial numbers' row alone. -/
theorem Fr.ktK {B K : Nat} {w w' : World} {cs : Array Value} {fr : Nat × Nat} (h : Fr (FK B K) w w') (hK : w.heap[K]? = some (.cells cs 34 fr)) : KT [34, 58, 66] w w' := fun b c t f ht hb => by
  refine h.block b _ ⟨fun e => ?_, .inr ⟨fun e => ?_, fun e => ?_⟩⟩ hb
  · subst e; rw [hK] at hb; simp only [Option.some.injEq, Obj.cells.injEq] at hb; exact ht (by simp [← hb.2.1])
  · cases e; exact ht (by simp)
  · cases e; exact ht (by simp)

/-- The blocks that AddAll(serials) leaves alone. -/
def FA (B K : Nat) (S : Option Nat) (b : Nat) (t : Option TypeId) : Prop := some b ≠ S ∧ FK B K b t

theorem nullS_lit : (encS nullS).toArray = #[.int .u8 0, .int .u8 0, .int .u8 0, .int .u8 0, .int .u8 0, .int .u8 0, .int .u8 0, .int .u8 0, .int .u8 0, .int .u8 0, .int .u8 0, .int .u8 0, .int .u8 0, .int .u8 0, .int .u8 0, .int .u8 0, .int .u64 0] := by kernel_rfl
theorem eqlS27n (s : Sn) (w : World) : (binOp .eql 27 (.agg (encS s).toArray) (.agg #[.int .u8 0, .int .u8 0, .int .u8 0, .int .u8 0, .int .u8 0, .int .u8 0, .int .u8 0, .int .u8 0, .int .u8 0, .int .u8 0, .int .u8 0, .int .u8 0, .int .u8 0, .int .u8 0, .int .u8 0, .int .u8 0, .int .u64 0])).run Try.prog w = .ok (.bool (s == nullS)) w := by
  rw [← nullS_lit]; exact eqlS27 s nullS w

/-- All ranges of the first l blocks end well ahead of s. -/
def R1at (bs : List (List Rg)) (s : Sn) (l : Nat) : Prop := ∀ r ∈ (bs.take l).flatten, hi r + 1 < key s

theorem R1at.zero (bs : List (List Rg)) (s : Sn) : R1at bs s 0 := fun r hr => absurd hr (by simp)

theorem flatten_split {bs : List (List Rg)} {i : Nat} (h : i < bs.length) : bs.flatten = (bs.take i).flatten ++ (bs[i] ++ (bs.drop (i + 1)).flatten) := by
  rw [← List.flatten_cons, ← List.flatten_append, ← List.drop_eq_getElem_cons h, List.take_append_drop]
theorem take_succ_flatten {bs : List (List Rg)} {i : Nat} (h : i < bs.length) : (bs.take (i + 1)).flatten = (bs.take i).flatten ++ bs[i] := by
  rw [List.take_add_one, List.getElem?_eq_getElem h, Option.toList_some, List.flatten_append]; simp

/-- Whether the block before i goes with the new ones. -/
theorem lo_ok {bs : List (List Rg)} {s : Sn} {i : Nat} (hG : Good bs) (hF : FB bs s (i + 1)) (hi' : i < bs.length) (hn : bs[i].length - 1 < bs[i].length) :
    if joinsB (bs[i][bs[i].length - 1]) (rgOf s) = true then R1at bs s i else R1at bs s (i + 1) := by
  obtain ⟨f1, f2, _⟩ := hF
  have hA := hG.ap
  rw [flatten_split hi'] at hA
  obtain ⟨a1, a2, a3⟩ := Ap.app.1 hA
  obtain ⟨b1, b2, b3⟩ := Ap.app.1 a2
  generalize hl : bs[i][bs[i].length - 1] = l
  have hlm : l ∈ bs[i] := by rw [← hl]; exact List.getElem_mem hn
  rw [take_succ_flatten hi'] at f2
  have hls := f2 l (List.mem_append_right _ hlm)
  have hll := b1.1 l hlm
  have hj := joinsB_key l (rgOf s) (by rw [lo_rgOf]; omega) hll
  rw [lo_rgOf] at hj
  rw [hj]
  by_cases hc : key s ≤ hi l + 1
  · rw [if_pos (by simpa using hc)]
    intro r hr
    have := a3 r hr l (List.mem_append_left _ hlm)
    omega
  · rw [if_neg (by simpa using hc)]
    intro r hr
    rw [take_succ_flatten hi'] at hr
    rcases List.mem_append.1 hr with h | h
    · have := a3 r h l (List.mem_append_left _ hlm); omega
    · -- r lies in the block whose last range is l
      have : hi r ≤ hi l := by
        obtain ⟨j, hj', rfl⟩ := List.mem_iff_getElem.1 h
        rcases Nat.lt_or_ge j (bs[i].length - 1) with h1 | h1
        · have := List.pairwise_iff_getElem.1 b1.2 j (bs[i].length - 1) hj' hn h1
          rw [hl] at this
          omega
        · have e : j = bs[i].length - 1 := by omega
          subst e
          rw [hl]; exact Nat.le_refl _
      omega

/-- The first n serial numbers end well ahead of block h and what follows. -/
def R2at (bs : List (List Rg)) (ss : List Sn) (n h : Nat) : Prop := ∀ r ∈ (bs.drop h).flatten, ∀ s ∈ ss.take n, key s + 1 < lo r

theorem R2at.zero (bs : List (List Rg)) (ss : List Sn) (h : Nat) : R2at bs ss 0 h := fun r _ s hs => absurd hs (by simp)

theorem first_le {bs : List (List Rg)} (hG : Good bs) {h : Nat} (hh : h < bs.length) {r0 : Rg} (h0 : bs[h][0]? = some r0) : ∀ r ∈ (bs.drop h).flatten, lo r0 ≤ lo r := by
  have hA := hG.ap
  rw [flatten_split hh] at hA
  obtain ⟨a1, a2, a3⟩ := Ap.app.1 hA
  obtain ⟨b, hb⟩ : ∃ b, bs[h] = r0 :: b := by
    cases hx : bs[h] with
    | nil => rw [hx] at h0; simp at h0
    | cons q qs => rw [hx] at h0; simp at h0; exact ⟨qs, by rw [h0]⟩
  rw [hb] at a2
  intro r hr
  rw [List.drop_eq_getElem_cons hh, List.flatten_cons, hb] at hr
  rcases List.mem_cons.1 hr with rfl | hr
  · exact Nat.le_refl _
  · have := (List.pairwise_cons.1 a2.2).1 r hr
    have := a2.1 r0 (by simp)
    omega

/-- The next block starts behind this one. -/
theorem next_first {bs : List (List Rg)} (hG : Good bs) {h : Nat} (hh : h + 1 < bs.length) {r : Rg} (hr : r ∈ bs[h]) {r1 : Rg} (h1 : bs[h + 1][0]? = some r1) : hi r + 1 < lo r1 := by
  have hA := hG.ap
  rw [flatten_split (i := h) (by omega)] at hA
  obtain ⟨a1, a2, a3⟩ := Ap.app.1 hA
  obtain ⟨b1, b2, b3⟩ := Ap.app.1 a2
  refine b3 r hr r1 ?_
  rw [List.drop_eq_getElem_cons hh, List.flatten_cons]
  exact List.mem_append_left _ (List.mem_of_getElem? h1)

theorem R2at.step {bs : List (List Rg)} {ss : List Sn} (hG : Good bs) (hS : Sorted ss) {n h : Nat} (hn : n < ss.length) (hx : h = bs.length ∨ ∃ (hh : h < bs.length) (r0 : Rg), bs[h][0]? = some r0 ∧ key ss[n] + 1 < lo r0) (hhl : h ≤ bs.length) : R2at bs ss (n + 1) h := by
  intro r hr s hs
  rcases hx with rfl | ⟨hh, r0, h0, hk⟩
  · simp at hr
  · have h1 := first_le hG hh h0 r hr
    have h2 : key s ≤ key ss[n] := by
      obtain ⟨j, hj, rfl⟩ := List.mem_iff_getElem.1 hs
      rw [List.getElem_take]
      have hj' : j < n + 1 := by simp at hj; omega
      rcases Nat.lt_or_ge j n with h3 | h3
      · exact List.pairwise_iff_getElem.1 hS j n (by omega) hn h3
      · have : j = n := by omega
        subst this; exact Nat.le_refl _
    omega

theorem cmp_first (r0 : Rg) (s : Sn) : cmpS (firstOf r0) s < 0 ↔ lo r0 < key s := by
  rw [cmpS_key]
  have : key (firstOf r0) = lo r0 := rfl
  rw [this]
  by_cases h1 : lo r0 < key s
  · simp [h1]
  · by_cases h2 : key s < lo r0 <;> simp [h1, h2]

theorem joins_first (r0 : Rg) (s : Sn) (h : key s ≤ lo r0) : joinsB (rgOf s) r0 = decide (lo r0 ≤ key s + 1) := by
  have := joinsB_key (rgOf s) r0 h (Nat.le_refl _)
  rw [hi_rgOf] at this
  exact this

/-- The reads of block h's first range. -/
theorem blk_first {w : World} {B : Nat} {aB : Option Addr} {cap : Nat} {ps : List Nat} {bs : List (List Rg)} (ho : w.ownsRow B 66 1 (.slice aB bs.length cap) bs.length (ps.map ptrV)) (hb : BlksAt w ps bs) (hG : Good bs) (h : Nat) (hh : h < bs.length) (kk : Nat) (hkk : kk = 18) :
    ∃ g p bp op L r0, aB = some ⟨g, 0, none⟩ ∧ bs[h][0]? = some r0 ∧ L + 1 = bs[h].length ∧ L < 128 ∧ ∀ W, Below w.heap.size w W → W.cell? ⟨g, h, none⟩ = some (.pointer (some ⟨p, 0, none⟩)) ∧ W.cell? ⟨p, 0, none⟩ = some (.slice (some ⟨bp, op, none⟩) (L + 1) (L + 1)) ∧
      Sem.run Try.prog (loadCellsFrom ⟨bp, op, none⟩ 0 kk #[]) W = .ok (encR r0).toArray W := by
  obtain ⟨g, p, a, rfl, hg1, hp1, cl1, cl2, _, hrd⟩ := blk_reads ho hb h hh
  have hne := hG.ne bs[h] (List.getElem_mem hh)
  generalize bs[h] = b at hrd cl2 hne
  cases b with
  | nil => exact absurd rfl hne.1
  | cons r0 br =>
    obtain ⟨bp, op, rfl, _⟩ := hrd.rdB.addr
    refine ⟨g, p, bp, op, br.length, r0, rfl, rfl, by simp, by have := hne.2; simp at this; omega, fun W hW => ⟨(hW.cell (p := ⟨g, h, none⟩) hg1).trans cl1, (hW.cell (p := ⟨p, 0, none⟩) hp1).trans cl2, (hrd.rdB.below hW).ld0 encR_length kk hkk⟩⟩

theorem ownsRow_mono {w : World} {B B' : Nat} {e : TypeId} {size n : Nat} {v : Value} {xs : List Value} (h : w.ownsRow B e size v n xs) (hB : B' ≤ B) : w.ownsRow B' e size v n xs := by
  refine ⟨h.1, ?_⟩
  rcases h.2 with h1 | ⟨g, cap, cur, rfl, h2, h3⟩
  · exact .inl h1
  · exact .inr ⟨g, cap, cur, rfl, by omega, h3⟩

/-- The cells of a slice of ranges, one after the other. -/
theorem rd_flat {w : World} {B b o : Nat} {xs : List Rg} (h : RdB encR 18 B w (some ⟨b, o, none⟩) xs) (j : Nat) (u : Value) (hj : (flatR xs)[j]? = some u) : w.cell? ((⟨b, o, none⟩ : Addr).add j) = some u := by
  have hjl : j < xs.length * 18 := by have := (List.getElem?_eq_some_iff.1 hj).1; rwa [flatR_length] at this
  have h1 : j / 18 < xs.length := by omega
  have h2 : j % 18 < 18 := Nat.mod_lt _ (by omega)
  have h3 := flatR_get xs (j / 18) h1 (j % 18) h2
  rw [show j / 18 * 18 + j % 18 = j from by omega, hj] at h3
  obtain ⟨b', o', e1, _, e3⟩ := h (j / 18) h1
  simp only [Option.some.injEq, Addr.mk.injEq, and_true] at e1
  obtain ⟨rfl, rfl⟩ := e1
  have h4 := e3 (j % 18) u h3.symm
  have hadd : (⟨b, o, none⟩ : Addr).add j = ⟨b, o + j, none⟩ := by unfold Addr.add; split <;> simp_all
  rw [hadd, show o + j = o + j / 18 * 18 + j % 18 from by omega]
  exact h4

theorem held_step {cs : List (List Rg)} {l j : Nat} (h : l + j < cs.length) : ((cs.drop l).take (j + 1)).flatten = ((cs.drop l).take j).flatten ++ cs[l + j] := by
  rw [List.take_add_one, List.getElem?_drop, List.getElem?_eq_getElem h, Option.toList_some, List.flatten_append]; simp

theorem held_le (cs : List (List Rg)) (l j : Nat) : (((cs.drop l).take j).flatten).length ≤ cs.flatten.length := by
  have h1 : (cs.drop l).flatten.length ≤ cs.flatten.length := by
    conv => rhs; rw [← List.take_append_drop l cs]
    rw [List.flatten_append, List.length_append]; omega
  have h2 : ((cs.drop l).take j).flatten.length ≤ (cs.drop l).flatten.length := by
    conv => rhs; rw [← List.take_append_drop j (cs.drop l)]
    rw [List.flatten_append, List.length_append]; omega
  omega

theorem mergeL_ne {hs : List Rg} {ss : List Sn} (hh : Ap hs) (hs' : Sorted ss) (hn : ss ≠ []) : mergeL hs ss ≠ [] := fun e => by
  obtain ⟨_, m2, _⟩ := merge_ok hs ss hh hs'
  obtain ⟨s, r, rfl⟩ := List.exists_cons_of_ne_nil hn
  have := (m2 (key s)).2 (.inr ⟨s, by simp, rfl⟩)
  rw [e] at this
  exact mem_nil this

theorem Good.held {cs : List (List Rg)} (hG : Good cs) (l j : Nat) : Ap ((cs.drop l).take j).flatten := by
  have hA := hG.ap
  rw [← List.take_append_drop l cs, List.flatten_append] at hA
  have h2 := (Ap.app.1 hA).2.1
  rw [← List.take_append_drop j (cs.drop l), List.flatten_append] at h2
  exact (Ap.app.1 h2).1

theorem isKey_take_drop (x n : Nat) (ss : List Sn) : isKey x ss ↔ isKey x (ss.take n) ∨ isKey x (ss.drop n) := by
  constructor
  · rintro ⟨s, hs, rfl⟩
    rw [← List.take_append_drop n ss] at hs
    rcases List.mem_append.1 hs with h | h
    · exact .inl ⟨s, h, rfl⟩
    · exact .inr ⟨s, h, rfl⟩
  · rintro (⟨s, hs, rfl⟩ | ⟨s, hs, rfl⟩)
    · exact ⟨s, List.mem_of_mem_take hs, rfl⟩
    · exact ⟨s, List.mem_of_mem_drop hs, rfl⟩

set_option maxRecDepth 100000 in
set_option maxHeartbeats 2000000 in
theorem addAll_any (B K D : Nat) (bs : List (List Rg)) (v : Value) (ss : List Sn) (w : World) (_hB : B ≤ w.heap.size) (hKB : B ≤ K) (hK : Know B w K bs) (hG : Good bs) (hown : w.ownsRow D 27 17 v ss.length (flatS ss)) (hbd : bs.flatten.length + ss.length ≤ 10000000)
    (HGen : Gen B ∨ (bs = [] ∧ w.heap[K]? = some (.cells #[.pointer none] 34 (0, 0)))) (HN : ReplaceOK B (.slice none 0 0) 0) (HFN : ∀ s W, Calls Try.prog 23 #[.slice none 0 0, .agg (encS s).toArray] W fun e w' => e = .returned (.int .i64 0) ∧ Gr W w') :
    Calls Try.prog 7 #[.pointer (some ⟨K, 0, none⟩), v] w fun e w' => e = .returned (.tuple #[]) ∧ Fr (FA B K v.ownBlock) w w' ∧ w'.ownsRow D 27 17 v ss.length (flatS (sortS ss)) ∧ ∃ bs', Know B w' K bs' ∧ Good bs' ∧ bs'.flatten.length ≤ bs.flatten.length + ss.length ∧ ∀ x, mem x bs'.flatten ↔ mem x bs.flatten ∨ isKey x (strip (sortS ss)) := by
  obtain ⟨k16, k17, k18, ⟨z22, z24, z27, z30, z53, z40, z62, n16, n17, n18⟩, HK⟩ := sz_ex
  clear z22 z24 z30 z53 z40 n16
  have mixed : Try.prog.follows .mixedOrders = true := by kernel_rfl
  have eq27n := eqlS27n
  obtain ⟨i0, hinf, hz0, hz1, hz2⟩ := info_parts Try.info62
  have HKn : Hid (Know B w K bs ∧ Good bs) := ⟨hK, hG⟩
  have HOwn : Hid (w.ownsRow D 27 17 v ss.length (flatS ss)) := hown
  obtain ⟨a, c, rfl, hp, hc, hcm, hr⟩ := own_rdS hown
  have CS : Hid (Calls Try.prog 20 #[.slice a ss.length c, .func (.func 21) #[] #[]] w fun e w' => e = .returned (.tuple #[]) ∧ w'.ownsRow D 27 17 (.slice a ss.length c) ss.length (flatS (sortS ss)) ∧ w.grownBy w' (Value.slice a ss.length c).ownBlock) := sort_any D _ ss w hown (by omega)
  clear hK hG hown hr hp hc hcm
  obtain ⟨S, hS⟩ : ∃ S, S = sortS ss := ⟨_, rfl⟩
  rw [← hS] at CS ⊢
  have hSl : S.length = ss.length := by rw [hS]; exact sortS_length ss
  have HS : Hid (S = sortS ss) := hS
  clear hS
  go_enter Try.func7, Try.ntmps7
  go_upto_block 0 with (go_at_call 20; refine CS.out.mono ?_; rintro e w1 ⟨rfl, ho1, hg1⟩)
  obtain ⟨a', c', hae, hp, hc, hcm, hr⟩ := own_rdS ho1
  rw [hSl] at hae
  obtain ⟨rfl, rfl⟩ : a = a' ∧ c = c' := by cases hae; exact ⟨rfl, rfl⟩
  clear hae
  have HRd0 : Hid (RdT encS 17 27 w1 a S ∧ Plain a c) := ⟨hr, hp⟩
  have HO1 : Hid (w1.ownsRow D 27 17 (.slice a ss.length c) ss.length (flatS S) ∧ w.grownBy w1 (Value.slice a ss.length c).ownBlock) := ⟨ho1, hg1⟩
  clear hr hp ho1 hg1 CS
  go_cut [1] from 14 to 25 (fun sv wr => w1 = wr ∧ ∃ (rest : List Sn) (a : Option Addr) (c : Nat), sv = .slice a rest.length c ∧ Hid (rest = strip S) ∧ rest.length ≤ S.length ∧ rest.length ≤ c ∧ c ≤ 9223372036854775807 ∧ Hid (RdT encS 17 27 w1 a rest ∧ Plain a c))
  case first =>
    go_wp2_with fail
    go_loopg [1] S.length (fun gk sv wr => w1 = wr ∧ ∃ (rest : List Sn) (a : Option Addr) (c : Nat), sv = .slice a rest.length c ∧ gk = rest.length ∧ Hid (strip rest = strip S) ∧ rest.length ≤ S.length ∧ rest.length ≤ c ∧ c ≤ 9223372036854775807 ∧ Hid (RdT encS 17 27 w1 a rest ∧ Plain a c))
    case atStart => exact ⟨rfl, S, a, c, by rw [hSl], rfl, rfl, Nat.le_refl _, hc, hcm, HRd0⟩
    case round =>
      clear hc hcm HRd0
      obtain ⟨rfl, rest, a1, c1, rfl, hgk, HST, hrl, hc1, hcm1, HRd⟩ := hrel
      cases rest with
      | nil =>
        go_wp2
        go_meet
        case rel => exact ⟨rfl, [], a1, c1, rfl, HST.out, hrl, hc1, hcm1, HRd⟩
      | cons s rr =>
        obtain ⟨b1, o1, rfl, hb1⟩ := HRd.out.1.rdB.addr
        have ld1 : Sem.run Try.prog (loadCellsFrom ⟨b1, o1, none⟩ 0 k17 #[]) w1 = .ok (encS s).toArray w1 := HRd.out.1.rdB.ld0 encS_length k17 HK.out.2.1
        cases hnull : (s == nullS) with
        | true =>
          obtain ⟨a1n, hpn, hrn, hsl⟩ := cut_fromT 31 27 ht31 el31 encS_length k17 HK.out.2.1 z27 HRd.out.2 (by simpa using hc1) hcm1 HRd.out.1 1 (by simp)
          have hsl' : ∀ w, (Instr.slice 31 (.slice (some ⟨b1, o1, none⟩) (rr.length + 1) c1) (some (.int .i64 1)) none none).run Try.prog w = .ok (.slice a1n rr.length (c1 - 1)) w := fun w => hsl w
          have HPN : Hid (RdT encS 17 27 w1 a1n rr ∧ Plain a1n (c1 - 1)) := ⟨hrn, hpn⟩
          clear hpn hrn hsl
          go_wp2
          go_roundg rr.length
          case measure => simp at hgk; omega
          case rel =>
            have e : s = nullS := by simpa using hnull
            exact ⟨rfl, rr, a1n, c1 - 1, rfl, rfl, (by show _ = _; rw [← HST.out, e, strip_cons_eq]), by simp at hrl; omega, by simp at hc1; omega, by omega, HPN⟩
        | false =>
          go_wp2
          go_meet
          case rel => exact ⟨rfl, s :: rr, some ⟨b1, o1, none⟩, c1, rfl, (by show _ = _; rw [← HST.out, strip_cons_ne hnull]), hrl, hc1, hcm1, HRd⟩
  case rest =>
    clear hc hcm HRd0
    obtain ⟨rfl, rest0, a0, c0, rfl, HST, hrl0, hc0, hcm0, HRd0⟩ := hcut
    have k1 : KT [27] w w1 := KT.grown HO1.out.2 HOwn.out
    have HK1 : Hid (Know B w1 K bs ∧ Good bs) := ⟨HKn.out.1.kt k1 (by simp) (by simp) (by simp) (by simp) (by simp), HKn.out.2⟩
    have HG1 : Hid (Gen B ∨ (bs = [] ∧ w1.heap[K]? = some (.cells #[.pointer none] 34 (0, 0))) ∨ rest0 = []) := HGen.elim .inl fun h => .inr (.inl ⟨h.1, k1 _ _ _ _ (by simp) h.2⟩)
    have HSo : Hid (Sorted rest0) := by
      show Sorted rest0
      rw [HST.out, HS.out]
      exact List.Pairwise.sublist (List.dropWhile_sublist _) (sortS_sorted ss)
    have HBd : Hid (bs.flatten.length + ss.length ≤ 10000000) := hbd
    have HSl : Hid (rest0.length ≤ ss.length) := by show _ ≤ _; omega
    have HKB : Hid (∃ c0 f0, w1.heap[K]? = some (.cells c0 34 f0)) := by
      obtain ⟨kc, v, ps, e, _⟩ := HK1.out.1
      exact ⟨_, _, e⟩
    clear k1 HGen hbd
    go_wp2_with fail
    go_loopg [1] rest0.length (fun gk sv wr => ∃ (rest : List Sn) (a : Option Addr) (c : Nat) (cs : List (List Rg)), sv = .slice a rest.length c ∧ gk = rest.length ∧ rest.length ≤ c ∧ c ≤ 9223372036854775807 ∧ Hid (RdT encS 17 27 wr a rest ∧ Plain a c) ∧ Hid (Know B wr K cs ∧ Good cs) ∧ Hid (Sorted rest) ∧
        Hid (∀ x, mem x cs.flatten ∨ isKey x rest ↔ mem x bs.flatten ∨ isKey x rest0) ∧ Hid (cs.flatten.length + rest.length ≤ bs.flatten.length + rest0.length) ∧ Hid (Fr (FK B K) w1 wr) ∧ Hid (Gen B ∨ (cs = [] ∧ wr.heap[K]? = some (.cells #[.pointer none] 34 (0, 0))) ∨ rest = []))
    case atStart => exact ⟨rest0, a0, c0, bs, rfl, rfl, hc0, hcm0, HRd0, HK1, HSo, fun x => Iff.rfl, (Nat.le_refl _ : bs.flatten.length + rest0.length ≤ _), Fr.refl _ _, HG1⟩
    case round =>
      clear HRd0 HK1 HSo HG1 hc0 hcm0
      obtain ⟨rest, ar, cr, cs, rfl, hgk, hc, hcm, HRd, HKw, HSo, HMem, HLen, HFr, HG1⟩ := hrel
      cases rest with
      | nil =>
        go_wp2
        go_end0
        obtain ⟨c0, f0, hk0⟩ := HKB.out
        have f1 : Fr (FA B K (Value.slice a ss.length c).ownBlock) w w1 := Fr.of_grown HO1.out.2 (fun k o hk _ hf => hf.1 hk.symm)
        refine ⟨rfl, f1.trans (HFr.out.mono (fun b t _ h => h.2)), ownsRow_kt HO1.out.1 (HFr.out.ktK hk0) (by simp), cs, HKw.out.1, HKw.out.2, by have h1 := HLen.out; have h2 := HSl.out; rw [List.length_nil] at h1; simp only [List.length_flatten] at h1 ⊢; omega, fun x => ?_⟩
        have := HMem.out x
        rw [← HST.out, ← this]
        simp [isKey]
      | cons s0 rr =>
        obtain ⟨wo, hwo⟩ : ∃ wo, wo = wr := ⟨wr, rfl⟩
        subst hwo
        have hck : cs.length ≤ 10000000 ∧ rr.length ≤ 10000000 := by
          have h1 := HLen.out
          have h2 := HBd.out
          have h3 := HSl.out
          have h4 := HKw.out.2.len_le
          simp only [List.length_cons] at h1
          omega
        obtain ⟨hck, hrk⟩ := hck
        obtain ⟨kc, v, ps, hK0, ho, hb, hH⟩ := HKw.out.1
        have hKlt : K < wo.heap.size := (Array.getElem?_eq_some_iff.1 hK0).1
        have hKc : wo.cell? ⟨K, 0, none⟩ = some (.pointer kc) := by simp [World.cell?, hK0]
        obtain ⟨aB, cB, rfl⟩ := own_form ho
        obtain ⟨b1, o1, rfl, hb1⟩ := HRd.out.1.rdB.addr
        have CI : Hid (Calls Try.prog 22 #[.agg #[.pointer kc]] wo fun e w' => e = .returned (.slice aB cs.length cB) ∧ Below wo.heap.size wo w') := inOrder_any B wo kc _ hH
        have HOB : Hid (wo.ownsRow B 66 1 (.slice aB cs.length cB) cs.length (ps.map ptrV) ∧ BlksAt wo ps cs) := ⟨ho, hb⟩
        have CF : Hid (∀ W, Below wo.heap.size wo W → Calls Try.prog 23 #[.slice aB cs.length cB, .agg (encS s0).toArray] W fun e w' => ∃ i : Nat, e = .returned (.int .i64 i) ∧ FB cs s0 i ∧ Gr W w') := fun W hW => by
          rcases HG1.out with h | ⟨rfl, hk⟩ | h
          · exact h.1 W B aB cB ps cs s0 (ownsRow_kt ho (KT.of_below (T := []) hW) (by simp)) (hb.kt (KT.of_below (T := []) hW) (by simp) (by simp)) HKw.out.2 (by omega)
          · rw [hk] at hK0
            cases hK0
            rcases hH with ⟨_, hv⟩ | ⟨P, hP, _⟩
            · rw [hv]
              refine (HFN s0 W).mono ?_
              rintro e w' ⟨rfl, hg⟩
              exact ⟨0, rfl, ⟨by simp, by simp, fun h => absurd h (by simp)⟩, hg⟩
            · cases hP
          · simp at h
        clear ho hb hH hK0
        go_upto_region 7 with (first | (go_at_call 22; refine CI.out.mono ?_; rintro e w2 ⟨rfl, hb2⟩; have ld2 : Sem.run Try.prog (loadCellsFrom ⟨b1, o1, none⟩ 0 k17 #[]) w2 = .ok (encS s0).toArray w2 := (HRd.out.1.kt (KT.of_below (T := []) hb2) (by simp)).rdB.ld0 encS_length k17 HK.out.2.1; have HB2 : Hid (Below wo.heap.size wo w2) := hb2; clear hb2) | fail)
        refine (CF.out _ HB2.out).mono ?_
        rintro e w3 ⟨i, rfl, hFB, hg3⟩
        have HFB : Hid (FB cs s0 i) := hFB
        have HB3 : Hid (Below wo.heap.size wo w3) := HB2.out.trans (hg3.below.mono HB2.out.size)
        have hil : i ≤ cs.length := hFB.1
        have hmin : min ((i : Int) + 1) (cs.length : Int) = ((min (i + 1) cs.length : Nat) : Int) := by omega
        clear hFB hg3 ld2 HB2 CF CI
        go_upto_region 7 with fail
        go_cut [72] from 26 to 153 (fun bv wc => ∃ b : Bool, bv = .bool b ∧ Hid (if b = true then 0 < i ∧ R1at cs s0 (i - 1) else R1at cs s0 i) ∧ Hid (Below wo.heap.size wo wc))
        case first =>
          rcases Nat.eq_zero_or_pos i with h0 | h0
          · subst h0
            go_quiet (fail)
            go_wp2
            go_meet
            case rel => exact ⟨false, rfl, (by show if false = true then _ else _; rw [if_neg (by simp)]; exact R1at.zero _ _), HB3.out.trans (((Gr.refl w3).drewN _).below.mono HB3.out.size)⟩
          · obtain ⟨ip, rfl⟩ : ∃ ip, i = ip + 1 := ⟨i - 1, by omega⟩
            have hipb : ip < cs.length := by omega
            obtain ⟨g, p, ap, rfl, hg1, hp1, cl1, cl2, hpl, hrd⟩ := blk_reads HOB.out.1 HOB.out.2 ip hipb
            have hne := (HKw.out.2.ne cs[ip] (List.getElem_mem hipb))
            obtain ⟨L, hL⟩ : ∃ L, cs[ip].length = L + 1 := ⟨cs[ip].length - 1, by have := List.length_pos_iff.2 hne.1; omega⟩
            have hLl : cs[ip].length - 1 < cs[ip].length := by omega
            have HLO : Hid (if joinsB (cs[ip][cs[ip].length - 1]) (rgOf s0) = true then R1at cs s0 ip else R1at cs s0 (ip + 1)) := lo_ok HKw.out.2 HFB.out hipb hLl
            obtain ⟨bp, op, hap, hbp⟩ : ∃ bp op, ap = some ⟨bp, op, none⟩ ∧ bp < wo.heap.size := by
              obtain ⟨b, o, h1, h2, _⟩ := hrd.rdB (cs[ip].length - 1) hLl
              exact ⟨b, o, h1, h2⟩
            subst hap
            obtain ⟨rl, hrl⟩ : ∃ rl, rl = cs[ip][cs[ip].length - 1] := ⟨_, rfl⟩
            rw [← hrl] at HLO
            have hB : ∀ n os, Below wo.heap.size wo (grow (w3.drewN n) os) := fun n os => HB3.out.trans ((Gr.below ⟨n, os, rfl⟩).mono HB3.out.size)
            have l1 : ∀ n os, (grow (w3.drewN n) os).cell? ⟨g, ip, none⟩ = some (.pointer (some ⟨p, 0, none⟩)) := fun n os => ((hB n os).cell (p := ⟨g, ip, none⟩) hg1).trans cl1
            have l2 : ∀ n os, (grow (w3.drewN n) os).cell? ⟨p, 0, none⟩ = some (.slice (some ⟨bp, op, none⟩) (L + 1) (L + 1)) := fun n os => by rw [← hL]; exact ((hB n os).cell (p := ⟨p, 0, none⟩) hp1).trans cl2
            have l3 : ∀ n os, Sem.run Try.prog (loadCellsFrom ⟨bp, op + L * k18, none⟩ 0 k18 #[]) (grow (w3.drewN n) os) = .ok (encR rl).toArray (grow (w3.drewN n) os) := fun n os => by
              have := (hrd.rdB.below (hB n os)).ld encR_length (cs[ip].length - 1) hLl k18 HK.out.2.2
              rw [hrl, show op + L * k18 = op + (cs[ip].length - 1) * k18 from by rw [hL, Nat.add_sub_cancel]]
              exact this
            have l4 : ∀ n os, Sem.run Try.prog (loadCellsFrom ⟨b1, o1, none⟩ 0 k17 #[]) (grow (w3.drewN n) os) = .ok (encS s0).toArray (grow (w3.drewN n) os) := fun n os => (HRd.out.1.rdB.below (hB n os)).ld0 encS_length k17 HK.out.2.1
            have C1 : Hid (∀ n os, Calls Try.prog 25 #[.agg (encS s0).toArray] (grow (w3.drewN n) os) fun e w' => e = .returned (.agg (encR (rgOf s0)).toArray) ∧ ∃ q os', w' = grow ((grow (w3.drewN n) os).drewN q) os') := fun n os => rangeOf_any s0 _
            have C2 : Hid (∀ n os, Calls Try.prog 24 #[.agg (encR rl).toArray, .agg (encR (rgOf s0)).toArray] (grow (w3.drewN n) os) fun e w' => e = .returned (.bool (joinsB rl (rgOf s0))) ∧ ∃ q os', w' = grow ((grow (w3.drewN n) os).drewN q) os') := fun n os => joins_any _ _ _
            have HBn : Hid (∀ n os, Below wo.heap.size wo (grow (w3.drewN n) os)) := hB
            have ib : (ip : Int) < (cs.length : Int) := by omega
            have ib0 : (0 : Int) ≤ (ip : Int) := by omega
            have ib1 : (0 : Int) < (ip : Int) + 1 := by omega
            have hLk : L ≤ 128 := by omega
            have il : (L : Int) < (L : Int) + 1 := by omega
            have il0 : (0 : Int) ≤ (L : Int) := by omega
            have hw1 : IntKind.i64.wrap (ip : Int) = (ip : Int) := by rw [IntKind.wrap_i64]; omega
            have hw2 : IntKind.i64.wrap (L : Int) = (L : Int) := by rw [IntKind.wrap_i64]; omega
            have ir : (0 : Int) < (rr.length : Int) + 1 := by omega
            generalize joinsB rl (rgOf s0) = jb at HLO C2
            clear hB hrl hL hne cl1 cl2 hrd hpl hLl
            go_quiet_grown (first | (go_at_call 25; exact Calls.grown_of (C1.out _ _)) | (go_at_call 24; exact Calls.grown_of (C2.out _ _)))
            go_wp2
            go_meet
            case rel => exact ⟨jb, rfl, (by show if jb = true then _ else _; cases jb with
              | true => exact ⟨by omega, HLO.out⟩
              | false => exact HLO.out), HBn.out _ _⟩
        case rest =>
          obtain ⟨b, rfl, HLO, HB4⟩ := hcut
          clear HB3
          go_upto_if 72 with fail
          go_cut [6] from 26 to 153 (fun lv w4 => wc = w4 ∧ ∃ l : Nat, lv = .int .i64 l ∧ l ≤ i ∧ Hid (R1at cs s0 l))
          case first =>
            cases b with
            | true =>
              obtain ⟨ip, rfl⟩ : ∃ ip, i = ip + 1 := ⟨i - 1, by have h := HLO.out; simp only [if_true] at h; have := h.1; omega⟩
              go_wp2
              go_meet
              case rel => exact ⟨rfl, ip, by go_num, by omega, (by have h := HLO.out; simp only [if_true] at h; exact h.2)⟩
            | false =>
              go_wp2
              go_meet
              case rel => exact ⟨rfl, i, rfl, Nat.le_refl _, (by have h := HLO.out; simp only [Bool.false_eq_true, if_false] at h; exact h)⟩
          case rest =>
            obtain ⟨rfl, l, rfl, hli, HR1⟩ := hcut
            clear HLO
            have hlm : l ≤ min (i + 1) cs.length := by omega
            obtain ⟨hh0, hh0e⟩ : ∃ hh0, hh0 = min (i + 1) cs.length := ⟨_, rfl⟩
            have HH0 : Hid (hh0 = min (i + 1) cs.length) := hh0e
            have hh0l : hh0 ≤ cs.length := by omega
            rw [← hh0e] at hlm hmin ⊢
            clear hh0e
            go_upto_block 4 with fail
            go_cut [7, 8] from 26 to 153 (fun hv nv w5 => ∃ h n : Nat, hv = .int .i64 h ∧ nv = .int .i64 n ∧ l ≤ h ∧ h ≤ cs.length ∧ 0 < n ∧ n ≤ rr.length + 1 ∧ Hid (R2at cs (s0 :: rr) n h) ∧ Hid (n = rr.length + 1 ∨ h < cs.length) ∧ Hid (Below wo.heap.size wo w5))
            case first =>
              go_wp2_with fail
              go_loopg [7, 8] (rr.length + 1) (fun gk hv nv w5 => ∃ h n : Nat, hv = .int .i64 h ∧ nv = .int .i64 n ∧ gk = rr.length + 1 - n ∧ l ≤ h ∧ h ≤ cs.length ∧ n ≤ rr.length + 1 ∧ Hid (n = 0 → h = hh0) ∧ Hid (R2at cs (s0 :: rr) n h) ∧ Hid (Below wo.heap.size wo w5))
              case atStart => exact ⟨hh0, 0, rfl, rfl, rfl, hlm, hh0l, by omega, fun _ => rfl, R2at.zero _ _ _, HB4⟩
              case round =>
                clear HB4
                obtain ⟨h, n, rfl, rfl, hgk2, hlh, hhl, hnl, HN0, HR2, HB5⟩ := hrel
                rcases Nat.eq_or_lt_of_le hnl with hn | hn
                · have hnI : ¬ ((n : Int) < (rr.length : Int) + 1) := by omega
                  have HNE : Hid (n = rr.length + 1) := hn
                  clear hn
                  go_wp2_with fail
                  go_meet
                  case rel => exact ⟨h, n, rfl, rfl, hlh, hhl, by rw [HNE.out]; omega, hnl, HR2, .inl HNE.out, HB5⟩
                · have hnI : (n : Int) < (rr.length : Int) + 1 := by omega
                  have hnI0 : (0 : Int) ≤ (n : Int) := by omega
                  have hnS : n < (s0 :: rr).length := by simp; omega
                  obtain ⟨s, hs⟩ : ∃ s, Hid (s = (s0 :: rr)[n]) := ⟨_, (rfl : (s0 :: rr)[n] = _)⟩
                  go_upto_region 12 with fail
                  go_cut [102] from 75 to 125 (fun bv w6 => ∃ b : Bool, bv = .bool b ∧ Hid (if b = true then 0 < n ∧ h < cs.length else (h = cs.length ∨ ∃ (hh : h < cs.length) (r0 : Rg), cs[h][0]? = some r0 ∧ key s ≤ lo r0)) ∧ Hid (Below wo.heap.size wo w6))
                  case first =>
                    rcases Nat.eq_or_lt_of_le hhl with hE | hE
                    · subst hE
                      go_quiet (fail)
                      go_wp2
                      go_meet
                      case rel => exact ⟨false, rfl, (by show if false = true then _ else _; rw [if_neg (by simp)]; exact .inl (by simp)), HB5.out.trans (((Gr.refl wr).drewN _).below.mono HB5.out.size)⟩
                    · have hdt : decide ((h : Int) < (cs.length : Int)) = true := by simp; omega
                      obtain ⟨g, p, bp, op, L, r0, rfl, hr0, hL1, hL2, hrd⟩ := blk_first HOB.out.1 HOB.out.2 HKw.out.2 h hE k18 HK.out.2.2
                      have hB : ∀ n os, Below wo.heap.size wo (grow (wr.drewN n) os) := fun n os => HB5.out.trans ((Gr.below ⟨n, os, rfl⟩).mono HB5.out.size)
                      have l1 : ∀ n os, (grow (wr.drewN n) os).cell? ⟨g, h, none⟩ = some (.pointer (some ⟨p, 0, none⟩)) := fun n os => (hrd _ (hB n os)).1
                      have l2 : ∀ n os, (grow (wr.drewN n) os).cell? ⟨p, 0, none⟩ = some (.slice (some ⟨bp, op, none⟩) (L + 1) (L + 1)) := fun n os => (hrd _ (hB n os)).2.1
                      have l3 : ∀ n os, Sem.run Try.prog (loadCellsFrom ⟨bp, op, none⟩ 0 k18 #[]) (grow (wr.drewN n) os) = .ok (encR r0).toArray (grow (wr.drewN n) os) := fun n os => (hrd _ (hB n os)).2.2
                      have l4 : ∀ m os, Sem.run Try.prog (loadCellsFrom ⟨b1, o1 + n * k17, none⟩ 0 k17 #[]) (grow (wr.drewN m) os) = .ok (encS s).toArray (grow (wr.drewN m) os) := fun m os => by
                        rw [hs.out]; exact (HRd.out.1.rdB.below (hB m os)).ld encS_length n hnS k17 HK.out.2.1
                      have C1 : Hid (∀ n os, Calls Try.prog 26 #[.agg (encR r0).toArray] (grow (wr.drewN n) os) fun e w' => e = .returned (.agg (encS (firstOf r0)).toArray) ∧ ∃ q os', w' = grow ((grow (wr.drewN n) os).drewN q) os') := fun n os => first_any r0 _
                      have C2 : Hid (∀ n os, Calls Try.prog 21 #[.agg (encS (firstOf r0)).toArray, .agg (encS s).toArray] (grow (wr.drewN n) os) fun e w' => e = .returned (.int .i64 (cmpS (firstOf r0) s)) ∧ ∃ q os', w' = grow ((grow (wr.drewN n) os).drewN q) os') := fun n os => compare_any _ _ _
                      have HBn : Hid (∀ n os, Below wo.heap.size wo (grow (wr.drewN n) os)) := hB
                      have HC : Hid ((cmpS (firstOf r0) s < 0 ↔ lo r0 < key s) ∧ cs[h][0]? = some r0) := ⟨cmp_first r0 s, hr0⟩
                      have ib : (h : Int) < (cs.length : Int) := by omega
                      have ib0 : (0 : Int) ≤ (h : Int) := by omega
                      have il0 : (0 : Int) < (L : Int) + 1 := by omega
                      have HN1 : Hid (cmpS (firstOf r0) s < 0 → 0 < n) := fun hc => by
                        have hc' := (cmp_first r0 s).1 hc
                        rcases Nat.eq_zero_or_pos n with h0 | h0
                        · exfalso
                          subst h0
                          have e1 := HN0.out rfl
                          rw [HH0.out] at e1
                          have hi1 : i + 1 < cs.length := by omega
                          have e2 : h = i + 1 := by omega
                          subst e2
                          obtain ⟨q, hq, hq2⟩ := HFB.out.2.2 (by omega)
                          have := next_first HKw.out.2 hE hq hr0
                          have e3 : s = s0 := hs.out
                          rw [e3] at hc'
                          omega
                        · exact h0
                      generalize cmpS (firstOf r0) s = c at C2 HC HN1
                      clear hB hr0 hL1 hrd
                      go_quiet_grown (first | (go_at_call 26; exact Calls.grown_of (C1.out _ _)) | (go_at_call 21; exact Calls.grown_of (C2.out _ _)))
                      go_wp2
                      go_meet
                      case rel =>
                        refine ⟨decide (c < 0), rfl, ?_, HBn.out _ _⟩
                        show if _ then _ else _
                        by_cases hc : c < 0
                        · simp only [hc, decide_true, if_true]; exact ⟨HN1.out hc, hE⟩
                        · simp only [hc, decide_false, Bool.false_eq_true, if_false]
                          exact .inr ⟨hE, r0, HC.out.2, by have h9 : ¬ lo r0 < key s := fun hh => hc (HC.out.1.2 hh); omega⟩
                  case rest =>
                    obtain ⟨b, rfl, HBR, HB6⟩ := hcut
                    clear HB5
                    cases b with
                    | true =>
                      go_wp2
                      go_meet
                      case rel =>
                        have hbr := HBR.out
                        simp only [if_true] at hbr
                        exact ⟨h, n, rfl, rfl, hlh, hhl, hbr.1, hnl, HR2, .inr hbr.2, HB6⟩
                    | false =>
                      have HBR' : Hid (h = cs.length ∨ ∃ (hh : h < cs.length) (r0 : Rg), cs[h][0]? = some r0 ∧ key s ≤ lo r0) := by
                        have hbr := HBR.out
                        simp only [Bool.false_eq_true, if_false] at hbr
                        exact hbr
                      clear HBR HR2 HN0
                      go_wp2_with fail
                      go_loopg [7] (cs.length - h) (fun gk hv w7 => ∃ h : Nat, hv = .int .i64 h ∧ gk = cs.length - h ∧ l ≤ h ∧ h ≤ cs.length ∧ Hid (h = cs.length ∨ ∃ (hh : h < cs.length) (r0 : Rg), cs[h][0]? = some r0 ∧ key s ≤ lo r0) ∧ Hid (Below wo.heap.size wo w7))
                      case atStart => exact ⟨h, rfl, rfl, hlh, hhl, HBR', HB6⟩
                      case round =>
                        clear HBR' HB6 hlh hhl
                        obtain ⟨h, rfl, hgk3, hlh, hhl, HBR, HB5⟩ := hrel
                        rcases Nat.eq_or_lt_of_le hhl with hE | hE
                        · subst hE
                          have HR3 : Hid (R2at cs (s0 :: rr) (n + 1) cs.length) := R2at.step HKw.out.2 HSo.out hnS (.inl rfl) (Nat.le_refl _)
                          go_upto_region 13 with fail
                          go_quiet (fail)
                          have HB7 : Hid (Below wo.heap.size wo (wr.drewN nq)) := HB5.out.trans (((Gr.refl wr).drewN _).below.mono HB5.out.size)
                          go_wp2
                          go_roundg (rr.length + 1 - (n + 1))
                          case measure => omega
                          case rel => exact ⟨cs.length, n + 1, rfl, by go_num, rfl, hlh, Nat.le_refl _, by omega, (fun h0 => absurd h0 (by omega)), HR3, HB7⟩
                        · obtain ⟨g, p, bp, op, L, r0, rfl, hr0, hL1, hL2, hrd⟩ := blk_first HOB.out.1 HOB.out.2 HKw.out.2 h hE k18 HK.out.2.2
                          have hkr : key s ≤ lo r0 := by
                            rcases HBR.out with h1 | ⟨hh, r1, h1, h2⟩
                            · omega
                            · rw [hr0] at h1; cases h1; exact h2
                          have hB : ∀ n os, Below wo.heap.size wo (grow (wr.drewN n) os) := fun n os => HB5.out.trans ((Gr.below ⟨n, os, rfl⟩).mono HB5.out.size)
                          have l1 : ∀ n os, (grow (wr.drewN n) os).cell? ⟨g, h, none⟩ = some (.pointer (some ⟨p, 0, none⟩)) := fun n os => (hrd _ (hB n os)).1
                          have l2 : ∀ n os, (grow (wr.drewN n) os).cell? ⟨p, 0, none⟩ = some (.slice (some ⟨bp, op, none⟩) (L + 1) (L + 1)) := fun n os => (hrd _ (hB n os)).2.1
                          have l3 : ∀ n os, Sem.run Try.prog (loadCellsFrom ⟨bp, op, none⟩ 0 k18 #[]) (grow (wr.drewN n) os) = .ok (encR r0).toArray (grow (wr.drewN n) os) := fun n os => (hrd _ (hB n os)).2.2
                          have l4 : ∀ m os, Sem.run Try.prog (loadCellsFrom ⟨b1, o1 + n * k17, none⟩ 0 k17 #[]) (grow (wr.drewN m) os) = .ok (encS s).toArray (grow (wr.drewN m) os) := fun m os => by
                            rw [hs.out]; exact (HRd.out.1.rdB.below (hB m os)).ld encS_length n hnS k17 HK.out.2.1
                          have C1 : Hid (∀ n os, Calls Try.prog 25 #[.agg (encS s).toArray] (grow (wr.drewN n) os) fun e w' => e = .returned (.agg (encR (rgOf s)).toArray) ∧ ∃ q os', w' = grow ((grow (wr.drewN n) os).drewN q) os') := fun n os => rangeOf_any s _
                          have C2 : Hid (∀ n os, Calls Try.prog 24 #[.agg (encR (rgOf s)).toArray, .agg (encR r0).toArray] (grow (wr.drewN n) os) fun e w' => e = .returned (.bool (joinsB (rgOf s) r0)) ∧ ∃ q os', w' = grow ((grow (wr.drewN n) os).drewN q) os') := fun n os => joins_any _ _ _
                          have HBn : Hid (∀ n os, Below wo.heap.size wo (grow (wr.drewN n) os)) := hB
                          have HJ : Hid (if joinsB (rgOf s) r0 = true then (h + 1 = cs.length ∨ ∃ (hh : h + 1 < cs.length) (r1 : Rg), cs[h + 1][0]? = some r1 ∧ key s ≤ lo r1) else R2at cs (s0 :: rr) (n + 1) h) := by
                            show if _ then _ else _
                            rw [joins_first r0 s hkr]
                            by_cases hc : lo r0 ≤ key s + 1
                            · rw [if_pos (by simpa using hc)]
                              rcases Nat.eq_or_lt_of_le (show h + 1 ≤ cs.length from hE) with e | e
                              · exact .inl e
                              · obtain ⟨_, _, _, _, _, r1, _, hr1, _⟩ := blk_first HOB.out.1 HOB.out.2 HKw.out.2 (h + 1) e k18 HK.out.2.2
                                refine .inr ⟨e, r1, hr1, ?_⟩
                                have hm : r0 ∈ cs[h] := List.mem_of_getElem? hr0
                                have h5 := next_first HKw.out.2 e hm hr1
                                have h6 : lo r0 ≤ hi r0 := HKw.out.2.ap.1 r0 (List.mem_flatten.2 ⟨cs[h], List.getElem_mem hE, hm⟩)
                                omega
                            · rw [if_neg (by simpa using hc)]
                              exact R2at.step HKw.out.2 HSo.out hnS (.inr ⟨hE, r0, hr0, by rw [← hs.out]; omega⟩) hhl
                          have hdt : decide ((h : Int) < (cs.length : Int)) = true := by simp; omega
                          have ib : (h : Int) < (cs.length : Int) := by omega
                          have ib0 : (0 : Int) ≤ (h : Int) := by omega
                          have il0 : (0 : Int) < (L : Int) + 1 := by omega
                          generalize joinsB (rgOf s) r0 = jb at C2 HJ
                          clear hB hr0 hL1 hrd hkr
                          go_upto_region 13 with fail
                          go_quiet_grown (first | (go_at_call 25; exact Calls.grown_of (C1.out _ _)) | (go_at_call 24; exact Calls.grown_of (C2.out _ _)))
                          have HB7 := HBn.out nq osq
                          have HB8 : Hid (Below wo.heap.size wo (grow (wr.drewN nq) osq)) := HB7
                          clear HB7 HBn C1 C2 l1 l2 l3 l4
                          generalize grow (wr.drewN nq) osq = X at *
                          cases jb with
                          | true =>
                            go_wp2
                            go_roundg (cs.length - (h + 1))
                            case measure => omega
                            case rel => exact ⟨h + 1, by go_num, rfl, by omega, by omega, (by have hj := HJ.out; simp only [if_true] at hj; exact hj), HB8⟩
                          | false =>
                            go_wp2
                            go_roundg (rr.length + 1 - (n + 1))
                            case measure => omega
                            case rel => exact ⟨h, n + 1, rfl, by go_num, rfl, hlh, hhl, by omega, (fun h0 => absurd h0 (by omega)), (by have hj := HJ.out; simp only [Bool.false_eq_true, if_false] at hj; exact hj), HB8⟩
            case rest =>
              clear HB4
              obtain ⟨h, n, rfl, rfl, hlh, hhl, hn0, hnl, HR2, HNE, HB5⟩ := hcut
              have hcB : cs.length ≤ cB := by
                rcases HOB.out.1.2 with ⟨h1, h2⟩ | ⟨g, cap, cur, h1, _, _, h2, _⟩
                · omega
                · cases h1; exact h2
              obtain ⟨aM, hM⟩ : ∃ aM, aM = if cB = l then aB else aB.map (·.add (l * 1)) := ⟨_, rfl⟩
              have hslM : ∀ w, (Instr.slice 58 (.slice aB cs.length cB) (some (.int .i64 l)) (some (.int .i64 h)) none).run Try.prog w = .ok (.slice aM (h - l) (cB - l)) w := fun w => by
                rw [run_slice_lh w 58 aB _ cB Try.underlying58 .i64 .i64 _ _ (by omega) (by omega) (by omega), hM]
                simp [go_sem, sliced]
              have HAM : Hid (∀ j, l + j < h → ∃ g, aB = some ⟨g, 0, none⟩ ∧ aM = some ⟨g, l, none⟩) := fun j hj => by
                obtain ⟨g, _, _, e, _⟩ := blk_reads HOB.out.1 HOB.out.2 (l + j) (by omega)
                refine ⟨g, e, ?_⟩
                rw [hM, if_neg (by omega), e, Option.map_some, add_plain_sl]
                simp
              clear hM
              have hwo : wo.heap.size ≤ wc.heap.size := HB5.out.size
              have hHLe : ∀ j, (((cs.drop l).take j).flatten).length ≤ 10000000 := fun j => by
                have h1 := held_le cs l j
                have h2 := HLen.out
                have h3 := HBd.out
                have h4 := HSl.out
                omega
              have HHLe : Hid (∀ j, (((cs.drop l).take j).flatten).length ≤ 10000000) := hHLe
              clear hHLe
              go_wp2_with fail
              go_loopg [9, 131] (h - l) (fun gk hv iv w7 => ∃ (j : Nat) (v : Value), v = hv ∧ iv = .int .i64 j ∧ gk = h - l - j ∧ j ≤ h - l ∧ w7.ownsRow wo.heap.size 62 18 v (((cs.drop l).take j).flatten).length (flatR ((cs.drop l).take j).flatten) ∧ Hid (Below wo.heap.size wo w7))
              case atStart => exact ⟨0, _, rfl, rfl, rfl, by omega, (World.ownsRow_nil _ _ _ _ : wc.ownsRow wo.heap.size 62 18 (.slice none 0 0) 0 []), HB5⟩
              case round =>
                clear HB5 hwo
                obtain ⟨j, v, rfl, rfl, hgk4, hjl, ho, HB7⟩ := hrel
                have hwo : wo.heap.size ≤ wr.heap.size := HB7.out.size
                rcases Nat.eq_or_lt_of_le hjl with hE | hE
                · subst hE
                  obtain ⟨ah, ch, rfl, hph, hch, hchm, hrh⟩ := own_rdT ho
                  obtain ⟨H, hH⟩ : ∃ H, H = ((cs.drop l).take (h - l)).flatten := ⟨_, rfl⟩
                  rw [← hH] at hch hrh ⊢
                  have hHl : H.length ≤ 10000000 := by rw [hH]; exact HHLe.out _
                  have HHe : Hid (H = ((cs.drop l).take (h - l)).flatten) := hH
                  have HRS : Hid (RdT encS 17 27 wr (some ⟨b1, o1, none⟩) (s0 :: rr)) := HRd.out.1.kt (KT.of_below (T := []) HB7.out) (by simp)
                  have htl : ((s0 :: rr).take n).length = n := by simp; omega
                  have hcr : n ≤ cr := by simp at hc; omega
                  have sl1 : ∀ w, (Instr.slice 31 (.slice (some ⟨b1, o1, none⟩) (rr.length + 1) cr) none (some (.int .i64 n)) none).run Try.prog w = .ok (.slice (some ⟨b1, o1, none⟩) n cr) w := fun w => cut_to 31 27 ht31 el31 k17 z27 n hcr w
                  have CM : Hid (Calls Try.prog 28 #[.slice ah H.length ch, .slice (some ⟨b1, o1, none⟩) n cr] wr fun e w' => ∃ v', e = .returned v' ∧ w'.ownsRow wr.heap.size 62 18 v' (mergeL H ((s0 :: rr).take n)).length (flatR (mergeL H ((s0 :: rr).take n))) ∧ Below wr.heap.size wr w') := by
                    have := merge_any ah (some ⟨b1, o1, none⟩) ch cr H ((s0 :: rr).take n) wr hph (.inr ⟨_, _, rfl⟩) hch (by rw [htl]; exact hcr) hchm hcm (by rw [htl]; omega) hrh.rdB (HRS.out.rdB.take n)
                    rw [htl] at this
                    exact this
                  clear ho hph hrh hH htl
                  go_wp2_with fail
                  refine CM.out.mono ?_
                  rintro e w8 ⟨vm, rfl, ho8, hb8⟩
                  have hB8 : Below wo.heap.size wo w8 := HB7.out.trans (hb8.mono hwo)
                  have hApH : Ap H := by rw [HHe.out]; exact HKw.out.2.held _ _
                  have hSoT : Sorted ((s0 :: rr).take n) := List.Pairwise.sublist (List.take_sublist _ _) HSo.out
                  obtain ⟨_, _, hMl⟩ := merge_ok H ((s0 :: rr).take n) hApH hSoT
                  have hMne : mergeL H ((s0 :: rr).take n) ≠ [] := mergeL_ne hApH hSoT (by
                    cases n with
                    | zero => omega
                    | succ m => simp)
                  have hfl : cs.flatten.length ≤ 10000000 := by
                    have h2 := HLen.out
                    have h3 := HBd.out
                    have h4 := HSl.out
                    omega
                  have CR : Hid (Calls Try.prog 27 #[.pointer (some ⟨K, 0, none⟩), .int .i64 l, .int .i64 h, vm] w8 fun e w' => e = .returned (.tuple #[]) ∧ Fr (FK B K) w8 w' ∧ ∃ lo' hi' rs', Rep cs l h (mergeL H ((s0 :: rr).take n)) lo' hi' rs' ∧ Know B w' K (cs.take lo' ++ chunks rs' ++ cs.drop hi')) := by
                    have hwoB : B ≤ wo.heap.size := by have := HFr.out.size; have := HO1.out.2.size; omega
                    refine replace_any B K cs l h vm (mergeL H ((s0 :: rr).take n)) w8 (by have := hB8.size; omega) hKB (HKw.out.1.below hB8) hlh hhl hMne (fun b hb => (HKw.out.2.ne b hb).1) (by omega) ?_ (ownsRow_mono ho8 (by omega)) ?_ ?_
                    · have : ((s0 :: rr).take n).length ≤ n := by simp; omega
                      omega
                    · rcases HG1.out with h | ⟨h, _⟩ | h
                      · exact .inr h.2.1
                      · exact .inl h
                      · simp at h
                    · intro v hv
                      rcases HG1.out with h | ⟨h, hk⟩ | h
                      · exact h.2.2 v _
                      · rw [hv ((hB8.block K hKlt).trans hk), h]
                        exact HN
                      · simp at h
                  have HB8 : Hid (Below wo.heap.size wo w8) := hB8
                  have HMl : Hid ((mergeL H ((s0 :: rr).take n)).length ≤ H.length + n) := by
                    show _ ≤ _
                    have : ((s0 :: rr).take n).length ≤ n := by simp; omega
                    omega
                  clear ho8 hb8 hB8 hApH hSoT hMl hMne hfl CM
                  obtain ⟨an, hpn, hrn, hsl⟩ := cut_fromT 31 27 ht31 el31 encS_length k17 HK.out.2.1 z27 (W := wo) (.inr ⟨_, _, rfl⟩) (by simpa using hc) hcm HRd.out.1 n (by simp; omega)
                  have hsl' : ∀ w, (Instr.slice 31 (.slice (some ⟨b1, o1, none⟩) (rr.length + 1) cr) (some (.int .i64 n)) none none).run Try.prog w = .ok (.slice an (rr.length + 1 - n) (cr - n)) w := fun w => hsl w
                  have HPN : Hid (RdT encS 17 27 wo an ((s0 :: rr).drop n) ∧ Plain an (cr - n)) := ⟨hrn, hpn⟩
                  clear hpn hrn hsl
                  go_wp2_with (go_at_call 27; refine CR.out.mono ?_; rintro e w9 ⟨rfl, hF9, l', h', rs', hRep, hK9⟩; have H9 : Hid (Fr (FK B K) w8 w9 ∧ Rep cs l h (mergeL H ((s0 :: rr).take n)) l' h' rs' ∧ Know B w9 K (cs.take l' ++ chunks rs' ++ cs.drop h')) := ⟨hF9, hRep, hK9⟩; clear hF9 hRep hK9 CR)
                  go_roundg ((s0 :: rr).drop n).length
                  case measure => simp at hgk ⊢; omega
                  case rel =>
                    obtain ⟨f9, rep, k9⟩ := H9.out
                    rw [HHe.out] at rep
                    have R1 : ∀ r ∈ (cs.take l).flatten, ∀ s ∈ s0 :: rr, Go.Proofs.Qxb6615018a.hi r + 1 < key s := fun r hr s hs => by
                      have h1 := HR1.out r hr
                      rcases List.mem_cons.1 hs with rfl | hs
                      · exact h1
                      · have := (List.pairwise_cons.1 HSo.out).1 s hs; omega
                    obtain ⟨g1, g2, g3, _⟩ := round_ok HKw.out.2 HSo.out hlh hhl hn0 (by simp; omega) R1 HR2.out rep
                    obtain ⟨kc8, v8, ps8, e8, _⟩ := HKw.out.1.below HB8.out
                    refine ⟨(s0 :: rr).drop n, an, cr - n, cs.take l' ++ chunks rs' ++ cs.drop h', by simp, rfl, by simp at hc ⊢; omega, by omega, ⟨(HPN.out.1.kt (KT.of_below (T := []) HB8.out) (by simp)).kt (f9.ktK e8) (by simp), HPN.out.2⟩, ⟨k9, g1⟩, List.Pairwise.sublist (List.drop_sublist _ _) HSo.out, fun x => ?_, ?_, (HFr.out.trans (Fr.of_below HB8.out)).trans f9, ?_⟩
                    · rw [← HMem.out x, g2, isKey_take_drop x n (s0 :: rr), or_assoc]
                    · show _ ≤ _
                      have h2 := HLen.out
                      simp only [List.length_drop, List.length_cons] at h2 ⊢
                      omega
                    · rcases HG1.out with h1 | ⟨h1, _⟩ | h1
                      · exact .inl h1
                      · refine .inr (.inr ?_)
                        rcases HNE.out with e | e
                        · exact List.drop_of_length_le (by simp; omega)
                        · rw [h1] at e; simp at e
                      · simp at h1
                · have hEI : (j : Int) < ((h - l : Nat) : Int) := by omega
                  have hEI0 : (0 : Int) ≤ (j : Int) := by omega
                  have hlj : l + j < cs.length := by omega
                  obtain ⟨g, rfl, rfl⟩ := HAM.out j (by omega)
                  obtain ⟨g', p, ap, hg', hg1, hp1, cl1, cl2, hpl, hrd⟩ := blk_reads HOB.out.1 HOB.out.2 (l + j) hlj
                  cases hg'
                  obtain ⟨bp, op, rfl, hbp⟩ : ∃ bp op, ap = some ⟨bp, op, none⟩ ∧ bp < wo.heap.size := by
                    have hne := (HKw.out.2.ne cs[l + j] (List.getElem_mem hlj)).1
                    obtain ⟨b, o, h1, h2, _⟩ := hrd.rdB 0 (List.length_pos_iff.2 hne)
                    exact ⟨b, o, h1, h2⟩
                  obtain ⟨L, hL⟩ : ∃ L, L = cs[l + j].length := ⟨_, rfl⟩
                  rw [← hL] at cl2
                  have l1 : wr.cell? ⟨g, l + j, none⟩ = some (.pointer (some ⟨p, 0, none⟩)) := (HB7.out.cell (p := ⟨g, l + j, none⟩) hg1).trans cl1
                  have l2 : wr.cell? ⟨p, 0, none⟩ = some (.slice (some ⟨bp, op, none⟩) L L) := (HB7.out.cell (p := ⟨p, 0, none⟩) hp1).trans cl2
                  have HNEW : Hid (∀ i u, (flatR cs[l + j])[i]? = some u → wr.cell? ((⟨bp, op, none⟩ : Addr).add i) = some u) := fun i u hu => rd_flat (hrd.rdB.below HB7.out) i u hu
                  have HLE : Hid (L = cs[l + j].length) := hL
                  have HST2 := held_step hlj
                  have hsum := HHLe.out (j + 1)
                  rw [HST2, List.length_append, ← hL] at hsum
                  have HST3 : Hid (((cs.drop l).take (j + 1)).flatten = ((cs.drop l).take j).flatten ++ cs[l + j]) := HST2
                  have HOW : Hid (wr.ownsRow wo.heap.size 62 18 v (((cs.drop l).take j).flatten).length (flatR ((cs.drop l).take j).flatten)) := ho
                  obtain ⟨N, hN⟩ : ∃ N, N = (((cs.drop l).take j).flatten).length := ⟨_, rfl⟩
                  rw [← hN] at hsum
                  have HNe : Hid (N = (((cs.drop l).take j).flatten).length) := hN
                  clear hL cl1 cl2 hrd hpl HST2 ho hN
                  go_wp2_with (at_builtin; refine wpList_append_own _ rfl (.tmp 135) (.tmp 139) 63 rfl wo.heap.size 62 i0 _ 18 32 Try.underlying63 hinf hz0 hz1 hz2 rfl (by decide) _ N (flatR ((cs.drop l).take j).flatten) rfl ?own ⟨bp, op, none⟩ L L (flatR cs[l + j]) rfl ?ll ?news ?one ?c3 ?c4 ?c5 ?_)
                  case own => rw [HNe.out]; exact HOW.out
                  case ll => rw [flatR_length, HLE.out]
                  case news => exact HNEW.out
                  case one => exact flatR_oneCell _
                  case c3 => unfold maxLen; omega
                  case c4 => omega
                  case c5 => omega
                  intro v' w' ho' hg _
                  have HB8 : Hid (Below wo.heap.size wo w') := grown_below HB7.out hg hwo HOW.out
                  have HO8 : Hid (w'.ownsRow wo.heap.size 62 18 v' (((cs.drop l).take (j + 1)).flatten).length (flatR ((cs.drop l).take (j + 1)).flatten)) := by
                    rw [HST3.out, flatR_append, List.length_append, ← HNe.out, ← HLE.out]
                    exact ho'
                  clear ho' hg HOW HNEW
                  go_wp2
                  go_roundg (h - l - (j + 1))
                  case measure => omega
                  case rel => exact ⟨j + 1, v', rfl, by go_num, rfl, by omega, HO8.out, HB8⟩
end Go.Proofs.Qxb6615018a
