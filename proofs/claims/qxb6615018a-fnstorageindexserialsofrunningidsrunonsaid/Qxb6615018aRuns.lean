/-
  DERIVED. No Go in sight: ranges apart from each other, what they hold, and what a round of AddAll makes of them.
-/
import Derived.Test.Qxb6615018aNull
namespace Go.Proofs.Qxb6615018a
open Go.RowKit Go.Sort

/-- Ranges in order, apart. -/
def Ap (rs : List Rg) : Prop := (∀ r ∈ rs, lo r ≤ hi r) ∧ rs.Pairwise (fun r r' => hi r + 1 < lo r')
/-- x is held. -/
def mem (x : Nat) (rs : List Rg) : Prop := ∃ r ∈ rs, lo r ≤ x ∧ x ≤ hi r
def isKey (x : Nat) (ss : List Sn) : Prop := ∃ s ∈ ss, key s = x

theorem Ap.nil : Ap [] := ⟨fun r h => absurd h (by simp), List.Pairwise.nil⟩
theorem Ap.app {a b : List Rg} : Ap (a ++ b) ↔ Ap a ∧ Ap b ∧ ∀ r ∈ a, ∀ r' ∈ b, hi r + 1 < lo r' := by
  simp only [Ap, List.pairwise_append, List.mem_append]
  constructor
  · rintro ⟨h1, h2, h3, h4⟩
    exact ⟨⟨fun r h => h1 r (.inl h), h2⟩, ⟨fun r h => h1 r (.inr h), h3⟩, h4⟩
  · rintro ⟨⟨h1, h2⟩, ⟨h3, h4⟩, h5⟩
    exact ⟨fun r h => h.elim (h1 r) (h3 r), h2, h4, h5⟩
theorem mem_app {x : Nat} {a b : List Rg} : mem x (a ++ b) ↔ mem x a ∨ mem x b := by
  constructor
  · rintro ⟨r, h, h2⟩
    rcases List.mem_append.1 h with h | h
    · exact .inl ⟨r, h, h2⟩
    · exact .inr ⟨r, h, h2⟩
  · rintro (⟨r, h, h2⟩ | ⟨r, h, h2⟩)
    · exact ⟨r, List.mem_append_left _ h, h2⟩
    · exact ⟨r, List.mem_append_right _ h, h2⟩
theorem mem_one {x : Nat} {r : Rg} : mem x [r] ↔ lo r ≤ x ∧ x ≤ hi r := by
  simp [mem]
theorem mem_nil {x : Nat} : ¬ mem x [] := by simp [mem]

/-- Of ranges apart the list is known by what it holds. -/
theorem Ap.uniq : ∀ (a b : List Rg), Ap a → Ap b → (∀ x, mem x a ↔ mem x b) → a = b
  | [], [], _, _, _ => rfl
  | [], r :: b, _, hb, h => absurd ((h (lo r)).2 ⟨r, by simp, Nat.le_refl _, hb.1 r (by simp)⟩) mem_nil
  | r :: a, [], ha, _, h => absurd ((h (lo r)).1 ⟨r, by simp, Nat.le_refl _, ha.1 r (by simp)⟩) mem_nil
  | r :: a, s :: b, ha, hb, h => by
    have hr := ha.1 r (by simp)
    have hs := hb.1 s (by simp)
    have pa := List.pairwise_cons.1 ha.2
    have pb := List.pairwise_cons.1 hb.2
    have ha' : Ap a := ⟨fun x hx => ha.1 x (by simp [hx]), pa.2⟩
    have hb' : Ap b := ⟨fun x hx => hb.1 x (by simp [hx]), pb.2⟩
    -- the lists' first numbers
    have l1 : lo r = lo s := by
      obtain ⟨q, hq, q1, q2⟩ := (h (lo r)).1 ⟨r, by simp, Nat.le_refl _, hr⟩
      obtain ⟨p, hp, p1, p2⟩ := (h (lo s)).2 ⟨s, by simp, Nat.le_refl _, hs⟩
      have e1 : lo s ≤ lo r := by
        rcases List.mem_cons.1 hq with rfl | hq
        · exact q1
        · have := pb.1 q hq; omega
      have e2 : lo r ≤ lo s := by
        rcases List.mem_cons.1 hp with rfl | hp
        · exact p1
        · have := pa.1 p hp; omega
      omega
    have l2 : hi r = hi s := by
      rcases Nat.lt_trichotomy (hi r) (hi s) with hlt | heq | hgt
      · obtain ⟨p, hp, p1, p2⟩ := (h (hi r + 1)).2 ⟨s, by simp, by omega, by omega⟩
        rcases List.mem_cons.1 hp with rfl | hp
        · omega
        · have := pa.1 p hp; omega
      · exact heq
      · obtain ⟨p, hp, p1, p2⟩ := (h (hi s + 1)).1 ⟨r, by simp, by omega, by omega⟩
        rcases List.mem_cons.1 hp with rfl | hp
        · omega
        · have := pb.1 p hp; omega
    have hrs : r = s := by
      have e1 := key_inj l1
      have e2 := key_inj l2
      simp only [Prod.mk.injEq] at e1 e2
      exact Prod.ext e1.1 (Prod.ext e1.2 e2.2)
    subst hrs
    congr 1
    refine Ap.uniq a b ha' hb' fun x => ?_
    have hx := h x
    constructor
    · rintro ⟨p, hp, p1, p2⟩
      have h1 := pa.1 p hp
      obtain ⟨q, hq, q1, q2⟩ := hx.1 ⟨p, by simp [hp], p1, p2⟩
      rcases List.mem_cons.1 hq with rfl | hq
      · omega
      · exact ⟨q, hq, q1, q2⟩
    · rintro ⟨p, hp, p1, p2⟩
      have h1 := pb.1 p hp
      obtain ⟨q, hq, q1, q2⟩ := hx.2 ⟨p, by simp [hp], p1, p2⟩
      rcases List.mem_cons.1 hq with rfl | hq
      · omega
      · exact ⟨q, hq, q1, q2⟩

theorem pw_to {α : Type} {R S : α → α → Prop} (h : ∀ a b, R a b → S a b) : ∀ {l : List α}, l.Pairwise R → l.Pairwise S
  | [], _ => List.Pairwise.nil
  | _ :: _, hp => by
    have hc := List.pairwise_cons.1 hp
    exact List.pairwise_cons.2 ⟨fun b hb => h _ b (hc.1 b hb), pw_to h hc.2⟩
theorem pw_mem {α : Type} {R S : α → α → Prop} : ∀ {l : List α}, (∀ a ∈ l, ∀ b, R a b → S a b) → l.Pairwise R → l.Pairwise S
  | [], _, _ => List.Pairwise.nil
  | a :: _, h, hp => by
    have hc := List.pairwise_cons.1 hp
    exact List.pairwise_cons.2 ⟨fun b hb => h a (by simp) b (hc.1 b hb), pw_mem (fun x hx => h x (by simp [hx])) hc.2⟩

/-! ### appendRange, mergeSerials -/

theorem lo_rgOf (s : Sn) : lo (rgOf s) = key s := rfl
theorem hi_rgOf (s : Sn) : hi (rgOf s) = key s := rfl
theorem leR_iff (a b : Rg) : leR a b = true ↔ lo a ≤ lo b := by
  have : cmpS (firstOf a) (firstOf b) = if lo a < lo b then -1 else if lo b < lo a then 1 else 0 := cmpS_key _ _
  unfold leR
  rw [this]
  by_cases h1 : lo a < lo b
  · simp [h1]; omega
  · by_cases h2 : lo b < lo a
    · simp [h1, h2]
    · simp [h1, h2]; omega

theorem joined_hi (l r : Rg) (hg : l.1 = r.1) : hi (l.1, l.2.1, max l.2.2 r.2.2) = max (hi l) (hi r) := by
  have h1 : hi (l.1, l.2.1, max l.2.2 r.2.2) = gk l.1 * 36893488147419103232 + (max l.2.2 r.2.2).toNat := rfl
  have h2 : hi l = gk l.1 * 36893488147419103232 + l.2.2.toNat := rfl
  have h3 : hi r = gk r.1 * 36893488147419103232 + r.2.2.toNat := rfl
  rw [h1, h2, h3, umax, hg]
  omega

/-- One range more, which starts no earlier than the last. -/
theorem apR_ok (acc : List Rg) (r : Rg) (ha : Ap acc) (hr : lo r ≤ hi r) (hl : ∀ l ∈ acc, lo l ≤ lo r) : Ap (apR acc r) ∧ (∀ x, mem x (apR acc r) ↔ mem x acc ∨ (lo r ≤ x ∧ x ≤ hi r)) ∧ (∀ l ∈ apR acc r, lo l ≤ lo r) := by
  rcases List.eq_nil_or_concat acc with rfl | ⟨ini, l, rfl⟩
  · refine ⟨⟨fun q hq => ?_, ?_⟩, fun x => ?_, fun q hq => ?_⟩
    · simp [apR] at hq; subst hq; exact hr
    · simp [apR]
    · show mem x [r] ↔ _; rw [mem_one]; simp [mem_nil]
    · simp [apR] at hq; subst hq; exact Nat.le_refl _
  · rw [List.concat_eq_append] at ha hl ⊢
    have hgl : (ini ++ [l]).getLast? = some l := by simp
    obtain ⟨h1, h2, h3⟩ := Ap.app.1 ha
    have hll : lo l ≤ hi l := ha.1 l (by simp)
    have hlr : lo l ≤ lo r := hl l (by simp)
    have hj := joinsB_key l r hlr hll
    unfold apR
    rw [hgl]
    simp only
    by_cases hjo : joinsB l r = true
    · rw [if_pos hjo, List.dropLast_concat]
      rw [hjo] at hj
      have hle : lo r ≤ hi l + 1 := by simpa using hj.symm
      have hg : l.1 = r.1 := by simp [joinsB] at hjo; exact hjo.1
      have hhi := joined_hi l r hg
      have hlo : lo (l.1, l.2.1, max l.2.2 r.2.2) = lo l := rfl
      refine ⟨Ap.app.2 ⟨h1, ⟨fun q hq => ?_, by simp⟩, fun q hq q' hq' => ?_⟩, fun x => ?_, fun q hq => ?_⟩
      · simp at hq; subst hq; rw [hhi, hlo]; omega
      · simp at hq'; subst hq'; rw [hlo]; exact h3 q hq l (by simp)
      · rw [mem_app, mem_app, mem_one, mem_one, hhi, hlo, or_assoc]
        have : (lo l ≤ x ∧ x ≤ max (hi l) (hi r)) ↔ ((lo l ≤ x ∧ x ≤ hi l) ∨ (lo r ≤ x ∧ x ≤ hi r)) := by omega
        rw [this]
      · rcases List.mem_append.1 hq with h | h
        · exact hl q (by simp [h])
        · simp at h; subst h; exact hlr
    · rw [if_neg hjo]
      have hjf : joinsB l r = false := by simpa using hjo
      rw [hjf] at hj
      have hle : hi l + 1 < lo r := by simpa using hj.symm
      refine ⟨Ap.app.2 ⟨ha, ⟨fun q hq => ?_, by simp⟩, fun q hq q' hq' => ?_⟩, fun x => ?_, fun q hq => ?_⟩
      · simp at hq; subst hq; exact hr
      · simp at hq'; subst hq'
        rcases List.mem_append.1 hq with h | h
        · have := h3 q h l (by simp); omega
        · simp at h; subst h; exact hle
      · rw [mem_app (b := [r]), mem_one]
      · rcases List.mem_append.1 hq with h | h
        · exact hl q h
        · simp at h; subst h; exact Nat.le_refl _

theorem fold_ok : ∀ (L acc : List Rg), Ap acc → (∀ r ∈ L, lo r ≤ hi r) → L.Pairwise (fun a b => lo a ≤ lo b) → (∀ l ∈ acc, ∀ r ∈ L, lo l ≤ lo r) → Ap (L.foldl apR acc) ∧ (∀ x, mem x (L.foldl apR acc) ↔ mem x acc ∨ mem x L) ∧ (L.foldl apR acc).length ≤ acc.length + L.length
  | [], acc, h, _, _, _ => ⟨h, fun x => by simp [mem_nil], by simp⟩
  | r :: L, acc, h, hv, hs, hl => by
    obtain ⟨a1, a2, a3⟩ := apR_ok acc r h (hv r (by simp)) (fun l hh => hl l hh r (by simp))
    have hp := List.pairwise_cons.1 hs
    obtain ⟨b1, b2, b3⟩ := fold_ok L (apR acc r) a1 (fun q hq => hv q (by simp [hq])) hp.2 (fun l hh q hq => by have := a3 l hh; have := hp.1 q hq; omega)
    refine ⟨b1, fun x => ?_, ?_⟩
    · rw [List.foldl_cons, b2, a2]
      have : mem x (r :: L) ↔ (lo r ≤ x ∧ x ≤ hi r) ∨ mem x L := by
        rw [show r :: L = [r] ++ L from rfl, mem_app, mem_one]
      rw [this, or_assoc]
    · rw [List.foldl_cons]
      have := apR_length acc r
      simp only [List.length_cons]; omega

def Sorted (ss : List Sn) : Prop := ss.Pairwise (fun a b => key a ≤ key b)

theorem Ap.sorted {rs : List Rg} (h : Ap rs) : rs.Pairwise (fun a b => leR a b = true) :=
  pw_mem (fun a ha b hb => (leR_iff a b).2 (by have := h.1 a ha; omega)) h.2

theorem merge_ok (hs : List Rg) (ss : List Sn) (hh : Ap hs) (hs' : Sorted ss) : Ap (mergeL hs ss) ∧ (∀ x, mem x (mergeL hs ss) ↔ mem x hs ∨ isKey x ss) ∧ (mergeL hs ss).length ≤ hs.length + ss.length := by
  have p1 : (ss.map rgOf).Pairwise (fun a b => leR a b = true) := by
    rw [List.pairwise_map]
    exact pw_to (fun a b h => (leR_iff (rgOf a) (rgOf b)).2 (by rw [lo_rgOf, lo_rgOf]; exact h)) hs'
  have hp := List.pairwise_merge (le := leR) (fun a b c h1 h2 => by rw [leR_iff] at *; omega) (fun a b => by
    rw [Bool.or_eq_true, leR_iff, leR_iff]; omega) hs (ss.map rgOf) hh.sorted p1
  obtain ⟨a1, a2, a3⟩ := fold_ok (List.merge hs (ss.map rgOf) leR) [] Ap.nil (fun r hr => by
    rcases List.mem_merge.1 hr with h | h
    · exact hh.1 r h
    · obtain ⟨s, _, rfl⟩ := List.mem_map.1 h
      exact Nat.le_refl _) (pw_to (fun a b h => (leR_iff a b).1 h) hp) (fun l h => absurd h (by simp))
  refine ⟨a1, fun x => ?_, ?_⟩
  · show mem x (List.foldl apR [] _) ↔ _
    rw [a2]
    simp only [mem_nil, false_or]
    constructor
    · rintro ⟨r, hr, h1, h2⟩
      rcases List.mem_merge.1 hr with h | h
      · exact .inl ⟨r, h, h1, h2⟩
      · obtain ⟨s, hs, rfl⟩ := List.mem_map.1 h
        exact .inr ⟨s, hs, by rw [lo_rgOf] at h1; rw [hi_rgOf] at h2; omega⟩
    · rintro (⟨r, h, h1, h2⟩ | ⟨s, hs, rfl⟩)
      · exact ⟨r, List.mem_merge.2 (.inl h), h1, h2⟩
      · exact ⟨rgOf s, List.mem_merge.2 (.inr (List.mem_map.2 ⟨s, hs, rfl⟩)), Nat.le_refl _, Nat.le_refl _⟩
  · have := (List.merge_perm_append (le := leR) (xs := hs) (ys := ss.map rgOf)).length_eq
    simp at this a3
    show (List.foldl apR [] _).length ≤ _
    omega

/-! ### Blocks -/

/-- No two blocks side by side would fit into one. -/
def Adj : List (List Rg) → Prop
  | [] => True
  | [_] => True
  | a :: b :: r => 128 < a.length + b.length ∧ Adj (b :: r)

theorem Adj.tail {a : List Rg} {r : List (List Rg)} (h : Adj (a :: r)) : Adj r := by
  cases r with
  | nil => trivial
  | cons b r => exact h.2
theorem Adj.app : ∀ (xs ys : List (List Rg)), Adj xs → Adj ys → (∀ a b, xs.getLast? = some a → ys.head? = some b → 128 < a.length + b.length) → Adj (xs ++ ys)
  | [], ys, _, h, _ => h
  | [_], [], _, _, _ => trivial
  | [a], b :: ys, _, h, hc => ⟨hc a b rfl rfl, h⟩
  | _ :: b :: xs, ys, h1, h2, hc => ⟨h1.1, Adj.app (b :: xs) ys h1.2 h2 (fun p q hp hq => hc p q (by rw [List.getLast?_cons_cons]; exact hp) hq)⟩
theorem Adj.left : ∀ (xs ys : List (List Rg)), Adj (xs ++ ys) → Adj xs
  | [], _, _ => trivial
  | [_], _, _ => trivial
  | _ :: b :: xs, ys, h => ⟨h.1, Adj.left (b :: xs) ys h.2⟩
theorem Adj.right : ∀ (xs ys : List (List Rg)), Adj (xs ++ ys) → Adj ys
  | [], _, h => h
  | _ :: xs, ys, h => Adj.right xs ys (Adj.tail h)

structure Good (bs : List (List Rg)) : Prop where
  ap : Ap bs.flatten
  ne : ∀ b ∈ bs, b ≠ [] ∧ b.length ≤ 128
  adj : Adj bs

theorem Good.nil : Good [] := ⟨Ap.nil, fun b h => absurd h (by simp), trivial⟩

theorem chk_ok : ∀ (f : Nat) (rs : List Rg), rs.length ≤ f → (chk f rs).flatten = rs ∧ (∀ b ∈ chk f rs, b ≠ [] ∧ b.length ≤ 128) ∧ Adj (chk f rs) ∧ (∀ b, (chk f rs).head? = some b → b.length = min 128 rs.length) ∧ (∀ b, (chk f rs).getLast? = some b → b.length = (rs.length - 1) % 128 + 1)
  | 0, rs, h => by
    have : rs = [] := List.length_eq_zero_iff.1 (by omega)
    subst this
    simp [chk, Adj]
  | f + 1, [], _ => by simp [chk, Adj]
  | f + 1, r :: rs, h => by
    have hl : ((r :: rs).drop 128).length ≤ f := by simp at h ⊢; omega
    obtain ⟨a1, a2, a3, a4, a5⟩ := chk_ok f ((r :: rs).drop 128) hl
    have hld : ((r :: rs).drop 128).length = rs.length + 1 - 128 := by simp
    have hlt : ((r :: rs).take 128).length = min 128 (rs.length + 1) := by rw [List.length_take, List.length_cons]
    simp only [chk]
    refine ⟨?_, fun b hb => ?_, ?_, fun b hb => ?_, fun b hb => ?_⟩
    · rw [List.flatten_cons, a1, List.take_append_drop]
    · rcases List.mem_cons.1 hb with rfl | hb
      · refine ⟨fun e => ?_, by rw [hlt]; omega⟩
        rw [e] at hlt; simp only [List.length_nil] at hlt; omega
      · exact a2 b hb
    · cases hc : chk f ((r :: rs).drop 128) with
      | nil => trivial
      | cons q qs =>
        rw [hc] at a2 a3
        refine ⟨?_, a3⟩
        have hq := (a2 q (by simp)).1
        have hqp : 0 < q.length := List.length_pos_iff.2 hq
        have : 0 < ((r :: rs).drop 128).length := by
          rw [← a1, hc]; simp; omega
        omega
    · simp only [List.head?_cons, Option.some.injEq] at hb
      subst hb
      rw [hlt]; simp
    · cases hc : chk f ((r :: rs).drop 128) with
      | nil =>
        rw [hc] at hb a1
        simp only [List.getLast?_singleton, Option.some.injEq] at hb
        subst hb
        have : ((r :: rs).drop 128).length = 0 := by rw [← a1]; rfl
        rw [hlt]
        simp only [List.length_cons]
        omega
      | cons q qs =>
        rw [hc] at hb a1 a2 a5
        rw [List.getLast?_cons_cons] at hb
        have := a5 b hb
        have hq := (a2 q (by simp)).1
        have hqp : 0 < q.length := List.length_pos_iff.2 hq
        have h2 : 0 < ((r :: rs).drop 128).length := by
          rw [← a1]; simp; omega
        rw [this, hld]
        simp only [List.length_cons]
        omega

theorem chunks_ok (rs : List Rg) : (chunks rs).flatten = rs ∧ (∀ b ∈ chunks rs, b ≠ [] ∧ b.length ≤ 128) ∧ Adj (chunks rs) ∧ (∀ b, (chunks rs).head? = some b → b.length = min 128 rs.length) ∧ (∀ b, (chunks rs).getLast? = some b → b.length = (rs.length - 1) % 128 + 1) := chk_ok _ rs (Nat.le_refl _)

theorem take_last {bs : List (List Rg)} {n : Nat} {a : List Rg} (h : (bs.take n).getLast? = some a) : 0 < n ∧ bs[min n bs.length - 1]? = some a := by
  rw [List.getLast?_eq_getElem?] at h
  rcases Nat.eq_zero_or_pos n with rfl | hn
  · simp at h
  · refine ⟨hn, ?_⟩
    rw [List.length_take] at h
    by_cases h0 : bs.length = 0
    · have : bs = [] := List.length_eq_zero_iff.1 h0
      subst this; simp at h
    · rw [List.getElem?_take_of_lt (by omega)] at h
      exact h

/-- WHAT A ROUND LEAVES: the serial numbers taken are held too; the blocks are as they should be. -/
theorem round_ok {bs : List (List Rg)} {l h n l' h' : Nat} {ss : List Sn} {rs' : List Rg} (hG : Good bs) (hS : Sorted ss) (hlh : l ≤ h) (hh : h ≤ bs.length) (hn : 0 < n) (hn2 : n ≤ ss.length)
    (R1 : ∀ r ∈ (bs.take l).flatten, ∀ s ∈ ss, hi r + 1 < key s) (R2 : ∀ r ∈ (bs.drop h).flatten, ∀ s ∈ ss.take n, key s + 1 < lo r)
    (hR : Rep bs l h (mergeL ((bs.drop l).take (h - l)).flatten (ss.take n)) l' h' rs') :
    Good (bs.take l' ++ chunks rs' ++ bs.drop h') ∧ (∀ x, mem x (bs.take l' ++ chunks rs' ++ bs.drop h').flatten ↔ mem x bs.flatten ∨ isKey x (ss.take n)) ∧ (bs.take l' ++ chunks rs' ++ bs.drop h').flatten.length ≤ bs.flatten.length + n ∧
      0 < (mergeL ((bs.drop l).take (h - l)).flatten (ss.take n)).length := by
  have eB : bs.flatten = (bs.take l).flatten ++ (((bs.drop l).take (h - l)).flatten ++ (bs.drop h).flatten) := by
    rw [← List.flatten_append, ← List.flatten_append]
    congr 1
    rw [show bs.drop h = (bs.drop l).drop (h - l) from by rw [List.drop_drop]; congr 1; omega, List.take_append_drop, List.take_append_drop]
  have hA := hG.ap
  rw [eB] at hA
  obtain ⟨A1, A2, A3⟩ := Ap.app.1 hA
  obtain ⟨A4, A5, A6⟩ := Ap.app.1 A2
  have hS' : Sorted (ss.take n) := List.Pairwise.sublist (List.take_sublist _ _) hS
  obtain ⟨m1, m2, m3⟩ := merge_ok _ _ A4 hS'
  obtain ⟨r1, e1, e2, e3, e4⟩ := hR.both
  obtain ⟨c1, c2, c3, c4, c5⟩ := chunks_ok rs'
  have eF : (bs.take l' ++ chunks rs' ++ bs.drop h').flatten = (bs.take l).flatten ++ (mergeL ((bs.drop l).take (h - l)).flatten (ss.take n) ++ (bs.drop h).flatten) := by
    rw [List.flatten_append, List.flatten_append, c1, List.append_assoc, e2, ← List.append_assoc, e1, List.append_assoc]
  have lenF : (mergeL ((bs.drop l).take (h - l)).flatten (ss.take n)).length > 0 := by
    obtain ⟨s, hs⟩ : ∃ s, s ∈ ss.take n := ⟨_, List.getElem_mem (l := ss.take n) (n := 0) (by simp; omega)⟩
    obtain ⟨r, hr, _⟩ := (m2 (key s)).2 (.inr ⟨s, hs, rfl⟩)
    exact List.length_pos_of_mem hr
  refine ⟨⟨?_, ?_, ?_⟩, fun x => ?_, ?_, lenF⟩
  · rw [eF]
    refine Ap.app.2 ⟨A1, Ap.app.2 ⟨m1, A5, fun r hr r' hr' => ?_⟩, fun r hr r' hr' => ?_⟩
    · -- what is merged lies ahead of what follows
      rcases (m2 (hi r)).1 ⟨r, hr, m1.1 r hr, Nat.le_refl _⟩ with ⟨q, hq, q1, q2⟩ | ⟨s, hs, hk⟩
      · have := A6 q hq r' hr'; omega
      · have := R2 r' hr' s hs; omega
    · rcases List.mem_append.1 hr' with h1 | h1
      · rcases (m2 (lo r')).1 ⟨r', h1, Nat.le_refl _, m1.1 r' h1⟩ with ⟨q, hq, q1, q2⟩ | ⟨s, hs, hk⟩
        · have := A3 r hr q (List.mem_append_left _ hq); omega
        · have := R1 r hr s (List.mem_of_mem_take hs); omega
      · exact A3 r hr r' (List.mem_append_right _ h1)
  · intro b hb
    rcases List.mem_append.1 hb with hb | hb
    · rcases List.mem_append.1 hb with hb | hb
      · exact hG.ne b (List.mem_of_mem_take hb)
      · exact c2 b hb
    · exact hG.ne b (List.mem_of_mem_drop hb)
  · have d1 : Adj (bs.take l') := Adj.left _ (bs.drop l') (by rw [List.take_append_drop]; exact hG.adj)
    have d2 : Adj (bs.drop h') := Adj.right (bs.take h') _ (by rw [List.take_append_drop]; exact hG.adj)
    have hrl : 0 < rs'.length := by
      have := congrArg List.length e1
      simp only [List.length_append] at this
      have h2 : ((bs.take l').flatten).length ≤ ((bs.take l).flatten).length := by
        have hle := hR.lo_le
        rw [show l' = min l' l from by omega, ← List.take_take]
        conv => rhs; rw [← List.take_append_drop l' (bs.take l)]
        rw [List.flatten_append, List.length_append]; omega
      omega
    have hcne : chunks rs' ≠ [] := fun e => by rw [e] at c1; rw [← c1] at hrl; simp at hrl
    have hll := hR.lo_le
    refine Adj.app _ _ (Adj.app _ _ d1 c3 (fun a b ha hb => ?_)) d2 (fun a b ha hb => ?_)
    · have hb' := c4 b hb
      obtain ⟨p1, p2⟩ := take_last ha
      rw [show min l' bs.length - 1 = l' - 1 from by omega] at p2
      have hane := (hG.ne a (List.mem_of_getElem? p2)).1
      have hap : 0 < a.length := List.length_pos_iff.2 hane
      rcases e4 with e4 | e4
      · omega
      · rw [p2] at e4
        simp at e4
        omega
    · have ha' : (chunks rs').getLast? = some a := by
        rw [List.getLast?_append] at ha
        cases hx : (chunks rs').getLast? with
        | none => exact absurd (List.getLast?_eq_none_iff.1 hx) hcne
        | some q => rw [hx] at ha; simpa using ha
      have hal := c5 a ha'
      have hb2 : bs[h']? = some b := by rw [List.head?_drop] at hb; exact hb
      rcases hR.last with e | e
      · have := (List.getElem?_eq_some_iff.1 hb2).1; omega
      · rw [hb2] at e
        simp at e
        omega
  · rw [eF, eB, mem_app, mem_app, mem_app, mem_app, m2]
    constructor
    · rintro (h | (h | h) | h)
      · exact .inl (.inl h)
      · exact .inl (.inr (.inl h))
      · exact .inr h
      · exact .inl (.inr (.inr h))
    · rintro ((h | h | h) | h)
      · exact .inl h
      · exact .inr (.inl (.inl h))
      · exact .inr (.inr h)
      · exact .inr (.inl (.inr h))
  · rw [eF, eB]
    simp only [List.length_append]
    have : (ss.take n).length = n := by simp; omega
    omega
end Go.Proofs.Qxb6615018a
