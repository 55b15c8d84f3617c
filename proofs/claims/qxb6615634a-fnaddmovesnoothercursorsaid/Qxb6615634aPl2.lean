/-
  DERIVED. Plain: what one Add more changes, in the law's own words.
-/
import Derived.Test.Qxb6615634aPl
namespace Go.Proofs.Qxb6615634a

theorem nodup_le' {α : Type} {l : List α} : ∀ {m : List α}, l.Nodup → (∀ x ∈ l, x ∈ m) → l.length ≤ m.length := by
  induction l with
  | nil => intro m _ _; simp
  | cons a l ih =>
    intro m h hs
    have hp := List.nodup_cons.1 h
    obtain ⟨m1, m2, rfl⟩ := List.append_of_mem (hs a (by simp))
    have := ih (m := m1 ++ m2) hp.2 (fun x hx => by
      have h1 := hs x (by simp [hx])
      have hne : x ≠ a := fun e => hp.1 (e ▸ hx)
      rcases List.mem_append.1 h1 with h1 | h1
      · exact List.mem_append_left _ h1
      · rcases List.mem_cons.1 h1 with h1 | h1
        · exact absurd h1 hne
        · exact List.mem_append_right _ h1)
    simp only [List.length_append, List.length_cons] at this ⊢
    omega
theorem nodup_len {α : Type} {l m : List α} (h : l.Nodup) (h' : m.Nodup) (hs : ∀ x, x ∈ l ↔ x ∈ m) : l.length = m.length :=
  Nat.le_antisymm (nodup_le' h fun x hx => (hs x).1 hx) (nodup_le' h' fun x hx => (hs x).2 hx)

/-- The number that the law wants for the head's own name. -/
def wantOf (x : Hd) (r : List Hd) : UInt64 := if hiR x.mem x.rev r < x.num then x.num else hiR x.mem x.rev r

structure After (x : Hd) (r : List Hd) (T T' : Tb) : Prop where
  other : ∀ t ∈ T, t.1 ≠ x.mem → t ∈ T'
  own : ∀ s, (x.mem, s) ∈ T → ∃ s'', (x.mem, s'') ∈ T' ∧ (s''.length = if x.rev ∈ s.map Prod.fst then s.length else s.length + 1) ∧ ∀ e ∈ s, (e.1, if e.1 = x.rev then wantOf x r else e.2) ∈ s''
  have1 : ∃ s'', (x.mem, s'') ∈ T' ∧ (x.rev, wantOf x r) ∈ s''
  new : x.mem ∉ T.map Prod.fst → T'.length = T.length + 1 ∧ ∃ s'', (x.mem, s'') ∈ T' ∧ s''.length = 1
  old : x.mem ∈ T.map Prod.fst → T'.length = T.length

theorem after_of {x : Hd} {r : List Hd} {T T' : Tb} (hI : Inv r T) (ha : AddTo T x.mem x.rev x.num T') : After x r T T' := by
  rcases ha with ⟨hm, rfl⟩ | ⟨T1, s, T2, s', rfl, hp, rfl⟩
  · have hno : ¬ ∃ y ∈ r, y.mem = x.mem ∧ y.rev = x.rev := fun ⟨y, hy, e, _⟩ => hm ((hI.keys x.mem).2 ⟨y, hy, e⟩)
    have hw : wantOf x r = x.num := by
      unfold wantOf
      rw [hiR_none _ _ r hno]
      split
      · rfl
      · rename_i hz
        apply UInt64.toNat_inj.1
        have := fun hh => hz (UInt64.lt_iff_toNat_lt.2 hh)
        simp at this ⊢
        omega
    refine ⟨fun t ht _ => List.mem_append_left _ ht, fun s hs => absurd (List.mem_map.2 ⟨_, hs, rfl⟩) hm, ⟨_, List.mem_append_right _ (List.mem_singleton.2 rfl), by rw [hw]; simp⟩, fun _ => ⟨by simp, _, List.mem_append_right _ (List.mem_singleton.2 rfl), rfl⟩, fun h => absurd h hm⟩
  · have hms : (x.mem, s) ∈ T1 ++ (x.mem, s) :: T2 := by simp
    have hms' : (x.mem, s') ∈ T1 ++ (x.mem, s') :: T2 := by simp
    have hnd := hI.nd
    have huniq : ∀ s0, (x.mem, s0) ∈ T1 ++ (x.mem, s) :: T2 → s0 = s := fun s0 h0 => by
      rw [List.map_append, List.map_cons] at hnd
      have h1 := List.nodup_append.1 hnd
      rcases List.mem_append.1 h0 with h0 | h0
      · exact absurd rfl (h1.2.2 x.mem (List.mem_map.2 ⟨_, h0, rfl⟩) x.mem (by simp))
      · rcases List.mem_cons.1 h0 with h0 | h0
        · exact (Prod.mk.injEq _ _ _ _ ▸ h0).2
        · exact absurd (List.mem_map.2 ⟨_, h0, rfl⟩) (List.nodup_cons.1 h1.2.1).1
    have hnum := hI.nums _ hms
    have hmap : ∀ e ∈ s, (e.1, if e.1 = x.rev then wantOf x r else e.2) ∈ s' := fun e he => by
      refine hp.mem_iff.2 ?_
      unfold upd
      by_cases hc : x.rev ∈ s.map Prod.fst
      · rw [if_pos hc]
        refine List.mem_map.2 ⟨e, he, ?_⟩
        by_cases hr : e.1 = x.rev
        · rw [if_pos hr, if_pos hr]
          have := hnum e he
          simp only at this
          rw [hr] at this
          rw [this]
          rfl
        · rw [if_neg hr, if_neg hr]
      · rw [if_neg hc]
        have hr : ¬ (e.1 = x.rev) := fun e' => hc (e' ▸ List.mem_map.2 ⟨e, he, rfl⟩)
        rw [if_neg hr]
        exact List.mem_append_left _ he
    have hlen : s'.length = if x.rev ∈ s.map Prod.fst then s.length else s.length + 1 := by
      rw [hp.length_eq]
      unfold upd
      split <;> simp
    refine ⟨fun t ht hne => ?_, fun s0 hs0 => ?_, ⟨s', hms', ?_⟩, fun hm => absurd (List.mem_map.2 ⟨_, hms, rfl⟩) hm, fun _ => by simp⟩
    · rcases List.mem_append.1 ht with ht | ht
      · exact List.mem_append_left _ ht
      · rcases List.mem_cons.1 ht with ht | ht
        · exact absurd (by rw [ht]) hne
        · exact List.mem_append_right _ (List.mem_cons_of_mem _ ht)
    · rw [huniq s0 hs0]
      exact ⟨s', hms', hlen, hmap⟩
    · by_cases hc : x.rev ∈ s.map Prod.fst
      · obtain ⟨e, he, hr⟩ := List.mem_map.1 hc
        have := hmap e he
        rw [if_pos hr, hr] at this
        exact this
      · have hno : ¬ ∃ y ∈ r, y.mem = x.mem ∧ y.rev = x.rev := fun hh => hc ((hI.ids _ hms x.rev).2 hh)
        have hw : wantOf x r = x.num := by
          unfold wantOf
          rw [hiR_none _ _ r hno]
          split
          · rfl
          · rename_i hz
            apply UInt64.toNat_inj.1
            have := fun hh => hz (UInt64.lt_iff_toNat_lt.2 hh)
            simp at this ⊢
            omega
        rw [hw]
        refine hp.mem_iff.2 ?_
        unfold upd
        rw [if_neg hc]
        simp

/-- The members noted so far: each once, all that were given, each with what is held of it. -/
structure Noted (hs : List Hd) (i : Nat) (T ms : Tb) : Prop where
  nd : (ms.map Prod.fst).Nodup
  keys : ∀ m, m ∈ ms.map Prod.fst ↔ ∃ j, ∃ h : j < hs.length, j < i ∧ hs[j].mem = m
  sub : ∀ e ∈ ms, e ∈ T

theorem Noted.zero (hs : List Hd) (T : Tb) : Noted hs 0 T [] := ⟨by simp, fun m => by simp, fun e he => absurd he (by simp)⟩
theorem Noted.skip {hs : List Hd} {i : Nat} {T ms : Tb} (h : Noted hs i T ms) (hi : i < hs.length) (hn : ¬ ∀ j (hj : j < hs.length), j < i → hs[j].mem ≠ hs[i].mem) : Noted hs (i + 1) T ms := by
  refine ⟨h.nd, fun m => ?_, h.sub⟩
  rw [h.keys]
  constructor
  · rintro ⟨j, hj, h1, h2⟩; exact ⟨j, hj, by omega, h2⟩
  · rintro ⟨j, hj, h1, h2⟩
    by_cases e : j = i
    · subst e
      rcases Classical.em (∃ k, ∃ hk : k < hs.length, k < j ∧ hs[k].mem = hs[j].mem) with ⟨k, hk, h3, h4⟩ | hno
      · exact ⟨k, hk, h3, h4.trans h2⟩
      · exact absurd (fun k hk hkj e => hno ⟨k, hk, hkj, e⟩) hn
    · exact ⟨j, hj, by omega, h2⟩
theorem Noted.more {hs : List Hd} {i : Nat} {T ms : Tb} (h : Noted hs i T ms) (hi : i < hs.length) (hn : ∀ j (hj : j < hs.length), j < i → hs[j].mem ≠ hs[i].mem) (s : List (Id × UInt64)) (hs' : (hs[i].mem, s) ∈ T) : Noted hs (i + 1) T (ms ++ [(hs[i].mem, s)]) := by
  refine ⟨?_, fun m => ?_, fun e he => ?_⟩
  · rw [List.map_append, List.nodup_append]
    refine ⟨h.nd, by simp, fun y hy z hz e => ?_⟩
    simp at hz
    subst e; subst hz
    obtain ⟨j, hj, h1, h2⟩ := (h.keys _).1 hy
    exact hn j hj h1 h2
  · rw [List.map_append, List.mem_append, h.keys]
    constructor
    · rintro (⟨j, hj, h1, h2⟩ | h1)
      · exact ⟨j, hj, by omega, h2⟩
      · simp at h1; exact ⟨i, hi, by omega, h1.symm⟩
    · rintro ⟨j, hj, h1, h2⟩
      by_cases e : j = i
      · subst e; exact .inr (by simp [h2])
      · exact .inl ⟨j, hj, by omega, h2⟩
  · rcases List.mem_append.1 he with he | he
    · exact h.sub e he
    · simp at he; subst he; exact hs'
end Go.Proofs.Qxb6615634a
