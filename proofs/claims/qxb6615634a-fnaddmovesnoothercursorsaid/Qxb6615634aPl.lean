/-
  DERIVED. Plain: what a run of Adds holds.
-/
import Derived.Test.Qxb6615634aHeld
namespace Go.Proofs.Qxb6615634a

abbrev Tb := List (ByteArray × List (Id × UInt64))

/-- The heads added, the last first. -/
def AddsR : List Hd → Tb → Prop
  | [], T => T = []
  | x :: r, T' => ∃ T, AddsR r T ∧ AddTo T x.mem x.rev x.num T'

/-- The greatest number given with a member and a name, 0 where none is. -/
def hiR (m : ByteArray) (id : Id) : List Hd → UInt64
  | [] => 0
  | x :: r => if x.rev = id ∧ x.mem = m ∧ hiR m id r < x.num then x.num else hiR m id r

theorem hiR_none (m : ByteArray) (id : Id) : ∀ r : List Hd, (¬ ∃ x ∈ r, x.mem = m ∧ x.rev = id) → hiR m id r = 0
  | [], _ => rfl
  | x :: r, h => by
    have h1 : ¬ (x.rev = id ∧ x.mem = m ∧ hiR m id r < x.num) := fun hh => h ⟨x, by simp, hh.2.1, hh.1⟩
    rw [hiR, if_neg h1]
    exact hiR_none m id r (fun ⟨y, hy, e⟩ => h ⟨y, by simp [hy], e⟩)
theorem hiR_other (m : ByteArray) (id : Id) (x : Hd) (r : List Hd) (h : ¬ (x.mem = m ∧ x.rev = id)) : hiR m id (x :: r) = hiR m id r := by
  rw [hiR, if_neg (fun hh => h ⟨hh.2.1, hh.1⟩)]
theorem hiR_hit (x : Hd) (r : List Hd) : hiR x.mem x.rev (x :: r) = if hiR x.mem x.rev r < x.num then x.num else hiR x.mem x.rev r := by
  rw [hiR]
  by_cases h : hiR x.mem x.rev r < x.num
  · rw [if_pos ⟨rfl, rfl, h⟩, if_pos h]
  · rw [if_neg (fun hh => h hh.2.2), if_neg h]

structure Inv (r : List Hd) (T : Tb) : Prop where
  keys : ∀ m, m ∈ T.map Prod.fst ↔ ∃ x ∈ r, x.mem = m
  ids : ∀ t ∈ T, ∀ id, id ∈ t.2.map Prod.fst ↔ ∃ x ∈ r, x.mem = t.1 ∧ x.rev = id
  nums : ∀ t ∈ T, ∀ e ∈ t.2, e.2 = hiR t.1 e.1 r
  len : ∀ t ∈ T, t.2.length ≤ r.length
  nd : (T.map Prod.fst).Nodup

theorem upd_ids (s : List (Id × UInt64)) (id : Id) (n : UInt64) (i : Id) : i ∈ (upd s id n).map Prod.fst ↔ i ∈ s.map Prod.fst ∨ i = id := by
  unfold upd
  by_cases h : id ∈ s.map Prod.fst
  · rw [if_pos h]
    have e : (s.map (fun e => if e.1 = id then (e.1, if e.2 < n then n else e.2) else e)).map Prod.fst = s.map Prod.fst := by
      rw [List.map_map]
      apply List.map_congr_left
      intro e _
      simp only [Function.comp]
      split <;> rfl
    rw [e]
    constructor
    · exact .inl
    · rintro (h' | rfl)
      · exact h'
      · exact h
  · rw [if_neg h, List.map_append, List.mem_append]
    simp
theorem upd_len (s : List (Id × UInt64)) (id : Id) (n : UInt64) : (upd s id n).length ≤ s.length + 1 := by
  unfold upd
  split
  · simp
  · simp

theorem inv_of : ∀ (r : List Hd) (T : Tb), AddsR r T → Inv r T
  | [], T, h => by
    have : T = [] := h
    subst this
    exact ⟨fun m => by simp, fun t ht => absurd ht (by simp), fun t ht => absurd ht (by simp), fun t ht => absurd ht (by simp), by simp⟩
  | x :: r, T', h => by
    obtain ⟨T, hT, ha⟩ := h
    have hI := inv_of r T hT
    rcases ha with ⟨hm, rfl⟩ | ⟨T1, s, T2, s', rfl, hp, rfl⟩
    · have hno : ¬ ∃ y ∈ r, y.mem = x.mem := fun hh => hm ((hI.keys x.mem).2 hh)
      have hno2 : ∀ id, ¬ ∃ y ∈ r, y.mem = x.mem ∧ y.rev = id := fun id ⟨y, hy, e, _⟩ => hno ⟨y, hy, e⟩
      have hne : ∀ t ∈ T, ¬ (x.mem = t.1) := fun t ht e => hm (e ▸ List.mem_map.2 ⟨t, ht, rfl⟩)
      refine ⟨fun m => ?_, fun t ht id => ?_, fun t ht e he => ?_, fun t ht => ?_, ?_⟩
      · rw [List.map_append, List.mem_append, hI.keys]
        constructor
        · rintro (⟨y, hy, e⟩ | h)
          · exact ⟨y, by simp [hy], e⟩
          · simp at h; exact ⟨x, by simp, h.symm⟩
        · rintro ⟨y, hy, e⟩
          rcases List.mem_cons.1 hy with rfl | hy
          · exact .inr (by simp [e])
          · exact .inl ⟨y, hy, e⟩
      · rcases List.mem_append.1 ht with ht1 | ht1
        · rw [hI.ids t ht1]
          constructor
          · rintro ⟨y, hy, e⟩; exact ⟨y, by simp [hy], e⟩
          · rintro ⟨y, hy, e⟩
            rcases List.mem_cons.1 hy with hyx | hy
            · exact absurd (hyx ▸ e.1) (hne t ht1)
            · exact ⟨y, hy, e⟩
        · simp at ht1; subst ht1
          constructor
          · intro h; simp at h; exact ⟨x, by simp, rfl, h.symm⟩
          · rintro ⟨y, hy, e⟩
            rcases List.mem_cons.1 hy with rfl | hy
            · simp [e.2]
            · exact absurd ⟨y, hy, e.1⟩ hno
      · rcases List.mem_append.1 ht with ht | ht
        · rw [hiR_other _ _ _ _ (fun hh => hne t ht hh.1)]
          exact hI.nums t ht e he
        · simp at ht; subst ht
          simp at he; subst he
          rw [hiR_hit, hiR_none _ _ r (hno2 x.rev)]
          split
          · rfl
          · rename_i hz
            apply UInt64.toNat_inj.1
            have := fun hh => hz (UInt64.lt_iff_toNat_lt.2 hh)
            simp at this ⊢
            omega
      · rcases List.mem_append.1 ht with ht | ht
        · have := hI.len t ht; simp; omega
        · simp at ht; subst ht; simp
      · rw [List.map_append, List.nodup_append]
        refine ⟨hI.nd, by simp, fun y hy z hz e => ?_⟩
        simp at hz
        subst e; subst hz
        exact hm hy
    · have hms : (x.mem, s) ∈ T1 ++ (x.mem, s) :: T2 := by simp
      have hnd := hI.nd
      have hne : ∀ t, t ∈ T1 ∨ t ∈ T2 → ¬ (x.mem = t.1) := fun t ht e => by
        rw [List.map_append, List.map_cons] at hnd
        have h1 := List.nodup_append.1 hnd
        rcases ht with ht | ht
        · exact h1.2.2 t.1 (List.mem_map.2 ⟨t, ht, rfl⟩) x.mem (by simp) e.symm
        · exact (List.nodup_cons.1 h1.2.1).1 (e ▸ List.mem_map.2 ⟨t, ht, rfl⟩)
      have hin : ∀ t, t ∈ T1 ∨ t ∈ T2 → t ∈ T1 ++ (x.mem, s) :: T2 := fun t ht => by
        rcases ht with ht | ht
        · exact List.mem_append_left _ ht
        · exact List.mem_append_right _ (List.mem_cons_of_mem _ ht)
      have hsp : ∀ t, t ∈ T1 ++ (x.mem, s') :: T2 → (t ∈ T1 ∨ t ∈ T2) ∨ t = (x.mem, s') := fun t ht => by
        rcases List.mem_append.1 ht with ht | ht
        · exact .inl (.inl ht)
        · rcases List.mem_cons.1 ht with ht | ht
          · exact .inr ht
          · exact .inl (.inr ht)
      have hkeys : (T1 ++ (x.mem, s') :: T2).map Prod.fst = (T1 ++ (x.mem, s) :: T2).map Prod.fst := by simp
      refine ⟨fun m => ?_, fun t ht id => ?_, fun t ht e he => ?_, fun t ht => ?_, by rw [hkeys]; exact hnd⟩
      · rw [hkeys, hI.keys]
        constructor
        · rintro ⟨y, hy, e⟩; exact ⟨y, by simp [hy], e⟩
        · rintro ⟨y, hy, e⟩
          rcases List.mem_cons.1 hy with rfl | hy
          · exact (hI.keys m).1 (e ▸ List.mem_map.2 ⟨_, hms, rfl⟩)
          · exact ⟨y, hy, e⟩
      · rcases hsp t ht with ht1 | rfl
        · rw [hI.ids t (hin t ht1)]
          constructor
          · rintro ⟨y, hy, e⟩; exact ⟨y, by simp [hy], e⟩
          · rintro ⟨y, hy, e⟩
            rcases List.mem_cons.1 hy with hyx | hy
            · exact absurd (hyx ▸ e.1) (hne t ht1)
            · exact ⟨y, hy, e⟩
        · rw [show id ∈ (x.mem, s').2.map Prod.fst ↔ id ∈ (upd s x.rev x.num).map Prod.fst from (hp.map Prod.fst).mem_iff, upd_ids, hI.ids _ hms]
          constructor
          · rintro (⟨y, hy, e⟩ | rfl)
            · exact ⟨y, by simp [hy], e⟩
            · exact ⟨x, by simp, rfl, rfl⟩
          · rintro ⟨y, hy, e⟩
            rcases List.mem_cons.1 hy with rfl | hy
            · exact .inr e.2.symm
            · exact .inl ⟨y, hy, e⟩
      · rcases hsp t ht with ht | rfl
        · rw [hiR_other _ _ _ _ (fun hh => hne t ht hh.1)]
          exact hI.nums t (hin t ht) e he
        · have he' : e ∈ upd s x.rev x.num := hp.mem_iff.1 he
          have hnum := hI.nums _ hms
          unfold upd at he'
          by_cases hc : x.rev ∈ s.map Prod.fst
          · rw [if_pos hc] at he'
            obtain ⟨f, hf, rfl⟩ := List.mem_map.1 he'
            by_cases hfr : f.1 = x.rev
            · rw [if_pos hfr]
              simp only
              rw [hfr, hiR_hit]
              have := hnum f hf
              simp only at this
              rw [hfr] at this
              rw [this]
            · rw [if_neg hfr, hiR_other _ _ _ _ (fun hh => hfr hh.2.symm)]
              exact hnum f hf
          · rw [if_neg hc] at he'
            rcases List.mem_append.1 he' with he' | he'
            · have hfr : ¬ (x.rev = e.1) := fun hh => hc (hh ▸ List.mem_map.2 ⟨e, he', rfl⟩)
              rw [hiR_other _ _ _ _ (fun hh => hfr hh.2)]
              exact hnum e he'
            · simp at he'; subst he'
              have hno : ¬ ∃ y ∈ r, y.mem = x.mem ∧ y.rev = x.rev := fun hh => hc ((hI.ids _ hms x.rev).2 hh)
              simp only
              rw [hiR_hit, hiR_none _ _ r hno]
              split
              · rfl
              · rename_i hz
                apply UInt64.toNat_inj.1
                have := fun hh => hz (UInt64.lt_iff_toNat_lt.2 hh)
                simp at this ⊢
                omega
      · rcases hsp t ht with ht | rfl
        · have := hI.len t (hin t ht); simp; omega
        · have h1 := hp.length_eq
          have h2 := upd_len s x.rev x.num
          have h3 := hI.len _ hms
          simp only at h1 h3 ⊢
          simp
          omega
end Go.Proofs.Qxb6615634a
