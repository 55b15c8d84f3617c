/-
  DERIVED. Plain laws of the two batches: what lies in a range; how many numbers the ranges hold.
-/
import Derived.Test.Qxb6615018aRuns
namespace Go.Proofs.Qxb6615018a
open Go.RowKit Go.Sort

theorem u64_lt (n : UInt64) : n.toNat < 18446744073709551616 := n.toNat_lt
theorem lo_eq (r : Rg) : lo r = gk r.1 * 36893488147419103232 + r.2.1.toNat := rfl
theorem hi_eq (r : Rg) : hi r = gk r.1 * 36893488147419103232 + r.2.2.toNat := rfl

/-- A key lies in a range just where the GUID is the range's and the number between its ends. -/
theorem in_range (r : Rg) (s : Sn) : (lo r ≤ key s ∧ key s ≤ hi r) ↔ (r.1 = s.1 ∧ r.2.1 ≤ s.2 ∧ s.2 ≤ r.2.2) := by
  rw [lo_eq, hi_eq, key_eq, UInt64.le_iff_toNat_le, UInt64.le_iff_toNat_le]
  have h1 := u64_lt r.2.1
  have h2 := u64_lt r.2.2
  have h3 := u64_lt s.2
  constructor
  · rintro ⟨a, b⟩
    have e : gk r.1 = gk s.1 := by omega
    exact ⟨gk_inj e, by omega, by omega⟩
  · rintro ⟨e, a, b⟩
    rw [e]; omega

theorem fwd (r : Rg) (h : lo r ≤ hi r) : r.2.1.toNat ≤ r.2.2.toNat := by rw [lo_eq, hi_eq] at h; omega

/-- One range ahead of another. -/
theorem ahead (p r : Rg) (h : hi p + 1 < lo r) : Lib.compareBytes p.1.toList r.1.toList = -1 ∨ (Lib.compareBytes p.1.toList r.1.toList = 0 ∧ p.2.2.toNat + 2 ≤ r.2.1.toNat) := by
  have hc : Lib.compareBytes p.1.toList r.1.toList = _ := cmp_nat p.1.toList r.1.toList (by simp)
  rw [hi_eq, lo_eq] at h
  have h1 := u64_lt r.2.1
  have h2 := u64_lt p.2.2
  have e1 : gk p.1 = natL p.1.toList := rfl
  have e2 : gk r.1 = natL r.1.toList := rfl
  rw [← e1, ← e2] at hc
  by_cases h0 : gk p.1 < gk r.1
  · rw [if_pos h0] at hc; exact .inl hc
  · rw [if_neg h0, if_neg (by omega)] at hc
    exact .inr ⟨hc, by omega⟩

/-! ### Counting -/

theorem nodup_le {l m : List Nat} (h : l.Nodup) (hs : ∀ x ∈ l, x ∈ m) : l.length ≤ m.length := by
  induction l generalizing m with
  | nil => simp
  | cons a l ih =>
    have hp := List.nodup_cons.1 h
    have ha : a ∈ m := hs a (by simp)
    have h1 := ih (m := m.erase a) hp.2 (fun x hx => (List.mem_erase_of_ne (fun (e : x = a) => hp.1 (by rw [← e]; exact hx))).2 (hs x (by simp [hx])))
    have h2 := List.length_erase_of_mem ha
    have h3 := List.length_pos_of_mem ha
    simp only [List.length_cons]
    omega

theorem nodup_eq {l m : List Nat} (h : l.Nodup) (h' : m.Nodup) (hs : ∀ x, x ∈ l ↔ x ∈ m) : l.length = m.length :=
  Nat.le_antisymm (nodup_le h fun x hx => (hs x).1 hx) (nodup_le h' fun x hx => (hs x).2 hx)

theorem keys_le {l : List Nat} {ss : List Sn} (h : l.Nodup) (hs : ∀ x ∈ l, isKey x ss) : l.length ≤ ss.length := by
  have := nodup_le (m := ss.map key) h (fun x hx => by obtain ⟨s, h1, h2⟩ := hs x hx; exact List.mem_map.2 ⟨s, h1, h2⟩)
  simpa using this

/-- The numbers that the ranges hold, listed. -/
def Held5 (rs : List Rg) (n : Nat) : Prop := ∃ l : List Nat, l.Nodup ∧ (∀ x, x ∈ l ↔ mem x rs) ∧ l.length = n
theorem Held5.nil : Held5 [] 0 := ⟨[], by simp, fun x => by simp [mem_nil], rfl⟩
theorem Held5.snoc {rs : List Rg} {n : Nat} {r : Rg} (h : Held5 rs n) (hr : lo r ≤ hi r) (hb : ∀ p ∈ rs, hi p + 1 < lo r) : Held5 (rs ++ [r]) (n + (r.2.2.toNat - r.2.1.toNat + 1)) := by
  obtain ⟨l, h1, h2, h3⟩ := h
  have hlen : hi r - lo r + 1 = r.2.2.toNat - r.2.1.toNat + 1 := by rw [lo_eq, hi_eq]; omega
  refine ⟨l ++ List.range' (lo r) (hi r - lo r + 1), ?_, fun x => ?_, by rw [List.length_append, List.length_range', h3, hlen]⟩
  · rw [List.nodup_append]
    refine ⟨h1, List.nodup_range', fun a ha b hb' e => ?_⟩
    subst e
    obtain ⟨p, hp, _, hx⟩ := (h2 a).1 ha
    have := hb p hp
    rw [List.mem_range'_1] at hb'
    omega
  · rw [List.mem_append, h2, mem_app, mem_one, List.mem_range'_1]
    constructor
    · rintro (h | h)
      · exact .inl h
      · exact .inr (by omega)
    · rintro (h | h)
      · exact .inl h
      · exact .inr (by omega)

/-- The distinct ones but the null one, listed. -/
def Dist5 (ss : List Sn) (n : Nat) : Prop := ∃ l : List Nat, l.Nodup ∧ (∀ x, x ∈ l ↔ isKey x ss ∧ x ≠ 0) ∧ l.length = n
theorem isKey_snoc {x : Nat} {ss : List Sn} {s : Sn} : isKey x (ss ++ [s]) ↔ isKey x ss ∨ key s = x := by
  constructor
  · rintro ⟨t, ht, hk⟩
    rcases List.mem_append.1 ht with h | h
    · exact .inl ⟨t, h, hk⟩
    · simp at h; subst h; exact .inr hk
  · rintro (⟨t, ht, hk⟩ | h)
    · exact ⟨t, by simp [ht], hk⟩
    · exact ⟨s, by simp, h⟩
theorem Dist5.nil : Dist5 [] 0 := ⟨[], by simp, fun x => by simp [isKey], rfl⟩
theorem Dist5.old {ss : List Sn} {n : Nat} {s : Sn} (h : Dist5 ss n) (hs : key s = 0 ∨ s ∈ ss) : Dist5 (ss ++ [s]) n := by
  obtain ⟨l, h1, h2, h3⟩ := h
  refine ⟨l, h1, fun x => ?_, h3⟩
  rw [h2, isKey_snoc]
  constructor
  · rintro ⟨h, h0⟩; exact ⟨.inl h, h0⟩
  · rintro ⟨h | h, h0⟩
    · exact ⟨h, h0⟩
    · rcases hs with hs | hs
      · omega
      · exact ⟨⟨s, hs, h⟩, h0⟩
theorem Dist5.new {ss : List Sn} {n : Nat} {s : Sn} (h : Dist5 ss n) (h0 : key s ≠ 0) (hs : s ∉ ss) : Dist5 (ss ++ [s]) (n + 1) := by
  obtain ⟨l, h1, h2, h3⟩ := h
  have hn : key s ∉ l := fun hh => by
    obtain ⟨⟨t, ht, hk⟩, _⟩ := (h2 _).1 hh
    exact hs (key_inj hk ▸ ht)
  refine ⟨key s :: l, List.nodup_cons.2 ⟨hn, h1⟩, fun x => ?_, by simp [h3]⟩
  rw [List.mem_cons, h2, isKey_snoc]
  constructor
  · rintro (h | ⟨h, h'⟩)
    · exact ⟨.inr h.symm, by omega⟩
    · exact ⟨.inl h, h'⟩
  · rintro ⟨h | h, h'⟩
    · exact .inr ⟨h, h'⟩
    · exact .inl h.symm
theorem Dist5.le {ss : List Sn} {n : Nat} (h : Dist5 ss n) : n ≤ ss.length := by
  obtain ⟨l, h1, h2, h3⟩ := h
  rw [← h3]
  exact keys_le h1 (fun x hx => ((h2 x).1 hx).1)

/-- The two counts are one. -/
theorem count_eq {rs : List Rg} {ss : List Sn} {n m : Nat} (h : Held5 rs n) (k : Dist5 ss m) (hm : ∀ x, mem x rs ↔ isKey x ss ∧ x ≠ 0) : n = m := by
  obtain ⟨l, h1, h2, h3⟩ := h
  obtain ⟨l', k1, k2, k3⟩ := k
  rw [← h3, ← k3]
  exact nodup_eq h1 k1 (fun x => by rw [h2, k2, hm])
theorem Held5.le {rs rs' : List Rg} {ss : List Sn} {n : Nat} (h : Held5 rs n) (hsub : ∀ r ∈ rs, r ∈ rs') (hm : ∀ x, mem x rs' ↔ isKey x ss ∧ x ≠ 0) : n ≤ ss.length := by
  obtain ⟨l, h1, h2, h3⟩ := h
  rw [← h3]
  exact keys_le h1 (fun x hx => by
    obtain ⟨r, hr, hx'⟩ := (h2 x).1 hx
    exact ((hm x).1 ⟨r, hsub r hr, hx'⟩).1)
end Go.Proofs.Qxb6615018a
