/-
  DERIVED. Serial numbers as numbers: the order of SerialNumber.Compare is that of 'key'; under one GUID the numbers run on, between GUIDs there is a gap.
-/
import Derived.Test.Qxb6615018aBlocks
import Derived.Shelf.SlSortCmp.NoneTotal
namespace Go.Proofs.Qxb6615018a
open Go.RowKit

def natL : List UInt8 → Nat
  | [] => 0
  | a :: xs => a.toNat * 256 ^ xs.length + natL xs

theorem natL_lt : ∀ xs : List UInt8, natL xs < 256 ^ xs.length
  | [] => by simp [natL]
  | a :: xs => by
    have h1 := natL_lt xs
    have h2 := UInt8.toNat_lt a
    have h3 : (a.toNat + 1) * 256 ^ xs.length ≤ 256 * 256 ^ xs.length := Nat.mul_le_mul_right _ (by omega)
    simp only [natL, List.length_cons, Nat.pow_succ]
    rw [Nat.add_mul, Nat.one_mul] at h3
    omega

theorem mul_lt_of {a b p x y : Nat} (h : a < b) (hx : x < p) : a * p + x < b * p + y := by
  have : (a + 1) * p ≤ b * p := Nat.mul_le_mul_right _ h
  rw [Nat.add_mul, Nat.one_mul] at this
  omega

theorem cmp_nat : ∀ xs ys : List UInt8, xs.length = ys.length → Lib.compareBytes xs ys = if natL xs < natL ys then -1 else if natL ys < natL xs then 1 else 0
  | [], [], _ => by simp [Lib.compareBytes, natL]
  | [], _ :: _, h => by simp at h
  | _ :: _, [], h => by simp at h
  | a :: xs, b :: ys, h => by
    have hl : xs.length = ys.length := by simpa using h
    have ih := cmp_nat xs ys hl
    have ha := natL_lt xs
    have hb := natL_lt ys
    rw [hl] at ha
    simp only [Lib.compareBytes, natL, hl]
    by_cases h1 : a < b
    · rw [if_pos h1, if_pos (mul_lt_of (UInt8.lt_iff_toNat_lt.1 h1) ha)]
    · rw [if_neg h1]
      by_cases h2 : b < a
      · have := mul_lt_of (y := natL xs) (UInt8.lt_iff_toNat_lt.1 h2) hb
        rw [if_pos h2, if_neg (by omega), if_pos this]
      · rw [if_neg h2]
        have e : a.toNat = b.toNat := by
          have h1' : ¬ a.toNat < b.toNat := fun hh => h1 (UInt8.lt_iff_toNat_lt.2 hh)
          have h2' : ¬ b.toNat < a.toNat := fun hh => h2 (UInt8.lt_iff_toNat_lt.2 hh)
          omega
        rw [e, ih]
        simp only [Nat.add_lt_add_iff_left]

theorem natL_inj : ∀ xs ys : List UInt8, xs.length = ys.length → natL xs = natL ys → xs = ys
  | [], [], _, _ => rfl
  | [], _ :: _, h, _ => by simp at h
  | _ :: _, [], h, _ => by simp at h
  | a :: xs, b :: ys, h, he => by
    have hl : xs.length = ys.length := by simpa using h
    have ha := natL_lt xs
    have hb := natL_lt ys
    rw [hl] at ha
    simp only [natL, hl] at he
    have e : a.toNat = b.toNat := by
      rcases Nat.lt_trichotomy a.toNat b.toNat with h1 | h1 | h1
      · have := mul_lt_of (y := natL ys) h1 ha; omega
      · exact h1
      · have := mul_lt_of (y := natL xs) h1 hb; omega
    rw [e] at he
    rw [UInt8.toNat_inj.1 e, natL_inj xs ys hl (by omega)]

def gk (g : Gd) : Nat := natL g.toList
theorem gk_inj {g h : Gd} (e : gk g = gk h) : g = h := by
  have := natL_inj g.toList h.toList (by simp) e
  exact Vector.toList_inj.1 this

def key (s : Sn) : Nat := gk s.1 * 2 ^ 65 + s.2.toNat
/-- The first and the last number of a range. -/
def lo (r : Rg) : Nat := key (r.1, r.2.1)
def hi (r : Rg) : Nat := key (r.1, r.2.2)

theorem key_inj {s t : Sn} (e : key s = key t) : s = t := by
  have h1 := UInt64.toNat_lt s.2
  have h2 := UInt64.toNat_lt t.2
  simp only [key] at e
  have eg : gk s.1 = gk t.1 := by omega
  have en : s.2.toNat = t.2.toNat := by omega
  exact Prod.ext (gk_inj eg) (UInt64.toNat_inj.1 en)

theorem cmpN_eq (a b : UInt64) : cmpN a b = if a.toNat < b.toNat then -1 else if b.toNat < a.toNat then 1 else 0 := by
  simp only [cmpN, UInt64.lt_iff_toNat_lt]

theorem key_eq (s : Sn) : key s = gk s.1 * 36893488147419103232 + s.2.toNat := rfl
theorem cmpS_key (s t : Sn) : cmpS s t = if key s < key t then -1 else if key t < key s then 1 else 0 := by
  have h1 := UInt64.toNat_lt s.2
  have h2 := UInt64.toNat_lt t.2
  have ks := key_eq s
  have kt := key_eq t
  have hc : Lib.compareBytes s.1.toList t.1.toList = if gk s.1 < gk t.1 then -1 else if gk t.1 < gk s.1 then 1 else 0 := cmp_nat _ _ (by simp)
  unfold cmpS
  rw [hc, cmpN_eq]
  by_cases e1 : gk s.1 < gk t.1
  · have : key s < key t := by omega
    simp [e1, this]
  · by_cases e2 : gk t.1 < gk s.1
    · have h3 : ¬ key s < key t := by omega
      have h4 : key t < key s := by omega
      simp [e1, e2, h3, h4]
    · have h3 : (key s < key t) = (s.2.toNat < t.2.toNat) := by apply propext; omega
      have h4 : (key t < key s) = (t.2.toNat < s.2.toNat) := by apply propext; omega
      simp only [e1, e2, h3, h4, if_false, if_true]

theorem ltOf_key (s t : Sn) : ltOf cmpS s t = decide (key s < key t) := by
  unfold ltOf
  rw [cmpS_key]
  by_cases h : key s < key t
  · simp [h]
  · by_cases h2 : key t < key s <;> simp [h, h2]

/-- joins, in numbers: the next range starts no later than just behind r. -/
theorem joinsB_key (r n : Rg) (h : lo r ≤ lo n) (hr : lo r ≤ hi r) : joinsB r n = decide (lo n ≤ hi r + 1) := by
  have h1 := UInt64.toNat_lt r.2.1
  have h2 := UInt64.toNat_lt r.2.2
  have h3 := UInt64.toNat_lt n.2.1
  have k1 : lo r = gk r.1 * 36893488147419103232 + r.2.1.toNat := rfl
  have k2 : hi r = gk r.1 * 36893488147419103232 + r.2.2.toNat := rfl
  have k3 : lo n = gk n.1 * 36893488147419103232 + n.2.1.toNat := rfl
  by_cases e : r.1 = n.1
  · rw [Bool.eq_iff_iff]
    simp only [joinsB, Bool.and_eq_true, Bool.or_eq_true, beq_iff_eq, decide_eq_true_eq, UInt64.le_iff_toNat_le, e, true_and]
    rw [← UInt64.toNat_inj, UInt64.toNat_sub]
    simp only [UInt64.toNat_one]
    rw [e] at k1 k2
    omega
  · have hne : gk r.1 ≠ gk n.1 := fun he => e (gk_inj he)
    have : joinsB r n = false := by simp [joinsB, e]
    rw [this]
    symm
    rw [decide_eq_false_iff_not]
    omega
end Go.Proofs.Qxb6615018a
