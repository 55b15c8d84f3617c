/-
  DERIVED. The plain laws behind the decoder: the number that a row of bytes spells, low byte first; 'lo | hi << s' as a sum.
-/
import Derived.Lib.EndianBits
namespace Go.Proofs.Qxb6615018aDoor

/-- The number that the bytes spell, low byte first. -/
def leV : List Int → Int
  | [] => 0
  | z :: r => z + 256 * leV r

theorem leV_append : ∀ (a b : List Int), leV (a ++ b) = leV a + 256 ^ a.length * leV b
  | [], b => by simp [leV]
  | z :: r, b => by
    simp only [List.cons_append, leV, leV_append r b, List.length_cons, Int.pow_succ]
    rw [Int.mul_add, Int.mul_comm (256 ^ r.length) 256, Int.mul_assoc]
    omega

theorem pow256_pos (k : Nat) : (0 : Int) < 256 ^ k := Int.pow_pos (by decide)

theorem leV_bounds : ∀ (a : List Int), (∀ z ∈ a, 0 ≤ z ∧ z < 256) → 0 ≤ leV a ∧ leV a < 256 ^ a.length
  | [], _ => by simp [leV]
  | z :: r, h => by
    have hz := h z (by simp)
    have hr := leV_bounds r (fun y hy => h y (by simp [hy]))
    simp only [leV, List.length_cons, Int.pow_succ]
    omega

/-- Of z the bytes from p on, n of them. -/
def cut (zs : List Int) (p n : Nat) : List Int := (zs.drop p).take n

theorem cut_length {zs : List Int} {p n : Nat} (h : p + n ≤ zs.length) : (cut zs p n).length = n := by
  simp [cut]; omega

theorem cut_snoc {zs : List Int} {p n : Nat} (h : p + n < zs.length) : cut zs p (n + 1) = cut zs p n ++ [zs.getD (p + n) 0] := by
  unfold cut
  rw [List.take_succ_eq_append_getElem (by simp; omega)]
  simp [List.getElem?_eq_getElem h]

theorem cut_cut {zs : List Int} {p n m : Nat} (h : p + n + m ≤ zs.length) : cut zs p (n + m) = cut zs p n ++ cut zs (p + n) m := by
  induction m with
  | zero => simp [cut]
  | succ m ih =>
    rw [← Nat.add_assoc, cut_snoc (by omega), ih (by omega), cut_snoc (by omega), List.append_assoc, Nat.add_assoc p n m]

theorem cut_mem {zs : List Int} {p n : Nat} {z : Int} (h : z ∈ cut zs p n) : z ∈ zs := List.mem_of_mem_drop (List.mem_of_mem_take h)

theorem pow_two_eight (k : Nat) : (2 : Int) ^ (8 * k) = 256 ^ k := by
  rw [Int.pow_mul]; rfl

theorem pow256_mono {j k : Nat} (h : j ≤ k) : (256 : Int) ^ j ≤ 256 ^ k := by
  obtain ⟨d, rfl⟩ := Nat.exists_eq_add_of_le h
  rw [Int.pow_add]
  have hj := pow256_pos j
  have hd := pow256_pos d
  have := Int.mul_le_mul_of_nonneg_left (show (1 : Int) ≤ 256 ^ d by omega) (show (0 : Int) ≤ 256 ^ j by omega)
  omega

theorem pow256_eight : (256 : Int) ^ 8 = 18446744073709551616 := rfl

/-- 'lo | hi << 8k' where lo lies below and the sum fits. -/
theorem orJoin (lo hi : Int) (k m : Nat) (hkm : k + m ≤ 8) (hl : 0 ≤ lo ∧ lo < 256 ^ k) (hh : 0 ≤ hi ∧ hi < 256 ^ m) :
    bits .or .u64 lo (IntKind.u64.wrap (hi * 2 ^ (8 * k))) = lo + 256 ^ k * hi := by
  have hk := pow256_pos k
  have e1 : hi * 2 ^ (8 * k) = 256 ^ k * hi := by rw [pow_two_eight, Int.mul_comm]
  have h2 : 256 ^ k * hi ≤ 256 ^ k * (256 ^ m - 1) := Int.mul_le_mul_of_nonneg_left (by omega) (by omega)
  have h3 : (256 : Int) ^ k * (256 ^ m - 1) = 256 ^ (k + m) - 256 ^ k := by rw [Int.mul_sub, Int.pow_add, Int.mul_one]
  have h4 := pow256_mono hkm
  rw [pow256_eight] at h4
  have h0 : 0 ≤ 256 ^ k * hi := Int.mul_nonneg (by omega) hh.1
  have h5 := pow256_mono (show k ≤ k + m by omega)
  rw [e1, u64_wrap_id _ h0 (by omega)]
  refine bits_join_low .u64 64 (by decide) wraps_u64 (8 * k) lo (256 ^ k * hi) hl.1 ?_ ?_ h0 ?_ ?_
  · rw [pow_two_eight]; exact hl.2
  · show lo < 18446744073709551616; omega
  · rw [pow_two_eight]; exact Int.mul_emod_right _ _
  · show 256 ^ k * hi < 18446744073709551616; omega

theorem wrap_byte {z : Int} (h : 0 ≤ z ∧ z < 256) : IntKind.u64.wrap z = z := u64_wrap_id _ h.1 (by omega)

/-- One round of the decoder's loop. -/
theorem leV_round {zs : List Int} {p k : Nat} (hk : k < 8) (hp : p + k < zs.length) (hz : ∀ z ∈ zs, 0 ≤ z ∧ z < 256) :
    bits .or .u64 (leV (cut zs p k)) (IntKind.u64.wrap (IntKind.u64.wrap (zs[p + k]?.getD 0) * 2 ^ (8 * k))) = leV (cut zs p (k + 1)) := by
  have hb : 0 ≤ zs[p + k]?.getD 0 ∧ zs[p + k]?.getD 0 < 256 := hz _ (by rw [List.getElem?_eq_getElem hp]; exact List.getElem_mem hp)
  have hl := leV_bounds (cut zs p k) (fun z h => hz z (cut_mem h))
  rw [cut_length (by omega)] at hl
  rw [wrap_byte hb, orJoin _ _ k 1 (by omega) hl (by simpa using hb), cut_snoc hp, leV_append, cut_length (by omega)]
  simp [leV]

theorem leV_cut_bounds {zs : List Int} {p n : Nat} (hp : p + n ≤ zs.length) (hz : ∀ z ∈ zs, 0 ≤ z ∧ z < 256) : 0 ≤ leV (cut zs p n) ∧ leV (cut zs p n) < 256 ^ n := by
  have hl := leV_bounds (cut zs p n) (fun z h => hz z (cut_mem h))
  rwa [cut_length hp] at hl

/-- Two reads one behind the other give what one read gives. -/
theorem two_steps {zs : List Int} {p n k : Nat} (hk : k ≤ n) (hn : n ≤ 8) (hp : p + n ≤ zs.length) (hz : ∀ z ∈ zs, 0 ≤ z ∧ z < 256) :
    (leV (cut zs p n) != bits .or .u64 (leV (cut zs p k)) (IntKind.u64.wrap (leV (cut zs (p + k) (n - k)) * 2 ^ (8 * k)))) = false := by
  rw [orJoin _ _ k (n - k) (by omega) (leV_cut_bounds (by omega) hz) (leV_cut_bounds (by omega) hz)]
  have e := @cut_cut zs p k (n - k) (by omega)
  rw [show k + (n - k) = n from by omega] at e
  rw [e, leV_append, cut_length (by omega)]
  simp

/-- The j-th byte of what a read gives is the j-th byte that was read. -/
theorem leV_byte {zs : List Int} {p n j : Nat} (hj : j < n) (hp : p + n ≤ zs.length) (hz : ∀ z ∈ zs, 0 ≤ z ∧ z < 256) :
    IntKind.u8.wrap (leV (cut zs p n) / 2 ^ (8 * j)) = zs[p + j]?.getD 0 := by
  have e := @cut_cut zs p j (n - j) (by omega)
  rw [show j + (n - j) = n from by omega] at e
  have e2 := @cut_cut zs (p + j) 1 (n - j - 1) (by omega)
  rw [show 1 + (n - j - 1) = n - j from by omega] at e2
  have e3 := @cut_snoc zs (p + j) 0 (by omega)
  have e4 : cut zs (p + j) 0 = [] := by simp [cut]
  rw [e4] at e3
  simp only [Nat.zero_add, List.nil_append, Nat.add_zero] at e3
  have hb : 0 ≤ zs.getD (p + j) 0 ∧ zs.getD (p + j) 0 < 256 := by
    rw [List.getD_eq_getElem?_getD, List.getElem?_eq_getElem (by omega)]; exact hz _ (List.getElem_mem _)
  have hl := @leV_cut_bounds zs p j (by omega) hz
  rw [e, leV_append, cut_length (by omega), e2, leV_append, e3, pow_two_eight]
  rw [Int.add_mul_ediv_left _ _ (Int.ne_of_gt (pow256_pos j)), Int.ediv_eq_zero_of_lt hl.1 hl.2]
  simp only [leV, List.length_singleton, Int.pow_one, Int.mul_zero, Int.add_zero, Int.zero_add]
  rw [show IntKind.u8.wrap (zs.getD (p + j) 0 + 256 * leV (cut zs (p + j + 1) (n - j - 1))) = (zs.getD (p + j) 0 + 256 * leV (cut zs (p + j + 1) (n - j - 1))) % 256 from by simp [IntKind.wrap, IntKind.bits, IntKind.signed]]
  rw [Int.add_mul_emod_self_left, Int.emod_eq_of_lt hb.1 hb.2]
  simp

theorem leV_low {zs : List Int} {p n : Nat} (hj : 0 < n) (hp : p + n ≤ zs.length) (hz : ∀ z ∈ zs, 0 ≤ z ∧ z < 256) : IntKind.u8.wrap (leV (cut zs p n)) = zs[p]?.getD 0 := by
  have := @leV_byte zs p n 0 hj hp hz
  simpa using this

theorem leV_high {zs : List Int} {p n : Nat} (hp : p + n ≤ zs.length) (hz : ∀ z ∈ zs, 0 ≤ z ∧ z < 256) : (leV (cut zs p n) / 2 ^ (8 * n) != 0) = false := by
  have hl := @leV_cut_bounds zs p n hp hz
  rw [pow_two_eight, Int.ediv_eq_zero_of_lt hl.1 hl.2]
  rfl

end Go.Proofs.Qxb6615018aDoor
