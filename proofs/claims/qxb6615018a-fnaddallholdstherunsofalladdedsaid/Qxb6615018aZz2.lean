/-
  DERIVED. The bounds on length, and the copy of a batch into the project's own type.
-/
import Derived.Test.Qxb6615018aZz1
namespace Go.Proofs.Qxb6615018a
open Go.RowKit Go.Sort

set_option maxRecDepth 100000 in
/-- zzBytes of the law of two batches: some bool. -/
theorem bytes15 (a : Option Addr) (n c : Nat) (cut : Int) (w : World) (hn : n ≤ 9223372036854775807) :
    Calls Try.prog 15 #[.slice a n c, .int .i64 cut] w fun e w' => ∃ b, e = .returned (.bool b) ∧ w' = w := by
  by_cases h1 : 1048576 < n
  · go_enter Try.func15, Try.ntmps15
    go_wp2
    go_ret
    exact ⟨_, rfl, rfl⟩
  · go_enter Try.func15, Try.ntmps15
    go_wp2
    go_loopg [5, 6] n (fun gk zv iv wr => ∃ i z : Nat, iv = .int .i64 i ∧ zv = .int .i64 z ∧ gk = n - i ∧ i ≤ n ∧ z ≤ 1048576 ∧ wr = w)
    case atStart => exact ⟨0, n, rfl, rfl, rfl, by omega, by omega, rfl⟩
    case round =>
      obtain ⟨i, z, rfl, rfl, hgk, hil, hz, rfl⟩ := hrel
      rcases Nat.eq_or_lt_of_le hil with hE | hE
      · subst hE
        go_wp2
        go_ret
        exact ⟨_, rfl, rfl⟩
      · by_cases h2 : 1048576 < z + 16
        · have h2i : (1048576 : Int) < (z : Int) + 16 := by omega
          have hzi : (z : Int) ≤ 1048576 := by omega
          clear h2 hz
          go_wp2
          go_ret
          exact ⟨_, rfl, rfl⟩
        · have h2i : ¬ (1048576 : Int) < (z : Int) + 16 := by omega
          have h3 : Hid (z + 16 ≤ 1048576) := by show z + 16 ≤ 1048576; omega
          have hzi : (z : Int) ≤ 1048576 := by omega
          clear h2 hz
          go_wp2
          go_roundg (n - (i + 1))
          case measure => omega
          case rel => exact ⟨i + 1, z + 16, by go_num, by go_num, rfl, by omega, h3.out, rfl⟩
set_option maxRecDepth 100000 in
/-- zzBytes of the law of the runs: some bool. -/
theorem bytes9 (a a' : Option Addr) (n c n' c' : Nat) (w : World) (hn : n ≤ 9223372036854775807) (hn' : n' ≤ 9223372036854775807) :
    Calls Try.prog 9 #[.slice a n c, .slice a' n' c'] w fun e w' => ∃ b, e = .returned (.bool b) ∧ w' = w := by
  by_cases h1 : 1048576 < n
  · go_enter Try.func9, Try.ntmps9
    go_wp2
    go_ret
    exact ⟨_, rfl, rfl⟩
  · go_enter Try.func9, Try.ntmps9
    go_wp2
    go_loopg [5, 6] n (fun gk zv iv wr => ∃ i z : Nat, iv = .int .i64 i ∧ zv = .int .i64 z ∧ gk = n - i ∧ i ≤ n ∧ z ≤ 1048576 ∧ wr = w)
    case atStart => exact ⟨0, n, rfl, rfl, rfl, by omega, by omega, rfl⟩
    case round =>
      obtain ⟨i, z, rfl, rfl, hgk, hil, hz, rfl⟩ := hrel
      rcases Nat.eq_or_lt_of_le hil with hE | hE
      · subst hE
        have hzi : (z : Int) ≤ 1048576 := by omega
        clear hz
        by_cases h1' : 1048576 < n'
        · go_wp2
          go_ret
          exact ⟨_, rfl, rfl⟩
        · by_cases h4 : (1048576 : Int) < (z : Int) + (n' : Int)
          · go_wp2
            go_ret
            exact ⟨_, rfl, rfl⟩
          · go_wp2
            go_loopg [5, 7] n' (fun gk zv iv wr' => ∃ i z : Nat, iv = .int .i64 i ∧ zv = .int .i64 z ∧ gk = n' - i ∧ i ≤ n' ∧ z ≤ 1048576 ∧ wr' = wr)
            case atStart => exact ⟨0, z + n', rfl, by go_num, rfl, by omega, by omega, rfl⟩
            case round =>
              clear hzi h4
              obtain ⟨i, z, rfl, rfl, hgk, hil, hz, rfl⟩ := hrel
              rcases Nat.eq_or_lt_of_le hil with hE | hE
              · subst hE
                go_wp2
                go_ret
                exact ⟨_, rfl, rfl⟩
              · by_cases h2 : 1048576 < z + 16
                · have h2i : (1048576 : Int) < (z : Int) + 16 := by omega
                  have hzi : (z : Int) ≤ 1048576 := by omega
                  clear h2 hz
                  go_wp2
                  go_ret
                  exact ⟨_, rfl, rfl⟩
                · have h2i : ¬ (1048576 : Int) < (z : Int) + 16 := by omega
                  have h3 : Hid (z + 16 ≤ 1048576) := by show z + 16 ≤ 1048576; omega
                  have hzi : (z : Int) ≤ 1048576 := by omega
                  clear h2 hz
                  go_wp2
                  go_roundg (n' - (i + 1))
                  case measure => omega
                  case rel => exact ⟨i + 1, z + 16, by go_num, by go_num, rfl, by omega, h3.out, rfl⟩
      · by_cases h2 : 1048576 < z + 16
        · have h2i : (1048576 : Int) < (z : Int) + 16 := by omega
          have hzi : (z : Int) ≤ 1048576 := by omega
          clear h2 hz
          go_wp2
          go_ret
          exact ⟨_, rfl, rfl⟩
        · have h2i : ¬ (1048576 : Int) < (z : Int) + 16 := by omega
          have h3 : Hid (z + 16 ≤ 1048576) := by show z + 16 ≤ 1048576; omega
          have hzi : (z : Int) ≤ 1048576 := by omega
          clear h2 hz
          go_wp2
          go_roundg (n - (i + 1))
          case measure => omega
          case rel => exact ⟨i + 1, z + 16, by go_num, by go_num, rfl, by omega, h3.out, rfl⟩
end Go.Proofs.Qxb6615018a
