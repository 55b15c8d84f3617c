/-
  DERIVED. The contracts of the callees of both DaysSince laws.
-/
import Derived.Test.Qxb6615129aProg
import Derived.WalkKit
import Derived.WalkSpells
namespace Go.Proofs.Qxb6615129a
open Go.RowKit

theorem fits_yes (v : Int) (w : World) (h : -2147483648 ≤ v) (h2 : v ≤ 2147483647) : Calls Try.prog 5 #[.int .i64 v] w fun e w' => e = .returned (.bool true) ∧ w = w' := by
  go_enter Try.func5, Try.ntmps5
  go_wp2
  go_ret
  exact ⟨rfl, rfl⟩

theorem fits_no (v : Int) (w : World) (h : v < -2147483648 ∨ 2147483647 < v) : Calls Try.prog 5 #[.int .i64 v] w fun e w' => e = .returned (.bool false) ∧ w = w' := by
  rcases h with h | h
  · go_enter Try.func5, Try.ntmps5
    go_wp2
    go_ret
    exact ⟨rfl, rfl⟩
  · have h' : -2147483648 ≤ v := by omega
    have h'' : decide (v ≤ 2147483647) = false := by simp; omega
    go_enter Try.func5, Try.ntmps5
    go_wp2
    go_ret
    exact ⟨rfl, rfl⟩

theorem newDate_any (d : Int) (w : World) : Calls Try.prog 6 #[.int .i32 d] w fun e w' => e = .returned (.agg #[.int .i32 d]) ∧ w' = w.alloc (.cells #[.int .i32 d] 24) := by
  go_enter Try.func6, Try.ntmps6
  go_wp2
  exact bodyPost_ret (v := .agg #[.int .i32 d]) (by simp [results, Try.results6, go_sem]) rfl ⟨rfl, rfl⟩

theorem days_any (a b : Int) (w : World) (h1 : -2147483648 ≤ a - b) (h2 : a - b ≤ 2147483647) :
    Calls Try.prog 7 #[.agg #[.int .i32 a], .agg #[.int .i32 b]] w fun e w' => e = .returned (.int .i64 (a - b)) ∧ w' = (w.alloc (.cells #[.int .i32 a] 24)).alloc (.cells #[.int .i32 b] 24) := by
  go_enter Try.func7, Try.ntmps7
  go_wp2
  go_ret
  exact ⟨rfl, rfl⟩
end Go.Proofs.Qxb6615129a
