/-
  DERIVED. slices.Replace at a slice of blocks, every way; so AddAll at any Knowledge.
-/
import Derived.Test.Qxb6615018aRpl
import Derived.Test.Qxb6615018aRplLess
import Derived.Test.Qxb6615018aRplGrow
import Derived.Test.Qxb6615018aRplTail
import Derived.Test.Qxb6615018aConc
import Derived.Test.Qxb6615018aFind
namespace Go.Proofs.Qxb6615018a
open Go.RowKit Go.Sort

theorem replace_all (B : Nat) (v : Value) (n : Nat) : ReplaceOK B v n := by
  intro W xs u m ys l h B' hB hv hu hD h1x h1y hm hlh hhn hL
  have hxl : xs.length = n := by have := hv.1; omega
  rcases Nat.eq_or_lt_of_le hlh with rfl | hlt
  · have := replace_eq B B' n m l v u xs ys W hB hm hhn hL hv hu hD h1x h1y
    rw [show n + m - (l - l) = n + m by omega]
    exact this
  · obtain ⟨vb, vc, G, rfl, hvB, hvb, hmc, _, hGs, hyl, hy⟩ := row_of hu hm
    obtain ⟨g, cap, F, rfl, hgB, hg, hnc, hcm, hF, _, hx⟩ := row_of hv (by omega)
    have hgv : vb ≠ g := by have := hD g rfl; omega
    have hy' : ∀ (j : Nat) v, ys[j]? = some v → G[j]? = some v := fun j v hj => by rw [hy j (by have := (List.getElem?_eq_some_iff.1 hj).1; omega)]; exact hj
    have hcap : cap ≤ 9223372036854775807 := by unfold maxLen at hcm; omega
    rcases Nat.eq_or_lt_of_le hhn with rfl | hhlt
    · have := replace_tail B B' g cap h l vb m vc xs ys W hB hlt hm hL hv hu h1y
      rw [show h + m - (h - l) = l + m by omega, List.drop_of_length_le (by omega), List.append_nil]
      exact this
    · rw [show n + m - (h - l) = l + m + (n - h) by omega]
      by_cases hless : l + m ≤ h
      · exact replace_less B g cap n l h vb m vc xs ys F G W hlt hhlt hm hless hnc hcap hL hgv hgB hg hvb hF hxl hyl hx hy' h1x h1y hcm
      · by_cases hroom : l + m + (n - h) ≤ cap
        · exact replace_shift B g cap n l h vb m vc xs ys F G W hlt hhlt hm (by omega) hroom hnc hcap hL hgv hgB hg hvb hF hxl hyl hx hy' h1x h1y hcm
        · exact replace_grow B g cap n l h vb m vc xs ys F G W hlt hhlt hm (by omega) hnc hL hB hg hvb hxl hyl hx hy' h1x h1y

theorem gen_all (B : Nat) : Gen B := ⟨find_any, concat_any, replace_all B⟩
end Go.Proofs.Qxb6615018a
