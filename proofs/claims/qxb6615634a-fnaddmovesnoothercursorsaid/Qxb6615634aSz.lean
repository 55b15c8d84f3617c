/-
  DERIVED. The two bounds on size: some bool; where headsTooBig says no, there are at most 4096 heads.
-/
import Derived.Test.Qxb6615634aSm
namespace Go.Proofs.Qxb6615634a
open Go.RowKit Go.Sort

set_option maxRecDepth 100000 in
set_option maxHeartbeats 1000000 in
/-- headsTooBig. -/
theorem tooBig_any (a : Option Addr) (c : Nat) (hs : List Hd) (x : Int) (w : World) (h : RdB encH 66 w.heap.size w a hs) (hn : hs.length ≤ 9223372036854775807) :
    Calls Try.prog 13 #[.slice a hs.length c, .int .i64 x] w fun e w' => (∃ b : Bool, Hid (b = false → hs.length ≤ 4096) ∧ e = .returned (.bool b)) ∧ w' = w := by
  obtain ⟨k32, k66, ⟨z22, z27, z38, z55, n32, n66⟩, HK⟩ := sz_ex
  clear z22 z27 z55 n32
  have H : Hid (RdB encH 66 w.heap.size w a hs) := h
  clear h
  by_cases hb : 4096 < hs.length
  · go_enter Try.func13, Try.ntmps13
    go_wp2
    go_ret
    exact ⟨⟨true, fun hh => absurd hh (by decide), rfl⟩, rfl⟩
  · have HL : Hid (hs.length ≤ 4096) := by show _ ≤ _; omega
    go_enter Try.func13, Try.ntmps13
    go_wp2
    go_loopg [5, 6] hs.length (fun gk tv iv wr => ∃ (i : Nat) (t : Int), iv = .int .i64 i ∧ tv = .int .i64 t ∧ gk = hs.length - i ∧ i ≤ hs.length ∧ wr = w)
    case atStart => exact ⟨0, _, rfl, rfl, rfl, by omega, rfl⟩
    case round =>
      obtain ⟨i, t, rfl, rfl, hgk, hil, rfl⟩ := hrel
      rcases Nat.eq_or_lt_of_le hil with hE | hE
      · subst hE
        go_wp2
        go_ret
        exact ⟨⟨false, fun _ => HL.out, rfl⟩, rfl⟩
      · obtain ⟨b, o, heq, _⟩ := H.out i hE
        cases heq
        have f1 := (rd_hd H.out i hE k32 HK.out.1).2.1
        rw [← HK.out.2] at f1
        generalize hs[i].mem = s at f1
        have ib0 : (0 : Int) ≤ (i : Int) := by omega
        have ib : (i : Int) < (hs.length : Int) := by omega
        obtain ⟨t', ht'⟩ : ∃ t', IntKind.i64.wrap (t + (s.size : Int)) = t' := ⟨_, rfl⟩
        by_cases q : 1048576 < t'
        · go_wp2
          go_ret
          exact ⟨⟨true, fun hh => absurd hh (by decide), rfl⟩, rfl⟩
        · go_wp2
          go_roundg (hs.length - (i + 1))
          case measure => omega
          case rel => exact ⟨i + 1, t', by go_num, rfl, rfl, by omega, rfl⟩
set_option maxRecDepth 100000 in
set_option maxHeartbeats 2000000 in
/-- zzBytes: some bool. -/
theorem bytes_any (a : Option Addr) (c : Nat) (hs : List Hd) (x : Hd) (w : World) (h : RdB encH 66 w.heap.size w a hs) (hn : hs.length ≤ 9223372036854775807) :
    Calls Try.prog 12 #[.slice a hs.length c, .agg (encH x).toArray] w fun e w' => RetB e ∧ Below w.heap.size w w' := by
  obtain ⟨k32, k66, ⟨z22, z27, z38, z55, n32, n66⟩, HK⟩ := sz_ex
  clear z22 z27 z55 n32
  have H : Hid (RdB encH 66 w.heap.size w a hs) := h
  obtain ⟨w1, hw1⟩ : ∃ w1, w1 = w.alloc (.cells (encH x).toArray 38) := ⟨_, rfl⟩
  have hb1 : Below w.heap.size w w1 := by rw [hw1]; exact (Below.refl _ _).alloc (Nat.le_refl _) _
  have hbx : w1.heap[w.heap.size]? = some (.cells (encH x).toArray 38 (0, 0)) := by rw [hw1]; exact heap_alloc_last _ _
  have cX : w1.cell? ⟨w.heap.size, 32, none⟩ = some (.string x.mem) := by simpa [World.cell?, hbx] using encH_32 x
  have HB : Hid (Below w.heap.size w w1) := hb1
  clear h hb1 hbx
  by_cases h1 : 1048576 < hs.length
  · go_enter Try.func12, Try.ntmps12
    go_wp2
    rw [← hw1]
    go_ret
    exact ⟨⟨_, rfl⟩, HB.out⟩
  · have h1I : ¬ (1048576 : Int) < (hs.length : Int) := by omega
    have h1I' : (hs.length : Int) ≤ 1048576 := by omega
    clear h1
    go_enter Try.func12, Try.ntmps12
    go_wp2
    rw [← hw1]
    clear hw1
    go_loopg [5, 6] hs.length (fun gk tv iv wr => ∃ (i : Nat) (t : Int), iv = .int .i64 i ∧ tv = .int .i64 t ∧ gk = hs.length - i ∧ i ≤ hs.length ∧ wr = w1)
    case atStart => exact ⟨0, _, rfl, rfl, rfl, by omega, rfl⟩
    case round =>
      obtain ⟨i, t, rfl, rfl, hgk, hil, rfl⟩ := hrel
      rcases Nat.eq_or_lt_of_le hil with hE | hE
      · subst hE
        obtain ⟨s, hs'⟩ : ∃ s, s = x.mem := ⟨_, rfl⟩
        rw [← hs'] at cX
        clear hs'
        obtain ⟨t', ht'⟩ : ∃ t', IntKind.i64.wrap (t + (s.size : Int)) = t' := ⟨_, rfl⟩
        by_cases q0 : (1048576 : Int) < (s.size : Int)
        · go_wp2
          go_ret
          exact ⟨⟨_, rfl⟩, HB.out⟩
        · by_cases q : 1048576 < t'
          · go_wp2
            go_ret
            exact ⟨⟨_, rfl⟩, HB.out⟩
          · go_wp2
            go_ret
            exact ⟨⟨_, rfl⟩, HB.out⟩
      · obtain ⟨b, o, heq, _⟩ := H.out i hE
        cases heq
        have f1 := (rd_hd (H.out.below HB.out) i hE k32 HK.out.1).2.1
        rw [← HK.out.2] at f1
        generalize hs[i].mem = s at f1
        have ib0 : (0 : Int) ≤ (i : Int) := by omega
        have ib : (i : Int) < (hs.length : Int) := by omega
        obtain ⟨t1, ht1⟩ : ∃ t1, IntKind.i64.wrap (t + 32) = t1 := ⟨_, rfl⟩
        obtain ⟨t2, ht2⟩ : ∃ t2, IntKind.i64.wrap (t1 + (s.size : Int)) = t2 := ⟨_, rfl⟩
        obtain ⟨t3, ht3⟩ : ∃ t3, IntKind.i64.wrap (t2 + 32) = t3 := ⟨_, rfl⟩
        by_cases q1 : 1048576 < t1
        · go_wp2
          go_ret
          exact ⟨⟨_, rfl⟩, HB.out⟩
        · by_cases q0 : (1048576 : Int) < (s.size : Int)
          · go_wp2
            go_ret
            exact ⟨⟨_, rfl⟩, HB.out⟩
          · by_cases q2 : 1048576 < t2
            · go_wp2
              go_ret
              exact ⟨⟨_, rfl⟩, HB.out⟩
            · by_cases q3 : 1048576 < t3
              · go_wp2
                go_ret
                exact ⟨⟨_, rfl⟩, HB.out⟩
              · go_wp2
                go_roundg (hs.length - (i + 1))
                case measure => omega
                case rel => exact ⟨i + 1, t3, by go_num, rfl, rfl, by omega, rfl⟩
end Go.Proofs.Qxb6615634a
