import Derived.Test.Qxb6615018aDoorSt
namespace Go.Proofs.Qxb6615018aDoor
open Go.RowKit

theorem slice_from {B L n : Nat} {a : Option Addr} (hT : Tail B L 0 a) (hn : n ≤ L) (hL : L ≤ 1000000000) :
    ∃ a2, Tail B L n a2 ∧ ∀ w, (Instr.slice 22 (.slice a L L) (some (.int .i64 n)) none none).run Tryd.prog w = .ok (.slice a2 (L - n) (L - n)) w := by
  rcases hT with ⟨rfl, rfl⟩ | ⟨b, off, rfl, h⟩
  · refine ⟨none, .inl ⟨rfl, by omega⟩, fun w => ?_⟩
    obtain rfl : n = 0 := by omega
    simp [go_sem, Tryd.underlying22]
  · refine ⟨if L = n then some ⟨b, off, none⟩ else some ⟨b, off + n, none⟩, ?_, fun w => ?_⟩
    · by_cases e : L = n
      · exact .inr ⟨b, off, by simp [e], by omega⟩
      · exact .inr ⟨b, off + n, by simp [e], fun hh => by obtain ⟨rfl, rfl⟩ := h (by omega); simp⟩
    · simp [go_sem, Tryd.underlying22]
      omega

theorem bound_yes (a : Option Addr) (L cap : Nat) (n k : Int) (w : World) (h : L ≤ 1048576) : Calls Tryd.prog 6 #[.slice a L cap, .int .i64 n, .int .i64 k] w fun e w' => e = .returned (.bool true) ∧ w = w' := by
  go_enter Tryd.func6, Tryd.ntmps6
  go_wp2
  go_ret
  exact ⟨rfl, rfl⟩

theorem bound_no (a : Option Addr) (L cap : Nat) (n k : Int) (w : World) (h : ¬ L ≤ 1048576) : Calls Tryd.prog 6 #[.slice a L cap, .int .i64 n, .int .i64 k] w fun e w' => e = .returned (.bool false) ∧ w = w' := by
  go_enter Tryd.func6, Tryd.ntmps6
  go_wp2
  go_ret
  exact ⟨rfl, rfl⟩

set_option maxRecDepth 100000 in
set_option maxHeartbeats 1000000 in
theorem main_fits (a : Option Addr) (cap n k : Nat) (ys : List Int) (w : World) (hc : ys.length ≤ 65536) (hr : Reads w a ys) (hn : a = none → ys.length = 0 ∧ cap = 0) (hx : ∀ x, a = some x → 0 < ys.length → x.block < w.heap.size)
    (by8 : ∀ z ∈ ys, 0 ≤ z ∧ z < 256) (hn8 : n ≤ 8) (hk : k ≤ n) (hnL : n ≤ ys.length) :
    Calls Tryd.prog 3 #[.slice a ys.length cap, .int .i64 n, .int .i64 k] w fun e w' => e = .returned (.bool true) ∧ Below w.heap.size w w' := by
  have HR : Hid (Reads w a ys) := hr
  have HN : Hid (a = none → ys.length = 0 ∧ cap = 0) := hn
  have HX : Hid (∀ x, a = some x → 0 < ys.length → x.block < w.heap.size) := hx
  have H8 : Hid (∀ z ∈ ys, 0 ≤ z ∧ z < 256) := by8
  clear hr hn hx by8
  go_enter Tryd.func3, Tryd.ntmps3
  go_wp2_with fail
  refine (bound_yes _ _ _ _ _ _ (by omega)).mono ?_
  rintro e w' ⟨rfl, rfl⟩
  go_wp2_with fail
  refine (clone_any a cap ys _ (by omega) HR.out HN.out HX.out).mono ?_
  rintro e w1 ⟨a', B, rfl, hT, cl, hB, hBw, hb1⟩
  obtain ⟨a2, hT2, hsl⟩ := slice_from hT hnL (by omega)
  have hD1 := Dec.new (w := w1) hT (by omega) hB cl rfl H8.out
  have HF : Hid (Tail B ys.length 0 a' ∧ Tail B ys.length n a2) := ⟨hT, hT2⟩
  clear hT hT2
  have HCL : Hid (∀ i, i < ys.length → w1.cell? ⟨B, i, none⟩ = some (.int .u8 (ys.getD i 0))) := cl
  clear cl
  go_wp2_with fail
  refine (newDecoder_any _ _ _ _).mono ?_
  rintro e w2 ⟨rfl, hw2⟩
  rw [← hw2] at hD1
  have hb2 : Below w1.heap.size w1 w2 := by rw [hw2]; exact (Below.refl _ _).alloc (Nat.le_refl _) _
  have hs2 : w1.heap.size < w2.heap.size := by rw [hw2]; simp
  clear hw2
  have hs1 := hb1.size
  generalize w1.heap.size = D1 at *
  go_wp2_with fail
  refine (duint_ok D1 B _ 0 n ys _ hD1 (by omega) hn8).mono ?_
  rintro e w3 ⟨rfl, hD3, ho3⟩
  clear hD1
  simp only [Nat.zero_add] at hD3
  obtain ⟨a3, hc3, hT3⟩ := hD3.st
  have he3 := hD3.err
  go_wp2_with fail
  refine (rest_any D1 _ _ hc3).mono ?_
  rintro e w' ⟨rfl, rfl⟩
  go_wp2_with fail
  refine (err_any D1 _ _ he3).mono ?_
  rintro e w' ⟨rfl, rfl⟩
  have cl3 : ∀ i, i < ys.length → w3.cell? ⟨B, i, none⟩ = some (.int .u8 (ys.getD i 0)) := hD3.cl
  have hs3 : D1 < w3.heap.size := by rw [ho3.size]; exact hs2
  have hD4 := Dec.new (w := w3) HF.out.1 (by omega) (fun h => by have := hB h; omega) cl3 rfl H8.out
  clear cl3
  have hb13 : Below w.heap.size w w3 := hb1.trans ((hb2.mono hs1).trans (ho3.below hs1))
  go_wp2_with fail
  refine (newDecoder_any _ _ _ _).mono ?_
  rintro e w4 ⟨rfl, hw4⟩
  rw [← hw4] at hD4
  have hb4 : Below w3.heap.size w3 w4 := by rw [hw4]; exact (Below.refl _ _).alloc (Nat.le_refl _) _
  clear hw4 hc3 he3
  have hD3' := hD3.below hb4 hs3 (fun h => by have := hB h; omega)
  have hb14 := hb13.trans (hb4.mono (by have := hb13.size; omega))
  have hs13 := hb13.size
  clear hD3 hb4 hb13 hb1 hb2 ho3
  generalize w3.heap.size = D2 at *
  go_wp2_with fail
  refine (duint_ok D2 B _ 0 k ys _ hD4 (by omega) (by omega)).mono ?_
  rintro e w5 ⟨rfl, hD5, ho5⟩
  simp only [Nat.zero_add] at hD5
  clear hD4
  go_wp2_with fail
  rw [show ((n : Int) - (k : Int)) = ((n - k : Nat) : Int) from by omega]
  refine (duint_ok D2 B _ k (n - k) ys _ hD5 (by omega) (by omega)).mono ?_
  rintro e w6 ⟨rfl, hD6, ho6⟩
  rw [show k + (n - k) = n from by omega] at hD6
  obtain ⟨a6, hc6, hT6⟩ := hD6.st
  have he6 := hD6.err
  have hb16 : Below w.heap.size w w6 := hb14.trans ((ho5.below (by omega)).trans (ho6.below (by omega)))
  have hD3'' := (hD3'.other ho5 (by omega) (fun h => by have := hB h; omega)).other ho6 (by omega) (fun h => by have := hB h; omega)
  have cl6 : ∀ i, i < ys.length → w6.cell? ⟨B, i, none⟩ = some (.int .u8 (ys.getD i 0)) := hD6.cl
  have R1 : Hid (Reads w6 a3 (ys.drop n)) := hT3.reads rfl cl6
  have R2 : Hid (Reads w6 a6 (ys.drop n)) := hT6.reads rfl cl6
  have R3 : Hid (Reads w6 a2 (ys.drop n)) := HF.out.2.reads rfl cl6
  have HB16 : Hid (Below w.heap.size w w6) := hb16
  clear hD5 hD3' ho5 ho6 hb14 hT3 hT6 hb16 hD3''
  go_wp2_with fail
  refine (rest_any D2 _ _ hc6).mono ?_
  rintro e w' ⟨rfl, rfl⟩
  go_wp2_with fail
  refine (err_any D2 _ _ he6).mono ?_
  rintro e w' ⟨rfl, rfl⟩
  clear hc6 he6
  go_wp2_with fail
  refine (same_at a3 a2 _ _ _ (ys.drop n) _ (by simp) (by omega) R1.out R3.out).mono ?_
  rintro e w7 ⟨rfl, m7, rfl⟩
  go_wp2_with fail
  refine (same_at a6 a2 _ _ _ (ys.drop n) _ (by simp) (by omega) (R2.out.drewN _) (R3.out.drewN _)).mono ?_
  rintro e w8 ⟨rfl, m8, rfl⟩
  clear R1 R2 R3
  have T1 := @two_steps ys 0 n k hk hn8 (by omega) H8.out
  have T3 := @leV_high ys 0 n (by omega) H8.out
  simp only [Nat.zero_add] at T1
  by_cases hn0 : 0 < n
  · have T2 := @leV_low ys 0 n hn0 (by omega) H8.out
    obtain rfl : a' = some ⟨B, 0, none⟩ := by
      rcases HF.out.1 with ⟨_, h⟩ | ⟨b, off, h1, h2⟩
      · omega
      · obtain ⟨rfl, rfl⟩ := h2 (by omega)
        exact h1
    have c0 := cl6 0 (by omega)
    have hL0 : (0 : Int) < (ys.length : Int) := by omega
    go_wp2
    all_goals
      go_ret
      exact ⟨rfl, below_drewN HB16.out _⟩
  · go_wp2
    all_goals
      go_ret
      exact ⟨rfl, below_drewN HB16.out _⟩
set_option maxRecDepth 100000 in
set_option maxHeartbeats 1000000 in
theorem main_mid (a : Option Addr) (cap n k : Nat) (ys : List Int) (w : World) (hc : ys.length ≤ 65536) (hr : Reads w a ys) (hn : a = none → ys.length = 0 ∧ cap = 0) (hx : ∀ x, a = some x → 0 < ys.length → x.block < w.heap.size)
    (by8 : ∀ z ∈ ys, 0 ≤ z ∧ z < 256) (hn8 : n ≤ 8) (hk : k ≤ n) (hkL : k ≤ ys.length) (hnL : ys.length < n) (t : TypeId) (x : Addr) (hg : w.cell? ⟨1, 0, none⟩ = some (.iface t (.pointer (some x)))) :
    Calls Tryd.prog 3 #[.slice a ys.length cap, .int .i64 n, .int .i64 k] w fun e w' => e = .returned (.bool true) ∧ Below w.heap.size w w' := by
  have HR : Hid (Reads w a ys) := hr
  have HN : Hid (a = none → ys.length = 0 ∧ cap = 0) := hn
  have HX : Hid (∀ x, a = some x → 0 < ys.length → x.block < w.heap.size) := hx
  have H8 : Hid (∀ z ∈ ys, 0 ≤ z ∧ z < 256) := by8
  clear hr hn hx by8
  go_enter Tryd.func3, Tryd.ntmps3
  go_wp2_with fail
  refine (bound_yes _ _ _ _ _ _ (by omega)).mono ?_
  rintro e w' ⟨rfl, rfl⟩
  go_wp2_with fail
  refine (clone_any a cap ys _ (by omega) HR.out HN.out HX.out).mono ?_
  rintro e w1 ⟨a', B, rfl, hT, cl, hB, hBw, hb1⟩
  obtain ⟨a2, hT2, hsl⟩ := slice_from hT hkL (by omega)
  have hD1 := Dec.new (w := w1) hT (by omega) hB cl rfl H8.out
  have HF : Hid (Tail B ys.length 0 a' ∧ Tail B ys.length k a2) := ⟨hT, hT2⟩
  clear hT hT2
  have HCL : Hid (∀ i, i < ys.length → w1.cell? ⟨B, i, none⟩ = some (.int .u8 (ys.getD i 0))) := cl
  clear cl
  go_wp2_with fail
  refine (newDecoder_any _ _ _ _).mono ?_
  rintro e w2 ⟨rfl, hw2⟩
  rw [← hw2] at hD1
  have hb2 : Below w1.heap.size w1 w2 := by rw [hw2]; exact (Below.refl _ _).alloc (Nat.le_refl _) _
  have hs2 : w1.heap.size < w2.heap.size := by rw [hw2]; simp
  clear hw2
  have hs1 := hb1.size
  generalize w1.heap.size = D1 at *
  have hg1 : 1 < w.heap.size := World.block_lt_of_cell? _ _ hg
  have hg2 : w2.cell? ⟨1, 0, none⟩ = some (.iface t (.pointer (some x))) := ((hb1.trans (hb2.mono hs1)).cell (p := ⟨1, 0, none⟩) hg1).trans hg
  go_wp2_with fail
  refine (duint_short D1 B _ 0 n ys t x _ hD1 (by omega) hg2).mono ?_
  rintro e w3 ⟨rfl, hD3, ho3⟩
  clear hD1
  obtain ⟨a3, hc3, hT3⟩ := hD3.st
  have he3 := hD3.err
  go_wp2_with fail
  refine (rest_any D1 _ _ hc3).mono ?_
  rintro e w' ⟨rfl, rfl⟩
  go_wp2_with fail
  refine (err_any D1 _ _ he3).mono ?_
  rintro e w' ⟨rfl, rfl⟩
  have cl3 : ∀ i, i < ys.length → w3.cell? ⟨B, i, none⟩ = some (.int .u8 (ys.getD i 0)) := hD3.cl
  have hs3 : D1 < w3.heap.size := by rw [ho3.size]; exact hs2
  have hD4 := Dec.new (w := w3) HF.out.1 (by omega) (fun h => by have := hB h; omega) cl3 rfl H8.out
  clear cl3
  have hb13 : Below w.heap.size w w3 := hb1.trans ((hb2.mono hs1).trans (ho3.below hs1))
  go_wp2_with fail
  refine (newDecoder_any _ _ _ _).mono ?_
  rintro e w4 ⟨rfl, hw4⟩
  rw [← hw4] at hD4
  have hb4 : Below w3.heap.size w3 w4 := by rw [hw4]; exact (Below.refl _ _).alloc (Nat.le_refl _) _
  clear hw4 hc3 he3 hg2
  have hD3' := hD3.below hb4 hs3 (fun h => by have := hB h; omega)
  have hb14 := hb13.trans (hb4.mono (by have := hb13.size; omega))
  have hs13 := hb13.size
  have hg4 : w4.cell? ⟨1, 0, none⟩ = some (.iface t (.pointer (some x))) := (hb14.cell (p := ⟨1, 0, none⟩) hg1).trans hg
  clear hD3 hb4 hb13 hb1 hb2 ho3
  generalize w3.heap.size = D2 at *
  go_wp2_with fail
  refine (duint_ok D2 B _ 0 k ys _ hD4 (by omega) (by omega)).mono ?_
  rintro e w5 ⟨rfl, hD5, ho5⟩
  simp only [Nat.zero_add] at hD5
  clear hD4
  have hg5 : w5.cell? ⟨1, 0, none⟩ = some (.iface t (.pointer (some x))) := (ho5.cell (q := ⟨1, 0, none⟩) (by show 1 ≠ D2; omega)).trans hg4
  go_wp2_with fail
  rw [show ((n : Int) - (k : Int)) = ((n - k : Nat) : Int) from by omega]
  refine (duint_short D2 B _ k (n - k) ys t x _ hD5 (by omega) hg5).mono ?_
  rintro e w6 ⟨rfl, hD6, ho6⟩
  clear hg4 hg5
  obtain ⟨a6, hc6, hT6⟩ := hD6.st
  have he6 := hD6.err
  have hb16 : Below w.heap.size w w6 := hb14.trans ((ho5.below (by omega)).trans (ho6.below (by omega)))
  have cl6 : ∀ i, i < ys.length → w6.cell? ⟨B, i, none⟩ = some (.int .u8 (ys.getD i 0)) := hD6.cl
  have R1 : Hid (Reads w6 a3 ys) := by show Reads _ _ _; simpa using hT3.reads rfl cl6
  have R0 : Hid (Reads w6 a' ys) := by show Reads _ _ _; simpa using HF.out.1.reads rfl cl6
  have R2 : Hid (Reads w6 a6 (ys.drop k)) := hT6.reads rfl cl6
  have R3 : Hid (Reads w6 a2 (ys.drop k)) := HF.out.2.reads rfl cl6
  have HB16 : Hid (Below w.heap.size w w6) := hb16
  have HG : Hid (w.cell? ⟨1, 0, none⟩ = some (.iface t (.pointer (some x)))) := hg
  clear hD5 hD3' ho5 ho6 hb14 hT3 hT6 hb16 hg
  go_wp2_with fail
  refine (rest_any D2 _ _ hc6).mono ?_
  rintro e w' ⟨rfl, rfl⟩
  go_wp2_with fail
  refine (err_any D2 _ _ he6).mono ?_
  rintro e w' ⟨rfl, rfl⟩
  clear hc6 he6
  go_wp2_with fail
  refine (same_at a3 a' _ _ _ ys _ (by simp) (by omega) R1.out R0.out).mono ?_
  rintro e w7 ⟨rfl, m7, rfl⟩
  by_cases hk0 : 0 < k
  · have T2 := @leV_low ys 0 k hk0 (by omega) H8.out
    obtain rfl : a' = some ⟨B, 0, none⟩ := by
      rcases HF.out.1 with ⟨_, h⟩ | ⟨b, off, h1, h2⟩
      · omega
      · obtain ⟨rfl, rfl⟩ := h2 (by omega)
        exact h1
    have c0 := cl6 0 (by omega)
    have hL0 : (0 : Int) < (ys.length : Int) := by omega
    go_wp2_with fail
    refine (same_at a6 a2 _ _ _ (ys.drop k) _ (by simp) (by omega) (R2.out.drewN _) (R3.out.drewN _)).mono ?_
    rintro e w8 ⟨rfl, m8, rfl⟩
    go_wp2
    go_ret
    exact ⟨rfl, below_drewN HB16.out _⟩
  · go_wp2_with fail
    refine (same_at a6 a2 _ _ _ (ys.drop k) _ (by simp) (by omega) (R2.out.drewN _) (R3.out.drewN _)).mono ?_
    rintro e w8 ⟨rfl, m8, rfl⟩
    go_wp2
    go_ret
    exact ⟨rfl, below_drewN HB16.out _⟩

set_option maxRecDepth 100000 in
set_option maxHeartbeats 1000000 in
theorem main_short (a : Option Addr) (cap n k : Nat) (ys : List Int) (w : World) (hc : ys.length ≤ 65536) (hr : Reads w a ys) (hn : a = none → ys.length = 0 ∧ cap = 0) (hx : ∀ x, a = some x → 0 < ys.length → x.block < w.heap.size)
    (by8 : ∀ z ∈ ys, 0 ≤ z ∧ z < 256) (hn8 : n ≤ 8) (hk : k ≤ n) (hkL : ys.length < k) (t : TypeId) (x : Addr) (hg : w.cell? ⟨1, 0, none⟩ = some (.iface t (.pointer (some x)))) :
    Calls Tryd.prog 3 #[.slice a ys.length cap, .int .i64 n, .int .i64 k] w fun e w' => e = .returned (.bool true) ∧ Below w.heap.size w w' := by
  have HR : Hid (Reads w a ys) := hr
  have HN : Hid (a = none → ys.length = 0 ∧ cap = 0) := hn
  have HX : Hid (∀ x, a = some x → 0 < ys.length → x.block < w.heap.size) := hx
  have H8 : Hid (∀ z ∈ ys, 0 ≤ z ∧ z < 256) := by8
  clear hr hn hx by8
  go_enter Tryd.func3, Tryd.ntmps3
  go_wp2_with fail
  refine (bound_yes _ _ _ _ _ _ (by omega)).mono ?_
  rintro e w' ⟨rfl, rfl⟩
  go_wp2_with fail
  refine (clone_any a cap ys _ (by omega) HR.out HN.out HX.out).mono ?_
  rintro e w1 ⟨a', B, rfl, hT, cl, hB, hBw, hb1⟩
  have hD1 := Dec.new (w := w1) hT (by omega) hB cl rfl H8.out
  have HF : Hid (Tail B ys.length 0 a' ∧ True) := ⟨hT, trivial⟩
  clear hT
  have HCL : Hid (∀ i, i < ys.length → w1.cell? ⟨B, i, none⟩ = some (.int .u8 (ys.getD i 0))) := cl
  clear cl
  go_wp2_with fail
  refine (newDecoder_any _ _ _ _).mono ?_
  rintro e w2 ⟨rfl, hw2⟩
  rw [← hw2] at hD1
  have hb2 : Below w1.heap.size w1 w2 := by rw [hw2]; exact (Below.refl _ _).alloc (Nat.le_refl _) _
  have hs2 : w1.heap.size < w2.heap.size := by rw [hw2]; simp
  clear hw2
  have hs1 := hb1.size
  generalize w1.heap.size = D1 at *
  have hg1 : 1 < w.heap.size := World.block_lt_of_cell? _ _ hg
  have hg2 : w2.cell? ⟨1, 0, none⟩ = some (.iface t (.pointer (some x))) := ((hb1.trans (hb2.mono hs1)).cell (p := ⟨1, 0, none⟩) hg1).trans hg
  go_wp2_with fail
  refine (duint_short D1 B _ 0 n ys t x _ hD1 (by omega) hg2).mono ?_
  rintro e w3 ⟨rfl, hD3, ho3⟩
  clear hD1
  obtain ⟨a3, hc3, hT3⟩ := hD3.st
  have he3 := hD3.err
  go_wp2_with fail
  refine (rest_any D1 _ _ hc3).mono ?_
  rintro e w' ⟨rfl, rfl⟩
  go_wp2_with fail
  refine (err_any D1 _ _ he3).mono ?_
  rintro e w' ⟨rfl, rfl⟩
  have cl3 : ∀ i, i < ys.length → w3.cell? ⟨B, i, none⟩ = some (.int .u8 (ys.getD i 0)) := hD3.cl
  have hs3 : D1 < w3.heap.size := by rw [ho3.size]; exact hs2
  have hD4 := Dec.new (w := w3) HF.out.1 (by omega) (fun h => by have := hB h; omega) cl3 rfl H8.out
  clear cl3
  have hb13 : Below w.heap.size w w3 := hb1.trans ((hb2.mono hs1).trans (ho3.below hs1))
  go_wp2_with fail
  refine (newDecoder_any _ _ _ _).mono ?_
  rintro e w4 ⟨rfl, hw4⟩
  rw [← hw4] at hD4
  have hb4 : Below w3.heap.size w3 w4 := by rw [hw4]; exact (Below.refl _ _).alloc (Nat.le_refl _) _
  clear hw4 hc3 he3 hg2
  have hD3' := hD3.below hb4 hs3 (fun h => by have := hB h; omega)
  have hb14 := hb13.trans (hb4.mono (by have := hb13.size; omega))
  have hs13 := hb13.size
  have hg4 : w4.cell? ⟨1, 0, none⟩ = some (.iface t (.pointer (some x))) := (hb14.cell (p := ⟨1, 0, none⟩) hg1).trans hg
  clear hD3 hb4 hb13 hb1 hb2 ho3
  generalize w3.heap.size = D2 at *
  go_wp2_with fail
  refine (duint_short D2 B _ 0 k ys t x _ hD4 (by omega) hg4).mono ?_
  rintro e w5 ⟨rfl, hD5, ho5⟩
  clear hD4 hg4
  go_wp2_with fail
  rw [show ((n : Int) - (k : Int)) = ((n - k : Nat) : Int) from by omega]
  refine (duint_failed D2 B _ 0 (n - k) ys t _ _ hD5).mono ?_
  rintro e w' ⟨rfl, rfl⟩
  obtain ⟨a6, hc6, hT6⟩ := hD5.st
  have he6 := hD5.err
  have hb16 : Below w.heap.size w w5 := hb14.trans (ho5.below (by omega))
  have cl6 : ∀ i, i < ys.length → w5.cell? ⟨B, i, none⟩ = some (.int .u8 (ys.getD i 0)) := hD5.cl
  have R1 : Hid (Reads w5 a3 ys) := by show Reads _ _ _; simpa using hT3.reads rfl cl6
  have R0 : Hid (Reads w5 a' ys) := by show Reads _ _ _; simpa using HF.out.1.reads rfl cl6
  have R2 : Hid (Reads w5 a6 ys) := by show Reads _ _ _; simpa using hT6.reads rfl cl6
  have HB16 : Hid (Below w.heap.size w w5) := hb16
  have HG : Hid (w.cell? ⟨1, 0, none⟩ = some (.iface t (.pointer (some x)))) := hg
  clear hD5 hD3' ho5 hb14 hT3 hT6 hb16 hg
  go_wp2_with fail
  refine (rest_any D2 _ _ hc6).mono ?_
  rintro e w' ⟨rfl, rfl⟩
  go_wp2_with fail
  refine (err_any D2 _ _ he6).mono ?_
  rintro e w' ⟨rfl, rfl⟩
  clear hc6 he6
  go_wp2_with fail
  refine (same_at a3 a' _ _ _ ys _ (by simp) (by omega) R1.out R0.out).mono ?_
  rintro e w7 ⟨rfl, m7, rfl⟩
  go_wp2_with fail
  refine (same_at a6 a' _ _ _ ys _ (by simp) (by omega) (R2.out.drewN _) (R0.out.drewN _)).mono ?_
  rintro e w8 ⟨rfl, m8, rfl⟩
  go_wp2
  go_ret
  exact ⟨rfl, below_drewN HB16.out _⟩

theorem below_of_eq {w w' : World} (h : w = w') : Below w.heap.size w w' := by subst h; exact Below.refl _ _

set_option maxRecDepth 100000 in
theorem early (a : Option Addr) (L cap : Nat) (n k : Int) (w : World) (h : ¬ L ≤ 65536 ∨ n < 0 ∨ 8 < n ∨ k < 0 ∨ n < k) :
    Calls Tryd.prog 3 #[.slice a L cap, .int .i64 n, .int .i64 k] w fun e w' => e = .returned (.bool true) ∧ w = w' := by
  by_cases h1 : L ≤ 1048576
  · by_cases h2 : L ≤ 65536
    · by_cases h3 : n < 0
      · go_enter Tryd.func3, Tryd.ntmps3
        go_wp2_with (go_at_call 6; refine (bound_yes _ _ _ _ _ _ h1).mono ?_; rintro e w' ⟨rfl, rfl⟩)
        go_ret
        exact ⟨rfl, rfl⟩
      · by_cases h4 : 8 < n
        · go_enter Tryd.func3, Tryd.ntmps3
          go_wp2_with (go_at_call 6; refine (bound_yes _ _ _ _ _ _ h1).mono ?_; rintro e w' ⟨rfl, rfl⟩)
          go_ret
          exact ⟨rfl, rfl⟩
        · by_cases h5 : k < 0
          · clear h
            go_enter Tryd.func3, Tryd.ntmps3
            go_wp2_with (go_at_call 6; refine (bound_yes _ _ _ _ _ _ h1).mono ?_; rintro e w' ⟨rfl, rfl⟩)
            go_ret
            exact ⟨rfl, rfl⟩
          · have h6 : n < k := by omega
            clear h
            go_enter Tryd.func3, Tryd.ntmps3
            go_wp2_with (go_at_call 6; refine (bound_yes _ _ _ _ _ _ h1).mono ?_; rintro e w' ⟨rfl, rfl⟩)
            go_ret
            exact ⟨rfl, rfl⟩
    · clear h
      go_enter Tryd.func3, Tryd.ntmps3
      go_wp2_with (go_at_call 6; refine (bound_yes _ _ _ _ _ _ h1).mono ?_; rintro e w' ⟨rfl, rfl⟩)
      go_ret
      exact ⟨rfl, rfl⟩
  · clear h
    go_enter Tryd.func3, Tryd.ntmps3
    go_wp2_with (go_at_call 6; refine (bound_no _ _ _ _ _ _ h1).mono ?_; rintro e w' ⟨rfl, rfl⟩)
    go_ret
    exact ⟨rfl, rfl⟩

/-- THE WALK OF THE FIRST LAW. -/
theorem law1_walk (a : Option Addr) (L cap : Nat) (ys : List Int) (hl : ys.length = L) (n k : Int) (w : World) (hr : Reads w a ys) (hn : a = none → L = 0 ∧ cap = 0) (by8 : ∀ z ∈ ys, 0 ≤ z ∧ z < 256)
    (t : TypeId) (x : Addr) (hg : w.cell? ⟨1, 0, none⟩ = some (.iface t (.pointer (some x)))) :
    Calls Tryd.prog 3 #[.slice a L cap, .int .i64 n, .int .i64 k] w fun e w' => e = .returned (.bool true) ∧ Below w.heap.size w w' := by
  by_cases h : ¬ L ≤ 65536 ∨ n < 0 ∨ 8 < n ∨ k < 0 ∨ n < k
  · refine (early a L cap n k w h).mono ?_
    rintro e w' ⟨rfl, h⟩
    exact ⟨rfl, below_of_eq h⟩
  · obtain ⟨m, rfl⟩ := Int.eq_ofNat_of_zero_le (show 0 ≤ n by omega)
    obtain ⟨j, rfl⟩ := Int.eq_ofNat_of_zero_le (show 0 ≤ k by omega)
    subst hl
    have hx : ∀ x, a = some x → 0 < ys.length → x.block < w.heap.size := by
      intro x hx h0
      obtain ⟨b, off, h1, h2⟩ := hr 0 h0
      rw [hx] at h1
      obtain rfl := Option.some.inj h1
      exact World.block_lt_of_cell? _ _ h2
    by_cases h1 : m ≤ ys.length
    · exact main_fits a cap m j ys w (by omega) hr hn hx by8 (by omega) (by omega) h1
    · by_cases h2 : j ≤ ys.length
      · exact main_mid a cap m j ys w (by omega) hr hn hx by8 (by omega) (by omega) h2 (by omega) t x hg
      · exact main_short a cap m j ys w (by omega) hr hn hx by8 (by omega) (by omega) (by omega) t x hg
end Go.Proofs.Qxb6615018aDoor
