/-
  DERIVED. THE WALK OF 'FnDecoderUintScriptGivesBackTheBytes'.
-/
import Derived.Test.Qxb6615018aDoorSt
namespace Go.Proofs.Qxb6615018aDoor
open Go.RowKit

/-- A slice of ints reads as ms in w. -/
def Reads64 (w : World) (a : Option Addr) (ms : List Int) : Prop := ∀ i, i < ms.length → ∃ b off, a = some ⟨b, off, none⟩ ∧ w.cell? ⟨b, off + i, none⟩ = some (.int .i64 (ms.getD i 0))

theorem slice_past {B L n : Nat} {a : Option Addr} (hT : Tail B L 0 a) (hn : n ≤ L) (hL : L ≤ 1000000000) :
    ∃ a2, Tail B L n a2 ∧ ∀ w, (Instr.slice 22 (.slice a L L) (some (.int .i64 n)) none none).run Tryd.prog w = .ok (.slice a2 (L - n) (L - n)) w := by
  rcases hT with ⟨rfl, rfl⟩ | ⟨b, off, rfl, h⟩
  · refine ⟨none, .inl ⟨rfl, by omega⟩, fun w => ?_⟩
    obtain rfl : n = 0 := by omega
    simp [go_sem, Tryd.underlying22]
  · refine ⟨if L = n then some ⟨b, off, none⟩ else some ⟨b, off + n, none⟩, ?_, fun w => ?_⟩
    · by_cases e : L = n
      · exact .inr ⟨b, off, by simp [e], by omega⟩
      · exact .inr ⟨b, off + n, by simp [e], fun hh => by obtain ⟨rfl, rfl⟩ := h (by omega); simp⟩
    · simp [go_sem, Tryd.underlying22]
      omega

theorem bound2_yes (a a1 : Option Addr) (L cap N cap1 : Nat) (w : World) (h : L + N ≤ 1048576) : Calls Tryd.prog 13 #[.slice a L cap, .slice a1 N cap1] w fun e w' => e = .returned (.bool true) ∧ w = w' := by
  go_enter Tryd.func13, Tryd.ntmps13
  go_wp2
  go_ret
  exact ⟨rfl, rfl⟩

theorem bound2_no (a a1 : Option Addr) (L cap N cap1 : Nat) (w : World) (h : ¬ L + N ≤ 1048576) : Calls Tryd.prog 13 #[.slice a L cap, .slice a1 N cap1] w fun e w' => e = .returned (.bool false) ∧ w = w' := by
  by_cases h1 : L ≤ 1048576
  · by_cases h2 : N ≤ 1048576
    · go_enter Tryd.func13, Tryd.ntmps13
      go_wp2
      go_ret
      exact ⟨rfl, rfl⟩
    · go_enter Tryd.func13, Tryd.ntmps13
      go_wp2
      go_ret
      exact ⟨rfl, rfl⟩
  · go_enter Tryd.func13, Tryd.ntmps13
    go_wp2
    go_ret
    exact ⟨rfl, rfl⟩

theorem early2 (a a1 : Option Addr) (L cap N cap1 : Nat) (w : World) (h : ¬ L ≤ 65536 ∨ ¬ N ≤ 65536) :
    Calls Tryd.prog 4 #[.slice a L cap, .slice a1 N cap1] w fun e w' => e = .returned (.bool true) ∧ w = w' := by
  by_cases h1 : L + N ≤ 1048576
  · by_cases h2 : L ≤ 65536
    · have h3 : ¬ N ≤ 65536 := by omega
      clear h
      go_enter Tryd.func4, Tryd.ntmps4
      go_wp2_with (go_at_call 13; refine (bound2_yes _ _ _ _ _ _ _ h1).mono ?_; rintro e w' ⟨rfl, rfl⟩)
      go_ret
      exact ⟨rfl, rfl⟩
    · clear h
      go_enter Tryd.func4, Tryd.ntmps4
      go_wp2_with (go_at_call 13; refine (bound2_yes _ _ _ _ _ _ _ h1).mono ?_; rintro e w' ⟨rfl, rfl⟩)
      go_ret
      exact ⟨rfl, rfl⟩
  · clear h
    go_enter Tryd.func4, Tryd.ntmps4
    go_wp2_with (go_at_call 13; refine (bound2_no _ _ _ _ _ _ _ h1).mono ?_; rintro e w' ⟨rfl, rfl⟩)
    go_ret
    exact ⟨rfl, rfl⟩

theorem rest_q (D : Nat) (v : Value) (w : World) (m : Nat) (h : w.cell? ⟨D, 0, none⟩ = some v) : Calls Tryd.prog 10 #[.pointer (some ⟨D, 0, none⟩)] (w.drewN m) fun e w' => e = .returned v ∧ w' = w.drewN m :=
  (rest_any D v (w.drewN m) (by simpa using h)).mono fun _ _ ⟨h1, h2⟩ => ⟨h1, h2.symm⟩
theorem same_q (a a2 : Option Addr) (c c2 L : Nat) (ys : List Int) (w : World) (m : Nat) (hl : ys.length = L) (hc : L ≤ 1000000000) (h1 : Reads w a ys) (h2 : Reads w a2 ys) :
    Calls Tryd.prog 12 #[.slice a L c, .slice a2 L c2] (w.drewN m) fun e w' => e = .returned (.bool true) ∧ ∃ k, w' = (w.drewN m).drewN k := same_at a a2 c c2 L ys _ hl hc (h1.drewN m) (h2.drewN m)

/-- What the err cell holds. -/
def erOf (t : TypeId) (x : Addr) (fl : Bool) : Value := if fl then .iface t (.pointer (some x)) else .nilIface

set_option maxRecDepth 100000 in
set_option maxHeartbeats 2000000 in
theorem main2 (a a1 : Option Addr) (cap N cap1 : Nat) (ys ms : List Int) (w : World) (hc : ys.length ≤ 65536) (hN : N ≤ 65536) (hr : Reads w a ys) (hn : a = none → ys.length = 0 ∧ cap = 0) (hx : ∀ x, a = some x → 0 < ys.length → x.block < w.heap.size)
    (by8 : ∀ z ∈ ys, 0 ≤ z ∧ z < 256) (hms : Hid (ms.length = N)) (hrm : Reads64 w a1 ms) (t : TypeId) (x : Addr) (hg : w.cell? ⟨1, 0, none⟩ = some (.iface t (.pointer (some x)))) :
    Calls Tryd.prog 4 #[.slice a ys.length cap, .slice a1 N cap1] w fun e w' => e = .returned (.bool true) ∧ Below w.heap.size w w' := by
  have HR : Hid (Reads w a ys) := hr
  have HN : Hid (a = none → ys.length = 0 ∧ cap = 0) := hn
  have HX : Hid (∀ x, a = some x → 0 < ys.length → x.block < w.heap.size) := hx
  have H8 : Hid (∀ z ∈ ys, 0 ≤ z ∧ z < 256) := by8
  have HRM : Hid (Reads64 w a1 ms) := hrm
  have HG : Hid (w.cell? ⟨1, 0, none⟩ = some (.iface t (.pointer (some x)))) := hg
  clear hr hn hx by8 hrm hg
  go_enter Tryd.func4, Tryd.ntmps4
  go_wp2_with fail
  refine (bound2_yes _ _ _ _ _ _ _ (by omega)).mono ?_
  rintro e w' ⟨rfl, rfl⟩
  go_wp2
  go_loop [5] (fun i => ∃ k : Nat, k ≤ N ∧ i = .int .i64 k ∧ Hid (∀ j, j < k → 0 ≤ ms.getD j 0 ∧ ms.getD j 0 ≤ 8)) (fun i => N - (intOf i).toNat)
  case atStart => exact ⟨0, by omega, rfl, fun j hj => by omega⟩
  case round =>
    obtain ⟨k, hk, rfl, HA⟩ := hrel
    by_cases hlt : k < N
    · obtain ⟨b, off, rfl, hcell⟩ := HRM.out k (by rw [hms.out]; omega)
      obtain ⟨v, hv⟩ : ∃ v, v = ms.getD k 0 := ⟨_, rfl⟩
      rw [← hv] at hcell
      have HV : Hid (v = ms.getD k 0) := hv
      clear hv
      by_cases h0 : v < 0
      · go_wp2
        go_ret
        exact ⟨rfl, Below.refl _ _⟩
      · by_cases h8 : 8 < v
        · go_wp2
          go_ret
          exact ⟨rfl, Below.refl _ _⟩
        · go_wp2
          go_round
          case rel =>
            refine ⟨k + 1, by omega, by go_num, fun j hj => ?_⟩
            by_cases hjk : j = k
            · subst hjk; rw [← HV.out]; omega
            · exact HA.out j (by omega)
          case measure => simp [intOf]; omega
    · obtain rfl : N = k := by omega
      go_wp2_with fail
      refine (clone_any a cap ys _ (by omega) HR.out HN.out HX.out).mono ?_
      rintro e w1 ⟨a', B, rfl, hT, cl, hB, hBw, hb1⟩
      have hD1 := Dec.new (w := w1) hT (by omega) hB cl rfl H8.out
      have HF : Hid (Tail B ys.length 0 a') := hT
      clear hT cl
      go_wp2_with fail
      refine (newDecoder_any _ _ _ _).mono ?_
      rintro e w2 ⟨rfl, hw2⟩
      rw [← hw2] at hD1
      have hb2 : Below w.heap.size w w2 := by rw [hw2]; exact hb1.alloc hb1.size _
      have hs1 := hb1.size
      have hs2 : w1.heap.size < w2.heap.size := by rw [hw2]; simp
      clear hw2 hb1
      generalize w1.heap.size = D at *
      go_wp2_with fail
      go_loopw [7, 8, 9] (fun pv fv i wr => ∃ k p : Nat, ∃ fl : Bool, k ≤ N ∧ i = .int .i64 k ∧ pv = .int .i64 p ∧ fv = .bool fl ∧ Dec wr D B ys.length p ys (erOf t x fl) ∧ Below w.heap.size w wr) (fun _ _ i _ => N - (intOf i).toNat)
      case atStart => exact ⟨0, 0, false, by omega, rfl, rfl, rfl, hD1, hb2⟩
      case round =>
        clear hD1 hb2
        obtain ⟨k, p, fl, hk, rfl, rfl, rfl, hD, hbel⟩ := hrel
        have hpL := hD.hp
        by_cases hlt : k < N
        · obtain ⟨b, off, rfl, hcell0⟩ := HRM.out k (by rw [hms.out]; omega)
          have hbl := World.block_lt_of_cell? _ _ hcell0
          have hcell : wr.cell? ⟨b, off + k, none⟩ = some (.int .i64 (ms.getD k 0)) := (hbel.cell (p := ⟨b, off + k, none⟩) hbl).trans hcell0
          have hm8 := HA.out k (by omega)
          obtain ⟨m, hm⟩ := Int.eq_ofNat_of_zero_le hm8.1
          rw [hm] at hcell hm8
          have hm8' : m ≤ 8 := by omega
          have hgr : wr.cell? ⟨1, 0, none⟩ = some (.iface t (.pointer (some x))) := (hbel.cell (p := ⟨1, 0, none⟩) (World.block_lt_of_cell? _ _ HG.out)).trans HG.out
          clear hcell0 hm hbl hm8
          cases fl
          · have hD0 : Dec wr D B ys.length p ys .nilIface := hD
            clear hD
            by_cases hfit : p + m ≤ ys.length
            · clear hgr
              go_wp2_with fail
              refine (duint_ok D B _ p m ys _ hD0 hfit hm8').mono ?_
              rintro e w3 ⟨rfl, hD3, ho3⟩
              have hb3 : Hid (Below w.heap.size w w3) := hbel.trans (ho3.below hs1)
              have HD3 : Hid (Dec w3 D B ys.length (p + m) ys .nilIface) := hD3
              have T3 := @leV_high ys p m (by omega) H8.out
              clear hD0 hD3 ho3 hbel hcell
              go_wp2_with fail
              go_loop [12] (fun i => ∃ j : Nat, j ≤ m ∧ i = .int .i64 j) (fun i => m - (intOf i).toNat)
              case atStart => exact ⟨0, by omega, rfl⟩
              case round =>
                obtain ⟨j, hj, rfl⟩ := hrel
                by_cases hjm : j < m
                · have T2 := @leV_byte ys p m j hjm (by omega) H8.out
                  obtain rfl : a' = some ⟨B, 0, none⟩ := by
                    rcases HF.out with ⟨_, h⟩ | ⟨b, off, h1, h2⟩
                    · omega
                    · obtain ⟨rfl, rfl⟩ := h2 (by omega)
                      exact h1
                  have c0 := HD3.out.cl (p + j) (by omega)
                  go_wp2
                  go_round
                  case rel => exact ⟨j + 1, by omega, by go_num⟩
                  case measure => simp [intOf]; omega
                · obtain rfl : m = j := by omega
                  by_cases h8 : m < 8
                  all_goals
                    go_wp2
                    go_roundw
                    case rel => exact ⟨k + 1, p + m, false, by omega, by go_num, by go_num, rfl, HD3.out, hb3.out⟩
                    case measure => simp [intOf]; omega
            · go_wp2_with fail
              refine (duint_short D B _ p m ys t x _ hD0 (by omega) hgr).mono ?_
              rintro e w3 ⟨rfl, hD3, ho3⟩
              have hb3 : Hid (Below w.heap.size w w3) := hbel.trans (ho3.below hs1)
              have HD3 : Hid (Dec w3 D B ys.length p ys (erOf t x true)) := hD3
              clear hD0 hD3 ho3 hbel hcell hgr
              go_wp2
              go_roundw
              case rel => exact ⟨k + 1, p, true, by omega, by go_num, rfl, rfl, HD3.out, hb3.out⟩
              case measure => simp [intOf]; omega
          · have hD0 : Dec wr D B ys.length p ys (.iface t (.pointer (some x))) := hD
            go_wp2_with fail
            refine (duint_failed D B _ p m ys t _ _ hD0).mono ?_
            rintro e w3 ⟨rfl, rfl⟩
            have HD3 : Hid (Dec wr D B ys.length p ys (erOf t x true)) := hD
            have hb3 : Hid (Below w.heap.size w wr) := hbel
            clear hD0 hD hbel hcell hgr
            go_wp2
            go_roundw
            case rel => exact ⟨k + 1, p, true, by omega, by go_num, rfl, rfl, HD3.out, hb3.out⟩
            case measure => simp [intOf]; omega
        · obtain ⟨a2, hT2, hsl⟩ := slice_past HF.out hpL (by omega)
          obtain ⟨a3, hc3, hT3⟩ := hD.st
          have R2 : Hid (Reads wr a2 (ys.drop p)) := hT2.reads rfl hD.cl
          have R3 : Hid (Reads wr a3 (ys.drop p)) := hT3.reads rfl hD.cl
          have he3 := hD.err
          have HB : Hid (Below w.heap.size w wr) := hbel
          clear hD hbel hT2 hT3
          have HLP : Hid ((ys.drop p).length = ys.length - p) := by show _ = _; simp
          cases fl
          all_goals
            simp [erOf] at he3
            go_wp2_with fail
            go_quiet ((first | (go_at_call 10; exact Calls.quiet_of_same (rest_q D _ wr _ hc3)) | (go_at_call 12; exact Calls.quiet_of (same_q a3 a2 _ _ _ (ys.drop p) wr _ HLP.out (by omega) R3.out R2.out))))
            go_wp2_with fail
            refine (err_any D _ _ (by simpa using he3)).mono ?_
            rintro e w' ⟨rfl, rfl⟩
            go_wp2
            go_ret
            exact ⟨rfl, below_drewN HB.out _⟩
theorem below_of_eq2 {w w' : World} (h : w = w') : Below w.heap.size w w' := by subst h; exact Below.refl _ _

/-- THE WALK OF THE SECOND LAW. -/
theorem law2_walk (a a1 : Option Addr) (L cap N cap1 : Nat) (ys ms : List Int) (hl : ys.length = L) (hms : ms.length = N) (w : World) (hr : Reads w a ys) (hn : a = none → L = 0 ∧ cap = 0) (by8 : ∀ z ∈ ys, 0 ≤ z ∧ z < 256)
    (hrm : Reads64 w a1 ms) (t : TypeId) (x : Addr) (hg : w.cell? ⟨1, 0, none⟩ = some (.iface t (.pointer (some x)))) :
    Calls Tryd.prog 4 #[.slice a L cap, .slice a1 N cap1] w fun e w' => e = .returned (.bool true) ∧ Below w.heap.size w w' := by
  by_cases h : ¬ L ≤ 65536 ∨ ¬ N ≤ 65536
  · refine (early2 a a1 L cap N cap1 w h).mono ?_
    rintro e w' ⟨rfl, h⟩
    exact ⟨rfl, below_of_eq2 h⟩
  · subst hl
    have hx : ∀ x, a = some x → 0 < ys.length → x.block < w.heap.size := by
      intro x hx h0
      obtain ⟨b, off, h1, h2⟩ := hr 0 h0
      rw [hx] at h1
      obtain rfl := Option.some.inj h1
      exact World.block_lt_of_cell? _ _ h2
    exact main2 a a1 cap N cap1 ys ms w (by omega) (by omega) hr hn hx by8 hms hrm t x hg
end Go.Proofs.Qxb6615018aDoor
