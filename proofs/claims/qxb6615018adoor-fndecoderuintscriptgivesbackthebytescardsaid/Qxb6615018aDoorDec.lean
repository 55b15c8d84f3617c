import Derived.Test.Qxb6615018aDoorProg
import Derived.Test.Qxb6615018aDoorPlain
import Derived.WalkKit
import Derived.WalkSpells
import Derived.WalkLawsBesides
import Derived.Deep.QuietTactic
import Derived.BigQuiet
import Derived.Deep.OwnRows
import Derived.Lib.SliceRun
namespace Go.Proofs.Qxb6615018aDoor
open Go.RowKit

/-- 'ZZnewDecoder'. -/
theorem newDecoder_any (a : Option Addr) (n c : Nat) (w : World) :
    Calls Tryd.prog 8 #[.slice a n c] w fun e w' => e = .returned (.pointer (some ⟨w.heap.size, 0, none⟩)) ∧ w' = w.alloc (.cells #[.slice a n c, .nilIface] 50) := by
  go_enter Tryd.func8, Tryd.ntmps8
  go_wp2
  go_ret
  exact ⟨rfl, rfl⟩

theorem rest_any (D : Nat) (v : Value) (w : World) (h : w.cell? ⟨D, 0, none⟩ = some v) :
    Calls Tryd.prog 10 #[.pointer (some ⟨D, 0, none⟩)] w fun e w' => e = .returned v ∧ w = w' := by
  go_enter Tryd.func10, Tryd.ntmps10
  go_wp2
  go_ret
  exact ⟨rfl, rfl⟩

theorem err_any (D : Nat) (v : Value) (w : World) (h : w.cell? ⟨D, 1, none⟩ = some v) :
    Calls Tryd.prog 11 #[.pointer (some ⟨D, 0, none⟩)] w fun e w' => e = .returned v ∧ w = w' := by
  go_enter Tryd.func11, Tryd.ntmps11
  go_wp2
  go_ret
  exact ⟨rfl, rfl⟩

theorem fail_any (D : Nat) (t : TypeId) (x : Value) (w : World) (h : w.cell? ⟨D, 1, none⟩ = some .nilIface) (hf : w.frozen? ⟨D, 1, none⟩ = false) :
    Calls Tryd.prog 29 #[.pointer (some ⟨D, 0, none⟩), .iface t x] w fun e w' => e = .returned (.tuple #[]) ∧ w' = w.setCell ⟨D, 1, none⟩ (.iface t x) := by
  go_enter Tryd.func29, Tryd.ntmps29
  go_wp2
  go_end0
  exact ⟨rfl, rfl⟩

theorem bytes_failed (D : Nat) (n : Int) (t : TypeId) (x : Value) (w : World) (h : w.cell? ⟨D, 1, none⟩ = some (.iface t x)) :
    Calls Tryd.prog 23 #[.pointer (some ⟨D, 0, none⟩), .int .i64 n] w fun e w' => e = .returned (.slice none 0 0) ∧ w = w' := by
  go_enter Tryd.func23, Tryd.ntmps23
  go_wp2
  go_ret
  exact ⟨rfl, rfl⟩

theorem bytes_short (D : Nat) (n : Int) (a : Option Addr) (len cap : Nat) (t : TypeId) (x : Addr) (w : World) (h0 : w.cell? ⟨D, 0, none⟩ = some (.slice a len cap)) (h : w.cell? ⟨D, 1, none⟩ = some .nilIface)
    (hf : w.frozen? ⟨D, 1, none⟩ = false) (hg : w.cell? ⟨1, 0, none⟩ = some (.iface t (.pointer (some x)))) (hn : (len : Int) < n) :
    Calls Tryd.prog 23 #[.pointer (some ⟨D, 0, none⟩), .int .i64 n] w fun e w' => e = .returned (.slice none 0 0) ∧ w' = w.setCell ⟨D, 1, none⟩ (.iface t (.pointer (some x))) := by
  go_enter Tryd.func23, Tryd.ntmps23
  go_wp2_with (go_at_call 29; refine (fail_any _ _ _ _ h hf).mono ?_; rintro e w' ⟨rfl, rfl⟩)
  go_ret
  exact ⟨rfl, rfl⟩

/-- What a decoder holds of the clone: block B, L bytes, p of them read. -/
def Tail (B L p : Nat) (a : Option Addr) : Prop := (a = none ∧ L = p) ∨ ∃ b off, a = some ⟨b, off, none⟩ ∧ (p < L → b = B ∧ off = p)

theorem bytes_some (D : Nat) (n : Nat) (b off len : Nat) (w : World) (h0 : w.cell? ⟨D, 0, none⟩ = some (.slice (some ⟨b, off, none⟩) len len)) (h : w.cell? ⟨D, 1, none⟩ = some .nilIface)
    (hf : w.frozen? ⟨D, 0, none⟩ = false) (hn : n ≤ len) (_hc : len ≤ 1000000000) :
    Calls Tryd.prog 23 #[.pointer (some ⟨D, 0, none⟩), .int .i64 n] w fun e w' => e = .returned (.slice (some ⟨b, off, none⟩) n n) ∧ ∃ off', w' = w.setCell ⟨D, 0, none⟩ (.slice (some ⟨b, off', none⟩) (len - n) (len - n)) ∧ (n < len → off' = off + n) := by
  go_enter Tryd.func23, Tryd.ntmps23
  go_wp2
  · go_ret
    exact ⟨rfl, off, rfl⟩
  · go_ret
    exact ⟨rfl, off + n, rfl, fun _ => rfl⟩

theorem bytes_nil (D : Nat) (w : World) (h0 : w.cell? ⟨D, 0, none⟩ = some (.slice none 0 0)) (h : w.cell? ⟨D, 1, none⟩ = some .nilIface)
    (hf : w.frozen? ⟨D, 0, none⟩ = false) :
    Calls Tryd.prog 23 #[.pointer (some ⟨D, 0, none⟩), .int .i64 0] w fun e w' => e = .returned (.slice none 0 0) ∧ w' = w.setCell ⟨D, 0, none⟩ (.slice none 0 0) := by
  go_enter Tryd.func23, Tryd.ntmps23
  go_wp2
  go_ret
  exact ⟨rfl, rfl⟩

/-- 'd.bytes(n)' where no failure is kept and n bytes are left. -/
theorem bytes_ok (B L p D n : Nat) (a : Option Addr) (w : World) (hT : Tail B L p a) (h0 : w.cell? ⟨D, 0, none⟩ = some (.slice a (L - p) (L - p))) (h : w.cell? ⟨D, 1, none⟩ = some .nilIface)
    (hf : w.frozen? ⟨D, 0, none⟩ = false) (hn : p + n ≤ L) (hc : L ≤ 1000000000) :
    Calls Tryd.prog 23 #[.pointer (some ⟨D, 0, none⟩), .int .i64 n] w fun e w' => ∃ r a', e = .returned (.slice r n n) ∧ (0 < n → r = some ⟨B, p, none⟩) ∧ w' = w.setCell ⟨D, 0, none⟩ (.slice a' (L - (p + n)) (L - (p + n))) ∧ Tail B L (p + n) a' := by
  rcases hT with ⟨rfl, rfl⟩ | ⟨b, off, rfl, hbo⟩
  · obtain rfl : n = 0 := by omega
    rw [Nat.sub_self] at h0
    refine (bytes_nil D w h0 h hf).mono ?_
    rintro e w' ⟨rfl, rfl⟩
    exact ⟨none, none, rfl, by omega, by simp, .inl ⟨rfl, rfl⟩⟩
  · refine (bytes_some D n b off (L - p) w h0 h hf (by omega) (by omega)).mono ?_
    rintro e w' ⟨rfl, off', rfl, ho⟩
    refine ⟨_, some ⟨b, off', none⟩, rfl, ?_, by rw [Nat.sub_sub], .inr ⟨b, off', rfl, ?_⟩⟩
    · intro hp
      obtain ⟨rfl, rfl⟩ := hbo (by omega)
      rfl
    · intro hp
      obtain ⟨rfl, rfl⟩ := hbo (by omega)
      exact ⟨rfl, ho (by omega)⟩

theorem uint_ok (B L p D n : Nat) (zs : List Int) (a : Option Addr) (w : World) (hT : Tail B L p a) (h0 : w.cell? ⟨D, 0, none⟩ = some (.slice a (L - p) (L - p))) (h : w.cell? ⟨D, 1, none⟩ = some .nilIface)
    (hf : w.frozen? ⟨D, 0, none⟩ = false) (hn : p + n ≤ L) (hc : L ≤ 1000000000) (hn8 : n ≤ 8) (hBD : 0 < L → B ≠ D) (hz : ∀ i, i < L → w.cell? ⟨B, i, none⟩ = some (.int .u8 (zs.getD i 0)))
    (hzl : Hid (zs.length = L)) (hb : ∀ z ∈ zs, 0 ≤ z ∧ z < 256) :
    Calls Tryd.prog 18 #[.pointer (some ⟨D, 0, none⟩), .int .i64 n] w fun e w' => e = .returned (.int .u64 (leV (cut zs p n))) ∧ ∃ a', w' = w.setCell ⟨D, 0, none⟩ (.slice a' (L - (p + n)) (L - (p + n))) ∧ Tail B L (p + n) a' := by
  have HB : Hid (∀ z ∈ zs, 0 ≤ z ∧ z < 256) := hb
  clear hb
  go_enter Tryd.func18, Tryd.ntmps18
  go_wp2_with fail
  refine (bytes_ok B L p D n a w hT h0 h hf hn hc).mono ?_
  rintro e w' ⟨r, a', rfl, hr, hw', hT'⟩
  have HW : Hid (w' = w.setCell ⟨D, 0, none⟩ (.slice a' (L - (p + n)) (L - (p + n)))) := hw'
  have hz' : ∀ i, i < L → w'.cell? ⟨B, i, none⟩ = some (.int .u8 (zs.getD i 0)) := fun i hi => by
    rw [hw', World.cell?_setCell_other _ _ _ _ (by intro e; exact hBD (by omega) (congrArg Addr.block e).symm)]
    exact hz i hi
  clear hw' hz h0 h hf
  go_wp2
  go_loop [5, 12] (fun v i => ∃ k : Nat, k ≤ n ∧ i = .int .i64 k ∧ v = .int .u64 (leV (cut zs p k))) (fun _ i => n - (intOf i).toNat)
  case atStart => exact ⟨0, by omega, rfl, by simp [cut, leV]⟩
  case round =>
    obtain ⟨k, hk, rfl, rfl⟩ := hrel
    by_cases hlt : k < n
    · obtain rfl := hr (by omega)
      have hcell := hz' (p + k) (by omega)
      have HS := @leV_round zs p k (by omega) (by rw [hzl.out]; omega) HB.out
      have HS' : Hid (_ = _) := HS
      clear HS
      go_wp2
      go_round
      case rel => exact ⟨k + 1, by omega, by go_num, by rw [HS'.out]⟩
      case measure => simp [intOf]; omega
    · obtain rfl : k = n := by omega
      go_wp2
      go_ret
      exact ⟨rfl, a', HW.out, hT'⟩

theorem uint_short (D : Nat) (n : Int) (a : Option Addr) (len cap : Nat) (t : TypeId) (x : Addr) (w : World) (h0 : w.cell? ⟨D, 0, none⟩ = some (.slice a len cap)) (h : w.cell? ⟨D, 1, none⟩ = some .nilIface)
    (hf : w.frozen? ⟨D, 1, none⟩ = false) (hg : w.cell? ⟨1, 0, none⟩ = some (.iface t (.pointer (some x)))) (hn : (len : Int) < n) :
    Calls Tryd.prog 18 #[.pointer (some ⟨D, 0, none⟩), .int .i64 n] w fun e w' => e = .returned (.int .u64 0) ∧ w' = w.setCell ⟨D, 1, none⟩ (.iface t (.pointer (some x))) := by
  go_enter Tryd.func18, Tryd.ntmps18
  go_wp2_with fail
  refine (bytes_short D n a len cap t x w h0 h hf hg hn).mono ?_
  rintro e w' ⟨rfl, rfl⟩
  go_wp2
  refine wp_loop_rounds 1 ?_
  rw [rounds_succ]
  go_wp2
  go_ret
  exact ⟨rfl, rfl⟩

theorem uint_failed (D : Nat) (n : Int) (t : TypeId) (x : Value) (w : World) (h : w.cell? ⟨D, 1, none⟩ = some (.iface t x)) :
    Calls Tryd.prog 18 #[.pointer (some ⟨D, 0, none⟩), .int .i64 n] w fun e w' => e = .returned (.int .u64 0) ∧ w = w' := by
  go_enter Tryd.func18, Tryd.ntmps18
  go_wp2_with fail
  refine (bytes_failed D n t x w h).mono ?_
  rintro e w' ⟨rfl, rfl⟩
  go_wp2
  refine wp_loop_rounds 1 ?_
  rw [rounds_succ]
  go_wp2
  go_ret
  exact ⟨rfl, rfl⟩

theorem Tryd.info5 : (Tryd.prog.info? 5).map (fun i => (i.zero, i.size, i.bytes)) = some (some (.int .u8 0), 1, 1) := by kernel_rfl

/-- The slice reads as ys in w. -/
def Reads (w : World) (a : Option Addr) (ys : List Int) : Prop := ∀ i, i < ys.length → ∃ b off, a = some ⟨b, off, none⟩ ∧ w.cell? ⟨b, off + i, none⟩ = some (.int .u8 (ys.getD i 0))

theorem clone_some (x : Addr) (len cap : Nat) (ys : List Int) (w : World) (hl : Hid (ys.length = len)) (hc : len ≤ 1000000000) (hr : Reads w (some x) ys) (hx : 0 < len → x.block < w.heap.size) :
    Calls Tryd.prog 7 #[.slice (some x) len cap] w fun e w' => e = .returned (.slice (some ⟨w.heap.size, 0, none⟩) len len) ∧ w'.rowIs w.heap.size 5 len (fun i => .int .u8 (ys.getD i 0)) ∧ Below w.heap.size w w' := by
  have q22 : ∀ (w : World) (a : Option Addr) (n c n' c' : Nat), (binOp .eql 22 (.slice a n c) (.slice none n' c')).run Tryd.prog w = .ok (.bool a.isNone) w := fun w a n c n' c' => Lib.run_eql_slice_nil w _ _ a n c n' c' Tryd.underlying22
  have hmk := run_make_row' (P := Tryd.prog) 22 5 (.int .u8 0) 1 Tryd.underlying22 Tryd.info5 rfl .i64 .i64 len (by omega) (by omega)
  have HR : Hid (Reads w (some x) ys) := hr
  clear hr
  go_enter Tryd.func7, Tryd.ntmps7
  go_wp2
  go_loopw [4] (fun i wr => ∃ k : Nat, k ≤ len ∧ i = .int .i64 k ∧ wr.rowIs w.heap.size 5 len (fun i => if i < k then .int .u8 (ys.getD i 0) else .int .u8 0) ∧ Below w.heap.size w wr) (fun i _ => len - (intOf i).toNat)
  case atStart => exact ⟨0, by omega, rfl, (World.rowIs_made w _ len 5).congr (by simp), (Below.refl _ _).alloc (Nat.le_refl _) _⟩
  case round =>
    obtain ⟨k, hk, rfl, hrow, hbel⟩ := hrel
    by_cases hlt : k < len
    · obtain ⟨b, off, hxe, hcell⟩ := HR.out k (by rw [hl.out]; omega)
      obtain rfl := Option.some.inj hxe
      clear hxe
      have hcell' : wr.cell? ⟨b, off + k, none⟩ = some (.int .u8 (ys.getD k 0)) := (hbel.cell (p := ⟨b, off + k, none⟩) (hx (by omega))).trans hcell
      have hd := hrow.cell hlt
      have hfr := hrow.frozen k
      have HROW : Hid (wr.rowIs w.heap.size 5 len (fun i => if i < k then .int .u8 (ys.getD i 0) else .int .u8 0)) := hrow
      clear hrow
      simp only [Nat.lt_irrefl, if_false] at hd
      go_wp2
      go_roundw
      case rel =>
        refine ⟨k + 1, by omega, by go_num, (HROW.out.set k _).congr (fun i _ => ?_), hbel.setCell (Nat.le_refl _) _⟩
        by_cases hik : i = k
        · subst hik; simp
        · have : i < k + 1 ↔ i < k := by omega
          simp [hik, this]
      case measure => simp [intOf]; omega
    · obtain rfl : k = len := by omega
      go_wp2
      go_ret
      exact ⟨rfl, hrow.congr (fun i hi => by simp [hi]), hbel⟩

theorem clone_nil (w : World) : Calls Tryd.prog 7 #[.slice none 0 0] w fun e w' => e = .returned (.slice none 0 0) ∧ w = w' := by
  have q22 : ∀ (w : World) (a : Option Addr) (n c n' c' : Nat), (binOp .eql 22 (.slice a n c) (.slice none n' c')).run Tryd.prog w = .ok (.bool a.isNone) w := fun w a n c n' c' => Lib.run_eql_slice_nil w _ _ a n c n' c' Tryd.underlying22
  go_enter Tryd.func7, Tryd.ntmps7
  go_wp2
  go_ret
  exact ⟨rfl, rfl⟩

/-- 'zzCloneBytes': a clone in new memory (or nil). -/
theorem clone_any (a : Option Addr) (cap : Nat) (ys : List Int) (w : World) (hc : ys.length ≤ 1000000000) (hr : Reads w a ys) (hn : a = none → ys.length = 0 ∧ cap = 0) (hx : ∀ x, a = some x → 0 < ys.length → x.block < w.heap.size) :
    Calls Tryd.prog 7 #[.slice a ys.length cap] w fun e w' => ∃ a' B, e = .returned (.slice a' ys.length ys.length) ∧ Tail B ys.length 0 a' ∧ (∀ i, i < ys.length → w'.cell? ⟨B, i, none⟩ = some (.int .u8 (ys.getD i 0))) ∧
      (0 < ys.length → B < w'.heap.size) ∧ w.heap.size ≤ B ∧ Below w.heap.size w w' := by
  match a with
  | none =>
    obtain ⟨h1, h2⟩ := hn rfl
    subst h2
    rw [h1]
    refine (clone_nil w).mono ?_
    rintro e w' ⟨rfl, rfl⟩
    exact ⟨none, w.heap.size, rfl, .inl ⟨rfl, rfl⟩, by omega, by omega, Nat.le_refl _, Below.refl _ _⟩
  | some x =>
    refine (clone_some x ys.length cap ys w rfl hc hr (hx x rfl)).mono ?_
    rintro e w' ⟨rfl, hrow, hbel⟩
    exact ⟨some ⟨w.heap.size, 0, none⟩, w.heap.size, rfl, .inr ⟨_, _, rfl, fun _ => ⟨rfl, rfl⟩⟩, fun i hi => hrow.cell hi, fun _ => hrow.lt, Nat.le_refl _, hbel⟩

theorem same_true (a a2 : Option Addr) (c c2 : Nat) (ys : List Int) (w : World) (hc : ys.length ≤ 1000000000) (h1 : Reads w a ys) (h2 : Reads w a2 ys) :
    Calls Tryd.prog 12 #[.slice a ys.length c, .slice a2 ys.length c2] w fun e w' => e = .returned (.bool true) ∧ ∃ m, w' = w.drewN m := by
  have H1 : Hid (Reads w a ys) := h1
  have H2 : Hid (Reads w a2 ys) := h2
  clear h1 h2
  obtain ⟨n, hn⟩ : ∃ n, n = ys.length := ⟨_, rfl⟩
  rw [← hn] at hc ⊢
  have HN : Hid (n = ys.length) := hn
  clear hn
  go_enter Tryd.func12, Tryd.ntmps12
  go_wp2
  go_loopw [5] (fun i wr => ∃ k : Nat, k ≤ n ∧ i = .int .i64 k ∧ ∃ m, wr = w.drewN m) (fun i _ => n - (intOf i).toNat)
  case atStart => exact ⟨0, by omega, rfl, 0, rfl⟩
  case round =>
    obtain ⟨k, hk, rfl, m, rfl⟩ := hrel
    by_cases hlt : k < n
    · obtain ⟨b, off, rfl, hcell⟩ := H1.out k (by rw [← HN.out]; omega)
      obtain ⟨b2, off2, rfl, hcell2⟩ := H2.out k (by rw [← HN.out]; omega)
      have hlt' : (k : Int) < (n : Int) := by omega
      go_wp2
      go_quiet (fail)
      go_wp2
      go_roundw
      case rel => exact ⟨k + 1, by omega, by go_num, _, rfl⟩
      case measure => simp [intOf]; omega
    · go_wp2
      go_ret
      exact ⟨rfl, m, rfl⟩
end Go.Proofs.Qxb6615018aDoor
