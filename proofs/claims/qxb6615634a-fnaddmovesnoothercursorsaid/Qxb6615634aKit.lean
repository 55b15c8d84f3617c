/-
  DERIVED. Names (32 bytes) and heads as rows of cells: '==' on names; maps keyed by names and by strings.
-/
import Derived.Test.Qxb6615634aProg
import Derived.WalkKit
import Derived.WalkSpells
import Derived.WalkLawsBesides
import Derived.Deep.QuietTactic
import Derived.BigQuiet
import Derived.Deep.WholeRow
import Derived.Sort.Grow
import Derived.Deep.CutBlock
import Derived.Deep.LoopGhost
import Derived.Deep.RegionWith
import Derived.Deep.DeepCutAuto
namespace Go.Proofs.Qxb6615634a
open Go.RowKit Go.Sort

abbrev Id := Vector UInt8 32

def encI (g : Id) : List Value := g.toList.map fun b => .int .u8 (b.toNat : Int)
theorem encI_length (g : Id) : (encI g).length = 32 := by simp [encI]
theorem encI_one (g : Id) : ∀ v ∈ encI g, v.oneCell' = true := by
  intro v hv
  simp only [encI, List.mem_map] at hv
  obtain ⟨b, _, rfl⟩ := hv
  rfl
theorem encI_get (g : Id) (i : Nat) (hi : i < 32) : (encI g)[i]? = some (.int .u8 (g[i].toNat : Int)) := by
  simp [encI, hi]

/-! ### '==' on names -/

theorem Try.notAgg5 (w : World) : (Go.isAgg 5).run Try.prog w = .ok false w := by simp [go_sem]

theorem part5 (g : Id) (i : Nat) (hi : i < 32) (w : World) : (part 5 (encI g).toArray i).run Try.prog w = .ok (.int .u8 (g[i].toNat : Int)) w := by
  unfold part
  simp only [Sem.run_bind, Try.notAgg5, Result.andThen_ok, Bool.false_eq_true, if_false]
  rw [List.getElem?_toArray, encI_get g i hi]
  rfl

theorem eqI_loop (d : Nat) (g h : Id) : ∀ (l : List Nat) (w : World), (∀ i ∈ l, i < 32) →
    (Sem.run Try.prog (forIn l ((none, ()) : Option Bool × Unit) fun i __s => do
            let __do_lift ← part 5 (encI g).toArray (i * 1)
            let __do_lift_1 ← part 5 (encI h).toArray (i * 1)
            let __do_lift ← Op.equalIn (d + 1) 5 __do_lift __do_lift_1
            if (!__do_lift) = true then pure (ForInStep.done (some false, ())) else pure (ForInStep.yield (none, ()))) w) =
      .ok (if (∀ i ∈ l, g.toList[i]? = h.toList[i]?) then (none, ()) else (some false, ())) w
  | [], w, _ => by simp
  | i :: l, w, hl => by
    have hi := hl i (by simp)
    simp only [List.forIn_cons, Sem.run_bind, Nat.mul_one, part5 _ i hi, Result.andThen_ok]
    rw [run_equalIn_int w d 5 .u8 .u8 _ _ Try.underlying5]
    simp only [Result.andThen_ok]
    by_cases e : g[i] = h[i]
    · have e' : g.toList[i]? = h.toList[i]? := by simp [hi, e]
      rw [e]
      simp only [beq_self_eq_true, Bool.not_true, Bool.false_eq_true, if_false, Sem.run_pure, Result.andThen_ok]
      have ih := eqI_loop d g h l w (fun j hj => hl j (by simp [hj]))
      simp only [Nat.mul_one] at ih
      rw [ih]
      simp only [List.mem_cons, forall_eq_or_imp, e', true_and]
    · have e' : ¬ g.toList[i]? = h.toList[i]? := by simp [hi, e]
      have e2 : ((g[i].toNat : Int) == (h[i].toNat : Int)) = false := by
        simp only [beq_eq_false_iff_ne, ne_eq, Int.natCast_inj]
        exact fun hh => e (UInt8.toNat_inj.1 hh)
      rw [e2]
      simp only [Bool.not_false, if_true, Sem.run_pure, Result.andThen_ok]
      rw [if_neg (fun hh => e' (hh i (by simp)))]

theorem eqI (d : Nat) (t : TypeId) (ht : Try.prog.underlying t = some (.array 32 5)) (g h : Id) (w : World) :
    (Op.equalIn (d + 2) t (.agg (encI g).toArray) (.agg (encI h).toArray)).run Try.prog w = .ok (g == h) w := by
  have z5 : ∀ w, (Go.sizeOf 5).run Try.prog w = .ok 1 w := fun w => by simp [go_sem]
  unfold Op.equalIn
  simp only [Sem.run_bind, run_underlying ht, Result.andThen_ok, z5]
  rw [Std.Legacy.Range.forIn_eq_forIn_range']
  have hr : List.range' ([:32] : Std.Legacy.Range).start ([:32] : Std.Legacy.Range).size ([:32] : Std.Legacy.Range).step = List.range 32 := by decide
  rw [hr]
  have := eqI_loop d g h (List.range 32) w (fun i hi => List.mem_range.1 hi)
  rw [this]
  by_cases e : g = h
  · subst e; simp
  · have e' : ¬ ∀ i ∈ List.range 32, g.toList[i]? = h.toList[i]? := by
      intro hh
      apply e
      apply Vector.toList_inj.1
      apply List.ext_getElem?
      intro i
      by_cases hi : i < 32
      · exact hh i (List.mem_range.2 hi)
      · simp [hi]
    rw [if_neg e']
    have : (g == h) = false := by simpa using e
    rw [this]
    simp

/-! ### Keys -/

theorem check5 (b : Bool) (n : Nat) (k : IntKind) (x : Int) (w : World) : (Instr.checkKey b (n + 1) 5 (.int k x)).run Try.prog w = .ok () w := by
  unfold Instr.checkKey
  simp [run_underlying Try.underlying5]

theorem checkI_loop (b : Bool) (n : Nat) (g : Id) : ∀ (l : List Nat) (w : World), (∀ i ∈ l, i < 32) →
    (Sem.run Try.prog (forIn l PUnit.unit fun i _ => do
            let __do_lift ← sizeOf 5
            let __do_lift ← part 5 (encI g).toArray (i * __do_lift)
            Instr.checkKey b (n + 1) 5 __do_lift
            pure (ForInStep.yield PUnit.unit)) w) = .ok PUnit.unit w
  | [], w, _ => by simp
  | i :: l, w, hl => by
    have hi := hl i (by simp)
    have z5 : ∀ w, (Go.sizeOf 5).run Try.prog w = .ok 1 w := fun w => by simp [go_sem]
    have ih := checkI_loop b n g l w (fun j hj => hl j (by simp [hj]))
    simp only [List.forIn_cons, Sem.run_bind, z5, Nat.mul_one, part5 _ i hi, Result.andThen_ok, check5, Sem.run_pure]
    exact ih

theorem checkI (b : Bool) (n : Nat) (t : TypeId) (ht : Try.prog.underlying t = some (.array 32 5)) (g : Id) (w : World) : (Instr.checkKey b (n + 2) t (.agg (encI g).toArray)).run Try.prog w = .ok () w := by
  unfold Instr.checkKey
  simp only [Sem.run_bind, run_underlying ht, Result.andThen_ok]
  rw [Std.Legacy.Range.forIn_eq_forIn_range']
  have hr : List.range' ([:32] : Std.Legacy.Range).start ([:32] : Std.Legacy.Range).size ([:32] : Std.Legacy.Range).step = List.range 32 := by decide
  rw [hr]
  have := checkI_loop b n g (List.range 32) w (fun i hi => List.mem_range.1 hi)
  rw [this]
  rfl
/-- The first entry of a name. -/
def firstI (id : Id) : List (Id × Value) → Nat → Option (Nat × Value)
  | [], _ => none
  | e :: es, i => if id = e.1 then some (i, e.2) else firstI id es (i + 1)

/-- Entries of a map keyed by names. -/
def EntI (es : List MapEntry) (E : List (Id × Value)) : Prop := es.map (fun e => (e.key, e.val)) = E.map (fun e => (.agg (encI e.1).toArray, e.2))

theorem EntI.nil : EntI [] [] := rfl
theorem EntI.cons {e : MapEntry} {es : List MapEntry} {E : List (Id × Value)} (h : EntI (e :: es) E) : ∃ p E', E = p :: E' ∧ e.key = .agg (encI p.1).toArray ∧ e.val = p.2 ∧ EntI es E' := by
  cases E with
  | nil => simp [EntI] at h
  | cons p E' =>
    simp only [EntI, List.map_cons, List.cons.injEq, Prod.mk.injEq] at h
    exact ⟨p, E', rfl, h.1.1, h.1.2, h.2⟩

theorem askI (t : TypeId) (ht : Try.prog.underlying t = some (.array 32 5)) (id : Id) : ∀ (es : List MapEntry) (E : List (Id × Value)) (i : Nat) (w : World), EntI es E → (Instr.findAsking t (.agg (encI id).toArray) es i).run Try.prog w = .ok (firstI id E i) w
  | [], E, i, w, h => by
    cases E with
    | nil => rfl
    | cons p E => simp [EntI] at h
  | e :: es, E, i, w, h => by
    obtain ⟨p, E', rfl, h1, _, h3⟩ := h.cons
    unfold Instr.findAsking
    have he : (Op.equal t (.agg (encI id).toArray) e.key).run Try.prog w = .ok (id == p.1) w := by rw [h1]; exact eqI 9998 t ht id p.1 w
    simp only [Sem.run_bind, he, Result.andThen_ok]
    by_cases hc : id = p.1
    · have hb : (id == p.1) = true := by simpa using hc
      rw [hb]
      simp only [if_true, firstI, if_pos hc]
      rw [← ‹e.val = p.2›]
      rfl
    · have hb : (id == p.1) = false := by simpa using hc
      rw [hb]
      simp only [Bool.false_eq_true, if_false, firstI, if_neg hc]
      exact askI t ht id es E' (i + 1) w h3

theorem findI (t : TypeId) (ht : Try.prog.underlying t = some (.array 32 5)) (id : Id) (es : List MapEntry) (E : List (Id × Value)) (w : World) (h : EntI es E) : (Instr.findKey t (.agg (encI id).toArray) es).run Try.prog w = .ok (firstI id E 0) w := by
  unfold Instr.findKey
  simp only [Sem.run_bind, run_underlying ht, Result.andThen_ok]
  cases es with
  | nil =>
    cases E with
    | nil => rfl
    | cons p E => simp [EntI] at h
  | cons e es =>
    have : Instr.findNow (.array 32 5) (.agg (encI id).toArray) (e :: es) 0 = none := by simp [Instr.findNow, Instr.sameNow]
    rw [this]
    exact askI t ht id (e :: es) E 0 w h

/-- A map keyed by names, in the world. -/
def MapI (w : World) (r : Nat) (E : List (Id × Value)) : Prop := ∃ es clock, w.heap[r]? = some (.map es clock) ∧ EntI es.toList E

theorem MapI.lt {w : World} {r : Nat} {E : List (Id × Value)} (h : MapI w r E) : r < w.heap.size := by
  obtain ⟨es, c, h1, _⟩ := h
  exact (Array.getElem?_eq_some_iff.1 h1).1
theorem MapI.block {w w' : World} {r : Nat} {E : List (Id × Value)} (h : MapI w r E) (hb : w'.heap[r]? = w.heap[r]?) : MapI w' r E := by
  obtain ⟨es, c, h1, h2⟩ := h
  exact ⟨es, c, hb.trans h1, h2⟩

/-- 'm[id]'. -/
theorem look_I (t tk te : TypeId) (ht : Try.prog.underlying t = some (.map tk te)) (hk : Try.prog.underlying tk = some (.array 32 5)) (z : Value) (hz : ∀ w, (zeroValue te).run Try.prog w = .ok z w) (id : Id) {w : World} {r : Nat} {E : List (Id × Value)} (h : MapI w r E) :
    (Instr.lookup t (.map (some r)) (.agg (encI id).toArray) false).run Try.prog w = .ok (((firstI id E 0).map (·.2)).getD z) w := by
  obtain ⟨es, c, h1, h2⟩ := h
  have hg : (getObj r).run Try.prog w = .ok (.map es c) w := by simp [getObj, Sem.run, h1]
  unfold Instr.lookup
  simp only [Sem.run_bind, run_underlying ht, Result.andThen_ok, hg, Sem.run_pure]
  rw [checkI es.isEmpty 9998 tk hk id w]
  simp only [Result.andThen_ok]
  rw [findI tk hk id es.toList E w h2]
  simp only [Result.andThen_ok]
  cases hf : firstI id E 0 with
  | none => simp [hz]
  | some p => simp
theorem setObj_map {w : World} {r : Nat} {es : Array MapEntry} {clock : Nat} (o : Obj) (hb : w.heap[r]? = some (.map es clock)) : ∃ w', (setObj r o).run Try.prog w = .ok () w' ∧ w'.heap[r]? = some o ∧ w.grownBy w' (some r) := by
  refine ⟨{ w with heap := w.heap.setIfInBounds r o }, by simp [setObj, Sem.run, hb], ?_, ⟨rfl, rfl, rfl, by simp, fun k _ hk => ?_⟩⟩
  · have := (Array.getElem?_eq_some_iff.1 hb).1
    simp [this]
  · have hne : r ≠ k := fun e => hk (by rw [e])
    simp [hne]

/-- 'm[id] = v', id new. -/
theorem upd_I (t tk te : TypeId) (ht : Try.prog.underlying t = some (.map tk te)) (hk : Try.prog.underlying tk = some (.array 32 5)) (id : Id) (v : Value) {w : World} {r : Nat} {E : List (Id × Value)} (h : MapI w r E) (hn : firstI id E 0 = none) :
    ∃ w', (Instr.mapUpdate t (.map (some r)) (.agg (encI id).toArray) v).run Try.prog w = .ok () w' ∧ MapI w' r (E ++ [(id, v)]) ∧ w.grownBy w' (some r) := by
  obtain ⟨es, c, h1, h2⟩ := h
  have hg : (getObj r).run Try.prog w = .ok (.map es c) w := by simp [getObj, Sem.run, h1]
  obtain ⟨w', h3, h4, h5⟩ := setObj_map (.map (es.push { key := .agg (encI id).toArray, val := v, born := c }) (c + 1)) h1
  refine ⟨w', ?_, ⟨_, _, h4, ?_⟩, h5⟩
  · unfold Instr.mapUpdate
    simp only [Sem.run_bind, run_underlying ht, Result.andThen_ok, hg]
    rw [checkI false 9998 tk hk id w]
    simp only [Result.andThen_ok]
    rw [findI tk hk id es.toList E w h2, hn]
    exact h3
  · simp only [EntI, Array.toList_push, List.map_append, List.map_cons, List.map_nil] at h2 ⊢
    rw [h2]

/-! ### Maps keyed by strings -/

theorem bytes_beq' (a b : ByteArray) : (a == b) = true ↔ a = b := by
  obtain ⟨x⟩ := a
  obtain ⟨y⟩ := b
  constructor
  · intro h
    have e : x = y := by simpa using (show (x == y) = true from h)
    rw [e]
  · intro h
    have e : x = y := by cases h; rfl
    subst e
    show (x == x) = true
    simp
theorem toList_beq (a b : ByteArray) : (a.toList == b.toList) = decide (a = b) := by
  rw [← beq_toListBytes]
  by_cases h : a = b
  · rw [(bytes_beq' a b).2 h]; simp [h]
  · cases hq : (a == b) with
    | false => simp [h]
    | true => exact absurd ((bytes_beq' _ _).1 hq) h

def firstS (m : ByteArray) : List (ByteArray × Value) → Nat → Option (Nat × Value)
  | [], _ => none
  | e :: es, i => if m = e.1 then some (i, e.2) else firstS m es (i + 1)
def EntS (es : List MapEntry) (E : List (ByteArray × Value)) : Prop := es.map (fun e => (e.key, e.val)) = E.map (fun e => (.string e.1, e.2))
theorem nowS (m : ByteArray) : ∀ (es : List MapEntry) (E : List (ByteArray × Value)) (i : Nat), EntS es E → Instr.findNow .string (.string m) es i = some (firstS m E i)
  | [], E, i, h => by
    cases E with
    | nil => rfl
    | cons p E => simp [EntS] at h
  | e :: es, E, i, h => by
    cases E with
    | nil => simp [EntS] at h
    | cons p E =>
      simp only [EntS, List.map_cons, List.cons.injEq, Prod.mk.injEq] at h
      unfold Instr.findNow
      rw [h.1.1]
      by_cases hc : m = p.1
      · have hb : (m == p.1) = true := (bytes_beq' _ _).2 hc
        simp only [Instr.sameNow, hb, firstS, if_pos hc, h.1.2]
      · have hb : (m == p.1) = false := by
          cases hq : (m == p.1) with
          | false => rfl
          | true => exact absurd ((bytes_beq' _ _).1 hq) hc
        simp only [Instr.sameNow, hb, firstS, if_neg hc]
        exact nowS m es E (i + 1) h.2
def MapS (w : World) (r : Nat) (E : List (ByteArray × Value)) : Prop := ∃ es clock, w.heap[r]? = some (.map es clock) ∧ EntS es.toList E
theorem MapS.lt {w : World} {r : Nat} {E : List (ByteArray × Value)} (h : MapS w r E) : r < w.heap.size := by
  obtain ⟨es, c, h1, _⟩ := h
  exact (Array.getElem?_eq_some_iff.1 h1).1
theorem MapS.block {w w' : World} {r : Nat} {E : List (ByteArray × Value)} (h : MapS w r E) (hb : w'.heap[r]? = w.heap[r]?) : MapS w' r E := by
  obtain ⟨es, c, h1, h2⟩ := h
  exact ⟨es, c, hb.trans h1, h2⟩
theorem checkS (b : Bool) (n : Nat) (m : ByteArray) (w : World) : (Instr.checkKey b (n + 1) 9 (.string m)).run Try.prog w = .ok () w := by
  unfold Instr.checkKey
  simp [run_underlying Try.underlying9]
theorem look_S (t te : TypeId) (ht : Try.prog.underlying t = some (.map 9 te)) (z : Value) (hz : ∀ w, (zeroValue te).run Try.prog w = .ok z w) (m : ByteArray) {w : World} {r : Nat} {E : List (ByteArray × Value)} (h : MapS w r E) :
    (Instr.lookup t (.map (some r)) (.string m) false).run Try.prog w = .ok (((firstS m E 0).map (·.2)).getD z) w := by
  obtain ⟨es, c, h1, h2⟩ := h
  have hg : (getObj r).run Try.prog w = .ok (.map es c) w := by simp [getObj, Sem.run, h1]
  unfold Instr.lookup
  simp only [Sem.run_bind, run_underlying ht, Result.andThen_ok, hg, Sem.run_pure]
  rw [checkS es.isEmpty 9999 m w]
  simp only [Result.andThen_ok, Instr.findKey, Sem.run_bind, run_underlying Try.underlying9]
  rw [nowS m es.toList E 0 h2]
  simp only [Sem.run_pure, Result.andThen_ok]
  cases hf : firstS m E 0 with
  | none => simp [hz]
  | some p => simp
theorem upd_S (t te : TypeId) (ht : Try.prog.underlying t = some (.map 9 te)) (m : ByteArray) (v : Value) {w : World} {r : Nat} {E : List (ByteArray × Value)} (h : MapS w r E) (hn : firstS m E 0 = none) :
    ∃ w', (Instr.mapUpdate t (.map (some r)) (.string m) v).run Try.prog w = .ok () w' ∧ MapS w' r (E ++ [(m, v)]) ∧ w.grownBy w' (some r) := by
  obtain ⟨es, c, h1, h2⟩ := h
  have hg : (getObj r).run Try.prog w = .ok (.map es c) w := by simp [getObj, Sem.run, h1]
  obtain ⟨w', h3, h4, h5⟩ := setObj_map (.map (es.push { key := .string m, val := v, born := c }) (c + 1)) h1
  refine ⟨w', ?_, ⟨_, _, h4, ?_⟩, h5⟩
  · unfold Instr.mapUpdate
    simp only [Sem.run_bind, run_underlying ht, Result.andThen_ok, hg]
    rw [checkS false 9999 m w]
    simp only [Result.andThen_ok, Instr.findKey, Sem.run_bind, run_underlying Try.underlying9]
    rw [nowS m es.toList E 0 h2, hn]
    exact h3
  · simp only [EntS, Array.toList_push, List.map_append, List.map_cons, List.map_nil] at h2 ⊢
    rw [h2]

/-- 'len(m)'. -/
theorem len_map (t k e : TypeId) (ty : TypeId) (ht : Try.prog.underlying t = some (.map k e)) {w : World} {r : Nat} {es : Array MapEntry} {c : Nat} (h : w.heap[r]? = some (.map es c)) : (Builtin.len_ #[t] ty #[.map (some r)]).run Try.prog w = .ok (goInt es.size) w := by
  have hg : (getObj r).run Try.prog w = .ok (.map es c) w := by simp [getObj, Sem.run, h]
  unfold Builtin.len_
  simp [run_underlying ht, hg]
end Go.Proofs.Qxb6615634a
