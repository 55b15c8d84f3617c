/-
  DERIVED. slices.SortFunc(serials, SerialNumber.Compare): the row holds the serial numbers in order. (The laying: written by the kit's lay-plain for this program.)
-/
import Derived.Test.Qxb6615018aKey
import Derived.Ground.SlsfProg
namespace Go.Proofs
open Go.Shelf
def Try.sortSn_ren : Go.Shelf.Ren := ⟨fun | 6 => 20 | 15 => 34 | 14 => 33 | 28 => 52 | 29 => 53 | 20 => 44 | 21 => 45 | 22 => 46 | 23 => 47 | 24 => 48 | 25 => 49 | 26 => 50 | 27 => 51 | 46 => 61 | 47 => 62 | 48 => 63 | 49 => 64 | 50 => 65 | 57 => 67 | n => n, fun | 22 => 31 | 24 => 27 | 25 => 56 | 3 => 3 | 39 => 78 | 0 => 0 | 53 => 23 | 55 => 25 | 4 => 4 | 46 => 91 | 45 => 90 | 50 => 82 | 5 => 5 | 9 => 9 | 66 => 105 | 70 => 109 | 76 => 112 | 77 => 113 | n => n, fun | n => n⟩
set_option maxRecDepth 100000 in
theorem Try.sortSn : Go.Proofs.SlLaysF0.n6 Try.prog Try.sortSn_ren := {
  mixed := by kernel_rfl
  f6 := ⟨Try.f20.name, by decide, Try.func20.trans (congrArg some (by kernel_rfl))⟩
  f14 := ⟨Try.f33.name, by decide, Try.func33.trans (congrArg some (by kernel_rfl))⟩
  f15 := Try.func34.trans (congrArg some (by kernel_rfl))
  f20 := ⟨Try.f44.name, by decide, Try.func44.trans (congrArg some (by kernel_rfl))⟩
  f21 := ⟨Try.f45.name, by decide, Try.func45.trans (congrArg some (by kernel_rfl))⟩
  f22 := ⟨Try.f46.name, by decide, Try.func46.trans (congrArg some (by kernel_rfl))⟩
  f23 := ⟨Try.f47.name, by decide, Try.func47.trans (congrArg some (by kernel_rfl))⟩
  f24 := ⟨Try.f48.name, by decide, Try.func48.trans (congrArg some (by kernel_rfl))⟩
  f25 := ⟨Try.f49.name, by decide, Try.func49.trans (congrArg some (by kernel_rfl))⟩
  f26 := ⟨Try.f50.name, by decide, Try.func50.trans (congrArg some (by kernel_rfl))⟩
  f27 := ⟨Try.f51.name, by decide, Try.func51.trans (congrArg some (by kernel_rfl))⟩
  f28 := Try.func52.trans (congrArg some (by kernel_rfl))
  f29 := Try.func53.trans (congrArg some (by kernel_rfl))
  f46 := ⟨Try.f61.name, by decide, Try.func61.trans (congrArg some (by kernel_rfl))⟩
  f47 := Try.func62.trans (congrArg some (by kernel_rfl))
  f48 := Try.func63.trans (congrArg some (by kernel_rfl))
  f49 := ⟨Try.f64.name, by decide, Try.func64.trans (congrArg some (by kernel_rfl))⟩
  f50 := ⟨Try.f65.name, by decide, Try.func65.trans (congrArg some (by kernel_rfl))⟩
  f57 := ⟨Try.f67.name, by decide, Try.func67.trans (congrArg some (by kernel_rfl))⟩
  t0 := Try.underlying0
  a0 := Try.isAgg0
  z0 := Try.sizeOf0
  v0 := Try.zeroValue0
  t3 := Try.underlying3
  a3 := Try.isAgg3
  z3 := Try.sizeOf3
  v3 := Try.zeroValue3
  t4 := Try.underlying4
  a4 := Try.isAgg4
  z4 := Try.sizeOf4
  v4 := Try.zeroValue4
  t5 := Try.underlying5
  a5 := Try.isAgg5
  z5 := Try.sizeOf5
  v5 := Try.zeroValue5
  t9 := Try.underlying9
  a9 := Try.isAgg9
  z9 := Try.sizeOf9
  v9 := Try.zeroValue9
  t22 := Try.underlying31
  a22 := Try.isAgg31
  z22 := Try.sizeOf31
  v22 := Try.zeroValue31
  t25 := Try.underlying56
  a25 := Try.isAgg56
  z25 := Try.sizeOf56
  v25 := Try.zeroValue56
  t39 := Try.underlying78
  a39 := Try.isAgg78
  z39 := Try.sizeOf78
  v39 := Try.zeroValue78
  t45 := Try.underlying90
  a45 := Try.isAgg90
  z45 := Try.sizeOf90
  v45 := Try.zeroValue90
  t46 := Try.underlying91
  a46 := Try.isAgg91
  z46 := Try.sizeOf91
  v46 := Try.zeroValue91
  t50 := Try.underlying82
  a50 := Try.isAgg82
  z50 := Try.sizeOf82
  v50 := Try.zeroValue82
  t53 := Try.underlying23
  a53 := Try.isAgg23
  z53 := Try.sizeOf23
  v53 := Try.zeroValue23
  t55 := Try.underlying25
  a55 := Try.isAgg25
  z55 := Try.sizeOf25
  v55 := Try.zeroValue25
  t66 := Try.underlying105
  a66 := Try.isAgg105
  z66 := Try.sizeOf105
  v66 := Try.zeroValue105
  t70 := Try.underlying109
  a70 := Try.isAgg109
  z70 := Try.sizeOf109
  v70 := Try.zeroValue109
  t76 := Try.underlying112
  a76 := Try.isAgg112
  z76 := Try.sizeOf112
  v76 := Try.zeroValue112
  t77 := Try.underlying113
  a77 := Try.isAgg113
  z77 := Try.sizeOf113
  v77 := Try.zeroValue113 }
end Go.Proofs
namespace Go.Proofs.Qxb6615018a
open Go.Shelf Go.RowKit Go.Lib Go.Sort

def flatS (ss : List Sn) : List Value := ss.flatMap encS
theorem flatS_length (rs : List Sn) : (flatS rs).length = rs.length * 17 := by
  induction rs with
  | nil => rfl
  | cons r rs ih => simp only [flatS, List.flatMap_cons, List.length_append, encS_length, List.length_cons] at ih ⊢; omega
theorem flatS_append (a b : List Sn) : flatS (a ++ b) = flatS a ++ flatS b := by simp [flatS]
theorem flatS_one (r : Sn) : flatS [r] = encS r := by simp [flatS]
theorem flatS_get (rs : List Sn) (i : Nat) (hi : i < rs.length) (j : Nat) (hj : j < 17) : (flatS rs)[i * 17 + j]? = (encS rs[i])[j]? := by
  have e : rs = rs.take i ++ rs[i] :: rs.drop (i + 1) := by rw [← List.drop_eq_getElem_cons hi, List.take_append_drop]
  have hl : (flatS (rs.take i)).length = i * 17 := by rw [flatS_length, List.length_take]; congr 1; omega
  conv => lhs; rw [e]
  rw [flatS_append, List.getElem?_append_right (by rw [hl]; omega), hl]
  rw [show i * 17 + j - i * 17 = j from by omega]
  show (flatS ([rs[i]] ++ rs.drop (i + 1)))[j]? = _
  rw [flatS_append, List.getElem?_append_left (by rw [flatS_one, encS_length]; exact hj), flatS_one]

theorem flatK_S (ss : List Sn) : flatK encS 17 ss.toArray = (flatS ss).toArray := by
  refine ext_get! (by simp [flatS_length]) fun t ht => ?_
  have ht' : t < ss.length * 17 := by simpa using ht
  rw [get_flatK _ _ _ t (by simpa using ht')]
  have h1 : t / 17 < ss.length := by omega
  have h2 : t % 17 < 17 := Nat.mod_lt _ (by omega)
  have h3 := flatS_get ss (t / 17) h1 (t % 17) h2
  rw [show t / 17 * 17 + t % 17 = t from by omega] at h3
  have h4 : t % 17 < (encS ss[t / 17]).length := by rw [encS_length]; exact h2
  have h5 : t < (flatS ss).length := by rw [flatS_length]; exact ht'
  rw [List.getElem?_eq_getElem h4, List.getElem?_eq_getElem h5] at h3
  have e1 : ss.toArray[t / 17]! = ss[t / 17] := by simp [h1]
  have e2 : (flatS ss).toArray[t]! = (flatS ss)[t] := by simp [h5]
  rw [e1, e2, Option.some.inj h3]
  simp [h4]

/-- In order. -/
def sortS (ss : List Sn) : List Sn := ss.mergeSort fun x y => !(ltOf cmpS y x)
theorem sortS_length (ss : List Sn) : (sortS ss).length = ss.length := by simp [sortS]

theorem swoS : SWO (ltOf cmpS) where
  irrefl x := by rw [ltOf_key]; simp
  trans x y z h1 h2 := by rw [ltOf_key] at *; simp at *; omega
  ntrans x y z h1 h2 := by rw [ltOf_key] at *; simp at *; omega
theorem totS (x y : Sn) (h1 : ltOf cmpS x y = false) (h2 : ltOf cmpS y x = false) : x = y := by
  rw [ltOf_key] at h1 h2
  simp at h1 h2
  exact key_inj (by omega)

theorem cmpLaysS (blk off size : Nat) (w : World) : CmpLays Try.prog 21 #[] encS 17 cmpS blk off size w := fun _ _ _ _ x y => compare_any x y _

theorem isAgg27 (w : World) : (isAgg 27).run Try.prog w = .ok true w := Try.isAgg27 w
theorem sizeOf27 (w : World) : (Go.sizeOf 27).run Try.prog w = .ok 17 w := Try.sizeOf27 w

/-- SortFunc on a row of its own. -/
theorem sort_any (base : Nat) (v : Value) (ss : List Sn) (w : World) (hown : w.ownsRow base 27 17 v ss.length (flatS ss)) (hsz : ss.length ≤ 1000000000) :
    Calls Try.prog 20 #[v, .func (.func 21) #[] #[]] w fun e w' => e = .returned (.tuple #[]) ∧ w'.ownsRow base 27 17 v ss.length (flatS (sortS ss)) ∧ w.grownBy w' v.ownBlock := by
  rcases hown.2 with ⟨rfl, hn⟩ | ⟨g, cap, cur, rfl, hbase, hb, h1, h2, h3, h4⟩
  · have hs : ss = [] := List.length_eq_zero_iff.1 hn
    subst hs
    have hcon := AnyF.slices_SortFunc_none Try.sortSn none 0 (.func (.func 21) #[] #[]) w
    change Calls Try.prog 20 _ _ _ at hcon
    refine hcon.mono ?_
    rintro e w' ⟨rfl, rfl⟩
    exact ⟨rfl, by simpa [sortS] using hown, ⟨rfl, rfl, rfl, Nat.le_refl _, fun _ _ _ => rfl⟩⟩
  · have eg : ∀ args w, (callFunc 21 args).run Try.prog w = .ok (.enter 21 args) w := enters_of Try.func21 (by kernel_rfl) rfl
    have hg : g < w.heap.size := (Array.getElem?_eq_some_iff.1 hb).1
    have hH : HoldsK encS 17 w g 0 ss.toArray := by
      unfold HoldsK
      rw [flatK_S]
      intro j hj
      have hj' : j < (flatS ss).length := by simpa using hj
      refine ⟨?_, by simp [World.frozen?, hb]⟩
      have e1 : (cur.toList.take (ss.length * 17))[j]? = (flatS ss)[j]? := by rw [h4]
      rw [List.getElem?_take_of_lt (by rw [flatS_length] at hj'; exact hj')] at e1
      simp only [World.cell?, hb, Nat.zero_add]
      simp only [Option.isSome_none, Bool.false_eq_true, if_false]
      rw [← Array.getElem?_toList, e1]
      simp [hj']
    have hcon := AnyQ.slices_SortFunc_total Try.sortSn 17 isAgg27 sizeOf27 encS encS_length encS_one cmpS swoS 21 #[] g 0 cap ss.toArray w eg (cmpLaysS g 0 _ w) hH hg (by simp; omega) totS
    change Calls Try.prog 20 _ _ _ at hcon
    refine hcon.mono ?_
    rintro e w' ⟨rfl, n, os, rfl⟩
    have hw : sortWorldK encS 17 w g 0 n (ss.toArray.toList.mergeSort fun x y => !(ltOf cmpS) y x).toArray os = grow (putRow id (Sort.ahead w n) g 0 (flatS (sortS ss)).toArray) os := by
      unfold sortWorldK putRowK
      rw [flatK_S]
      rfl
    rw [hw]
    have hl : (flatS (sortS ss)).length = ss.length * 17 := by rw [flatS_length, sortS_length]
    refine ⟨rfl, ⟨hl, .inr ⟨g, cap, putCells id 0 (flatS (sortS ss)).toArray cur, rfl, hbase, ?_, h1, h2, by simp [putCells, h3], ?_⟩⟩, ?_⟩
    · rw [heap_grow_old _ _ (by simpa using hg)]
      simp [putRow, mapBlock, Sort.ahead, Array.getElem?_modify, hb, onCells]
    · have hcs : ss.length * 17 ≤ cur.size := by rw [h3]; exact Nat.mul_le_mul_right 17 h1
      apply List.ext_getElem?
      intro j
      by_cases hj : j < ss.length * 17
      · rw [List.getElem?_take_of_lt hj, Array.getElem?_toList]
        have hj2 : j < (flatS (sortS ss)).length := by rw [hl]; exact hj
        simp [putCells, hj2, show j < cur.size by omega]
      · rw [List.getElem?_take_eq_none (by omega), List.getElem?_eq_none (by omega)]
    · refine ⟨rfl, rfl, rfl, by simp, fun k hk hne => ?_⟩
      rw [heap_grow_old _ _ (by simpa using hk)]
      have : g ≠ k := fun e => hne (by rw [e]; rfl)
      simp [putRow, mapBlock, Sort.ahead, Array.getElem?_modify, this]
end Go.Proofs.Qxb6615018a
