/- Numbers beside their bytes; each kept that is not the one ahead of it: plain. -/
import Derived.Test.YtkaoibjkebiliaaDoorJsD
import Derived.Lib.SlicesCompact
namespace Go.Proofs.YtkaoibjkebiliaaDoor
open Go Go.RowKit

/-- A slice of bytes that is the form of a number. -/
structure El where
  v : Value
  n : Int
instance : Inhabited El := ⟨⟨.slice none 0 0, 0⟩⟩
def El.num (x : El) : Prop := -9223372036854775808 ≤ x.n ∧ x.n ≤ 9223372036854775807
def keepsN (D : Array El) (j : Nat) : Bool := decide (j = 0 ∨ D[j]!.n ≠ D[j - 1]!.n)
/-- Of the first m elements those that are kept. -/
def cup (D : Array El) (m : Nat) : List El := ((List.range m).filter (keepsN D)).map (D[·]!)
theorem cup_succ (D : Array El) (m : Nat) : cup D (m + 1) = cup D m ++ (if keepsN D m then [D[m]!] else []) := by
  unfold cup
  rw [List.range_succ, List.filter_append, List.map_append]
  congr 1
  by_cases h : keepsN D m <;> simp [h]
theorem cup_all (D : Array El) (m : Nat) (h : ∀ j, j < m → keepsN D j = true) : cup D m = (List.range m).map (D[·]!) := by
  unfold cup
  rw [List.filter_eq_self.2 (fun j hj => h j (List.mem_range.1 hj))]
theorem range_get (D : Array El) : (List.range D.size).map (D[·]!) = D.toList := by
  refine List.ext_getElem (by simp) fun i h1 h2 => ?_
  have hi : i < D.size := by simpa using h2
  simp [getElem!_pos D i hi]
theorem cup_len (D : Array El) (m : Nat) : (cup D m).length ≤ m := by
  unfold cup
  rw [List.length_map]
  exact Nat.le_trans (List.length_filter_le _ _) (by simp)

/-- The row while it is made compact: of the first m the kept ones stand at the first kk places, and what stands from kk on is as it was. -/
structure CInv (D : Array El) (m kk : Nat) (dk : Array El) : Prop where
  size : dk.size = D.size
  len : (cup D m).length = kk
  lt : kk < m
  low : ∀ i, i < kk → (cup D m)[i]? = some dk[i]!
  high : ∀ j, kk ≤ j → dk[j]! = D[j]!
theorem CInv.start {D : Array El} {k : Nat} (hk : k < D.size) (h : ∀ j, j < k → keepsN D j = true) (hn : keepsN D k = false) : CInv D (k + 1) k D := by
  have e : cup D (k + 1) = (List.range k).map (D[·]!) := by rw [cup_succ, cup_all D k h, hn]; simp
  refine ⟨rfl, by rw [e]; simp, by omega, fun i hi => ?_, fun j _ => rfl⟩
  rw [e]; simp [hi]
theorem CInv.skip {D dk : Array El} {m kk : Nat} (h : CInv D m kk dk) (hn : keepsN D m = false) : CInv D (m + 1) kk dk := by
  have e : cup D (m + 1) = cup D m := by rw [cup_succ, hn]; simp
  exact ⟨h.size, by rw [e]; exact h.len, by have := h.lt; omega, fun i hi => by rw [e]; exact h.low i hi, h.high⟩
theorem CInv.keep {D dk : Array El} {m kk : Nat} (h : CInv D m kk dk) (hm : m < D.size) (hn : keepsN D m = true) : CInv D (m + 1) (kk + 1) (dk.setIfInBounds kk D[m]!) := by
  have e : cup D (m + 1) = cup D m ++ [D[m]!] := by rw [cup_succ, hn]; simp
  have hlt := h.lt
  have hsz := h.size
  refine ⟨by simpa using h.size, by rw [e, List.length_append, h.len]; rfl, by omega, fun i hi => ?_, fun j hj => ?_⟩
  · rw [e]
    by_cases hik : i = kk
    · subst hik
      rw [List.getElem?_append_right (by rw [h.len]; omega), h.len]
      rw [getElem!_pos _ i (by simp; omega), Array.getElem_setIfInBounds_self]
      simp
    · rw [List.getElem?_append_left (by rw [h.len]; omega), h.low i (by omega)]
      rw [getElem!_pos dk i (by omega), getElem!_pos _ i (by simp; omega), Array.getElem_setIfInBounds (by omega), if_neg (Ne.symm hik)]
  · rw [← h.high j (by omega)]
    by_cases hjs : j < dk.size
    · rw [getElem!_pos dk j hjs, getElem!_pos _ j (by simpa using hjs), Array.getElem_setIfInBounds hjs, if_neg (by omega)]
    · rw [getElem!_neg dk j hjs, getElem!_neg _ j (by simpa using hjs)]

theorem cup_ints (D : Array El) : (cup D D.size).map El.n = Lib.compact (D.toList.map El.n) := by
  unfold cup Lib.compact Lib.compactUpTo
  have hl : (D.toList.map El.n).length = D.size := by simp
  have hb : ∀ j, j < D.size → (D.toList.map El.n).toArray[j]! = D[j]!.n := by
    intro j hj
    rw [getElem!_pos _ j (by simpa using hj), getElem!_pos D j hj]
    simp
  rw [hl, List.map_map]
  have hf : (List.range D.size).filter (keepsN D) = (List.range D.size).filter (Lib.keeps (D.toList.map El.n).toArray) := by
    refine List.filter_congr fun j hj => ?_
    have hj := List.mem_range.1 hj
    unfold keepsN Lib.keeps
    rw [hb j hj, hb (j - 1) (by omega)]
  rw [hf]
  refine List.map_congr_left fun j hj => ?_
  have hj := List.mem_range.1 (List.mem_filter.1 hj).1
  simp only [Function.comp_apply]
  rw [hb j hj]
end Go.Proofs.YtkaoibjkebiliaaDoor
