/- The library's functions over rows of numbers (Clone, Sort, Compact, BinarySearch), and all of them over no rows. The conditions are the premises: how the row lies, and its length. -/
import Derived.Test.YtkaoibjkebiliaaDoorJxC
import Derived.Test.YtkaoibjkebiliaaDoorOpenI
import Derived.Shelf.SlicesG.Clone
import Derived.Shelf.SlicesG.CompactI
import Derived.Shelf.SlicesG.SearchI
import Derived.Shelf.SortM.Plain
import Derived.Shelf.SortM.SortNone
import Derived.Shelf.SlCmpFuncs.None
import Derived.Sort.OwnSortedInts
namespace Go.Proofs.YtkaoibjkebiliaaDoor
open Go Go.RowKit Go.Sort

/-- Block b is a row that holds the numbers xs at its head. -/
structure RowI (w : World) (b : Nat) (xs : List Int) : Prop where
  blk : ∃ cur, w.heap[b]? = some (.cells cur 2 (0, 0))
  cell : ∀ j, j < xs.length → w.cell? ⟨b, j, none⟩ = some (.int .i64 (xs.getD j 0))
theorem RowI.lt {w : World} {b : Nat} {xs : List Int} (h : RowI w b xs) : b < w.heap.size := by obtain ⟨⟨cur, hb⟩, _⟩ := h; exact lt_of_some hb
theorem RowI.free {w : World} {b : Nat} {xs : List Int} (h : RowI w b xs) (k : Nat) : w.frozen? ⟨b, k, none⟩ = false := by obtain ⟨⟨cur, hb⟩, _⟩ := h; exact blk_free hb k
theorem RowI.gr {a w : World} {b : Nat} {xs : List Int} (h : RowI a b xs) (g : Gr a w) : RowI w b xs := by
  obtain ⟨⟨cur, hb⟩, hc⟩ := h
  exact ⟨⟨cur, g.heap hb⟩, fun i hi => g.cell (hc i hi)⟩
/-- It stays where a row of slices is written. -/
theorem RowI.fx {s : Nat} {a w : World} {b : Nat} {xs : List Int} (h : RowI a b xs) (g : Fx s a w) (hs : ∃ cur, a.heap[s]? = some (.cells cur 26 (0, 0))) : RowI w b xs := by
  have e : w.heap[b]? = a.heap[b]? := by
    refine g.block b h.lt (fun e => ?_)
    injection e with e
    subst e
    obtain ⟨c2, h2⟩ := hs
    obtain ⟨cur, hb⟩ := h.blk
    rw [hb] at h2
    simp only [Option.some.injEq, Obj.cells.injEq] at h2
    exact absurd h2.2.1 (by decide)
  obtain ⟨⟨cur, hb⟩, hc⟩ := h
  exact ⟨⟨cur, e.trans hb⟩, fun i hi => (World.cell?_of_block (w := a) e).trans (hc i hi)⟩
theorem getD_bang (xs : List Int) (j : Nat) (hj : j < xs.length) : xs.toArray[j]! = xs.getD j 0 := by
  rw [getElem!_pos _ j (by simpa using hj), List.getD_eq_getElem?_getD, List.getElem?_eq_getElem hj]
  simp
theorem RowI.holds {w : World} {b : Nat} {xs : List Int} (h : RowI w b xs) : Holds (Value.int .i64) w b 0 xs.toArray := by
  intro j hj
  rw [Nat.zero_add]
  refine ⟨?_, h.free j⟩
  have hj' : j < xs.length := by simpa using hj
  rw [h.cell j hj', getD_bang xs j hj']
theorem blkI_sortWorld (w : World) (b off m : Nat) (dk : Array Int) (os : Array Obj) (h : ∃ cur, w.heap[b]? = some (.cells cur 2 (0, 0))) : ∃ cur, (sortWorld (Value.int .i64) w b off m dk os).heap[b]? = some (.cells cur 2 (0, 0)) := by
  obtain ⟨cur, h⟩ := h
  rw [blk_sortWorld _ w b off m dk os b (lt_of_some h), if_pos rfl, h]
  exact ⟨_, rfl⟩
theorem RowI.sorted {w : World} {b m : Nat} {xs ys : List Int} {os : Array Obj} (h : RowI w b xs) (hl : ys.length = xs.length) : RowI (sortWorld (Value.int .i64) w b 0 m ys.toArray os) b ys := by
  refine ⟨blkI_sortWorld w b 0 m _ os h.blk, fun j hj => ?_⟩
  have h2 := (holds_grow (Value.int .i64) _ os b 0 ys.toArray (by rw [size_putRow]; exact h.lt) (holds_putRow (Value.int .i64) (Sort.ahead w m) b 0 xs.toArray ys.toArray (holds_ahead _ w m b 0 _ h.holds) (by simpa using hl)) j (by simpa using hj)).1
  rw [Nat.zero_add, getD_bang ys j hj] at h2
  exact h2
theorem RowI.head {w : World} {b : Nat} {xs ys : List Int} (h : RowI w b (xs ++ ys)) : RowI w b xs := by
  refine ⟨h.blk, fun j hj => ?_⟩
  rw [h.cell j (by rw [List.length_append]; omega), List.getD_eq_getElem?_getD, List.getElem?_append_left hj, List.getD_eq_getElem?_getD]

theorem cloneI (v : Value) (xs : List Int) (w : World) (h : Ri .i64 w v xs) (hn : 0 < xs.length) (h40 : xs.length ≤ 1000) :
    Calls Tryd.prog 15 #[v] w fun e w' => ∃ b c, e = .returned (.slice (some ⟨b, 0, none⟩) xs.length c) ∧ xs.length ≤ c ∧ c ≤ maxLen ∧ w.heap.size ≤ b ∧ RowI w' b xs ∧ Gr w w' := by
  obtain ⟨p, c, rfl, h1, h2, h3, _⟩ := h
  obtain ⟨b, o, rfl, hc⟩ := h3 hn
  refine (AnyG.slices_Clone_int Tryd.lCloneI b o xs.length c xs w (Nat.le_refl _) (by omega) hc).mono ?_
  rintro e w' ⟨v', rfl, hown, _, hg⟩
  rw [List.take_length] at hown
  rcases hown.2 with ⟨_, h0⟩ | ⟨b2, cap, cur, rfl, hb2, hh, k1, k2, k3, k4⟩
  · omega
  · refine ⟨b2, cap, rfl, k1, k2, hb2, ⟨⟨cur, hh⟩, fun j hj => ?_⟩, hg⟩
    rw [blk_cell hh, ← Array.getElem?_toList]
    have e : (cur.toList.take (xs.length * 1))[j]? = (xs.map (Value.int .i64))[j]? := by rw [k4]
    rw [List.getElem?_take_of_lt (by omega), List.getElem?_map] at e
    rw [e, List.getD_eq_getElem?_getD, List.getElem?_eq_getElem hj]
    rfl
theorem sortI (b c : Nat) (xs : List Int) (w : World) (h : RowI w b xs) (h40 : xs.length ≤ 1000) :
    Calls Tryd.prog 16 #[.slice (some ⟨b, 0, none⟩) xs.length c] w fun e w' => e = .returned (.tuple #[]) ∧ RowI w' b (xs.mergeSort fun x y => decide (x ≤ y)) ∧ Fx b w w' := by
  refine (AnyM.slices_Sort_int Tryd.lSortI b 0 c xs w h.holds h.lt (by omega)).mono ?_
  rintro e w' ⟨rfl, m, os, rfl⟩
  exact ⟨rfl, h.sorted (by simp), fx_sortWorld _ _ _ _ _ _ _⟩
theorem compactI (b c : Nat) (xs : List Int) (w : World) (h : RowI w b xs) (h40 : xs.length ≤ 1000) (hc : xs.length ≤ c) :
    Calls Tryd.prog 17 #[.slice (some ⟨b, 0, none⟩) xs.length c] w fun e w' => e = .returned (.slice (some ⟨b, 0, none⟩) (Lib.compact xs).length c) ∧ RowI w' b (Lib.compact xs) ∧ Fx b w w' := by
  refine (AnyG.slices_Compact_int Tryd.lCompactI b 0 c xs w h.holds (by omega) hc).mono ?_
  rintro e w' ⟨rfl, q, rfl⟩
  have hle : (Lib.compact xs).length ≤ xs.length := by
    unfold Lib.compact Lib.compactUpTo
    rw [List.length_map]
    exact Nat.le_trans (List.length_filter_le _ _) (by simp)
  have hr : RowI (sortWorld (Value.int .i64) w b 0 q (Lib.compact xs ++ List.replicate (xs.length - (Lib.compact xs).length) 0).toArray #[]) b (Lib.compact xs ++ List.replicate (xs.length - (Lib.compact xs).length) 0) := h.sorted (by simp; omega)
  have hf := fx_sortWorld (Value.int .i64) w b 0 q (Lib.compact xs ++ List.replicate (xs.length - (Lib.compact xs).length) 0).toArray #[]
  unfold sortWorld at hr hf
  rw [grow_empty] at hr hf
  exact ⟨rfl, hr.head, hf⟩
theorem searchI (b c : Nat) (xs : List Int) (a : Int) (w : World) (h : RowI w b xs) (h40 : xs.length ≤ 1000) (hs : xs.Pairwise (· ≤ ·)) :
    Calls Tryd.prog 22 #[.slice (some ⟨b, 0, none⟩) xs.length c, .int .i64 a] w fun e w' => e = .returned (.tuple #[.int .i64 (xs.countP (fun x => decide (x < a)) : Nat), .bool (xs.contains a)]) ∧ Gr w w' := by
  refine (AnyG.slices_BinarySearch_int Tryd.lBinI b 0 xs.length c xs a w (Nat.le_refl _) (by omega) (fun j hj => by rw [Nat.zero_add]; exact h.cell j hj) (by rw [List.take_length]; exact hs)).mono ?_
  rintro e w' ⟨rfl, q, rfl⟩
  rw [List.take_length]
  exact ⟨rfl, (Gr.refl w).drewN q⟩

theorem i64Info : (Tryd.prog.info? 2).map (fun i => (i.zero, i.size, i.bytes)) = some (some (.int .i64 0), 1, 8) := by kernel_rfl
/-- A clone of no numbers. -/
theorem cloneI0 (p : Option Addr) (c : Nat) (w : World) :
    Calls Tryd.prog 15 #[.slice p 0 c] w fun e w' => ∃ p' c', e = .returned (.slice p' 0 c') ∧ Gr w w' := by
  cases p with
  | none =>
    refine (AnyG.slices_Clone_int_nil Tryd.lCloneI 0 c w).mono ?_
    rintro e w' ⟨rfl, rfl⟩
    exact ⟨none, 0, rfl, Gr.refl _⟩
  | some A =>
    obtain ⟨i0, hi, hz0, hz1, hz2⟩ := info_parts i64Info
    have q22 : ∀ (w : World) (a : Option Addr) (n c n' c' : Nat), (binOp .eql 34 (.slice a n c) (.slice none n' c')).run Tryd.prog w = .ok (.bool a.isNone) w := fun w a n c n' c' => Lib.run_eql_slice_nil w _ _ a n c n' c' Tryd.underlying34
    go_enter Tryd.func15, Tryd.ntmps15
    go_wp2_with (at_builtin; refine wpList_append_own _ rfl _ _ 34 rfl w.heap.size 2 i0 _ 1 8 Tryd.underlying34 hi hz0 hz1 hz2 rfl (by decide) _ _ _ rfl (World.ownsRow_made w #[] 0 (Nat.le_refl _) (Nat.zero_le _) (by simp)) A 0 c [] rfl rfl (fun j u h => by simp at h) (fun u h => by simp at h) (by simp [maxLen]) (by omega) (by simp) ?_; intro v' w1 hown hgrow hnil)
    go_ret
    have hg : Gr w w1 := ((Below.refl _ w).alloc (Nat.le_refl _) _).grown hgrow (by simp) (by intro k hk; change some w.heap.size = some k at hk; injection hk with hk; exact Nat.le_of_eq hk)
    rcases hown.2 with ⟨rfl, _⟩ | ⟨b2, cap, cur, rfl, hb2, hh, h1, h2, h3, h4⟩
    · exact ⟨⟨none, 0, rfl⟩, hg⟩
    · exact ⟨⟨_, cap, rfl⟩, hg⟩
theorem searchI0 (p : Option Addr) (c : Nat) (a : Int) (w : World) :
    Calls Tryd.prog 22 #[.slice p 0 c, .int .i64 a] w fun e w' => e = .returned (.tuple #[.int .i64 0, .bool false]) ∧ w' = w := by
  go_enter Tryd.func22, Tryd.ntmps22
  go_wp2
  go_loopw [7, 8] (fun i j wr => i = .int .i64 0 ∧ j = .int .i64 0 ∧ wr = w) (fun _ _ _ => 0)
  case atStart => exact ⟨rfl, rfl, rfl⟩
  case round =>
    obtain ⟨rfl, rfl, rfl⟩ := hrel
    go_wp2
    go_ret2
    exact ⟨rfl, rfl⟩
theorem compactF0 (p : Option Addr) (c : Nat) (w : World) :
    Calls Tryd.prog 19 #[.slice p 0 c, .func (.func 20) #[] #[]] w fun e w' => e = .returned (.slice p 0 c) ∧ w' = w := by
  go_enter Tryd.func19, Tryd.ntmps19
  go_wp2
  go_ret
  exact ⟨rfl, rfl⟩
end Go.Proofs.YtkaoibjkebiliaaDoor
