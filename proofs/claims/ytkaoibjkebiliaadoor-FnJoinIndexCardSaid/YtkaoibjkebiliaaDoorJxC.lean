/- slices.SortFunc and slices.BinarySearchFunc over rows of the forms of numbers, with bytes.Compare. The conditions are the premises: how the row lies, that its elements are the forms of numbers, and (of the search) that they are sorted. -/
import Derived.Test.YtkaoibjkebiliaaDoorJxB
import Derived.Test.YtkaoibjkebiliaaDoorLay
import Derived.Shelf.SlSortCmp.Whole1
import Derived.Shelf.SlCmpFuncs.BinarySearchFunc
namespace Go.Proofs.YtkaoibjkebiliaaDoor
open Go Go.RowKit Go.Sort

section
variable {α : Type} [Inhabited α]
theorem blk_sortWorld (enc : α → Value) (w : World) (b off m : Nat) (dk : Array α) (os : Array Obj) (k : Nat) (hk : k < w.heap.size) : (sortWorld enc w b off m dk os).heap[k]? = if k = b then (w.heap[k]?).map (onCells (putCells enc off dk)) else w.heap[k]? := by
  unfold sortWorld
  rw [heap_grow_old _ _ (by show k < (putRow enc (Sort.ahead w m) b off dk).heap.size; rw [size_putRow]; exact hk)]
  unfold putRow mapBlock
  simp only [Array.getElem?_modify]
  show (if b = k then (w.heap[k]?).map _ else w.heap[k]?) = _
  by_cases e : b = k
  · rw [if_pos e, if_pos e.symm]
  · rw [if_neg e, if_neg (Ne.symm e)]
theorem fx_sortWorld (enc : α → Value) (w : World) (b off m : Nat) (dk : Array α) (os : Array Obj) : Fx b w (sortWorld enc w b off m dk os) := by
  refine ⟨rfl, rfl, rfl, ?_, fun k hk hne => ?_⟩
  · unfold sortWorld
    rw [size_grow]
    show _ ≤ (putRow enc (Sort.ahead w m) b off dk).heap.size + _
    rw [size_putRow]
    exact Nat.le_add_right _ _
  · rw [blk_sortWorld enc w b off m dk os k hk, if_neg (fun e => hne (by rw [e]))]
theorem ty_sortWorld (enc : α → Value) (w : World) (b off m : Nat) (dk : Array α) (os : Array Obj) (h : ∃ cur, w.heap[b]? = some (.cells cur 26 (0, 0))) : ∃ cur, (sortWorld enc w b off m dk os).heap[b]? = some (.cells cur 26 (0, 0)) := by
  obtain ⟨cur, h⟩ := h
  rw [blk_sortWorld enc w b off m dk os b (lt_of_some h), if_pos rfl, h]
  exact ⟨_, rfl⟩
end

/-- An element that is the form of a number, in a world. -/
abbrev ElIn (w : World) := {x : El // Own 0 w x.v (formOf x.n) ∧ x.num}
def encE {w : World} (x : ElIn w) : Value := x.1.v
def cfE {w : World} (x y : ElIn w) : Int := sgn x.1.n y.1.n
theorem encE_one {w : World} : OneCell (encE (w := w)) := fun x => by
  obtain ⟨p, c, e, _⟩ := x.2.1.rd
  unfold encE; rw [e]; rfl
theorem cfE_lt {w : World} (x y : ElIn w) : ltOf cfE x y = decide (x.1.n < y.1.n) := by
  unfold ltOf cfE sgn
  by_cases h : x.1.n < y.1.n
  · simp [h]
  · by_cases h2 : y.1.n < x.1.n <;> simp [h, h2]
theorem cfE_swo {w : World} : SWO (ltOf (cfE (w := w))) := ⟨fun x => by rw [cfE_lt]; simp, fun x y z h1 h2 => by rw [cfE_lt] at *; simp at *; omega, fun x y z h1 h2 => by rw [cfE_lt] at *; simp at *; omega⟩
/-- The elements of a row, each with what is known of it. -/
def elsOf (w : World) (D : Array El) (h : FrmE w D) : Array (ElIn w) := (D.toList.attach.map fun x => (⟨x.1, h x.1 x.2⟩ : ElIn w)).toArray
theorem elsOf_map (w : World) (D : Array El) (h : FrmE w D) : (elsOf w D h).toList.map (·.1) = D.toList := by
  unfold elsOf
  rw [List.toList_toArray, List.map_map]
  exact List.attach_map_subtype_val D.toList
theorem elsOf_size (w : World) (D : Array El) (h : FrmE w D) : (elsOf w D h).size = D.size := by unfold elsOf; simp
theorem els_at {w : World} [Inhabited (ElIn w)] {d : Array (ElIn w)} {D : Array El} (h : d.toList.map (·.1) = D.toList) (i : Nat) (hi : i < D.size) : d[i]!.1 = D[i]! := by
  have hs : d.size = D.size := by have := congrArg List.length h; simpa using this
  have e : (d.toList.map (·.1))[i]? = D.toList[i]? := by rw [h]
  rw [getElem!_pos d i (by omega), getElem!_pos D i hi]
  simp only [List.getElem?_map, Array.getElem?_toList, Array.getElem?_eq_getElem hi, Array.getElem?_eq_getElem (show i < d.size by omega), Option.map_some, Option.some.injEq] at e
  exact e
theorem RowE.holds {w : World} [Inhabited (ElIn w)] {b : Nat} {D : Array El} {d : Array (ElIn w)} (h : RowE w b D) (hd : d.toList.map (·.1) = D.toList) : Holds encE w b 0 d := by
  have hs : d.size = D.size := by have := congrArg List.length hd; simpa using this
  intro j hj
  rw [Nat.zero_add]
  refine ⟨?_, h.free j⟩
  rw [h.cell j (by omega)]
  unfold encE
  rw [els_at hd j (by omega)]
theorem cmp_lays {w : World} [Inhabited (ElIn w)] {b off size : Nat} (ht : ∃ cur, w.heap[b]? = some (.cells cur 26 (0, 0))) : CmpLays1 Tryd.prog 11 #[] (encE (w := w)) cfE b off size w := by
  intro m os dk _ x y
  have g := fx_sortWorld (encE (w := w)) w b off m dk os
  exact (cmpForms x.1.n y.1.n x.2.2 y.2.2 x.1.v y.1.v _ (x.2.1.fx g ht).rd (y.2.1.fx g ht).rd).mono fun e w' h => ⟨h.1, 0, #[], by rw [h.2, grow_empty]; rfl⟩

/-- What the sort leaves. -/
def RetSortE (w : World) (b : Nat) (D : Array El) (e : Ending) (w' : World) : Prop :=
  e = .returned (.tuple #[]) ∧ ∃ E : Array El, E.toList.Perm D.toList ∧ (E.toList.map El.n).Pairwise (· ≤ ·) ∧ Fx b w w' ∧ RowE w' b E ∧ FrmE w' E

theorem sortF (b cap : Nat) (D : Array El) (w : World) (hr : RowE w b D) (hf : FrmE w D) (hn : 0 < D.size) (h40 : D.size ≤ 1000) :
    Calls Tryd.prog 18 #[.slice (some ⟨b, 0, none⟩) D.size cap, .func (.func 11) #[] #[]] w (RetSortE w b D) := by
  haveI : Inhabited (ElIn w) := ⟨⟨D[0]!, hf _ (at_mem hn)⟩⟩
  have hd := elsOf_map w D hf
  have hs := elsOf_size w D hf
  generalize elsOf w D hf = d at hd hs
  have hH := hr.holds hd
  have h := Any.slices_SortFunc Tryd.lSortF (encE (w := w)) encE_one cfE cfE_swo 11 #[] b 0 cap d w (fun _ _ => enters_of Tryd.func11 (by kernel_rfl) rfl _ _) (cmp_lays hr.blk) hH hr.lt (by omega)
  rw [hs] at h
  refine h.mono fun e w' h => ?_
  obtain ⟨he, d', m, os, ⟨psz, _, perm⟩, hsort, rfl⟩ := h
  refine ⟨he, (d'.toList.map (·.1)).toArray, ?_, ?_, fx_sortWorld _ _ _ _ _ _ _, ?_, ?_⟩
  · have ex : ∀ (A : Array (ElIn w)) (n : Nat), A.size = n → A.extract 0 n = A := by rintro A _ rfl; simp
    rw [ex _ _ (psz.trans hs), ex _ _ hs] at perm
    rw [List.toList_toArray, ← hd]
    exact perm.map _
  · rw [List.toList_toArray, List.map_map, List.pairwise_iff_getElem]
    intro i j hi hj hij
    have hi' : i < d'.size := by simpa using hi
    have hj' : j < d'.size := by simpa using hj
    have := hsort i j (Nat.zero_le _) hij (by omega)
    rw [cfE_lt, getElem!_pos d' i hi', getElem!_pos d' j hj'] at this
    simp only [List.getElem_map, Function.comp_apply, Array.getElem_toList]
    simpa using this
  · refine ⟨ty_sortWorld _ _ _ _ _ _ _ hr.blk, fun i hi => ?_⟩
    have hi' : i < d'.size := by simpa using hi
    have h2 := (holds_grow encE _ os b 0 d' (by rw [size_putRow]; exact hr.lt) (holds_putRow encE (Sort.ahead w m) b 0 d d' (holds_ahead encE w m b 0 d hH) psz) i hi').1
    rw [Nat.zero_add] at h2
    refine h2.trans ?_
    rw [getElem!_pos (d'.toList.map (·.1)).toArray i hi, getElem!_pos d' i hi']
    simp [encE]
  · intro x hx
    rw [List.toList_toArray] at hx
    obtain ⟨y, _, rfl⟩ := List.mem_map.1 hx
    exact ⟨y.2.1.fx (fx_sortWorld _ _ _ _ _ _ _) hr.blk, y.2.2⟩

/-- A world of the sort's in which the row is as it was: nothing has changed. -/
theorem gr_sortWorld {α : Type} [Inhabited α] (enc : α → Value) (w : World) (b off m : Nat) (d : Array α) (os : Array Obj) (h : Holds enc w b off d) : Gr w (sortWorld enc w b off m d os) := by
  unfold sortWorld
  rw [putRow_self enc (Sort.ahead w m) b off d (holds_ahead enc w m b off d h)]
  refine ⟨rfl, rfl, rfl, ?_, fun k hk => ?_⟩
  · rw [size_grow]; exact Nat.le_add_right _ _
  · exact heap_grow_old _ _ hk

/-- How many are less; is there one that is the same. -/
theorem found_at : ∀ (zs : List Int) (a : Int), zs.Pairwise (· ≤ ·) → (decide (zs.countP (fun x => decide (x < a)) < zs.length) && decide (zs[zs.countP (fun x => decide (x < a))]? = some a)) = zs.contains a
  | [], a, _ => by simp
  | z :: zs, a, h => by
    rw [List.pairwise_cons] at h
    obtain ⟨h1, h2⟩ := h
    have ih := found_at zs a h2
    by_cases hz : z < a
    · rw [List.countP_cons_of_pos (by simpa using hz)]
      simp only [List.length_cons, List.getElem?_cons_succ, List.contains_cons]
      rw [show (a == z) = false by simp; omega, Bool.false_or, ← ih]
      congr 1
      simp
    · have h0 : zs.countP (fun x => decide (x < a)) = 0 := by
        rw [List.countP_eq_zero]
        intro x hx
        have := h1 x hx
        simp; omega
      rw [List.countP_cons_of_neg (by simpa using hz), h0]
      by_cases e : z = a
      · subst e; simp
      · have hc : zs.contains a = false := by
          rw [← ih, h0]
          cases zs with
          | nil => rfl
          | cons y ys =>
            have := h1 y (List.mem_cons_self ..)
            simp; omega
        simp only [List.contains_cons, hc, List.length_cons, List.getElem?_cons_zero, Option.some.injEq]
        rw [show (a == z) = false by simp; omega]
        simp [e]

theorem searchF (b cap : Nat) (D : Array El) (tv : Value) (a : Int) (w : World) (hr : RowE w b D) (hf : FrmE w D) (hsort : (D.toList.map El.n).Pairwise (· ≤ ·)) (hn : 0 < D.size) (h40 : D.size ≤ 1000) (ht : Own 0 w tv (formOf a)) (ha : -9223372036854775808 ≤ a ∧ a ≤ 9223372036854775807) :
    Calls Tryd.prog 21 #[.slice (some ⟨b, 0, none⟩) D.size cap, tv, .func (.func 11) #[] #[]] w fun e w' =>
      e = .returned (.tuple #[.int .i64 ((D.toList.map El.n).countP (fun x => decide (x < a)) : Nat), .bool ((D.toList.map El.n).contains a)]) ∧ Gr w w' := by
  haveI : Inhabited (ElIn w) := ⟨⟨D[0]!, hf _ (at_mem hn)⟩⟩
  have hd := elsOf_map w D hf
  have hs := elsOf_size w D hf
  generalize elsOf w D hf = d at hd hs
  have hH := hr.holds hd
  have hints : D.toList.map El.n = d.toList.map (fun x => x.1.n) := by rw [← hd, List.map_map]; rfl
  have hat : ∀ i, i < d.size → (D.toList.map El.n)[i]? = some d[i]!.1.n := by
    intro i hi
    rw [hints, List.getElem?_map, Array.getElem?_toList, Array.getElem?_eq_getElem hi, getElem!_pos d i hi]
    rfl
  have h := Any.slices_BinarySearchFunc Tryd.lBinF (encE (w := w)) encE_one tv (fun x => sgn x.1.n a) 11 #[] b 0 cap d w (fun _ _ => enters_of Tryd.func11 (by kernel_rfl) rfl _ _)
    (fun m os dk _ x => (cmpForms x.1.n a x.2.2 ha x.1.v tv _ (x.2.1.fx (fx_sortWorld (encE (w := w)) w b 0 m dk os) hr.blk).rd (ht.fx (fx_sortWorld (encE (w := w)) w b 0 m dk os) hr.blk).rd).mono fun e w' h => ⟨h.1, 0, #[], by rw [h.2, grow_empty]; rfl⟩)
    hH hr.lt (by omega) (fun i j hij hj hlt => by
      rw [List.pairwise_iff_getElem] at hsort
      have hl : (D.toList.map El.n).length = d.size := by rw [hints]; simp
      have hle : d[i]!.1.n ≤ d[j]!.1.n := by
        rcases Nat.lt_or_eq_of_le hij with h | rfl
        · have := hsort i j (by omega) (by omega) h
          have e1 := hat i (by omega)
          have e2 := hat j hj
          rw [List.getElem?_eq_getElem (by omega)] at e1 e2
          rw [Option.some.inj e1, Option.some.inj e2] at this
          exact this
        · exact Int.le_refl _
      unfold sgn at *
      by_cases h1 : d[j]!.1.n < a
      · rw [if_pos (by omega)]; omega
      · rw [if_neg h1] at hlt
        split at hlt <;> omega)
  rw [hs] at h
  have hlt : ∀ x : ElIn w, decide (sgn x.1.n a < 0) = decide (x.1.n < a) := by
    intro x
    unfold sgn
    by_cases h : x.1.n < a
    · simp [h]
    · by_cases h2 : a < x.1.n <;> simp [h, h2]
  have hcnt : d.toList.countP (fun x => decide (sgn x.1.n a < 0)) = (D.toList.map El.n).countP (fun x => decide (x < a)) := by
    rw [hints, List.countP_map]
    exact List.countP_congr fun x _ => by rw [hlt x]; rfl
  rw [hcnt] at h
  have hfd := found_at (D.toList.map El.n) a hsort
  have hl : (D.toList.map El.n).length = D.size := by simp
  generalize hc : (D.toList.map El.n).countP (fun x => decide (x < a)) = cnt at *
  have hres : (decide (cnt < D.size) && decide (sgn d[cnt]!.1.n a = 0)) = (D.toList.map El.n).contains a := by
    rw [← hfd, hl]
    by_cases hlt : cnt < D.size
    · rw [decide_eq_true hlt, Bool.true_and, Bool.true_and, hat cnt (by omega)]
      by_cases e : d[cnt]!.1.n = a
      · rw [e]; simp [sgn]
      · have : ¬ sgn d[cnt]!.1.n a = 0 := fun h => e (sgn_zero h)
        rw [decide_eq_false this]
        simp [e]
    · rw [decide_eq_false hlt]; rfl
  rw [hres] at h
  refine h.mono fun e w' h => ?_
  obtain ⟨he, m, os, rfl⟩ := h
  exact ⟨he, gr_sortWorld _ _ _ _ _ _ _ hH⟩
end Go.Proofs.YtkaoibjkebiliaaDoor
