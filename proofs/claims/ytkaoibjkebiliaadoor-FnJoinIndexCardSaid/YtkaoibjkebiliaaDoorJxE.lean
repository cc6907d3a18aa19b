/- FnJoinIndex: plain lemmas, and the walk of the law. -/
import Derived.Test.YtkaoibjkebiliaaDoorJxD
import Derived.Test.YtkaoibjkebiliaaDoorUrO
import Derived.Test.YtkaoibjkebiliaaDoorNmG
namespace Go.Proofs.YtkaoibjkebiliaaDoor
open Go Go.RowKit Go.Sort

theorem sort_le (xs : List Int) : (xs.mergeSort fun x y => decide (x ≤ y)).Pairwise (· ≤ ·) :=
  (List.pairwise_mergeSort (le := fun x y => decide (x ≤ y)) (fun a b c h1 h2 => by simp at *; omega) (fun a b => by simp; omega) xs).imp fun h => by simpa using h
theorem sort_one {xs ys : List Int} (h : ys.Perm xs) (hs : ys.Pairwise (· ≤ ·)) : ys = xs.mergeSort fun x y => decide (x ≤ y) :=
  List.Perm.eq_of_pairwise (le := (· ≤ ·)) (fun a b _ _ h1 h2 => by omega) hs (sort_le xs) (h.trans (List.mergeSort_perm xs _).symm)
theorem cup_sorted (D : Array El) (h : (D.toList.map El.n).Pairwise (· ≤ ·)) : ((cup D D.size).map El.n).Pairwise (· ≤ ·) := by
  unfold cup
  rw [List.map_map, List.pairwise_map]
  have h0 : ((List.range D.size).filter (keepsN D)).Pairwise (· < ·) := List.Pairwise.filter _ List.pairwise_lt_range
  refine List.Pairwise.imp_of_mem (fun {i j} hi hj hij => ?_) h0
  have hi := List.mem_range.1 (List.mem_filter.1 hi).1
  have hj := List.mem_range.1 (List.mem_filter.1 hj).1
  rw [List.pairwise_iff_getElem] at h
  have := h i j (by simpa using hi) (by simpa using hj) hij
  simp only [Function.comp_apply]
  rw [getElem!_pos D i hi, getElem!_pos D j hj]
  simpa using this
theorem cup_mem {D : Array El} {x : El} (h : x ∈ cup D D.size) : x ∈ D.toList := by
  unfold cup at h
  obtain ⟨j, hj, rfl⟩ := List.mem_map.1 h
  exact at_mem (List.mem_range.1 (List.mem_filter.1 hj).1)
theorem cup_pos {D : Array El} (h : 0 < D.size) : 0 < (cup D D.size).length := by
  refine List.length_pos_of_mem (a := D[0]!) ?_
  unfold cup
  exact List.mem_map.2 ⟨0, List.mem_filter.2 ⟨List.mem_range.2 h, by simp [keepsN]⟩, rfl⟩

theorem rowInfo : (Tryd.prog.info? 26).map (fun i => (i.zero, i.size, i.bytes)) = some (some (.slice none 0 0), 1, 24) := by kernel_rfl
/-- What the loop over the keys keeps: the row of forms so far. -/
structure Ix (w wr : World) (b1 : Nat) (P : List Int) (ov : Value) (D : Array El) : Prop where
  own : OwnR 26 1 w.heap.size wr ov (D.toList.map fun x => [x.v])
  frm : FrmE wr D
  row : RowI wr b1 P
  gr : Gr w wr
theorem Ix.step {w a wr : World} {b1 : Nat} {P : List Int} {ov : Value} {D : Array El} (h : Ix w a b1 P ov D) (g : Gr a wr) : Ix w wr b1 P ov D := ⟨h.own.gr g, h.frm.gr g, h.row.gr g, h.gr.trans g⟩
theorem Ix.grow {w a wr : World} {b1 : Nat} {P : List Int} {ov ov' : Value} {D : Array El} {x : El} (h : Ix w a b1 P ov D) (hx : Own 0 a x.v (formOf x.n) ∧ x.num) (ho : OwnR 26 1 w.heap.size wr ov' ((D.toList.map fun x => [x.v]) ++ [[x.v]])) (g : a.grownBy wr ov.ownBlock) : Ix w wr b1 P ov' (D.push x) := by
  have hkeep : (∀ v xs, Own 0 a v xs → Own 0 wr v xs) ∧ RowI wr b1 P ∧ Gr w wr := by
    cases e : ov.ownBlock with
    | none =>
      rw [e] at g
      have gg : Gr a wr := (Gr.refl a).grown g (by intro k hk; cases hk)
      exact ⟨fun v xs r => r.gr gg, h.row.gr gg, h.gr.trans gg⟩
    | some k =>
      rw [e] at g
      obtain ⟨hk, c, hc⟩ := h.own.blk k e
      have gg : Fx k a wr := g
      exact ⟨fun v xs r => r.fx gg ⟨c, hc⟩, h.row.fx gg ⟨c, hc⟩, gg.gr h.gr hk⟩
  obtain ⟨k1, k2, k3⟩ := hkeep
  refine ⟨by simpa using ho, fun y hy => ?_, k2, k3⟩
  have hy : y ∈ D ∨ y = x := by simpa using hy
  rcases hy with hy | rfl
  · have hy : y ∈ D.toList := by simpa using hy
    exact ⟨k1 _ _ (h.frm y hy).1, (h.frm y hy).2⟩
  · exact ⟨k1 _ _ hx.1, hx.2⟩
theorem Ix.rowE {w wr : World} {b1 : Nat} {P : List Int} {ov : Value} {D : Array El} (h : Ix w wr b1 P ov D) (hn : 0 < D.size) : ∃ b c, ov = .slice (some ⟨b, 0, none⟩) D.size c ∧ D.size ≤ c ∧ c ≤ maxLen ∧ w.heap.size ≤ b ∧ RowE wr b D := by
  have hl : (D.toList.map fun x => [x.v]).length = D.size := by simp
  obtain ⟨b, cap, rfl, h1, h2, h3, _, hat⟩ := h.own.at' (by rw [hl]; exact hn)
  rw [hl] at h1 ⊢
  obtain ⟨_, c, hc⟩ := h.own.blk b rfl
  refine ⟨b, cap, rfl, h1, h2, h3, ⟨⟨c, hc⟩, fun i hi => ?_⟩⟩
  have := hat i 0 [D[i]!.v] D[i]!.v (by simp [List.getElem?_map, Array.getElem?_eq_getElem hi, getElem!_pos D i hi]) rfl
  rwa [Nat.mul_one, Nat.add_zero] at this
theorem bound_i64 {xs : List Int} (h : ∀ x ∈ xs, (Lit.int .i64 x).wf = true) : ∀ x ∈ xs, -9223372036854775808 ≤ x ∧ x ≤ 9223372036854775807 := fun x hx => by
  have := bounds_i64 (h x hx)
  omega

theorem cells_new {W : World} {arr : Array Value} {T : TypeId} {H : Nat} {ds : List Value} (hH : W.heap.size = H) (hz : ds = arr.toList) : ∀ j u, ds[j]? = some u → (W.alloc (.cells arr T)).cell? ((⟨H, 0, none⟩ : Addr).add j) = some u := by
  intro j u hj
  subst hH
  rw [Lib.addr_add, Nat.zero_add, blk_cell (heap_alloc_new W _), ← Array.getElem?_toList, ← hz]
  exact hj

/-- The index, behind its sort; behind it is made compact; a search in it. -/
structure Idx (a w : World) (b : Nat) (xs : List Int) (E : Array El) : Prop where
  ints : E.toList.map El.n = xs
  fx : Fx b a w
  row : RowE w b E
  frm : FrmE w E
theorem Idx.size {a w : World} {b : Nat} {xs : List Int} {E : Array El} (h : Idx a w b xs E) : E.size = xs.length := by rw [← h.ints]; simp

theorem indexSort (b c n : Nat) (ks S : List Int) (D : Array El) (w : World) (hr : RowE w b D) (hf : FrmE w D) (hd : D.toList.map El.n = ks) (hS : (ks.mergeSort fun x y => decide (x ≤ y)) = S) (hn : ks.length = n) (h0 : 0 < n) (h40 : n ≤ 40) :
    Calls Tryd.prog 18 #[.slice (some ⟨b, 0, none⟩) n c, .func (.func 11) #[] #[]] w fun e w' => e = .returned (.tuple #[]) ∧ ∃ E, Idx w w' b S E := by
  have hs : D.size = n := by rw [← hn, ← hd]; simp
  have h := sortF b c D w hr hf (by omega) (by omega)
  rw [hs] at h
  refine h.mono fun e w' h => ?_
  obtain ⟨he, E, hp, hsort, h1, h2, h3⟩ := h
  exact ⟨he, E, ⟨by rw [← hS]; exact sort_one (hd ▸ hp.map El.n) hsort, h1, h2, h3⟩⟩

theorem indexCompact (b c n : Nat) (S P : List Int) (D : Array El) (a w : World) (h : Idx a w b S D) (hS : S.length = n) (hsort : S.Pairwise (· ≤ ·)) (hP : Lib.compact S = P) (h0 : 0 < n) (hc : n ≤ c) (hc2 : c ≤ maxLen) :
    Calls Tryd.prog 19 #[.slice (some ⟨b, 0, none⟩) n c, .func (.func 20) #[] #[]] w fun e w' => e = .returned (.slice (some ⟨b, 0, none⟩) P.length c) ∧ (0 < P.length ∧ P.Pairwise (· ≤ ·)) ∧ ∃ E, Idx w w' b P E := by
  have hs : D.size = n := by rw [h.size, hS]
  have hcf := compactF b c D w h.row h.frm (by omega) hc2
  rw [hs] at hcf
  refine hcf.mono fun e w' hh => ?_
  obtain ⟨E, hE, he, h1, h2⟩ := hh
  have hi : E.toList.map El.n = P := by rw [hE, cup_ints, h.ints, hP]
  have hl : E.size = P.length := by rw [← hi]; simp
  rw [hl] at he
  refine ⟨he, ⟨?_, ?_⟩, E, ⟨hi, h1, h2, fun x hx => ?_⟩⟩
  · rw [← hl]
    have := cup_pos (D := D) (by omega)
    rw [← hE] at this
    simpa using this
  · rw [← hi, hE]
    exact cup_sorted D (by rw [h.ints]; exact hsort)
  · rw [hE] at hx
    have := h.frm x (cup_mem hx)
    exact ⟨this.1.fx h1 h.row.blk, this.2⟩

theorem indexSearch (b c : Nat) (P : List Int) (E : Array El) (tv : Value) (x : Int) (a w : World) (h : Idx a w b P E) (W : World) (hg : Gr w W) (hsort : P.Pairwise (· ≤ ·)) (h0 : 0 < P.length) (h40 : P.length ≤ 1000) (ht : Own 0 W tv (formOf x)) (hx : -9223372036854775808 ≤ x ∧ x ≤ 9223372036854775807) :
    Calls Tryd.prog 21 #[.slice (some ⟨b, 0, none⟩) P.length c, tv, .func (.func 11) #[] #[]] W fun e w' =>
      e = .returned (.tuple #[.int .i64 (P.countP (fun y => decide (y < x)) : Nat), .bool (P.contains x)]) ∧ Gr W w' := by
  have hs := h.size
  have hh := searchF b c E tv x W (h.row.gr hg) (h.frm.gr hg) (by rw [h.ints]; exact hsort) (by omega) (by omega) ht hx
  rw [h.ints, hs] at hh
  exact hh
end Go.Proofs.YtkaoibjkebiliaaDoor
