/- slices.insertionSortCmpFunc at the rows of a table, with a comparison that may lay blocks of its own, and that gives the order of the numbers: what the row holds behind it is the plain insertion sort. The conditions are the premises: how the row lies, and the comparison's contract. -/
import Derived.Test.YtkaoibjkebiliaaDoorJsC
import Derived.Deep.LoopGhost
import Derived.Shelf.Abstract
import Derived.Sort.WalkA
import Derived.Sort.Lot0
import Derived.Lib.BufferOwn
import Derived.Lib.BufferWrite
namespace Go.Proofs.YtkaoibjkebiliaaDoor
open Go Go.RowKit Go.Sort

/-- All but block s is kept. -/
def Fx (s : Nat) (w w' : World) : Prop := w.grownBy w' (some s)
theorem Fx.refl (s : Nat) (w : World) : Fx s w w := ⟨rfl, rfl, rfl, Nat.le_refl _, fun _ _ _ => rfl⟩
theorem Fx.trans {s : Nat} {a b c : World} (h : Fx s a b) (k : Fx s b c) : Fx s a c := Lib.grownBy_trans h k
theorem Fx.drew {s : Nat} {a w : World} (h : Fx s a w) : Fx s a w.drew := ⟨h.os, h.tape, h.output, h.size, h.block⟩
theorem Fx.set {s : Nat} {a w : World} (h : Fx s a w) (i : Nat) (v : Value) : Fx s a (w.setCell ⟨s, i, none⟩ v) := h.trans (Lib.grownBy_setCell w s i v)
theorem Fx.of_gr {s : Nat} {w w' : World} (h : Gr w w') : Fx s w w' := Lib.grownBy_below (Fx.refl s w) h
theorem Fx.gr {s : Nat} {a w w' : World} (h : Fx s w w') (g : Gr a w) (hs : a.heap.size ≤ s) : Gr a w' := g.grown h fun k hk => by injection hk with hk; omega

/-- A world in which nothing that was there has changed. -/
structure GrW (a : World) where
  w : World
  h : Gr a w
instance (a : World) : Inhabited (GrW a) := ⟨⟨a, Gr.refl a⟩⟩
theorem wp_region_quiet_gr {P : Program} {id : Nat} {Q : Exit → Act → World → Prop} {a : Act} {w : World} {l : List Oper} (hm : P.follows .mixedOrders = true) (hB : Region.lexB .any l.toArray = true)
    (h : wpQuiet P l.toArray (fun w' => ∃ p : GrW w, w' = p.w) (fun a' => ∀ w', (∃ p : GrW w, w' = p.w) → Q .normal a' w') l a) : (Code.region id l.toArray true).wp P Q a w :=
  wp_region_quiet (C := fun w' => ∃ p : GrW w, w' = p.w) hm hB ⟨⟨w.drew, (Gr.refl w).drew⟩, rfl⟩ (by simpa using h)
theorem Calls.gr_of {P : Program} {f : FuncId} {args : Array Value} {a : World} {p : GrW a} {v : Value} (h : Calls P f args p.w fun e w' => e = .returned v ∧ Gr p.w w') :
    Calls P f args p.w fun e w'' => e = .returned v ∧ ∃ p : GrW a, w'' = p.w :=
  h.mono fun _ w' ⟨he, hg⟩ => ⟨he, ⟨w', p.h.trans hg⟩, rfl⟩

def okJ (x : Jr) : Prop := x.num ∧ x.sh
def ltJ (x y : Jr) : Bool := decide (sgn x.id y.id < 0)
/-- Block b holds the rows D from place o on. -/
structure RowJ (w : World) (b o : Nat) (D : Array Jr) : Prop where
  blk : ∃ cur T, w.heap[b]? = some (.cells cur T (0, 0))
  cell : ∀ i, i < D.size → ∀ j u, (D[i]!).cs[j]? = some u → w.cell? ⟨b, o + i * 5 + j, none⟩ = some u
theorem RowJ.gr {a w : World} {b o : Nat} {D : Array Jr} (h : RowJ a b o D) (g : Gr a w) : RowJ w b o D := by
  obtain ⟨⟨cur, T, hb⟩, hc⟩ := h
  exact ⟨⟨cur, T, g.heap hb⟩, fun i hi j u hj => g.cell (hc i hi j u hj)⟩
theorem RowJ.lt {w : World} {b o : Nat} {D : Array Jr} (h : RowJ w b o D) : b < w.heap.size := by obtain ⟨⟨cur, T, hb⟩, _⟩ := h; exact lt_of_some hb
theorem RowJ.free {w : World} {b o : Nat} {D : Array Jr} (h : RowJ w b o D) (k : Nat) : w.frozen? ⟨b, k, none⟩ = false := by obtain ⟨⟨cur, T, hb⟩, _⟩ := h; exact blk_free hb k
theorem RowJ.fx {a w : World} {b o s : Nat} {D : Array Jr} (h : RowJ a b o D) (g : Fx s a w) (hs : b ≠ s) : RowJ w b o D := by
  have e : w.heap[b]? = a.heap[b]? := g.block b h.lt (by intro e; injection e with e; exact hs e)
  obtain ⟨⟨cur, T, hb⟩, hc⟩ := h
  exact ⟨⟨cur, T, e.trans hb⟩, fun i hi j u hj => (World.cell?_of_block (w := a) e).trans (hc i hi j u hj)⟩
/-- The block with five cells written. -/
def put5 (w : World) (b k : Nat) (x : Jr) : World := w.setCells b k x.cs
theorem setCells_blk (b : Nat) : ∀ (vs : List Value) (k : Nat) (w : World), (∃ cur T, w.heap[b]? = some (.cells cur T (0, 0))) → ∃ cur T, (w.setCells b k vs).heap[b]? = some (.cells cur T (0, 0))
  | [], _, _, h => h
  | v :: vs, k, w, ⟨cur, T, h⟩ => setCells_blk b vs (k + 1) (w.setCell ⟨b, k, none⟩ v) ⟨cur.setIfInBounds k v, T, by simp [World.setCell, Array.getElem?_modify, h]⟩
theorem RowJ.put {w : World} {b o : Nat} {D : Array Jr} (h : RowJ w b o D) (i : Nat) (hi : i < D.size) (x : Jr) : RowJ (put5 w b (o + i * 5) x) b o (D.setIfInBounds i x) := by
  refine ⟨setCells_blk b _ _ w h.blk, fun m hm j u hj => ?_⟩
  have hm' : m < D.size := by simpa using hm
  have hj5 : j < 5 := by have := (List.getElem?_eq_some_iff.1 hj).1; simpa [Jr.cs] using this
  unfold put5
  by_cases e : m = i
  · subst e
    rw [getElem!_pos _ m hm, Array.getElem_setIfInBounds_self] at hj
    rw [World.cell?_setCells_in b x.cs (o + m * 5) w (fun t ht => by rw [h.cell m hm' t _ (List.getElem?_eq_getElem (by simpa [Jr.cs] using ht))]; rfl) j (by simpa [Jr.cs] using hj5)]
    rw [← List.getElem?_eq_getElem]; exact hj
  · rw [World.cell?_setCells_out b x.cs (o + i * 5) w _ (fun _ _ => by simp only [Jr.cs_len]; omega)]
    rw [getElem!_pos _ m hm, Array.getElem_setIfInBounds hm', if_neg (Ne.symm e), ← getElem!_pos D m hm'] at hj
    exact h.cell m hm' j u hj
theorem Fx.sets {s : Nat} {a : World} : ∀ (vs : List Value) (k : Nat) {w : World}, Fx s a w → Fx s a (w.setCells s k vs)
  | [], _, _, h => h
  | v :: vs, k, _, h => Fx.sets vs (k + 1) (h.set k v)
end Go.Proofs.YtkaoibjkebiliaaDoor
