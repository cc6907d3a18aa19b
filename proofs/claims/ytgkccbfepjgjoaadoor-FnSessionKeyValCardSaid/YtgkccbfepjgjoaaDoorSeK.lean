/- A step of a reader, as the thin package does it: words. -/
import Derived.Test.YtgkccbfepjgjoaaDoorSeJ
import Derived.Test.YtgkccbfepjgjoaaDoorPkE
import Derived.Deep.RegionHeld3
namespace Go.Proofs.YtgkccbfepjgjoaaDoor
open Go Go.RowKit

/-- What a step gives. -/
structure G where
  ok : Bool
  d : List Int
  o : List Int
  n : Int
  t : ByteArray

def zeroG : Value := .agg #[.bool false, .slice none 0 0, .slice none 0 0, .int .i64 0, .string ⟨#[]⟩]
def zeroCs : Array Value := #[.bool false, .slice none 0 0, .slice none 0 0, .int .i64 0, .string ⟨#[]⟩]

def RetG (w : World) (s : Nat) (big : Bool) (ch : Int) (E : Value) (x : Option (G × List Int)) (e : Ending) (w' : World) : Prop :=
  match x with
  | some (g, r) => ∃ dv ov, e = .returned (.agg #[.bool true, dv, ov, .int .i64 g.n, .string g.t]) ∧ Own w.heap.size w' dv g.d ∧ Own w.heap.size w' ov g.o ∧ Ss w' s big ch E r ∧ Fx s w w'
  | none => e = .returned zeroG ∧ (∃ r, Ss w' s big ch E r) ∧ Fx s w w'

/-- A block holds no bytes. -/
def NoU8 (cs : Array Value) : Prop := ∀ (i : Nat) (z : Int), cs[i]? ≠ some (.int .u8 z)
theorem Rd.far {w w' : World} {v : Value} {l : List Int} {g : Nat} {cs : Array Value} {T : TypeId} {fr : Nat × Nat} (h : Rd w v l) (hb : w.heap[g]? = some (.cells cs T fr)) (hn : NoU8 cs) (hf : Fx g w w') : Rd w' v l := by
  obtain ⟨p, c, rfl, h1, h2, h3, h4, h5⟩ := h
  refine ⟨p, c, rfl, h1, h2, h3, ?_, h5⟩
  intro hlen
  obtain ⟨b, o, rfl, hc⟩ := h4 hlen
  refine ⟨b, o, rfl, fun i hi => hf.cell (hc i hi) ?_⟩
  intro e
  have e : b = g := e
  subst e
  have := hc i hi
  rw [blk_cell hb] at this
  exact hn _ _ this
theorem noU8_got (a b c d e : Value) (ha : ∀ z, a ≠ .int .u8 z) (hb : ∀ z, b ≠ .int .u8 z) (hc : ∀ z, c ≠ .int .u8 z) (hd : ∀ z, d ≠ .int .u8 z) (he : ∀ z, e ≠ .int .u8 z) : NoU8 #[a, b, c, d, e] := by
  intro i z h
  match i with
  | 0 => exact ha z (by simpa using h)
  | 1 => exact hb z (by simpa using h)
  | 2 => exact hc z (by simpa using h)
  | 3 => exact hd z (by simpa using h)
  | 4 => exact he z (by simpa using h)
  | n + 5 => simp at h
theorem Rd.nu8 {w : World} {v : Value} {l : List Int} (h : Rd w v l) : ∀ z, v ≠ .int .u8 z := by
  obtain ⟨p, c, rfl, _⟩ := h
  intro z e; cases e

theorem Ss.fx2 {w w' : World} {s g : Nat} {big : Bool} {ch : Int} {E : Value} {r : List Int} (h : Ss w s big ch E r) (hf : Fx g w w') (hs : s < g) : Ss w' s big ch E r := by
  obtain ⟨v, xs, i, h1, h2, h3, h4⟩ := h
  exact ⟨v, xs, i, ⟨hf.heap h1.blk (by omega), h1.rd.fx hf (h1.off.off (by omega)), h1.off, h1.le, h1.lim⟩, h2, h3.fx hf (by omega), h4⟩

/-- The three blocks that a step lays: the step itself, what it returns, what it fills. -/
structure GB (w : World) (H : Nat) (k sz : Int) (be co : Bool) (rc gc : Array Value) : Prop where
  x : w.heap[H]? = some (.cells #[.int .i64 k, .int .i64 sz, .bool be, .bool co] 28 (0, 0))
  r : w.heap[H + 1]? = some (.cells rc 31 (0, 0))
  g : w.heap[H + 1 + 1]? = some (.cells gc 31 (0, 0))
theorem GB.new (w : World) (k sz : Int) (be co : Bool) : GB (((w.alloc (.cells #[.int .i64 k, .int .i64 sz, .bool be, .bool co] 28)).alloc (.cells zeroCs 31)).alloc (.cells zeroCs 31)) w.heap.size k sz be co zeroCs zeroCs :=
  ⟨(((Gr.refl _).alloc _).alloc _).heap (heap_alloc_new w _), ((Gr.refl _).alloc _).heap (heap_new_at _ _ (by simp)), heap_new_at _ _ (by simp)⟩
theorem GB.fx {w w' : World} {H s : Nat} {k sz : Int} {be co : Bool} {rc gc : Array Value} (h : GB w H k sz be co rc gc) (hf : Fx s w w') (hs : s < H) : GB w' H k sz be co rc gc :=
  ⟨hf.heap h.x (by omega), hf.heap h.r (by omega), hf.heap h.g (by omega)⟩
theorem GB.gr {w w' : World} {H : Nat} {k sz : Int} {be co : Bool} {rc gc : Array Value} (h : GB w H k sz be co rc gc) (hf : Gr w w') : GB w' H k sz be co rc gc :=
  ⟨hf.heap h.x, hf.heap h.r, hf.heap h.g⟩

theorem noU8_zero : NoU8 zeroCs := by
  intro i z h
  match i with
  | 0 => simp [zeroCs] at h
  | 1 => simp [zeroCs] at h
  | 2 => simp [zeroCs] at h
  | 3 => simp [zeroCs] at h
  | 4 => simp [zeroCs] at h
  | n + 5 => simp [zeroCs] at h

/-- Behind the two clones: the stores into what is filled, and into what is returned. -/
theorem got_fin {w X w3 : World} {s : Nat} {big : Bool} {ch : Int} {E : Value} {r dl ol : List Int} {dv ov : Value} (hs : s < w.heap.size) (hX : w.heap.size + 2 < X.heap.size) (hF : Fx s w X) (hS : Ss X s big ch E r) (hG : Gr X w3)
    (hd : Own X.heap.size w3 dv dl) (ho : Own X.heap.size w3 ov ol) (u1 u2 a0 a1 a2 a3 a4 : Value) :
    let Y := ((((((w3.setCell ⟨w.heap.size + 1 + 1, 1, none⟩ u1).setCell ⟨w.heap.size + 1 + 1, 2, none⟩ u2).setCell ⟨w.heap.size + 1, 0, none⟩ a0).setCell ⟨w.heap.size + 1, 1, none⟩ a1).setCell ⟨w.heap.size + 1, 2, none⟩ a2).setCell ⟨w.heap.size + 1, 3, none⟩ a3).setCell ⟨w.heap.size + 1, 4, none⟩ a4
    Own w.heap.size Y dv dl ∧ Own w.heap.size Y ov ol ∧ Ss Y s big ch E r ∧ Fx s w Y := by
  intro Y
  have f1 : Fx (w.heap.size + 1 + 1) w3 ((w3.setCell ⟨w.heap.size + 1 + 1, 1, none⟩ u1).setCell ⟨w.heap.size + 1 + 1, 2, none⟩ u2) := ((Fx.refl _ w3).set 1 _).set 2 _
  have f2 : Fx (w.heap.size + 1) ((w3.setCell ⟨w.heap.size + 1 + 1, 1, none⟩ u1).setCell ⟨w.heap.size + 1 + 1, 2, none⟩ u2) Y := (((((Fx.refl _ _).set 0 _).set 1 _).set 2 _).set 3 _).set 4 _
  have hb : Below w.heap.size X Y := (((((((hG.mono (by omega)).setCell (p := ⟨w.heap.size + 1 + 1, 1, none⟩) (by simp; omega) _).setCell (p := ⟨w.heap.size + 1 + 1, 2, none⟩) (by simp; omega) _).setCell (p := ⟨w.heap.size + 1, 0, none⟩) (by simp) _).setCell (p := ⟨w.heap.size + 1, 1, none⟩) (by simp) _).setCell (p := ⟨w.heap.size + 1, 2, none⟩) (by simp) _).setCell (p := ⟨w.heap.size + 1, 3, none⟩) (by simp) _).setCell (p := ⟨w.heap.size + 1, 4, none⟩) (by simp) _
  exact ⟨((hd.fx f1 (by omega)).fx f2 (by omega)).mono (by omega), ((ho.fx f1 (by omega)).fx f2 (by omega)).mono (by omega), hS.below hb hs, hF.below hb (Nat.le_refl _)⟩

end Go.Proofs.YtgkccbfepjgjoaaDoor
