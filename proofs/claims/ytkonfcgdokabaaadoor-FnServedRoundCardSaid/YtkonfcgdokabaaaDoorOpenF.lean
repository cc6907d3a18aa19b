/- A struct of one-cell fields that comes in as an argument, opened. -/
import Derived.Test.YtkonfcgdokabaaaDoorLaw
import Derived.Lib.SmallJoins
namespace Go.Proofs.YtkonfcgdokabaaaDoor
open Go Go.RowKit Go.ChangeShapes Go.WideShapes Go.ChangeAt Go.Joins Go.Deep

section
variable {H : Type} {enc : TypeId × Value → H} {P : Program} {w : World} {base : Nat} {spare : Nat → Bool} {held : Bool}

/-- A struct of one-cell fields, by value: its cells, each with its reading. -/
theorem open_fields {r : Reach} {b0 : Nat} {t : TypeId} {fs : Array Field} {v : Value} {d : DataW H} {p : List MemPlace} (hs : P.underlying t = some (.struct fs)) (hone : oneCellFields P fs = true)
    (hv : Value.okWide P w r b0 t v) (h : DataW.Trod enc P w base spare held t v d p) (hC : P.cellsOf t = fs.size) :
    ∃ (cs : Array Value) (n : Nat), v = .agg cs ∧ cs.size = fs.size ∧ ∀ (j : Nat) (f : Field) (c : Value), fs[j]? = some f → cs[j]? = some c → ∃ y, DataW.trod enc P w base spare held n f.type [c] = some y := by
  obtain ⟨cs, rfl, hsz⟩ := okWide_struct hs hv
  obtain ⟨fuel, hf⟩ := h
  obtain ⟨xs, n, _, hx, _, hlen, hg⟩ := DataW.trod_struct hs hf
  refine ⟨cs, n, rfl, hsz.trans hC, fun j f c hj hc => ?_⟩
  obtain ⟨ho, hk⟩ := hone_of hone j f hj
  have h1 := hg j f hj
  rw [ho, hk] at h1
  have hjl : j < fs.size := (Array.getElem?_eq_some_iff.1 hj).1
  have hcl : j < cs.size := (Array.getElem?_eq_some_iff.1 hc).1
  have hone' : ((Value.agg cs).cells.toList.drop j).take 1 = [c] := by
    have : (Value.agg cs).cells = cs := rfl
    rw [this, List.drop_eq_getElem_cons (by simpa using hcl)]
    have := (Array.getElem?_eq_some_iff.1 hc).2
    simp [this]
  rw [hone'] at h1
  have hxl : j < xs.length := by omega
  exact ⟨xs[j], h1.trans (List.getElem?_eq_getElem hxl)⟩
end
end Go.Proofs.YtkonfcgdokabaaaDoor
