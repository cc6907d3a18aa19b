/- A slice of bytes that comes in as an argument, opened. -/
import Derived.Test.YtkaoibjkebiliaaDoorLaw
import Derived.Test.YtkaoibjkebiliaaDoorProg
namespace Go.Proofs.YtkaoibjkebiliaaDoor
open Go Go.RowKit Go.ChangeShapes Go.WideShapes Go.ChangeAt

theorem cells_u8 : Tryd.prog.cellsOf 5 = 1 := by kernel_rfl

set_option maxRecDepth 100000 in
/-- A cell that reads at []uint8: whatever slice it is, it reads as some bytes. -/
theorem open_bytes_cell {H : Type} {enc : TypeId × Value → H} {w : World} {base fuel : Nat} {spare : Nat → Bool} {held : Bool} {cs : List Value} {x : DataW H × List MemPlace}
    (h : DataW.trod enc Tryd.prog w base spare held fuel 26 cs = some x) : ∃ v xs, cs = [v] ∧ Rd w v xs := by
  rcases open_ints Tryd.underlying26 Tryd.underlying5 cells_u8 h with ⟨rfl, _⟩ | ⟨a, len, cap, zs, rfl, _, hl, hm, hz, _, hcell, hwz⟩
  · exact ⟨_, [], rfl, Rd.nil w⟩
  · have hle : len ≤ zs.length := by rw [hz]; split <;> omega
    have hlen : (zs.take len).length = len := by rw [List.length_take]; omega
    refine ⟨_, zs.take len, rfl, ⟨some a, cap, by rw [hlen], by omega, hm, fun e => (by cases e), ?_, ?_⟩⟩
    · rw [hlen]
      refine Lib.BytesIn.of_cells fun i hi => ?_
      rw [hcell i (by omega)]
      simp only [List.getD_eq_getElem?_getD]
      rw [List.getElem?_take_of_lt hi]
    · intro x hx
      have := bounds_u8 (hwz x (List.mem_of_mem_take hx))
      omega

set_option maxRecDepth 100000 in
theorem open_bytes {H : Type} {enc : TypeId × Value → H} {w : World} {base : Nat} {spare : Nat → Bool} {held : Bool} {r : Reach} {b0 : Nat} {v : Value} {d : DataW H} {p : List MemPlace}
    (hv : Value.okWide Tryd.prog w r b0 26 v) (h : DataW.Trod enc Tryd.prog w base spare held 26 v d p) : ∃ xs, Rd w v xs := by
  obtain ⟨a0, len, cap, rfl⟩ := okWide_slice Tryd.underlying26 hv
  obtain ⟨fuel, hf⟩ := h
  obtain ⟨v, xs, e, h⟩ := open_bytes_cell hf
  have : v = .slice a0 len cap := by simpa [Value.cells] using e.symm
  subst this
  exact ⟨xs, h⟩
end Go.Proofs.YtkaoibjkebiliaaDoor
