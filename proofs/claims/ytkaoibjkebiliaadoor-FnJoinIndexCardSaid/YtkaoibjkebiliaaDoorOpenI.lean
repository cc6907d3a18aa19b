/- A slice of integers that comes in as an argument, opened. -/
import Derived.Test.YtkaoibjkebiliaaDoorLaw
import Derived.Test.YtkaoibjkebiliaaDoorProg
namespace Go.Proofs.YtkaoibjkebiliaaDoor
open Go Go.RowKit Go.ChangeShapes Go.WideShapes Go.ChangeAt

/-- The slice value v reads as the numbers xs of a kind. -/
def Ri (k : IntKind) (w : World) (v : Value) (xs : List Int) : Prop :=
  ∃ p c, v = .slice p xs.length c ∧ xs.length ≤ c ∧ c ≤ maxLen ∧ (0 < xs.length → ∃ b o, p = some ⟨b, o, none⟩ ∧ ∀ i, i < xs.length → w.cell? ⟨b, o + i, none⟩ = some (.int k (xs.getD i 0))) ∧ ∀ x ∈ xs, (Lit.int k x).wf = true
theorem Ri.gr {k : IntKind} {a w : World} {v : Value} {xs : List Int} (r : Ri k a v xs) (h : Gr a w) : Ri k w v xs := by
  obtain ⟨p, c, rfl, h1, h2, h3, h4⟩ := r
  exact ⟨p, c, rfl, h1, h2, fun hn => by obtain ⟨b, o, e, hc⟩ := h3 hn; exact ⟨b, o, e, fun i hi => h.cell (hc i hi)⟩, h4⟩

theorem cells_i64 : Tryd.prog.cellsOf 2 = 1 := by kernel_rfl

set_option maxRecDepth 100000 in
theorem open_i64s {H : Type} {enc : TypeId × Value → H} {w : World} {base : Nat} {spare : Nat → Bool} {held : Bool} {r : Reach} {b0 : Nat} {v : Value} {d : DataW H} {p : List MemPlace}
    (hv : Value.okWide Tryd.prog w r b0 34 v) (h : DataW.Trod enc Tryd.prog w base spare held 34 v d p) : ∃ xs, Ri .i64 w v xs := by
  obtain ⟨a0, len, cap, rfl⟩ := okWide_slice Tryd.underlying34 hv
  obtain ⟨fuel, hf⟩ := h
  rcases open_ints Tryd.underlying34 Tryd.underlying2 cells_i64 hf with ⟨e, _⟩ | ⟨a, len', cap', zs, e, _, hl, hm, hz, _, hcell, hwz⟩
  · have : (Value.slice a0 len cap) = .slice none 0 0 := by simpa [Value.cells] using e
    rw [this]
    exact ⟨[], none, 0, rfl, Nat.le_refl _, Nat.zero_le _, fun h => absurd h (by simp), fun _ h => by cases h⟩
  · have : (Value.slice a0 len cap) = .slice (some a) len' cap' := by simpa [Value.cells] using e
    rw [this]
    have hle : len' ≤ zs.length := by rw [hz]; split <;> omega
    have hlen : (zs.take len').length = len' := by rw [List.length_take]; omega
    refine ⟨zs.take len', some a, cap', by rw [hlen], by omega, hm, ?_, fun x hx => hwz x (List.mem_of_mem_take hx)⟩
    rw [hlen]
    intro hn
    obtain ⟨b, o, s⟩ := a
    have h0 := hcell 0 (by omega)
    have hs : s = none := by
      cases s with
      | none => rfl
      | some z =>
        simp only [Addr.add, World.cell?] at h0
        split at h0 <;> simp at h0
    subst hs
    refine ⟨b, o, rfl, fun i hi => ?_⟩
    have := hcell i (by omega)
    rw [Lib.addr_add] at this
    rw [this]
    simp only [List.getD_eq_getElem?_getD]
    rw [List.getElem?_take_of_lt hi]
end Go.Proofs.YtkaoibjkebiliaaDoor
