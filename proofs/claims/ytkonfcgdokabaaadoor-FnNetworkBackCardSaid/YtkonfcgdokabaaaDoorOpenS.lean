/- A server that comes in as an argument, opened. -/
import Derived.Test.YtkonfcgdokabaaaDoorOpenF
import Derived.Test.YtkonfcgdokabaaaDoorCfV
namespace Go.Proofs.YtkonfcgdokabaaaDoor
open Go Go.RowKit Go.ChangeShapes Go.WideShapes Go.ChangeAt Go.Joins Go.Deep

theorem array3 {α : Type} {cs : Array α} (h : cs.size = 3) : ∃ c0 c1 c2, cs = #[c0, c1, c2] := by
  obtain ⟨l⟩ := cs
  match l, h with
  | [c0, c1, c2], _ => exact ⟨c0, c1, c2, rfl⟩

set_option maxRecDepth 100000 in
theorem open_srv {H : Type} {enc : TypeId × Value → H} {w : World} {base : Nat} {spare : Nat → Bool} {held : Bool} {r : Reach} {b0 : Nat} {v : Value} {d : DataW H} {p : List MemPlace}
    (hv : Value.okWide Tryd.prog w r b0 26 v) (h : DataW.Trod enc Tryd.prog w base spare held 26 v d p) :
    ∃ s : Srv, v = .agg #[.string s.p, .string (bs s.a), .int .i64 s.n] ∧ -9223372036854775808 ≤ s.n ∧ s.n ≤ 9223372036854775807 := by
  obtain ⟨cs, n, rfl, hsz, hf⟩ := open_fields Tryd.underlying26 (by kernel_rfl) hv h (by kernel_rfl)
  obtain ⟨c0, c1, c2, rfl⟩ := array3 hsz
  clear hv h hsz
  obtain ⟨y0, h0⟩ := hf 0 _ c0 rfl rfl
  obtain ⟨p, e0, _⟩ := DataW.trod_string Tryd.underlying9 h0
  obtain ⟨y1, h1⟩ := hf 1 _ c1 rfl rfl
  obtain ⟨a, e1, _⟩ := DataW.trod_string Tryd.underlying9 h1
  obtain ⟨y2, h2⟩ := hf 2 _ c2 rfl rfl
  obtain ⟨m, e2, _, w2⟩ := DataW.trod_int Tryd.underlying3 h2
  simp only [List.cons.injEq, and_true] at e0 e1 e2
  subst e0 e1 e2
  have q := bounds_i64 w2
  exact ⟨⟨p, a.data.toList, m⟩, by simp only; rw [bs_of], by simp only; omega, by simp only; omega⟩
end Go.Proofs.YtkonfcgdokabaaaDoor
