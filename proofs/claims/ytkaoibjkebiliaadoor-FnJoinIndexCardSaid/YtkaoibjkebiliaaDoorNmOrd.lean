/- NumberOfInt64 in general. -/
import Derived.Test.YtkaoibjkebiliaaDoorNmT
import Derived.Test.YtkaoibjkebiliaaDoorNmCmp
namespace Go.Proofs.YtkaoibjkebiliaaDoor
open Go Go.RowKit

theorem numberOf (n : Int) (hn : -9223372036854775808 ≤ n ∧ n ≤ 9223372036854775807) (w : World) (ht : Tab10 w) :
    Calls Tryd.prog 12 #[.int .i64 n] w fun e' w' => ∃ v, e' = .returned v ∧ Own w.heap.size w' v (formOf n) ∧ Gr w w' := by
  unfold formOf
  by_cases h : n < 0
  · obtain ⟨u, rfl⟩ : ∃ u : Nat, n = -(u : Int) := ⟨n.natAbs, by omega⟩
    have := numberOf_neg u (by omega) w ht
    rw [decide_eq_true h, show (-(u : Int)).natAbs = u by omega]
    exact this
  · obtain ⟨u, rfl⟩ := Int.eq_ofNat_of_zero_le (show 0 ≤ n by omega)
    have := numberOf_pos u (by omega) w ht
    rw [decide_eq_false h, show ((u : Int)).natAbs = u by omega]
    exact this
end Go.Proofs.YtkaoibjkebiliaaDoor
