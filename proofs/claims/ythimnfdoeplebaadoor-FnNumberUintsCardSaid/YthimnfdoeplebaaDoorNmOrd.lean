/- FnNumberOrder: the walk of the law. -/
import Derived.Test.YthimnfdoeplebaaDoorNmT
import Derived.Test.YthimnfdoeplebaaDoorNmCmp
namespace Go.Proofs.YthimnfdoeplebaaDoor
open Go Go.RowKit

theorem numberOf (n : Int) (hn : -9223372036854775808 ≤ n ∧ n ≤ 9223372036854775807) (w : World) (ht : Tab10 w) :
    Calls Tryd.prog 19 #[.int .i64 n] w fun e' w' => ∃ v, e' = .returned v ∧ Own w.heap.size w' v (formOf n) ∧ Gr w w' := by
  unfold formOf
  by_cases h : n < 0
  · obtain ⟨u, rfl⟩ : ∃ u : Nat, n = -(u : Int) := ⟨n.natAbs, by omega⟩
    have := numberOf_neg u (by omega) w ht
    rw [decide_eq_true h, show (-(u : Int)).natAbs = u by omega]
    exact this
  · obtain ⟨u, rfl⟩ := Int.eq_ofNat_of_zero_le (show 0 ≤ n by omega)
    have := numberOf_pos u (by omega) w ht
    rw [decide_eq_false h, show ((u : Int)).natAbs = u by omega]
    exact this

set_option maxRecDepth 100000 in
set_option maxHeartbeats 1000000 in
theorem law_order (a b : Int) (ha : -9223372036854775808 ≤ a ∧ a ≤ 9223372036854775807) (hb : -9223372036854775808 ≤ b ∧ b ≤ 9223372036854775807) (w : World) (ht : Tab10 w) :
    Calls Tryd.prog 5 #[.int .i64 a, .int .i64 b] w fun e w' => e = .returned (.bool true) ∧ Gr w w' := by
  have H1 := fun w ht => Lib.hid (numberOf a ha w ht)
  have H2 := fun w ht => Lib.hid (numberOf b hb w ht)
  have HO := order a b ha hb
  have HC := fun v u w (hx : Rd w v (formOf a)) (hy : Rd w u (formOf b)) => compare v u _ _ w hx hy
  have HC := fun v u w (hx : Rd w v (formOf a)) (hy : Rd w u (formOf b)) => (HC v u w hx hy).mono fun e w' (h : _ ∧ w' = w) => (show e = Ending.returned (.int .i64 (sgn a b)) ∧ w' = w from ⟨by rw [h.1, compareBytes_cmpI _ _ hx.byt hy.byt, HO], h.2⟩)
  clear HO
  have HC := fun v u w hx hy => Lib.hid (HC v u w hx hy)
  generalize formOf a = A at *
  generalize formOf b = B at *
  obtain ⟨s, hs⟩ : ∃ s, sgn a b = s := ⟨_, rfl⟩
  rw [hs] at HC
  have HA := fun w ht => Lib.hid (awake w ht)
  have hcase : (a < b ∧ s = -1) ∨ (a = b ∧ s = 0) ∨ (b < a ∧ s = 1) := by
    rw [← hs]; unfold sgn
    rcases Int.lt_trichotomy a b with h | h | h
    · exact .inl ⟨h, by rw [if_pos h]⟩
    · exact .inr (.inl ⟨h, by rw [if_neg (by omega), if_neg (by omega)]⟩)
    · exact .inr (.inr ⟨h, by rw [if_neg (by omega), if_pos h]⟩)
  clear hs ha hb
  rcases hcase with ⟨h, rfl⟩ | ⟨rfl, rfl⟩ | ⟨h, rfl⟩
  all_goals
    go_enter Tryd.func5, Tryd.ntmps5
    go_wp2_with (first
      | (go_at_call 19; refine (H1 w ht).out.mono ?_; rintro e w1 ⟨v1, rfl, ho1, hg1⟩; clear H1; have ht1 := ht.gr hg1)
      | (go_at_call 19; refine (H2 w1 ht1).out.mono ?_; rintro e w2 ⟨v2, rfl, ho2, hg2⟩; clear H2; have ht2 := ht1.gr hg2)
      | (go_at_call 20; refine (HC v1 v2 w2 (ho1.gr hg2).rd ho2.rd).out.mono ?_; rintro e w3 ⟨rfl, rfl⟩)
      | (go_at_call 18; refine (HA _ ht2).out.mono ?_; rintro e w4 ⟨rfl, hg4⟩))
    go_ret
    exact ⟨rfl, (hg1.trans hg2).trans hg4⟩
end Go.Proofs.YthimnfdoeplebaaDoor
