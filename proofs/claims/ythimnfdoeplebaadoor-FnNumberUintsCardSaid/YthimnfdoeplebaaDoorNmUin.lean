/- FnNumberUints: the walk of the law. -/
import Derived.Test.YthimnfdoeplebaaDoorNmEu
import Derived.Test.YthimnfdoeplebaaDoorNmOrd
namespace Go.Proofs.YthimnfdoeplebaaDoor
open Go Go.RowKit

set_option maxRecDepth 100000 in
set_option maxHeartbeats 1000000 in
theorem law_uints (a b : Int) (ha : 0 ≤ a ∧ a ≤ 18446744073709551615) (hb : 0 ≤ b ∧ b ≤ 18446744073709551615) (w : World) (ht : Tab10 w) :
    Calls Tryd.prog 7 #[.int .u64 a, .int .u64 b] w fun e w' => e = .returned (.bool true) ∧ Gr w w' := by
  obtain ⟨u, rfl⟩ := Int.eq_ofNat_of_zero_le ha.1
  obtain ⟨v, rfl⟩ := Int.eq_ofNat_of_zero_le hb.1
  have H1 := fun w ht => Lib.hid (numberOf_u u (by omega) w ht)
  have H2 := fun w ht => Lib.hid (numberOf_u v (by omega) w ht)
  have HC := fun x y w (hx : Rd w x (intForm false u)) (hy : Rd w y (intForm false v)) => Lib.hid ((compare x y _ _ w hx hy).mono fun e w' (h : _ ∧ w' = w) => (show e = Ending.returned (.int .i64 (sgn u v)) ∧ w' = w from ⟨by rw [h.1, compareBytes_cmpI _ _ hx.byt hy.byt, order_u], h.2⟩))
  have HI := fun (h : u ≤ 9223372036854775807) w ht => Lib.hid (numberOf_pos u h w ht)
  have HE := fun x y w (hx : Rd w x (intForm false u)) (hy : Rd w y (intForm false u)) => Lib.hid ((equal x y _ _ w hx hy).mono fun e w' (h : _ ∧ w = w') => (show e = Ending.returned (Value.bool true) ∧ w' = w from ⟨by rw [h.1]; simp, h.2.symm⟩))
  have HA := fun w ht => Lib.hid (awake w ht)
  generalize intForm false u = A at *
  generalize intForm false v = B at *
  obtain ⟨s, hs⟩ : ∃ s, sgn u v = s := ⟨_, rfl⟩
  rw [hs] at HC
  have hcase : (u < v ∧ s = -1) ∨ (u = v ∧ s = 0) ∨ (v < u ∧ s = 1) := by
    rw [← hs]; unfold sgn
    rcases Nat.lt_trichotomy u v with h | h | h
    · exact .inl ⟨h, by rw [if_pos (by omega)]⟩
    · exact .inr (.inl ⟨h, by rw [if_neg (by omega), if_neg (by omega)]⟩)
    · exact .inr (.inr ⟨h, by rw [if_neg (by omega), if_pos (by omega)]⟩)
  obtain ⟨ha0, ha1⟩ := ha
  clear hs hb
  by_cases hmax : u ≤ 9223372036854775807
  all_goals
    have hmx : (¬ (9223372036854775807 : Int) < (u : Int)) ∨ (9223372036854775807 : Int) < (u : Int) := by omega
    rcases hcase with ⟨h, rfl⟩ | ⟨rfl, rfl⟩ | ⟨h, rfl⟩
    all_goals
      go_enter Tryd.func7, Tryd.ntmps7
      go_wp2_with (first
        | (go_at_call 26; with_reducible refine (H1 w ht).out.mono ?_; rintro e w1 ⟨v1, rfl, ho1, hg1⟩; clear H1; have ht1 := ht.gr hg1)
        | (go_at_call 26; with_reducible refine (H2 w1 ht1).out.mono ?_; rintro e w2 ⟨v2, rfl, ho2, hg2⟩; clear H2; have ht2 := ht1.gr hg2)
        | (go_at_call 20; with_reducible refine (HC v1 v2 w2 (ho1.gr hg2).rd ho2.rd).out.mono ?_; rintro e w3 ⟨rfl, rfl⟩)
        | (go_at_call 19; with_reducible refine (HI hmax _ ht2).out.mono ?_; rintro e w4 ⟨v4, rfl, ho4, hg4⟩; have ht4 := ht2.gr hg4)
        | (go_at_call 27; with_reducible refine (HE v1 v4 w4 ((ho1.gr hg2).gr hg4).rd ho4.rd).out.mono ?_; rintro e w5 ⟨rfl, rfl⟩)
        | (go_at_call 18; first | (with_reducible refine (HA _ ht4).out.mono ?_; rintro e w6 ⟨rfl, hg6⟩) | (with_reducible refine (HA _ ht2).out.mono ?_; rintro e w6 ⟨rfl, hg6⟩)))
      go_ret
      first | exact ⟨rfl, ((hg1.trans hg2).trans hg4).trans hg6⟩ | exact ⟨rfl, (hg1.trans hg2).trans hg6⟩
end Go.Proofs.YthimnfdoeplebaaDoor
