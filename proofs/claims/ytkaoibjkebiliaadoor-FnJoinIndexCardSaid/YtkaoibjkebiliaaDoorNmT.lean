/- The order of the forms of integers is that of the integers. -/
import Derived.Test.YtkaoibjkebiliaaDoorNmS
namespace Go.Proofs.YtkaoibjkebiliaaDoor
open Go

theorem order_pos (u v : Nat) (hu : 1 ≤ u) (hv : 1 ≤ v) (hu2 : u ≤ 9223372036854775808) (hv2 : v ≤ 9223372036854775808) : cmpI (intForm false u) (intForm false v) = sgn u v := by
  obtain ⟨P, j, e1, _, d1, _, n1, c1⟩ := forms u hu hu2
  obtain ⟨Q, k, e2, _, d2, _, n2, c2⟩ := forms v hv hv2
  have v1 := (d100_val u).1
  have v2 := (d100_val v).1
  rw [e1, e2]
  by_cases hl : (d100 u).length = (d100 v).length
  · rw [hl, cmp_same, cmp_pos P Q j k c1 c2 n1 n2 (by rw [d1, d2, ext_length, ext_length] at hl; exact hl), ← d1, ← d2, v1, v2]
  · rw [cmp_head _ _ (by omega)]
    by_cases h1 : (d100 u).length < (d100 v).length
    · have := len_lt hv h1
      unfold sgn; rw [if_pos (by omega), if_pos (by omega)]
    · have := len_lt hu (show (d100 v).length < (d100 u).length by omega)
      unfold sgn; rw [if_neg (by omega), if_pos (by omega), if_neg (by omega), if_pos (by omega)]
theorem order_neg (u v : Nat) (hu : 1 ≤ u) (hv : 1 ≤ v) (hu2 : u ≤ 9223372036854775808) (hv2 : v ≤ 9223372036854775808) : cmpI (intForm true u) (intForm true v) = sgn v u := by
  obtain ⟨P, j, _, e1, d1, _, n1, c1⟩ := forms u hu hu2
  obtain ⟨Q, k, _, e2, d2, _, n2, c2⟩ := forms v hv hv2
  have v1 := (d100_val u).1
  have v2 := (d100_val v).1
  rw [e1, e2]
  by_cases hl : (d100 u).length = (d100 v).length
  · rw [hl, cmp_same, cmp_neg P Q j k c1 c2 n1 n2 (by rw [d1, d2, ext_length, ext_length] at hl; exact hl), ← d1, ← d2, v1, v2]
  · rw [cmp_head _ _ (by omega)]
    by_cases h1 : (d100 u).length < (d100 v).length
    · have := len_lt hv h1
      unfold sgn; rw [if_neg (by omega), if_pos (by omega), if_neg (by omega), if_pos (by omega)]
    · have := len_lt hu (show (d100 v).length < (d100 u).length by omega)
      unfold sgn; rw [if_pos (by omega), if_pos (by omega)]
theorem head_pos (u : Nat) (hu : 1 ≤ u) (hu2 : u ≤ 9223372036854775808) : ∃ h r, intForm false u = h :: r ∧ 193 ≤ h := by
  obtain ⟨P, j, e1, _⟩ := forms u hu hu2
  refine ⟨_, _, e1, ?_⟩
  rw [d100_length]; have := letters_pos u; omega
theorem head_neg (u : Nat) (hu : 1 ≤ u) (hu2 : u ≤ 9223372036854775808) : ∃ h r, intForm true u = h :: r ∧ h ≤ 62 := by
  obtain ⟨P, j, _, e1, _⟩ := forms u hu hu2
  refine ⟨_, _, e1, ?_⟩
  rw [d100_length]; have := letters_pos u; omega

theorem order (a b : Int) (ha : -9223372036854775808 ≤ a ∧ a ≤ 9223372036854775807) (hb : -9223372036854775808 ≤ b ∧ b ≤ 9223372036854775807) : cmpI (formOf a) (formOf b) = sgn a b := by
  have form : ∀ a : Int, -9223372036854775808 ≤ a ∧ a ≤ 9223372036854775807 → (a < 0 ∧ ∃ u : Nat, a = -(u : Int) ∧ 1 ≤ u ∧ u ≤ 9223372036854775808 ∧ formOf a = intForm true u) ∨ (a = 0 ∧ formOf a = [128]) ∨ (0 < a ∧ ∃ u : Nat, a = u ∧ 1 ≤ u ∧ u ≤ 9223372036854775808 ∧ formOf a = intForm false u) := by
    intro a ha
    unfold formOf
    rcases Int.lt_trichotomy a 0 with h | h | h
    · exact .inl ⟨h, a.natAbs, by omega, by omega, by omega, by rw [decide_eq_true h]⟩
    · subst h
      exact .inr (.inl ⟨rfl, form_zero _⟩)
    · exact .inr (.inr ⟨h, a.natAbs, by omega, by omega, by omega, by rw [decide_eq_false (by omega)]⟩)
  rcases form a ha with ⟨h1, u, rfl, u1, u2, e1⟩ | ⟨rfl, e1⟩ | ⟨h1, u, rfl, u1, u2, e1⟩ <;> rcases form b hb with ⟨h2, v, rfl, v1, v2, e2⟩ | ⟨rfl, e2⟩ | ⟨h2, v, rfl, v1, v2, e2⟩ <;> rw [e1] <;> (try rw [e2])
  · rw [order_neg u v u1 v1 u2 v2]; unfold sgn; (repeat' split) <;> omega
  · obtain ⟨h, r, e, hh⟩ := head_neg u u1 u2
    rw [e, cmp_head _ _ (by omega)]; unfold sgn; (repeat' split) <;> omega
  · obtain ⟨h, r, e, hh⟩ := head_neg u u1 u2
    obtain ⟨h', r', e', hh'⟩ := head_pos v v1 v2
    rw [e, e', cmp_head _ _ (by omega)]; unfold sgn; (repeat' split) <;> omega
  · obtain ⟨h, r, e, hh⟩ := head_neg v v1 v2
    rw [e, cmp_head _ _ (by omega)]; unfold sgn; (repeat' split) <;> omega
  · simp [cmpI, sgn]
  · obtain ⟨h, r, e, hh⟩ := head_pos v v1 v2
    rw [e, cmp_head _ _ (by omega)]; unfold sgn; (repeat' split) <;> omega
  · obtain ⟨h, r, e, hh⟩ := head_pos u u1 u2
    obtain ⟨h', r', e', hh'⟩ := head_neg v v1 v2
    rw [e, e', cmp_head _ _ (by omega)]; unfold sgn; (repeat' split) <;> omega
  · obtain ⟨h, r, e, hh⟩ := head_pos u u1 u2
    rw [e, cmp_head _ _ (by omega)]; unfold sgn; (repeat' split) <;> omega
  · rw [order_pos u v u1 v1 u2 v2]
end Go.Proofs.YtkaoibjkebiliaaDoor
