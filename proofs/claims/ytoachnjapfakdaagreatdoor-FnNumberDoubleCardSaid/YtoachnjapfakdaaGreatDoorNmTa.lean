/- Digits, their value, and the digits of this value. -/
import Derived.Test.YtoachnjapfakdaaGreatDoorNmSb
namespace Go.Proofs.YtoachnjapfakdaaGreatDoor
open Go Go.RowKit

/-- What decimal digits spell. -/
def dval : List Int → Int
  | [] => 0
  | a :: r => a * 10 ^ r.length + dval r
theorem ten_pos (n : Nat) : (0 : Int) < 10 ^ n := Int.pow_pos (by omega)
theorem dval_bd : ∀ (l : List Int), D10 l → 0 ≤ dval l ∧ dval l < 10 ^ l.length
  | [], _ => by simp [dval]
  | p :: r, h => by
    have hp := h p (by simp)
    have ih := dval_bd r (fun x hx => h x (by simp [hx]))
    have hq := ten_pos r.length
    rw [dval, List.length_cons, Int.pow_succ]
    generalize (10 : Int) ^ r.length = Q at *
    have h1 : 0 ≤ p * Q := Int.mul_nonneg hp.1 (by omega)
    have h2 : p * Q ≤ 9 * Q := Int.mul_le_mul_of_nonneg_right hp.2 (by omega)
    constructor <;> omega
theorem dval_app (a : List Int) (x : Int) : dval (a ++ [x]) = dval a * 10 + x := by
  induction a with
  | nil => simp [dval]
  | cons p r ih =>
    rw [List.cons_append, dval, dval, ih, List.length_append, List.length_singleton, Int.pow_succ, Int.add_mul, ← Int.mul_assoc]
    omega
theorem dval_zero (l : List Int) : dval (0 :: l) = dval l := by simp [dval]
theorem hundred (n : Nat) : (100 : Int) ^ n = 10 ^ (2 * n) := by
  rw [Int.pow_mul]; rfl
theorem val_prs : ∀ l : List Int, l.length % 2 = 0 → val (prs l) = dval l
  | a :: b :: r, h => by
    simp only [List.length_cons] at h
    have hr : (r.length + 1) / 2 = r.length / 2 := by omega
    rw [prs, val, dval, dval, val_prs r (by omega), prs_length, hr, hundred, show 2 * (r.length / 2) = r.length by omega, List.length_cons, Int.pow_succ, Int.add_mul, Int.mul_assoc, Int.mul_comm (10 ^ r.length) 10, ← Int.mul_assoc a 10, Int.mul_comm a 10, Int.mul_assoc]
    omega
  | [a], h => by simp at h
  | [], _ => by simp [prs, val, dval]

/-- The value of the form's pairs. -/
theorem val_form (d : List Int) (e : Int) : ∃ t : Nat, (lead e d).length % 2 = t ∧ val (prs (padE (lead e d))) = dval (d ++ List.replicate t 0) := by
  refine ⟨(lead e d).length % 2, rfl, ?_⟩
  rw [val_prs _ (padE_even _)]
  have hl : dval (lead e d) = dval d := by unfold lead; split; exact dval_zero d; rfl
  unfold padE
  by_cases h : (lead e d).length % 2 = 1
  · rw [if_pos h, h, dval_app, hl]
    show _ = dval (d ++ [0])
    rw [dval_app]
  · rw [if_neg h, show (lead e d).length % 2 = 0 by omega, hl]
    simp

/-- The digits of the value of digits are these digits. -/
theorem dgs_dval (l : List Int) (h : D10 l) (h0 : l.getD 0 1 ≠ 0) : dgs (dval l).toNat = l := by
  induction hn : l.length generalizing l with
  | zero => rw [List.eq_nil_of_length_eq_zero hn]; simp [dval, dgs_zero]
  | succ n ih =>
    obtain ⟨r, x, rfl⟩ : ∃ r x, l = r ++ [x] := by
      have hne : l ≠ [] := by intro e; rw [e] at hn; simp at hn
      exact ⟨l.dropLast, l.getLast hne, (List.dropLast_concat_getLast hne).symm⟩
    have hr : D10 r := fun y hy => h y (by simp [hy])
    have hx := h x (by simp)
    have hb := dval_bd r hr
    rw [List.length_append, List.length_singleton] at hn
    rw [dval_app]
    cases r with
    | nil =>
      simp only [List.nil_append, List.getD_cons_zero] at h0
      have hx0 : (dval [] * 10 + x).toNat ≠ 0 := by simp only [dval]; omega
      rw [dgs_pos hx0]
      have e1 : (dval [] * 10 + x).toNat / 10 = 0 := by simp only [dval]; omega
      have e2 : (((dval [] * 10 + x).toNat % 10 : Nat) : Int) = x := by simp only [dval]; omega
      rw [e1, e2, dgs_zero]
    | cons a s =>
      have ha := hr a (by simp)
      have h0' : a ≠ 0 := by simpa using h0
      have hpos : 1 ≤ dval (a :: s) := by
        have hs := dval_bd s (fun y hy => hr y (by simp [hy]))
        have hq := ten_pos s.length
        rw [dval]
        generalize (10 : Int) ^ s.length = Q at *
        have : 1 * Q ≤ a * Q := Int.mul_le_mul_of_nonneg_right (by omega) (by omega)
        omega
      have ihr := ih (a :: s) hr (by simpa using h0') (by simpa using hn)
      have hx0 : (dval (a :: s) * 10 + x).toNat ≠ 0 := by omega
      rw [dgs_pos hx0]
      have e1 : (dval (a :: s) * 10 + x).toNat / 10 = (dval (a :: s)).toNat := by omega
      have e2 : (((dval (a :: s) * 10 + x).toNat % 10 : Nat) : Int) = x := by omega
      rw [e1, e2, ihr]

theorem lead_length (e : Int) (d : List Int) : (lead e d).length = d.length + (if e % 2 = 0 then 1 else 0) := by unfold lead; split <;> simp
theorem padE_length (l : List Int) : (padE l).length = l.length + l.length % 2 := by
  unfold padE
  by_cases h : l.length % 2 = 1
  · rw [if_pos h, List.length_append, h]; rfl
  · rw [if_neg h]; omega
end Go.Proofs.YtoachnjapfakdaaGreatDoor
