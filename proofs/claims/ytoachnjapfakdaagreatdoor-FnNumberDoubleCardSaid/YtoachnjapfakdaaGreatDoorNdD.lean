/- The shortest digits of a whole number below two to the power of 53: the bounds in plain words. -/
import Derived.Test.YtoachnjapfakdaaGreatDoorNdC
namespace Go.Proofs.YtoachnjapfakdaaGreatDoor
open Go Go.RowKit

theorem tabK : ∀ k : Fin 53, pK k ≤ 16 ∧ 2 ^ k.val ≤ 10 ^ pK k ∧ 10 ^ pK k < 10 * 2 ^ k.val ∧ k.val ≤ lp (pK k) ∧ lp (pK k) ≤ k.val + 8 ∧ (pK k = 0 → k.val = 0) := by decide +kernel
theorem tabS : ∀ k : Fin 53, pS k ≤ 16 ∧ 1 ≤ pS k ∧ 2 ^ k.val < 10 ^ pS k ∧ 10 ^ pS k < 14 * 2 ^ k.val ∧ k.val ≤ lp (pS k) ∧ lp (pS k) ≤ k.val + 8 := by decide +kernel
theorem tabP : ∀ p : Fin 17, lp p ≤ 53 ∧ 0 < pmT p ∧ pmT p < 18446744073709551616 := by decide +kernel

theorem unr_mul {X D c : Nat} (hc : 0 < c) : unr (X * c) (D * c) = unr X D := by
  unfold unr
  rw [Nat.mul_mod_mul_right, Nat.mul_div_mul_right _ _ hc]
  by_cases h : X % D = 0
  · rw [h, Nat.zero_mul]
  · rw [if_neg h, if_neg (fun h0 => h (by rcases Nat.mul_eq_zero.1 h0 with h0 | h0 <;> omega))]
theorem unr_le (X D : Nat) : X / D ≤ unr X D ∧ unr X D ≤ X / D + 1 := by unfold unr; split <;> omega
theorem unr_one (X : Nat) : unr X 1 = X := by unfold unr; rw [Nat.mod_one, if_pos rfl, Nat.div_one]

theorem scale_eq (z k p : Nat) (hp : p ≤ 16) (h1 : k ≤ lp p) (h2 : lp p ≤ k + 8) :
    unr (z * 512 * pmT p) (18446744073709551616 * 2 ^ (k + 8 - lp p)) = unr (z * 10 ^ p) (2 ^ k) := by
  obtain ⟨h3, _, _⟩ := tabP ⟨p, by omega⟩
  simp only at h3
  have hc : 0 < 2 ^ (72 - lp p) := Nat.two_pow_pos _
  rw [← unr_mul (X := z * 10 ^ p) hc]
  congr 1
  · unfold pmT
    rw [show (512 : Nat) = 2 ^ 9 from by decide, Nat.mul_assoc, Nat.mul_left_comm (2 ^ 9), ← Nat.pow_add, show 9 + (63 - lp p) = 72 - lp p from by omega, Nat.mul_assoc]
  · rw [show (18446744073709551616 : Nat) = 2 ^ 64 from by decide, ← Nat.pow_add, ← Nat.pow_add, show 64 + (k + 8 - lp p) = k + (72 - lp p) from by omega]
theorem scale_mid (z p : Nat) : z * 512 * pmT p % 18446744073709551616 ≠ 1 := by
  rw [Nat.mul_assoc, Nat.mul_left_comm]
  omega

/-- The upper bound: at least the number, less than ten more. -/
theorem upper {N K T : Nat} (hK : 0 < K) (h1 : K ≤ T) (h2 : T < 14 * K) (o : Nat) (ho : o ≤ 1) :
    N * T ≤ (unr ((4 * (N * K) + 2) * T) K - o) / 4 ∧ (unr ((4 * (N * K) + 2) * T) K - o) / 4 < N * T + 10 := by
  obtain ⟨a1, a2⟩ := unr_le ((4 * (N * K) + 2) * T) K
  have e : (4 * (N * K) + 2) * T = 4 * (N * T) * K + 2 * T := by
    rw [Nat.add_mul, Nat.mul_assoc 4, Nat.mul_assoc 4, Nat.mul_assoc N, Nat.mul_assoc N, Nat.mul_comm K T]
  have b1 : 4 * (N * T) + 2 ≤ (4 * (N * K) + 2) * T / K := by
    rw [Nat.le_div_iff_mul_le hK, e, Nat.add_mul]; omega
  have b2 : (4 * (N * K) + 2) * T / K < 4 * (N * T) + 28 := by
    rw [Nat.div_lt_iff_lt_mul hK, e, Nat.add_mul]; omega
  generalize (4 * (N * K) + 2) * T / K = A at *
  generalize unr ((4 * (N * K) + 2) * T) K = U at *
  generalize N * T = NT at *
  omega
theorem lower {N K T r : Nat} (hN : 0 < N) (hK : 0 < K) (h1 : K < r * T) (hr : r ≤ 2) (o : Nat) (ho : o ≤ 1) :
    (unr ((4 * (N * K) - r) * T) K + o + 3) / 4 ≤ N * T := by
  obtain ⟨a1, a2⟩ := unr_le ((4 * (N * K) - r) * T) K
  have e : (4 * (N * K) - r) * T = 4 * (N * T) * K - r * T := by
    rw [Nat.sub_mul, Nat.mul_assoc 4, Nat.mul_assoc 4, Nat.mul_assoc N, Nat.mul_assoc N, Nat.mul_comm K T]
  have hT : 0 < T := by
    rcases Nat.eq_zero_or_pos T with h | h
    · subst h; omega
    · exact h
  have hNT : 0 < N * T := Nat.mul_pos hN hT
  have b2 : (4 * (N * K) - r) * T / K < 4 * (N * T) - 1 := by
    rw [Nat.div_lt_iff_lt_mul hK, e, Nat.sub_mul]
    have : 4 * K ≤ 4 * (N * T) * K := Nat.mul_le_mul_right _ (by omega)
    omega
  generalize (4 * (N * K) - r) * T / K = A at *
  generalize unr ((4 * (N * K) - r) * T) K = U at *
  generalize N * T = NT at *
  omega

/-- What the shortest digits d at the place P of the number N are. -/
def Dsp (N : Nat) (d : Nat) (P : Int) : Prop := d < 1000000000000000000 ∧ ((∃ j : Nat, j ≤ 16 ∧ d = N * 10 ^ j ∧ P = -(j : Int)) ∨ (d * 10 = N ∧ P = 1))

/-- The digits that are taken. -/
theorem digits_of {N p dmin dmax : Nat} (hp : p ≤ 16) (h1 : dmin ≤ N * 10 ^ p) (h2 : N * 10 ^ p ≤ dmax) (h3 : dmax < N * 10 ^ p + 10) (h0 : p = 0 → dmax = N ∧ dmin = N) (hb : dmax < 1000000000000000000) :
    (dmin ≤ dmax / 10 * 10 ∧ Dsp N (dmax / 10) (-((p : Int) - 1))) ∨ (¬ dmin ≤ dmax / 10 * 10 ∧ dmax = dmin ∧ Dsp N dmin (-(p : Int))) := by
  rcases Nat.eq_zero_or_pos p with h | h
  · obtain ⟨rfl, e2⟩ := h0 h
    subst h
    subst e2
    by_cases hd : dmin ≤ dmin / 10 * 10
    · exact .inl ⟨hd, by omega, .inr ⟨by omega, by omega⟩⟩
    · exact .inr ⟨hd, rfl, by omega, .inl ⟨0, by omega, by omega, by omega⟩⟩
  · obtain ⟨j, rfl⟩ : ∃ j, p = j + 1 := ⟨p - 1, by omega⟩
    rw [Nat.pow_succ, ← Nat.mul_assoc] at h1 h2 h3
    have hd : dmax / 10 = N * 10 ^ j := by omega
    exact .inl ⟨by rw [hd]; exact h1, by omega, .inl ⟨j, by omega, hd, by omega⟩⟩
end Go.Proofs.YtoachnjapfakdaaGreatDoor
