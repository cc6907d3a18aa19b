/- The order of the forms of integers. -/
import Derived.Test.YtoachnjapfakdaaGreatDoorNmR
namespace Go.Proofs.YtoachnjapfakdaaGreatDoor
open Go

theorem d100_length (u : Nat) : (d100 u).length = ((letters u).length + 1) / 2 := by
  rw [← pairs_letters, pairs_length]
  unfold evenL
  split
  · simp only [List.length_cons]; omega
  · omega
theorem d100_head (u : Nat) (h : 1 ≤ u) : (100 : Int) ^ ((d100 u).length - 1) ≤ u := by
  induction u using Nat.strongRecOn with
  | _ u ih =>
    by_cases h1 : u < 100
    · rw [d100_lt h1]; simp; omega
    · have := ih (u / 100) (by omega) (by omega)
      rw [d100_ge h1, List.length_append, List.length_singleton]
      have hl : 1 ≤ (d100 (u / 100)).length := by
        rw [d100_length]; have := letters_pos (u / 100); omega
      obtain ⟨k, hk⟩ : ∃ k, (d100 (u / 100)).length = k + 1 := ⟨(d100 (u / 100)).length - 1, by omega⟩
      rw [hk] at this ⊢
      simp only [Nat.add_sub_cancel] at this ⊢
      rw [Int.pow_succ]
      omega

/-- The two forms of a number that is not nought. -/
theorem forms (u : Nat) (h : 1 ≤ u) (hu : u ≤ 9223372036854775808) : ∃ (P : List Int) (j : Nat), intForm false u = (((d100 u).length : Int) + 192) :: P.map (digB false) ∧ intForm true u = (63 - ((d100 u).length : Int)) :: (P.map (digB true) ++ [102]) ∧
    d100 u = ext P j ∧ P ≠ [] ∧ Ends P ∧ D100 P := by
  obtain ⟨P, j, hP, hd, hne, hl⟩ := form_digits u h
  have hm := mant_le ((letters u).length - 1) (strip (letters u))
  have hs := strip_le (letters u)
  have hll := letters_le u hu
  have hpos := letters_pos u
  refine ⟨P, j, ?_, ?_, hd, hne, .inr hl, fun x hx => (d100_val u).2 x (by rw [hd]; simp [hx])⟩
  · unfold intForm numForm
    rw [if_neg (strip_ne h), hP, if_neg (by simp), List.append_nil, d100_length]
    congr 1
    simp [headB]; omega
  · unfold intForm numForm
    rw [if_neg (strip_ne h), hP, if_pos ⟨rfl, by omega⟩, d100_length]
    congr 1
    simp [headB]; omega
theorem form_zero (neg : Bool) : intForm neg 0 = [128] := by
  unfold intForm
  rw [letters_lt (by omega)]
  rfl

/-- The form of an integer. -/
def formOf (n : Int) : List Int := intForm (decide (n < 0)) n.natAbs

theorem cmp_head {a b : Int} (xs ys : List Int) (h : a ≠ b) : cmpI (a :: xs) (b :: ys) = sgn a b := by
  simp only [cmpI, sgn]
  by_cases h1 : a < b
  · rw [if_pos h1, if_pos h1]
  · rw [if_neg h1, if_pos (by omega), if_neg h1, if_pos (by omega)]
theorem cmp_same (a : Int) (xs ys : List Int) : cmpI (a :: xs) (a :: ys) = cmpI xs ys := by
  simp [cmpI]
theorem pow_mono {a b : Nat} (h : a ≤ b) : (100 : Int) ^ a ≤ 100 ^ b := by
  obtain ⟨k, rfl⟩ : ∃ k, b = a + k := ⟨b - a, by omega⟩
  rw [Int.pow_add]
  have h1 := pow_pos' a
  have h2 := pow_pos' k
  have := Int.mul_le_mul_of_nonneg_left (show (1 : Int) ≤ 100 ^ k by omega) (Int.le_of_lt h1)
  rw [Int.mul_one] at this
  exact this
theorem len_lt {u v : Nat} (hv : 1 ≤ v) (h : (d100 u).length < (d100 v).length) : u < v := by
  have h1 := d100_head v hv
  have h2 := (val_bd (d100 u) (d100_val u).2).2
  rw [(d100_val u).1] at h2
  have h3 : (100 : Int) ^ (d100 u).length ≤ 100 ^ ((d100 v).length - 1) := pow_mono (by omega)
  omega
end Go.Proofs.YtoachnjapfakdaaGreatDoor
