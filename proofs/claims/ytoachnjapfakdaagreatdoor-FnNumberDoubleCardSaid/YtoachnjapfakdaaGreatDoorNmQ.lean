/- The order of the forms of integers, in plain words. -/
import Derived.Test.YtoachnjapfakdaaGreatDoorNmO
import Derived.Lib.Bytealg
namespace Go.Proofs.YtoachnjapfakdaaGreatDoor
open Go

/-- Two rows of numbers, compared place by place. -/
def cmpI : List Int → List Int → Int
  | [], [] => 0
  | [], _ :: _ => -1
  | _ :: _, [] => 1
  | a :: ar, b :: br => if a < b then -1 else if b < a then 1 else cmpI ar br

theorem compareBytes_cmpI : ∀ (xs ys : List Int), Byt xs → Byt ys → Lib.compareBytes (Lib.bytesOf xs) (Lib.bytesOf ys) = cmpI xs ys
  | [], [], _, _ => rfl
  | [], _ :: _, _, _ => rfl
  | _ :: _, [], _, _ => rfl
  | a :: ar, b :: br, hx, hy => by
    have ha := hx a (by simp)
    have hb := hy b (by simp)
    have ih := compareBytes_cmpI ar br (fun z hz => hx z (by simp [hz])) (fun z hz => hy z (by simp [hz]))
    have key : ∀ p q : Int, 0 ≤ p ∧ p < 256 → 0 ≤ q ∧ q < 256 → ((UInt8.ofNat p.toNat < UInt8.ofNat q.toNat) ↔ p < q) := by
      intro p q hp hq
      rw [UInt8.lt_iff_toNat_lt, UInt8.toNat_ofNat', UInt8.toNat_ofNat']
      omega
    simp only [Lib.bytesOf, List.map_cons, Lib.compareBytes, cmpI] at ih ⊢
    rw [ih]
    by_cases h1 : a < b
    · rw [if_pos h1, if_pos ((key a b ha hb).2 h1)]
    · rw [if_neg h1, if_neg (fun h => h1 ((key a b ha hb).1 h))]
      by_cases h2 : b < a
      · rw [if_pos h2, if_pos ((key b a hb ha).2 h2)]
      · rw [if_neg h2, if_neg (fun h => h2 ((key b a hb ha).1 h))]

/-- What digits to the base 100 spell. -/
def val : List Int → Int
  | [] => 0
  | p :: r => p * 100 ^ r.length + val r

def D100 (l : List Int) : Prop := ∀ x ∈ l, 0 ≤ x ∧ x ≤ 99
theorem pow_pos' (n : Nat) : (0 : Int) < 100 ^ n := Int.pow_pos (by omega)
theorem val_bd : ∀ (l : List Int), D100 l → 0 ≤ val l ∧ val l < 100 ^ l.length
  | [], _ => by simp [val]
  | p :: r, h => by
    have hp := h p (by simp)
    have ih := val_bd r (fun x hx => h x (by simp [hx]))
    have hq := pow_pos' r.length
    rw [val, List.length_cons, Int.pow_succ]
    generalize (100 : Int) ^ r.length = Q at *
    have h1 : 0 ≤ p * Q := Int.mul_nonneg hp.1 (by omega)
    have h2 : p * Q ≤ 99 * Q := Int.mul_le_mul_of_nonneg_right hp.2 (by omega)
    constructor <;> omega
theorem val_append (a : List Int) (x : Int) : val (a ++ [x]) = val a * 100 + x := by
  induction a with
  | nil => simp [val]
  | cons p r ih =>
    rw [List.cons_append, val, val, ih, List.length_append, List.length_singleton, Int.pow_succ, Int.add_mul]
    rw [← Int.mul_assoc]
    omega
theorem val_zeros (j : Nat) : val (List.replicate j 0) = 0 := by
  induction j with
  | zero => rfl
  | succ j ih => rw [List.replicate_succ, val, ih]; simp
theorem d100_val (u : Nat) : val (d100 u) = u ∧ D100 (d100 u) := by
  induction u using Nat.strongRecOn with
  | _ u ih =>
    by_cases h : u < 100
    · rw [d100_lt h]
      exact ⟨by simp [val], fun x hx => by have := List.mem_singleton.1 hx; omega⟩
    · obtain ⟨h1, h2⟩ := ih (u / 100) (by omega)
      rw [d100_ge h, val_append, h1]
      refine ⟨by omega, fun x hx => ?_⟩
      rcases List.mem_append.1 hx with hx | hx
      · exact h2 x hx
      · have := List.mem_singleton.1 hx
        omega
end Go.Proofs.YtoachnjapfakdaaGreatDoor
