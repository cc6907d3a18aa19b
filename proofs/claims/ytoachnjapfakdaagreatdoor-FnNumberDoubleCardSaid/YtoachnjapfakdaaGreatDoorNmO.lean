/- The form of an integer by its digits to the base 100. -/
import Derived.Test.YtoachnjapfakdaaGreatDoorNmNeg
namespace Go.Proofs.YtoachnjapfakdaaGreatDoor
open Go

/-- The digits to the base 100, the most significant one first. -/
def d100 (u : Nat) : List Int := if h : u < 100 then [(u : Int)] else d100 (u / 100) ++ [((u % 100 : Nat) : Int)]
termination_by u
decreasing_by omega
theorem d100_lt {u : Nat} (h : u < 100) : d100 u = [(u : Int)] := by rw [d100, dif_pos h]
theorem d100_ge {u : Nat} (h : ¬ u < 100) : d100 u = d100 (u / 100) ++ [((u % 100 : Nat) : Int)] := by rw [d100, dif_neg h]

/-- The letters, an even number of them. -/
def evenL (l : List Int) : List Int := if l.length % 2 = 1 then 48 :: l else l
theorem evenL_even (l : List Int) : (evenL l).length % 2 = 0 := by
  unfold evenL
  split
  · simp only [List.length_cons]; omega
  · omega

theorem pairs_append : ∀ (a b : List Int), a.length % 2 = 0 → pairs (a ++ b) = pairs a ++ pairs b
  | [], b, _ => by simp [pairs]
  | [x], b, h => by simp at h
  | x :: y :: r, b, h => by
    rw [List.cons_append, List.cons_append, pairs, pairs, pairs_append r b (by simp only [List.length_cons] at h; omega), List.cons_append]

theorem letters_two {u : Nat} (h : ¬ u < 100) : letters u = letters (u / 100) ++ [48 + ((u / 10 % 10 : Nat) : Int), 48 + ((u % 10 : Nat) : Int)] := by
  rw [letters_ge (u := u) (by omega), letters_ge (u := u / 10) (by omega), Nat.div_div_eq_div_mul, List.append_assoc]
  rfl

theorem evenL_append (a b : List Int) (h : b.length % 2 = 0) : evenL (a ++ b) = evenL a ++ b := by
  unfold evenL
  rw [List.length_append]
  by_cases ha : a.length % 2 = 1
  · rw [if_pos (by omega), if_pos ha]; rfl
  · rw [if_neg (by omega), if_neg ha]

theorem pairs_letters (u : Nat) : pairs (evenL (letters u)) = d100 u := by
  induction u using Nat.strongRecOn with
  | _ u ih =>
    by_cases h : u < 100
    · rw [d100_lt h]
      by_cases h1 : u < 10
      · rw [letters_lt h1]; simp [evenL, pairs]; omega
      · rw [letters_ge h1, letters_lt (by omega)]
        simp [evenL, pairs]; omega
    · rw [letters_two h, evenL_append _ _ (by simp), pairs_append _ _ (evenL_even _), ih (u / 100) (by omega), d100_ge h]
      congr 1
      simp [pairs]; omega

theorem pairs_noughts : ∀ (x : List Int) (k : Nat), (x.length + k) % 2 = 0 → pairs (x ++ List.replicate k 48) = pairs x ++ List.replicate (k / 2) 0
  | [], 0, _ => by simp [pairs]
  | [], 1, h => by simp at h
  | [], k + 2, h => by
    have := pairs_noughts [] k (by simp at h ⊢; omega)
    rw [List.nil_append] at this
    rw [List.nil_append, List.replicate_succ, List.replicate_succ, pairs, this, show (k + 2) / 2 = k / 2 + 1 by omega, List.replicate_succ]
    simp [pairs]
  | [a], 0, h => by simp at h
  | [a], k + 1, h => by
    have := pairs_noughts [] k (by simp at h ⊢; omega)
    rw [List.nil_append] at this
    rw [List.replicate_succ, List.cons_append, List.nil_append, pairs, this, show (k + 1) / 2 = k / 2 by simp at h; omega]
    simp [pairs]
  | a :: b :: r, k, h => by
    rw [List.cons_append, List.cons_append, pairs, pairs, pairs_noughts r k (by simp only [List.length_cons] at h; omega), List.cons_append]

theorem strip_split (l : List Int) : ∃ k, l = strip l ++ List.replicate k 48 ∧ (strip l = [] ∨ (strip l).getLast? ≠ some 48) := by
  unfold strip
  have key : ∀ r : List Int, ∃ k, r = List.replicate k 48 ++ r.dropWhile (· == 48) ∧ (r.dropWhile (· == 48) = [] ∨ (r.dropWhile (· == 48)).head? ≠ some 48) := by
    intro r
    induction r with
    | nil => exact ⟨0, by simp, .inl rfl⟩
    | cons a r ih =>
      by_cases ha : a = 48
      · subst ha
        obtain ⟨k, h1, h2⟩ := ih
        rw [List.dropWhile_cons_of_pos (by simp)]
        exact ⟨k + 1, by rw [List.replicate_succ, List.cons_append, ← h1], h2⟩
      · rw [List.dropWhile_cons_of_neg (by simpa using ha)]
        exact ⟨0, by simp, .inr (by simpa using ha)⟩
  obtain ⟨k, h1, h2⟩ := key l.reverse
  refine ⟨k, ?_, ?_⟩
  · have := congrArg List.reverse h1
    rw [List.reverse_reverse, List.reverse_append, List.reverse_replicate] at this
    exact this
  · rcases h2 with h2 | h2
    · exact .inl (by rw [h2]; rfl)
    · exact .inr (by rw [List.getLast?_reverse]; exact h2)

theorem pairs_nil {x : List Int} (h : pairs x = []) : x = [] := by
  have := pairs_length x
  rw [h] at this
  exact List.eq_nil_of_length_eq_zero (by simp at this; omega)
theorem pairs_last : ∀ (x : List Int), Dig x → x.getLast? ≠ some 48 → (pairs x).getLast? ≠ some 0
  | [], _, _ => by simp [pairs]
  | [a], hd, h => by simp [pairs] at h ⊢; omega
  | [a, b], hd, h => by
    have ha := hd a (by simp)
    have hb := hd b (by simp)
    simp [pairs] at h ⊢; omega
  | a :: b :: c :: r, hd, h => by
    have ih := pairs_last (c :: r) (fun y hy => hd y (List.mem_cons_of_mem _ (List.mem_cons_of_mem _ hy))) (by simpa using h)
    rw [pairs]
    cases e : pairs (c :: r) with
    | nil => exact absurd (pairs_nil e) (by simp)
    | cons p q => rw [e] at ih; simpa using ih

/-- The pairs of a form: the digits to the base 100 without the noughts at the end. -/
theorem form_digits (u : Nat) (h : 1 ≤ u) : ∃ (P : List Int) (j : Nat), pairs (mant (((letters u).length : Int) - 1) (strip (letters u))) = P ∧ d100 u = P ++ List.replicate j 0 ∧ P ≠ [] ∧ P.getLast? ≠ some 0 := by
  obtain ⟨k, h1, h2⟩ := strip_split (letters u)
  have hne := strip_ne h
  have hlast : (strip (letters u)).getLast? ≠ some 48 := h2.resolve_left hne
  have hdig : Dig (strip (letters u)) := fun x hx => letters_dig u x (by rw [h1]; simp [hx])
  have hpos := letters_pos u
  obtain ⟨S, hS⟩ : ∃ S, strip (letters u) = S := ⟨_, rfl⟩
  rw [hS] at h1 hne hlast hdig ⊢
  obtain ⟨mm, hmm⟩ : ∃ mm, mant (((letters u).length : Int) - 1) S = mm := ⟨_, rfl⟩
  have hev : evenL (letters u) = mm ++ List.replicate k 48 := by
    rw [← hmm]
    unfold evenL mant
    by_cases hD : (letters u).length % 2 = 1
    · rw [if_pos hD, if_pos (by omega), List.cons_append, ← h1]
    · rw [if_neg hD, if_neg (by omega), ← h1]
  have hpar : (mm.length + k) % 2 = 0 := by
    have := evenL_even (letters u)
    rw [hev] at this
    simpa using this
  have hmd : Dig mm := by
    rw [← hmm]; unfold mant
    split
    · intro x hx
      rcases List.mem_cons.1 hx with rfl | hx
      · omega
      · exact hdig x hx
    · exact hdig
  have hml : mm.getLast? ≠ some 48 := by
    rw [← hmm]; unfold mant
    split
    · rw [List.getLast?_cons]
      cases e : S.getLast? with
      | none => exact absurd (List.getLast?_eq_none_iff.1 e) hne
      | some z => rw [e] at hlast; simpa using hlast
    · exact hlast
  have hmne : mm ≠ [] := by
    rw [← hmm]; unfold mant
    split
    · simp
    · exact hne
  rw [hmm]
  exact ⟨_, k / 2, rfl, by rw [← pairs_letters, hev, pairs_noughts _ _ hpar], fun e => hmne (pairs_nil e), pairs_last mm hmd hml⟩
end Go.Proofs.YtoachnjapfakdaaGreatDoor
