/- The forms of an integer and of its negative. -/
import Derived.Test.YtoachnjapfakdaaGreatDoorNmG
import Derived.BigQuiet
namespace Go.Proofs.YtoachnjapfakdaaGreatDoor
open Go Go.RowKit

theorem letters_some (u : Nat) (h : 1 ≤ u) : ∃ x ∈ letters u, x ≠ 48 := by
  induction u using Nat.strongRecOn with
  | _ n ih =>
    by_cases h1 : n < 10
    · rw [letters_lt h1]; exact ⟨48 + (n : Int), by simp, by omega⟩
    · obtain ⟨x, hx, hne⟩ := ih (n / 10) (by omega) (by omega)
      rw [letters_ge h1]
      exact ⟨x, by simp [hx], hne⟩
theorem dropWhile_nil {l : List Int} (h : l.dropWhile (· == 48) = []) : ∀ x ∈ l, x = 48 := by
  induction l with
  | nil => intro x hx; cases hx
  | cons a r ih =>
    by_cases ha : a = 48
    · subst ha
      rw [List.dropWhile_cons_of_pos (by simp)] at h
      intro x hx
      rcases List.mem_cons.1 hx with rfl | hx
      · rfl
      · exact ih h x hx
    · rw [List.dropWhile_cons_of_neg (by simpa using ha)] at h
      cases h
theorem strip_ne {u : Nat} (h : 1 ≤ u) : strip (letters u) ≠ [] := by
  intro e
  obtain ⟨x, hx, hne⟩ := letters_some u h
  unfold strip at e
  rw [List.reverse_eq_nil_iff] at e
  exact hne (dropWhile_nil e x (by simpa using hx))
theorem strip_le (l : List Int) : (strip l).length ≤ l.length := by
  unfold strip
  rw [List.length_reverse]
  have := (List.dropWhile_sublist (fun x : Int => x == 48) (l := l.reverse)).length_le
  simpa using this
theorem mant_le (e : Int) (ms : List Int) : (mant e ms).length ≤ ms.length + 1 := by unfold mant; split <;> simp

/-- The two forms of a number and of its negative, side by side. -/
theorem forms_opposed (u : Nat) (h : 1 ≤ u) (hu : u ≤ 9223372036854775807) : ∃ (N : Nat) (A B : List Int), intForm false u = A ∧ intForm true u = B ∧ A.length = N ∧ B.length = N + 1 ∧ 1 ≤ N ∧ N ≤ 100 ∧
    A.getD 0 0 + B.getD 0 0 = 255 ∧ B.getD N 0 = 102 ∧ ∀ i, 1 ≤ i → i < N → A.getD i 0 + B.getD i 0 = 102 := by
  unfold intForm
  rw [if_neg (strip_ne h), if_neg (strip_ne h)]
  have hs := strip_le (letters u)
  have hl := letters_le u (by omega)
  have hm := mant_le ((letters u).length - 1) (strip (letters u))
  unfold numForm
  rw [if_neg (by simp), if_pos ⟨rfl, by omega⟩]
  generalize hP : pairs (mant ((letters u).length - 1) (strip (letters u))) = P
  have hPl := pairs_length (mant ((letters u).length - 1) (strip (letters u)))
  rw [hP] at hPl
  generalize ((letters u).length : Int) - 1 = e
  refine ⟨P.length + 1, _, _, rfl, rfl, by simp, by simp, by omega, by omega, ?_, ?_, ?_⟩
  · simp [headB]; omega
  · simp [List.getD_eq_getElem?_getD]
  · intro i h1 h2
    obtain ⟨k, rfl⟩ : ∃ k, i = k + 1 := ⟨i - 1, by omega⟩
    have hk : k < P.length := by omega
    simp only [List.getD_cons_succ, List.append_nil]
    rw [List.getD_eq_getElem?_getD, List.getD_eq_getElem?_getD, List.getElem?_append_left (by simpa using hk)]
    simp [List.getElem?_eq_getElem hk, digB]
    omega
end Go.Proofs.YtoachnjapfakdaaGreatDoor
