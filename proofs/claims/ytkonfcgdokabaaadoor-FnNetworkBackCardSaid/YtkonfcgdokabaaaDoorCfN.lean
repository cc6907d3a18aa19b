/- FnNetworkBack: the walk of the law. -/
import Derived.Test.YtkonfcgdokabaaaDoorCfC
import Derived.Test.YtkonfcgdokabaaaDoorCfU
import Derived.Test.YtkonfcgdokabaaaDoorCfV
namespace Go.Proofs.YtkonfcgdokabaaaDoor
open Go Go.RowKit

theorem bs_append (A B : List UInt8) : bs A ++ bs B = bs (A ++ B) := by
  apply ByteArray.ext
  simp [bs]
theorem bs_extract (L : List UInt8) (i j : Nat) : (bs L).extract i j = bs ((L.take j).drop i) := by
  apply ByteArray.ext
  simp [bs, List.extract_eq_take_drop, List.drop_take]
theorem itoa_no (n : Int) : ∀ c ∈ Lib.itoa n, c ≠ 58 := by
  have hd : ∀ u : Nat, ∀ c ∈ Lib.decDigits u, c ≠ 58 := by
    intro u
    induction u using Nat.strongRecOn with
    | ind u ih =>
      intro c hc
      rw [Lib.decDigits] at hc
      split at hc
      · rename_i h
        simp only [List.mem_singleton] at hc
        subst hc
        rcases (by omega : u = 0 ∨ u = 1 ∨ u = 2 ∨ u = 3 ∨ u = 4 ∨ u = 5 ∨ u = 6 ∨ u = 7 ∨ u = 8 ∨ u = 9) with rfl | rfl | rfl | rfl | rfl | rfl | rfl | rfl | rfl | rfl <;> decide
      · rename_i h
        rcases List.mem_append.1 hc with hc | hc
        · exact ih (u / 10) (by omega) c hc
        · simp only [List.mem_singleton] at hc
          subst hc
          generalize hr : u % 10 = r
          have : r < 10 := by omega
          rcases (by omega : r = 0 ∨ r = 1 ∨ r = 2 ∨ r = 3 ∨ r = 4 ∨ r = 5 ∨ r = 6 ∨ r = 7 ∨ r = 8 ∨ r = 9) with rfl | rfl | rfl | rfl | rfl | rfl | rfl | rfl | rfl | rfl <;> decide
  intro c hc
  unfold Lib.itoa at hc
  split at hc
  · rcases List.mem_cons.1 hc with rfl | hc
    · decide
    · exact hd _ c hc
  · exact hd _ c hc
/-- The address with its brackets. -/
def hostL (A : List UInt8) : List UInt8 := if 0 ≤ firstIdx (bs A) 58 then 91 :: (A ++ [93]) else A
theorem joinS_bs (A D : List UInt8) : joinS (bs A) (bs D) = bs (hostL A ++ 58 :: D) := by
  unfold joinS hostL
  split
  · have e1 : (⟨#[91]⟩ : ByteArray) = bs [91] := rfl
    have e2 : (⟨#[93, 58]⟩ : ByteArray) = bs [93, 58] := rfl
    rw [e1, e2, bs_append, bs_append, bs_append]
    simp
  · have e1 : (⟨#[58]⟩ : ByteArray) = bs [58] := rfl
    rw [e1, bs_append, bs_append]
    simp
theorem hostL_len (A : List UInt8) : hostL A = A ∨ (hostL A = 91 :: (A ++ [93])) := by
  unfold hostL
  split
  · exact .inr rfl
  · exact .inl rfl
theorem bs_eq (A B : List UInt8) : ((bs A).toList == (bs B).toList) = decide (A = B) := arr_eq A B
theorem bs_get (T : List UInt8) (k : Nat) (h : k < (bs T).size) (h' : k < T.length) : (bs T)[k]'h = T[k]'h' := by
  show (bs T).data[k]'h = T[k]
  simp [bs]
theorem net_get (M D : List UInt8) (hD : ∀ c ∈ D, c ≠ 58) (k : Nat) (h : k < (bs (M ++ 58 :: D)).size) : (M.length < k → (((bs (M ++ 58 :: D))[k]'h).toNat : Int) ≠ 58) ∧ (k = M.length → (((bs (M ++ 58 :: D))[k]'h).toNat : Int) = 58) := by
  have h' : k < (M ++ 58 :: D).length := by rwa [bs_size] at h
  rw [bs_get _ _ h h']
  refine ⟨fun hk => ?_, fun hk => ?_⟩
  · rw [List.getElem_append_right (by omega)]
    obtain ⟨j, hj⟩ : ∃ j, k - M.length = j + 1 := ⟨k - M.length - 1, by omega⟩
    simp only [hj, List.getElem_cons_succ]
    have hjd : j < D.length := by simp at h'; omega
    have := hD _ (List.getElem_mem hjd)
    intro e
    apply this
    have e : D[j].toNat = 58 := by omega
    exact UInt8.toNat_inj.1 e
  · subst hk
    rw [List.getElem_append_right (Nat.le_refl _)]
    simp
theorem bs_extract' (T : List UInt8) (i j : Nat) (R : List UInt8) (h : (T.take j).drop i = R) : (bs T).extract i j = bs R := by
  rw [bs_extract, h]
/-- What the law reads of the text of an address and a port. -/
theorem net_parts (M D L : List UInt8) (m : Nat) (hm : M.length = m) (hh : M = L ∨ M = 91 :: (L ++ [93])) (X : ByteArray) (hX : bs (M ++ 58 :: D) = X) :
    X.extract (m + 1) X.size = bs D ∧ (X.extract 0 m = bs L ∨ ∃ Z : ByteArray, X.extract 0 m = Z ∧ (Z.toList == (bs L).toList) = false ∧ Z.size = m ∧ 2 ≤ m ∧ Z.extract 1 (m - 1) = bs L) := by
  subst hX
  subst hm
  have e0 : (bs (M ++ 58 :: D)).extract 0 M.length = bs M := bs_extract' _ _ _ _ (by simp)
  refine ⟨bs_extract' _ _ _ _ (by rw [bs_size, List.take_length, List.drop_append]; simp), ?_⟩
  rcases hh with rfl | rfl
  · exact .inl e0
  · refine .inr ⟨_, e0, ?_, by rw [bs_size], by simp, bs_extract' _ _ _ _ (by simp)⟩
    rw [bs_eq]
    simp only [decide_eq_false_iff_not]
    intro e
    have := congrArg List.length e
    simp at this
    omega
end Go.Proofs.YtkonfcgdokabaaaDoor
