/- The escapes of a path's part, in plain words. -/
import Derived.Test.YtpadpdmidiaeoaaGreatDoorUrS
namespace Go.Proofs.YtpadpdmidiaeoaaGreatDoor
open Go Go.RowKit

/-- A byte that a path's part lets be. -/
def freeB (c : Nat) : Bool := (48 ≤ c && c ≤ 57) || (65 ≤ c && c ≤ 90) || (97 ≤ c && c ≤ 122) || c == 45 || c == 95 || c == 46 || c == 126 || c == 36 || c == 38 || c == 43 || c == 61 || c == 58 || c == 64
/-- A digit to the base of sixteen. -/
def hexB (n : Nat) : UInt8 := ([48, 49, 50, 51, 52, 53, 54, 55, 56, 57, 65, 66, 67, 68, 69, 70] : List UInt8).getD n 0
/-- The escape of a byte, and of bytes. -/
def esc1 (b : UInt8) : List UInt8 := if freeB b.toNat then [b] else [37, hexB (b.toNat / 16), hexB (b.toNat % 16)]
def esc : List UInt8 → List UInt8
  | [] => []
  | b :: L => esc1 b ++ esc L
theorem esc_append (A B : List UInt8) : esc (A ++ B) = esc A ++ esc B := by
  induction A with
  | nil => rfl
  | cons a A ih => rw [List.cons_append, esc, ih, esc, List.append_assoc]
/-- How many bytes are escaped. -/
def cntE : List UInt8 → Nat
  | [] => 0
  | b :: L => (if freeB b.toNat then 0 else 1) + cntE L
theorem cntE_append (A B : List UInt8) : cntE (A ++ B) = cntE A + cntE B := by
  induction A with
  | nil => simp [cntE]
  | cons a A ih => rw [List.cons_append, cntE, ih, cntE, Nat.add_assoc]
theorem esc1_len (b : UInt8) : (esc1 b).length = 1 + 2 * (if freeB b.toNat then 0 else 1) := by
  unfold esc1; split <;> rfl
theorem esc_len (L : List UInt8) : (esc L).length = L.length + 2 * cntE L := by
  induction L with
  | nil => rfl
  | cons b L ih => rw [esc, List.length_append, ih, esc1_len, List.length_cons, cntE]; omega
theorem cntE_le (L : List UInt8) : cntE L ≤ L.length := by
  induction L with
  | nil => exact Nat.le_refl _
  | cons b L ih => rw [cntE, List.length_cons]; split <;> omega
theorem esc_none (L : List UInt8) (h : cntE L = 0) : esc L = L := by
  induction L with
  | nil => rfl
  | cons b L ih =>
    rw [cntE] at h
    by_cases hf : freeB b.toNat = true
    · rw [if_pos hf] at h
      rw [esc, ih (by omega), esc1, if_pos hf]; rfl
    · rw [if_neg hf] at h; omega
theorem cntE_take (L : List UInt8) (k : Nat) (h : k < L.length) : cntE (L.take (k + 1)) = cntE (L.take k) + (if freeB L[k].toNat then 0 else 1) := by
  rw [List.take_succ_eq_append_getElem h, cntE_append]; simp [cntE]
theorem esc_take (L : List UInt8) (k : Nat) (h : k < L.length) : esc (L.take (k + 1)) = esc (L.take k) ++ esc1 L[k] := by
  rw [List.take_succ_eq_append_getElem h, esc_append]; simp [esc]
theorem esc_drop (L : List UInt8) (k : Nat) (h : k < L.length) : esc L = esc (L.take k) ++ (esc1 L[k] ++ esc (L.drop (k + 1))) := by
  conv => lhs; rw [← List.take_append_drop k L, esc_append, List.drop_eq_getElem_cons h, esc]
theorem nums_append (A B : List UInt8) : nums (A ++ B) = nums A ++ nums B := by simp [nums]
/-- The row that is written: the escapes of the first k bytes, and zeros. -/
def escRow (L : List UInt8) (k : Nat) : List Int := nums (esc (L.take k)) ++ List.replicate ((esc L).length - (esc (L.take k)).length) 0
theorem escRow_zero (L : List UInt8) : escRow L 0 = List.replicate (esc L).length 0 := by simp [escRow, esc, nums]
theorem esc_take_le (L : List UInt8) (k : Nat) : (esc (L.take k)).length ≤ (esc L).length := by
  conv => rhs; rw [← List.take_append_drop k L, esc_append, List.length_append]
  omega
theorem escRow_len (L : List UInt8) (k : Nat) : (escRow L k).length = (esc L).length := by
  have := esc_take_le L k
  simp [escRow, nums_length]; omega
theorem escRow_all (L : List UInt8) (k : Nat) (h : k = L.length) : escRow L k = nums (esc L) := by subst h; simp [escRow]
theorem set_mid (A : List Int) (m : Nat) (z : Int) (h : 0 < m) : (A ++ List.replicate m 0).set A.length z = (A ++ [z]) ++ List.replicate (m - 1) 0 := by
  obtain ⟨k, rfl⟩ : ∃ k, m = k + 1 := ⟨m - 1, by omega⟩
  rw [List.set_append_right _ _ (Nat.le_refl _)]
  simp [List.replicate_succ]
theorem escRow_free (L : List UInt8) (k : Nat) (h : k < L.length) (hf : freeB L[k].toNat = true) :
    escRow L (k + 1) = (escRow L k).set (esc (L.take k)).length (L[k].toNat : Int) ∧ (esc (L.take (k + 1))).length = (esc (L.take k)).length + 1 ∧ (esc (L.take k)).length + 1 ≤ (esc L).length := by
  have h1 := esc_take_le L (k + 1)
  have e := esc_take L k h
  have e1 : esc1 L[k] = [L[k]] := by rw [esc1, if_pos hf]
  rw [e1] at e
  rw [e, List.length_append] at h1
  simp only [List.length_cons, List.length_nil] at h1
  refine ⟨?_, by rw [e]; simp, by omega⟩
  have e2 : (esc (L.take k)).length = (nums (esc (L.take k))).length := by rw [nums_length]
  have hs := set_mid (nums (esc (L.take k))) ((esc L).length - (esc (L.take k)).length) (L[k].toNat : Int) (by omega)
  unfold escRow
  rw [e, nums_append, List.length_append]
  rw [← e2] at hs
  rw [hs]
  simp [nums, Nat.sub_sub]
theorem escRow_esc (L : List UInt8) (k : Nat) (h : k < L.length) (hf : freeB L[k].toNat = false) (j : Nat) (hj : (esc (L.take k)).length = j) :
    escRow L (k + 1) = (((escRow L k).set j 37).set (j + 1) ((hexB (L[k].toNat / 16)).toNat : Int)).set (j + 2) ((hexB (L[k].toNat % 16)).toNat : Int) ∧ (esc (L.take (k + 1))).length = j + 3 ∧ j + 3 ≤ (esc L).length := by
  have h1 := esc_take_le L (k + 1)
  have e := esc_take L k h
  have e1 : esc1 L[k] = [37, hexB (L[k].toNat / 16), hexB (L[k].toNat % 16)] := by rw [esc1, if_neg (by rw [hf]; simp)]
  rw [e1] at e
  rw [e, List.length_append, hj] at h1
  simp only [List.length_cons, List.length_nil] at h1
  refine ⟨?_, by rw [e]; simp [hj], by omega⟩
  obtain ⟨m, hm⟩ : ∃ m, (esc L).length = j + 3 + m := ⟨(esc L).length - (j + 3), by omega⟩
  have e2 : (nums (esc (L.take k))).length = j := by rw [nums_length, hj]
  unfold escRow
  rw [e, nums_append, List.length_append, hj, hm]
  have em : j + 3 + m - j = m + 3 := by omega
  have em2 : j + 3 + m - (j + [(37 : UInt8), hexB (L[k].toNat / 16), hexB (L[k].toNat % 16)].length) = m := by simp
  rw [em, em2]
  generalize hX : nums (esc (L.take k)) = X at *
  have s1 := set_mid X (m + 3) 37 (by omega)
  rw [e2] at s1
  rw [s1]
  have s2 := set_mid (X ++ [37]) (m + 2) ((hexB (L[k].toNat / 16)).toNat : Int) (by omega)
  have e3 : (X ++ [(37 : Int)]).length = j + 1 := by rw [List.length_append, e2]; rfl
  rw [e3] at s2
  rw [show m + 3 - 1 = m + 2 by omega, s2]
  have s3 := set_mid (X ++ [37] ++ [((hexB (L[k].toNat / 16)).toNat : Int)]) (m + 1) ((hexB (L[k].toNat % 16)).toNat : Int) (by omega)
  have e4 : (X ++ [(37 : Int)] ++ [((hexB (L[k].toNat / 16)).toNat : Int)]).length = j + 2 := by rw [List.length_append, e3]; rfl
  rw [e4] at s3
  rw [show m + 2 - 1 = m + 1 by omega, s3]
  simp [nums]
end Go.Proofs.YtpadpdmidiaeoaaGreatDoor
