/- The escapes of a query's value, in plain words. -/
import Derived.Test.YtpadpdmidiaeoaaGreatDoorUrB
namespace Go.Proofs.YtpadpdmidiaeoaaGreatDoor
open Go Go.RowKit

/-- A byte that a query's value lets be. -/
def freeQ (c : Nat) : Bool := (48 ≤ c && c ≤ 57) || (65 ≤ c && c ≤ 90) || (97 ≤ c && c ≤ 122) || c == 45 || c == 95 || c == 46 || c == 126
def escQ1 (b : UInt8) : List UInt8 := if freeQ b.toNat then [b] else if b.toNat = 32 then [43] else [37, hexB (b.toNat / 16), hexB (b.toNat % 16)]
def escQ : List UInt8 → List UInt8
  | [] => []
  | b :: L => escQ1 b ++ escQ L
theorem tab_freeQ (n : Nat) (h : n < 256) : decide (bits .and .u8 (urlTab.getD n 0) 32 = 0) = !freeQ n := by
  have : ∀ m : Fin 256, decide (bits .and .u8 (urlTab.getD m.val 0) 32 = 0) = !freeQ m.val := by decide +kernel
  exact this ⟨n, h⟩
theorem escQ_append (A B : List UInt8) : escQ (A ++ B) = escQ A ++ escQ B := by
  induction A with
  | nil => rfl
  | cons a A ih => rw [List.cons_append, escQ, ih, escQ, List.append_assoc]
/-- How many bytes are written in hexadecimal digits; how many blanks there are. -/
def hxQ : List UInt8 → Nat
  | [] => 0
  | b :: L => (if freeQ b.toNat then 0 else if b.toNat = 32 then 0 else 1) + hxQ L
def spQ : List UInt8 → Nat
  | [] => 0
  | b :: L => (if freeQ b.toNat then 0 else if b.toNat = 32 then 1 else 0) + spQ L
theorem hxQ_append (A B : List UInt8) : hxQ (A ++ B) = hxQ A + hxQ B := by
  induction A with
  | nil => simp [hxQ]
  | cons a A ih => rw [List.cons_append, hxQ, ih, hxQ, Nat.add_assoc]
theorem spQ_append (A B : List UInt8) : spQ (A ++ B) = spQ A + spQ B := by
  induction A with
  | nil => simp [spQ]
  | cons a A ih => rw [List.cons_append, spQ, ih, spQ, Nat.add_assoc]
theorem hxQ_take (L : List UInt8) (k : Nat) (h : k < L.length) : hxQ (L.take (k + 1)) = hxQ (L.take k) + (if freeQ L[k].toNat then 0 else if L[k].toNat = 32 then 0 else 1) := by
  rw [List.take_succ_eq_append_getElem h, hxQ_append]; simp [hxQ]
theorem spQ_take (L : List UInt8) (k : Nat) (h : k < L.length) : spQ (L.take (k + 1)) = spQ (L.take k) + (if freeQ L[k].toNat then 0 else if L[k].toNat = 32 then 1 else 0) := by
  rw [List.take_succ_eq_append_getElem h, spQ_append]; simp [spQ]
theorem escQ_take (L : List UInt8) (k : Nat) (h : k < L.length) : escQ (L.take (k + 1)) = escQ (L.take k) ++ escQ1 L[k] := by
  rw [List.take_succ_eq_append_getElem h, escQ_append]; simp [escQ]
theorem escQ_len (L : List UInt8) : (escQ L).length = L.length + 2 * hxQ L := by
  induction L with
  | nil => rfl
  | cons b L ih =>
    rw [escQ, List.length_append, ih, List.length_cons, hxQ]
    unfold escQ1
    by_cases h1 : freeQ b.toNat = true
    · rw [if_pos h1, if_pos h1]; simp; omega
    · rw [if_neg h1, if_neg h1]
      by_cases h2 : b.toNat = 32
      · rw [if_pos h2, if_pos h2]; simp; omega
      · rw [if_neg h2, if_neg h2]; simp; omega
theorem hxQ_le (L : List UInt8) : hxQ L ≤ L.length := by
  induction L with
  | nil => exact Nat.le_refl _
  | cons b L ih => rw [hxQ, List.length_cons]; split <;> (try split) <;> omega
theorem spQ_le (L : List UInt8) : spQ L ≤ L.length := by
  induction L with
  | nil => exact Nat.le_refl _
  | cons b L ih => rw [spQ, List.length_cons]; split <;> (try split) <;> omega
/-- A blank becomes a plus. -/
def plusB (b : UInt8) : UInt8 := if b.toNat = 32 then 43 else b
theorem escQ_plus (L : List UInt8) (h : hxQ L = 0) : escQ L = L.map plusB := by
  induction L with
  | nil => rfl
  | cons b L ih =>
    rw [hxQ] at h
    rw [escQ, List.map_cons, ih (by omega)]
    unfold escQ1 plusB
    by_cases h1 : freeQ b.toNat = true
    · have : b.toNat ≠ 32 := by intro e; rw [e] at h1; revert h1; decide
      rw [if_pos h1, if_neg this]; rfl
    · rw [if_neg h1] at h ⊢
      by_cases h2 : b.toNat = 32
      · rw [if_pos h2, if_pos h2]; rfl
      · rw [if_neg h2] at h; omega
theorem escQ_none (L : List UInt8) (h : hxQ L = 0) (h2 : spQ L = 0) : escQ L = L := by
  induction L with
  | nil => rfl
  | cons b L ih =>
    rw [hxQ] at h
    rw [spQ] at h2
    rw [escQ, ih (by omega) (by omega)]
    unfold escQ1
    by_cases h1 : freeQ b.toNat = true
    · rw [if_pos h1]; rfl
    · rw [if_neg h1] at h h2
      by_cases h3 : b.toNat = 32
      · rw [if_pos h3] at h2; omega
      · rw [if_neg h3] at h; omega
/-- The row that is written: the escapes of the first k bytes, and zeros. -/
def rowQ (L : List UInt8) (k : Nat) : List Int := nums (escQ (L.take k)) ++ List.replicate ((escQ L).length - (escQ (L.take k)).length) 0
theorem rowQ_zero (L : List UInt8) : rowQ L 0 = List.replicate (escQ L).length 0 := by simp [rowQ, escQ, nums]
theorem escQ_take_le (L : List UInt8) (k : Nat) : (escQ (L.take k)).length ≤ (escQ L).length := by
  conv => rhs; rw [← List.take_append_drop k L, escQ_append, List.length_append]
  omega
theorem rowQ_len (L : List UInt8) (k : Nat) : (rowQ L k).length = (escQ L).length := by
  have := escQ_take_le L k
  simp [rowQ, nums_length]; omega
theorem rowQ_all (L : List UInt8) (k : Nat) (h : k = L.length) : rowQ L k = nums (escQ L) := by subst h; simp [rowQ]
theorem rowQ_one (L : List UInt8) (k : Nat) (h : k < L.length) (z : UInt8) (e1 : escQ1 L[k] = [z]) :
    rowQ L (k + 1) = (rowQ L k).set (escQ (L.take k)).length (z.toNat : Int) ∧ (escQ (L.take (k + 1))).length = (escQ (L.take k)).length + 1 ∧ (escQ (L.take k)).length + 1 ≤ (escQ L).length := by
  have h1 := escQ_take_le L (k + 1)
  have e := escQ_take L k h
  rw [e1] at e
  rw [e, List.length_append] at h1
  simp only [List.length_cons, List.length_nil] at h1
  refine ⟨?_, by rw [e]; simp, by omega⟩
  have e2 : (escQ (L.take k)).length = (nums (escQ (L.take k))).length := by rw [nums_length]
  have hs := set_mid (nums (escQ (L.take k))) ((escQ L).length - (escQ (L.take k)).length) (z.toNat : Int) (by omega)
  unfold rowQ
  rw [e, nums_append, List.length_append]
  rw [← e2] at hs
  rw [hs]
  simp [nums, Nat.sub_sub]
theorem rowQ_esc (L : List UInt8) (k : Nat) (h : k < L.length) (hf : freeQ L[k].toNat = false) (h32 : L[k].toNat ≠ 32) (j : Nat) (hj : (escQ (L.take k)).length = j) :
    rowQ L (k + 1) = (((rowQ L k).set j 37).set (j + 1) ((hexB (L[k].toNat / 16)).toNat : Int)).set (j + 2) ((hexB (L[k].toNat % 16)).toNat : Int) ∧ (escQ (L.take (k + 1))).length = j + 3 ∧ j + 3 ≤ (escQ L).length := by
  have h1 := escQ_take_le L (k + 1)
  have e := escQ_take L k h
  have e1 : escQ1 L[k] = [37, hexB (L[k].toNat / 16), hexB (L[k].toNat % 16)] := by rw [escQ1, if_neg (by rw [hf]; simp), if_neg h32]
  rw [e1] at e
  rw [e, List.length_append, hj] at h1
  simp only [List.length_cons, List.length_nil] at h1
  refine ⟨?_, by rw [e]; simp [hj], by omega⟩
  obtain ⟨m, hm⟩ : ∃ m, (escQ L).length = j + 3 + m := ⟨(escQ L).length - (j + 3), by omega⟩
  have e2 : (nums (escQ (L.take k))).length = j := by rw [nums_length, hj]
  unfold rowQ
  rw [e, nums_append, List.length_append, hj, hm]
  have em : j + 3 + m - j = m + 3 := by omega
  have em2 : j + 3 + m - (j + [(37 : UInt8), hexB (L[k].toNat / 16), hexB (L[k].toNat % 16)].length) = m := by simp
  rw [em, em2]
  generalize hX : nums (escQ (L.take k)) = X at *
  have s1 := set_mid X (m + 3) 37 (by omega)
  rw [e2] at s1
  rw [s1]
  have s2 := set_mid (X ++ [37]) (m + 2) ((hexB (L[k].toNat / 16)).toNat : Int) (by omega)
  have e3 : (X ++ [(37 : Int)]).length = j + 1 := by rw [List.length_append, e2]; rfl
  rw [e3] at s2
  rw [show m + 3 - 1 = m + 2 by omega, s2]
  have s3 := set_mid (X ++ [37] ++ [((hexB (L[k].toNat / 16)).toNat : Int)]) (m + 1) ((hexB (L[k].toNat % 16)).toNat : Int) (by omega)
  have e4 : (X ++ [(37 : Int)] ++ [((hexB (L[k].toNat / 16)).toNat : Int)]).length = j + 2 := by rw [List.length_append, e3]; rfl
  rw [e4] at s3
  rw [show m + 2 - 1 = m + 1 by omega, s3]
  simp [nums]
/-- The row whose first k blanks are pluses. -/
def rowP (L : List UInt8) (k : Nat) : List UInt8 := (L.take k).map plusB ++ L.drop k
theorem rowP_length (L : List UInt8) (k : Nat) : (rowP L k).length = L.length := by simp [rowP]; omega
theorem rowP_all (L : List UInt8) (k : Nat) (h : k = L.length) : rowP L k = L.map plusB := by subst h; simp [rowP]
theorem rowP_step (L : List UInt8) (k : Nat) (h : k < L.length) : nums (rowP L (k + 1)) = (nums (rowP L k)).set k ((plusB L[k]).toNat : Int) := by
  simp only [nums, rowP]
  rw [List.take_succ_eq_append_getElem h, List.drop_eq_getElem_cons h]
  simp only [List.map_append, List.map_cons, List.map_nil, List.append_assoc, List.singleton_append]
  rw [List.set_append_right _ _ (by simp; omega)]
  simp [Nat.min_eq_left (Nat.le_of_lt h)]
theorem rowP_get (L : List UInt8) (k : Nat) (h : k < L.length) : (nums (rowP L k)).getD k 0 = (L[k].toNat : Int) := by
  simp only [nums, rowP, List.getD_eq_getElem?_getD, List.getElem?_map]
  rw [List.getElem?_append_right (by simp; omega)]
  simp [Nat.min_eq_left (Nat.le_of_lt h), h]
end Go.Proofs.YtpadpdmidiaeoaaGreatDoor
