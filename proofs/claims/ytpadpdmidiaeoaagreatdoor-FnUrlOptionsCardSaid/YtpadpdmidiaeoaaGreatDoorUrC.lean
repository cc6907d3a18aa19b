/- The escapes of a path's part read back, in plain words. -/
import Derived.Test.YtpadpdmidiaeoaaGreatDoorUrA
namespace Go.Proofs.YtpadpdmidiaeoaaGreatDoor
open Go Go.RowKit

theorem hexB_form (n : Nat) (h : n < 16) : (n < 10 ∧ (hexB n).toNat = 48 + n) ∨ (10 ≤ n ∧ (hexB n).toNat = 55 + n ∧ 55 + n ||| 32 = 87 + n) := by
  have : ∀ m : Fin 16, (m.val < 10 ∧ (hexB m.val).toNat = 48 + m.val) ∨ (10 ≤ m.val ∧ (hexB m.val).toNat = 55 + m.val ∧ 55 + m.val ||| 32 = 87 + m.val) := by decide
  exact this ⟨n, h⟩
theorem esc1_no (b s : UInt8) (hb : b ≠ s) (hs : s.toNat = 58 ∨ s.toNat = 64) : s ∉ esc1 b := by
  unfold esc1
  split
  · simp; exact fun e => hb e.symm
  · have h1 : ∀ n, n < 16 → hexB n ≠ s := by
      intro n hn e
      have := congrArg UInt8.toNat e
      rcases hexB_form n hn with ⟨h, e2⟩ | ⟨h, e2, _⟩ <;> omega
    have h3 := b.toNat_lt
    intro hm
    rcases List.mem_cons.1 hm with e | hm
    · rw [e] at hs; revert hs; decide
    · rcases List.mem_cons.1 hm with e | hm
      · exact h1 _ (by omega) e.symm
      · exact h1 _ (by omega) (List.mem_singleton.1 hm).symm
theorem esc_no (L : List UInt8) (s : UInt8) (h : s ∉ L) (hs : s.toNat = 58 ∨ s.toNat = 64) : s ∉ esc L := by
  induction L with
  | nil => simp [esc]
  | cons b L ih =>
    rw [esc, List.mem_append]
    rintro (hm | hm)
    · exact esc1_no b s (fun e => h (by rw [e]; exact List.mem_cons_self)) hs hm
    · exact ih (fun e => h (List.mem_cons_of_mem _ e)) hm
/-- What the reader meets behind the escapes of the first k bytes. -/
theorem esc_at (L : List UInt8) (k : Nat) (h : k < L.length) (j : Nat) (hj : (esc (L.take k)).length = j) :
    (freeB L[k].toNat = true ∧ (esc L)[j]? = some L[k] ∧ (esc (L.take (k + 1))).length = j + 1 ∧ L[k].toNat ≠ 37 ∧ j + 1 ≤ (esc L).length) ∨
    (freeB L[k].toNat = false ∧ (esc L)[j]? = some 37 ∧ (esc (L.take (k + 1))).length = j + 3 ∧ j + 3 ≤ (esc L).length ∧ (bs (esc L)).extract (j + 1) (j + 3) = bs [hexB (L[k].toNat / 16), hexB (L[k].toNat % 16)]) := by
  have e := esc_drop L k h
  have e2 := esc_take L k h
  have e3 := esc_take_le L (k + 1)
  by_cases hf : freeB L[k].toNat = true
  · have e1 : esc1 L[k] = [L[k]] := by rw [esc1, if_pos hf]
    rw [e1] at e e2
    have e4 : (esc (L.take (k + 1))).length = j + 1 := by rw [e2, List.length_append, hj]; rfl
    refine .inl ⟨hf, ?_, e4, ?_, by omega⟩
    · rw [e, List.getElem?_append_right (by omega), hj]; simp
    · intro e5; rw [e5] at hf; revert hf; decide
  · have hf2 : freeB L[k].toNat = false := by simpa using hf
    have e1 : esc1 L[k] = [37, hexB (L[k].toNat / 16), hexB (L[k].toNat % 16)] := by rw [esc1, if_neg hf]
    rw [e1] at e e2
    have e4 : (esc (L.take (k + 1))).length = j + 3 := by rw [e2, List.length_append, hj]; rfl
    refine .inr ⟨hf2, ?_, e4, by omega, ?_⟩
    · rw [e, List.getElem?_append_right (by omega), hj]; simp
    · refine bs_extract' _ _ _ _ ?_
      rw [e]
      generalize esc (L.take k) = X at *
      subst hj
      rw [List.take_append]
      simp [List.drop_append]
theorem esc_end (L : List UInt8) (k : Nat) (h : k = L.length) : (esc (L.take k)).length = (esc L).length := by subst h; simp
/-- A byte that a host may have. -/
def hostB (c : Nat) : Bool := (97 ≤ c && c ≤ 122) || (65 ≤ c && c ≤ 90) || (48 ≤ c && c ≤ 57) || c == 46 || c == 45
def hostOk (L : List UInt8) : Bool := L.all (fun b => hostB b.toNat) && decide (1 ≤ L.length ∧ L.length ≤ 100)
end Go.Proofs.YtpadpdmidiaeoaaGreatDoor
