/- A whole number's bits taken apart, its letters and those of the shortest digits: in plain words. -/
import Derived.Test.YtoachnjapfakdaaGreatDoorNdG
import Derived.Laws.Bits64b
namespace Go.Proofs.YtoachnjapfakdaaGreatDoor
open Go Go.RowKit

theorem letters_ten {u : Nat} (h : 1 ≤ u) : letters (u * 10) = letters u ++ [48] := by
  rw [letters_ge (by omega), show u * 10 / 10 = u from by omega, show u * 10 % 10 = 0 from by omega]; rfl
theorem strip_app (l : List Int) : strip (l ++ [48]) = strip l := by
  unfold strip
  rw [List.reverse_append]; rfl
theorem letters_pow (u : Nat) (h : 1 ≤ u) : ∀ j, strip (letters (u * 10 ^ j)) = strip (letters u) ∧ (letters (u * 10 ^ j)).length = (letters u).length + j ∧ 1 ≤ u * 10 ^ j
  | 0 => by rw [Nat.pow_zero, Nat.mul_one]; exact ⟨rfl, rfl, h⟩
  | j + 1 => by
    obtain ⟨i1, i2, i3⟩ := letters_pow u h j
    rw [Nat.pow_succ, ← Nat.mul_assoc, letters_ten i3, strip_app, List.length_append, i1, i2]
    exact ⟨rfl, rfl, by omega⟩
/-- The shortest digits have the number's letters, but for noughts at the end. -/
theorem dsp_letters {N d : Nat} {P : Int} (h : Dsp N d P) (hN : 1 ≤ N) : 1 ≤ d ∧ d < 1000000000000000000 ∧ strip (letters d) = strip (letters N) ∧ (Lib.nDigits d : Int) + P = Lib.nDigits N ∧ -100 ≤ P ∧ P ≤ 100 := by
  obtain ⟨hb, ⟨j, hj, rfl, rfl⟩ | ⟨rfl, rfl⟩⟩ := h
  · obtain ⟨i1, i2, i3⟩ := letters_pow N hN j
    rw [letters_length, letters_length] at i2
    exact ⟨i3, hb, i1, by omega, by omega, by omega⟩
  · have h1 : 1 ≤ d := by omega
    obtain ⟨i1, i2, i3⟩ := letters_pow d h1 1
    rw [letters_length, letters_length, Nat.pow_one] at i2
    rw [Nat.pow_one] at i1
    exact ⟨h1, hb, i1.symm, by omega, by omega, by omega⟩

theorem strip_take (l : List Int) : l.take (strip l).length = strip l ∧ (strip l).length ≤ l.length := by
  obtain ⟨k, hk, _⟩ := strip_split l
  refine ⟨?_, ?_⟩
  · exact (congrArg (List.take (strip l).length) hk).trans List.take_left
  · have := congrArg List.length hk
    rw [List.length_append] at this; omega

theorem len53 (q : Nat) (h1 : 4503599627370496 ≤ q) (h2 : q < 9007199254740992) : Lib.bitLen q = 53 := by
  rw [Lib.bitLen_shift 52 q h1 (by omega)]
  have : q / 2 ^ 52 = 1 := by
    have e : (2 ^ 52 : Nat) = 4503599627370496 := by decide
    rw [e]; omega
  rw [this]; rfl

/-- A whole number's bits, shifted and masked. -/
theorem fn_parts (neg : Bool) (N k q : Nat) (hN : 0 < N) (hN2 : N < 9007199254740992) (hk : 52 - N.log2 = k) (hq : N * 2 ^ k = q) :
    k ≤ 52 ∧ 4503599627370496 ≤ q ∧ q < 9007199254740992 ∧ fn neg N = (if neg then 9223372036854775808 else 0) + (1074 - k) * 4503599627370496 + q := by
  obtain ⟨hL, hn⟩ := fn_nm hN hN2
  rw [hk, hq] at hn
  refine ⟨by omega, hn.lo, hn.hi, ?_⟩
  unfold fn fw
  rw [hk, hq, show ((N.log2 : Int) - 52 + 1074).toNat = 1074 - k from by omega]
theorem fn_bits (neg : Bool) (b k q : Nat) (hk : k ≤ 52) (h1 : 4503599627370496 ≤ q) (h2 : q < 9007199254740992) (hb : b = (if neg then 9223372036854775808 else 0) + (1074 - k) * 4503599627370496 + q) :
    (b : Int) / 9223372036854775808 = (if neg then 1 else 0) ∧ (b : Int) / 4503599627370496 = (if neg then 2048 else 0) + 1075 - k ∧ b < 18446744073709551616 ∧
      bits .and .i64 ((if neg then 2048 else 0) + 1075 - (k : Int)) 2047 = 1075 - k ∧ bits .and .u64 (b : Int) 4503599627370495 = (q : Int) - 4503599627370496 ∧ bits .or .u64 ((q : Int) - 4503599627370496) 4503599627370496 = (q : Int) := by
  have hbl : b < 18446744073709551616 := by rw [hb]; split <;> omega
  refine ⟨by rw [hb]; split <;> omega, by rw [hb]; split <;> omega, hbl, ?_, ?_, ?_⟩
  · have h := bits_mask .i64 63 (by decide) (fun n h0 h1 => by rw [IntKind.wrap_i64]; omega) 11 (by decide) ((if neg then 2048 else 0) + 1075 - (k : Int)) (by split <;> omega) (by split <;> omega)
    refine h.trans ?_
    split <;> omega
  · have h := bits_mask .u64 64 (by decide) (fun n h0 h1 => wrap64u n h0 h1) 52 (by decide) (b : Int) (by omega) (by omega)
    refine h.trans ?_
    rw [hb]; split <;> omega
  · obtain ⟨m, rfl⟩ : ∃ m, q = m + 4503599627370496 := ⟨q - 4503599627370496, by omega⟩
    rw [show ((m + 4503599627370496 : Nat) : Int) - 4503599627370496 = (m : Int) from by omega]
    have h := bits_or_u64_nat m 4503599627370496 (by omega) (by omega)
    refine h.trans ?_
    have h3 := Nat.two_pow_add_eq_or_of_lt (i := 52) (b := m) (by omega) 1
    rw [Nat.mul_one, show (2 ^ 52 : Nat) = 4503599627370496 from by decide] at h3
    rw [Nat.or_comm, ← h3, Nat.add_comm]
end Go.Proofs.YtoachnjapfakdaaGreatDoor
