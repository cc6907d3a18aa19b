/- The form of a number, in plain words: pairs of decimal digits, and the buffer as it fills. -/
import Derived.Test.YtoachnjapfakdaaGreatDoorBase
import Derived.Lib.EndianBits
namespace Go.Proofs.YtoachnjapfakdaaGreatDoor
open Go

/-- Letters of digits, two by two. -/
def pairs : List Int → List Int
  | a :: b :: r => (10 * (a - 48) + (b - 48)) :: pairs r
  | [a] => [10 * (a - 48)]
  | [] => []

theorem pairs_length : ∀ l : List Int, (pairs l).length = (l.length + 1) / 2
  | a :: b :: r => by rw [pairs, List.length_cons, pairs_length r]; simp only [List.length_cons]; omega
  | [a] => by simp [pairs]
  | [] => by simp [pairs]

theorem pairs_getD : ∀ (l : List Int) (k : Nat), 2 * k < l.length → (pairs l).getD k 0 = 10 * (l.getD (2 * k) 0 - 48) + (if 2 * k + 1 < l.length then l.getD (2 * k + 1) 0 - 48 else 0)
  | a :: b :: r, 0, _ => by simp [pairs]
  | a :: b :: r, k + 1, h => by
    have := pairs_getD r k (by simp at h; omega)
    rw [pairs, List.getD_cons_succ, this, show 2 * (k + 1) = 2 * k + 1 + 1 by omega, List.getD_cons_succ, List.getD_cons_succ, List.getD_cons_succ, List.getD_cons_succ]
    simp only [List.length_cons]
    congr 1
    by_cases h2 : 2 * k + 1 < r.length
    · rw [if_pos h2, if_pos (by omega)]
    · rw [if_neg h2, if_neg (by omega)]
  | [a], 0, _ => by simp [pairs]
  | [a], k + 1, h => absurd h (by simp)
  | [], _, h => absurd h (by simp)

/-- Every number is a letter of a digit. -/
def Dig (l : List Int) : Prop := ∀ x ∈ l, 48 ≤ x ∧ x ≤ 57
theorem Dig.getD {l : List Int} (h : Dig l) (k : Nat) (hk : k < l.length) : 48 ≤ l.getD k 0 ∧ l.getD k 0 ≤ 57 := by
  rw [List.getD_eq_getElem?_getD, List.getElem?_eq_getElem hk]
  exact h _ (List.getElem_mem hk)
theorem Dig.byt {l : List Int} (h : Dig l) : Byt l := fun x hx => by have := h x hx; omega
theorem pairs_bd {l : List Int} (h : Dig l) : ∀ x ∈ pairs l, 0 ≤ x ∧ x ≤ 99 := by
  match l, h with
  | a :: b :: r, h =>
    intro x hx
    have ha := h a (by simp)
    have hb := h b (by simp)
    rw [pairs] at hx
    rcases List.mem_cons.1 hx with rfl | hx
    · omega
    · exact pairs_bd (l := r) (fun y hy => h y (by simp [hy])) x hx
  | [a], h =>
    intro x hx
    have ha := h a (by simp)
    simp [pairs] at hx
    omega
  | [], h => intro x hx; simp [pairs] at hx

def digB (neg : Bool) (p : Int) : Int := if neg = true then 101 - p else p + 1

def bufK (neg : Bool) (P : List Int) (size k : Nat) : List Int := 0 :: ((P.take k).map (digB neg) ++ List.replicate (size - 1 - k) 0)
theorem bufK_length (neg : Bool) (P : List Int) (size k : Nat) (hk : k ≤ P.length) (hs : P.length + 1 ≤ size) : (bufK neg P size k).length = size := by
  simp [bufK]; omega
theorem bufK_step (neg : Bool) (P : List Int) (size k : Nat) (hk : k < P.length) (hs : P.length + 1 ≤ size) : (bufK neg P size k).set (1 + k) (digB neg (P.getD k 0)) = bufK neg P size (k + 1) := by
  unfold bufK
  rw [Nat.add_comm 1 k, List.set_cons_succ]
  congr 1
  rw [List.set_append_right _ _ (by simp; omega)]
  have e1 : k - ((P.take k).map (digB neg)).length = 0 := by simp; omega
  obtain ⟨r, hr⟩ : ∃ r, size - 1 - k = r + 1 := ⟨size - 1 - k - 1, by omega⟩
  rw [e1, hr, show size - 1 - (k + 1) = r by omega, List.replicate_succ, List.set_cons_zero, show P.take (k + 1) = P.take k ++ [P.getD k 0] by rw [List.take_add_one, List.getElem?_eq_getElem hk, List.getD_eq_getElem?_getD, List.getElem?_eq_getElem hk]; rfl, List.map_append, List.append_assoc]
  rfl
theorem bufK_start (neg : Bool) (P : List Int) (size : Nat) (hs : 1 ≤ size) : List.replicate size 0 = bufK neg P size 0 := by
  obtain ⟨r, rfl⟩ : ∃ r, size = r + 1 := ⟨size - 1, by omega⟩
  simp [bufK, List.replicate_succ]

/-- The first byte. -/
def headB (neg : Bool) (e : Int) : Int := if neg = true then 62 - e / 2 else e / 2 + 193

/-- The mantissa's letters, a nought ahead where the exponent is even. -/
def mant (e : Int) (ms : List Int) : List Int := if e % 2 = 0 then 48 :: ms else ms

/-- The form. -/
def numForm (neg : Bool) (ms : List Int) (e : Int) : List Int :=
  headB neg e :: ((pairs (mant e ms)).map (digB neg) ++ (if neg = true ∧ (mant e ms).length < 21 then [102] else []))

theorem buf_end_pos (neg : Bool) (P : List Int) (f : Int) : (bufK neg P (P.length + 1) P.length).set 0 f = f :: P.map (digB neg) := by
  simp [bufK]
theorem buf_end_neg (neg : Bool) (P : List Int) (f : Int) : ((bufK neg P (P.length + 2) P.length).set (P.length + 1) 102).set 0 f = f :: (P.map (digB neg) ++ [102]) := by
  unfold bufK
  rw [show P.length + 2 - 1 - P.length = 1 by omega, List.take_length, List.set_cons_succ, List.set_append_right _ _ (by simp)]
  simp

theorem xor_head (x : Int) (h0 : 65 ≤ x) (h1 : x ≤ 127) : bits .xor .u8 x 127 = 127 - x := by
  have key : ∀ k : Fin 63, bits .xor .u8 ((k.val : Int) + 65) 127 = 127 - ((k.val : Int) + 65) := by decide +kernel
  have := key ⟨(x - 65).toNat, by omega⟩
  simp only at this
  rw [show (((x - 65).toNat : Nat) : Int) + 65 = x by omega] at this
  exact this
theorem or_head (x : Int) (h0 : 0 ≤ x) (h1 : x ≤ 127) : bits .or .u8 x 128 = x + 128 := by
  have key : ∀ k : Fin 128, bits .or .u8 (k.val : Int) 128 = (k.val : Int) + 128 := by decide +kernel
  have := key ⟨x.toNat, by omega⟩
  simp only at this
  rw [show ((x.toNat : Nat) : Int) = x by omega] at this
  exact this
end Go.Proofs.YtoachnjapfakdaaGreatDoor
