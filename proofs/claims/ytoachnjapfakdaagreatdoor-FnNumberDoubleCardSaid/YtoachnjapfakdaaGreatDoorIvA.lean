/- Numbers in decimal, of two digits at least: the package's way and the reference's. -/
import Derived.Test.YtoachnjapfakdaaGreatDoorBase
import Derived.Test.YtoachnjapfakdaaGreatDoorProg
import Derived.Test.YtoachnjapfakdaaGreatDoorShelf
import Derived.LoopTactic
import Derived.Lib.ItoaNum
import Derived.Lib.ItoaLen
import Derived.Lib.ItoaMem
namespace Go.Proofs.YtoachnjapfakdaaGreatDoor
open Go Go.RowKit

def bs (xs : List UInt8) : ByteArray := ⟨xs.toArray⟩
theorem bs_append (xs ys : List UInt8) : bs xs ++ bs ys = bs (xs ++ ys) := by
  unfold bs; simp [ByteArray.mk_append_mk]
theorem bs_size (xs : List UInt8) : (bs xs).size = xs.length := by simp [bs, ByteArray.size]

def lenS : Value → Nat | .string s => s.size | _ => 0

/-- At least m characters, noughts ahead. -/
def pad (m : Nat) (l : List UInt8) : List UInt8 := List.replicate (m - l.length) 48 ++ l

def targ (m n : Nat) (out : List UInt8) : List UInt8 :=
  if n = 0 then List.replicate (m - out.length) 48 ++ out else List.replicate (m - out.length - (Lib.decDigits n).length) 48 ++ (Lib.decDigits n ++ out)

theorem decDigits_lt {u : Nat} (h : u < 10) : Lib.decDigits u = [UInt8.ofNat (48 + u)] := by rw [Lib.decDigits, dif_pos h]
theorem decDigits_ge {u : Nat} (h : ¬ u < 10) : Lib.decDigits u = Lib.decDigits (u / 10) ++ [UInt8.ofNat (48 + u % 10)] := by rw [Lib.decDigits, dif_neg h]

theorem targ_step (m n : Nat) (out : List UInt8) (h : 0 < n ∨ out.length < m) : targ m (n / 10) (UInt8.ofNat (48 + n % 10) :: out) = targ m n out := by
  unfold targ
  by_cases h0 : n = 0
  · subst h0
    have hl : out.length < m := by omega
    obtain ⟨k, hk⟩ : ∃ k, m - out.length = k + 1 := ⟨m - out.length - 1, by omega⟩
    simp only [Nat.zero_div, if_pos, List.length_cons]
    rw [hk, show m - (out.length + 1) = k by omega]
    rw [List.replicate_succ', List.append_assoc]
    rfl
  · rw [if_neg h0]
    by_cases h1 : n < 10
    · rw [if_pos (by omega), decDigits_lt h1, show n % 10 = n by omega]
      simp [Nat.sub_sub]
    · rw [if_neg (by omega), decDigits_ge h1]
      simp [Nat.sub_sub, Nat.add_assoc, Nat.add_comm, Nat.add_left_comm]

theorem targ_start (m n : Nat) (h : 0 < n ∨ 0 < m) : targ m n [] = pad m (Lib.decDigits n) := by
  unfold targ pad
  by_cases h0 : n = 0
  · subst h0
    rw [if_pos rfl, decDigits_lt (by omega)]
    obtain ⟨k, rfl⟩ : ∃ k, m = k + 1 := ⟨m - 1, by omega⟩
    simp [List.replicate_succ']
  · rw [if_neg h0]; simp

theorem targ_end (m : Nat) (out : List UInt8) (h : m ≤ out.length) : targ m 0 out = out := by
  simp [targ, Nat.sub_eq_zero_of_le h]

theorem targ_len (m n : Nat) (out : List UInt8) : out.length ≤ (targ m n out).length := by
  unfold targ
  split <;> simp <;> omega
theorem pad_len (n : Nat) (hn : n < 18446744073709551616) : (pad 2 (Lib.decDigits n)).length ≤ 22 := by
  have := Lib.nDigits_le20 n hn
  rw [← Lib.decDigits_length] at this
  simp [pad]
  omega

theorem digit_at (r : Nat) (h : r < 10) : (⟨#[48, 49, 50, 51, 52, 53, 54, 55, 56, 57]⟩ : ByteArray).extract r (r + 1) = bs [UInt8.ofNat (48 + r)] := by
  match r, h with
  | 0, _ => rfl
  | 1, _ => rfl
  | 2, _ => rfl
  | 3, _ => rfl
  | 4, _ => rfl
  | 5, _ => rfl
  | 6, _ => rfl
  | 7, _ => rfl
  | 8, _ => rfl
  | 9, _ => rfl
end Go.Proofs.YtoachnjapfakdaaGreatDoor
