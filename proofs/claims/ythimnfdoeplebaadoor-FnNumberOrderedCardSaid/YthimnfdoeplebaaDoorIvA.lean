/- Numbers in decimal, of two digits at least: the package's way and the reference's. -/
import Derived.Test.YthimnfdoeplebaaDoorBase
import Derived.Test.YthimnfdoeplebaaDoorProg
import Derived.Test.YthimnfdoeplebaaDoorShelf
import Derived.LoopTactic
import Derived.Lib.ItoaNum
import Derived.Lib.ItoaLen
import Derived.Lib.ItoaMem
namespace Go.Proofs.YthimnfdoeplebaaDoor
open Go Go.RowKit

def bs (xs : List UInt8) : ByteArray := ⟨xs.toArray⟩
theorem bs_append (xs ys : List UInt8) : bs xs ++ bs ys = bs (xs ++ ys) := by
  unfold bs; simp [ByteArray.mk_append_mk]
theorem bs_size (xs : List UInt8) : (bs xs).size = xs.length := by simp [bs, ByteArray.size]

def lenS : Value → Nat | .string s => s.size | _ => 0

/-- At least m characters, noughts ahead. -/
def pad (m : Nat) (l : List UInt8) : List UInt8 := List.replicate (m - l.length) 48 ++ l

def targ (m n : Nat) (out : List UInt8) : List UInt8 :=
  if n = 0 then List.replicate (m - out.length) 48 ++ out else List.replicate (m - out.length - (Lib.decDigits n).length) 48 ++ (Lib.decDigits n ++ out)

theorem decDigits_lt {u : Nat} (h : u < 10) : Lib.decDigits u = [UInt8.ofNat (48 + u)] := by rw [Lib.decDigits, dif_pos h]
theorem decDigits_ge {u : Nat} (h : ¬ u < 10) : Lib.decDigits u = Lib.decDigits (u / 10) ++ [UInt8.ofNat (48 + u % 10)] := by rw [Lib.decDigits, dif_neg h]

theorem targ_step (m n : Nat) (out : List UInt8) (h : 0 < n ∨ out.length < m) : targ m (n / 10) (UInt8.ofNat (48 + n % 10) :: out) = targ m n out := by
  unfold targ
  by_cases h0 : n = 0
  · subst h0
    have hl : out.length < m := by omega
    obtain ⟨k, hk⟩ : ∃ k, m - out.length = k + 1 := ⟨m - out.length - 1, by omega⟩
    simp only [Nat.zero_div, if_pos, List.length_cons]
    rw [hk, show m - (out.length + 1) = k by omega]
    rw [List.replicate_succ', List.append_assoc]
    rfl
  · rw [if_neg h0]
    by_cases h1 : n < 10
    · rw [if_pos (by omega), decDigits_lt h1, show n % 10 = n by omega]
      simp [Nat.sub_sub]
    · rw [if_neg (by omega), decDigits_ge h1]
      simp [Nat.sub_sub, Nat.add_assoc, Nat.add_comm, Nat.add_left_comm]

theorem targ_start (m n : Nat) (h : 0 < n ∨ 0 < m) : targ m n [] = pad m (Lib.decDigits n) := by
  unfold targ pad
  by_cases h0 : n = 0
  · subst h0
    rw [if_pos rfl, decDigits_lt (by omega)]
    obtain ⟨k, rfl⟩ : ∃ k, m = k + 1 := ⟨m - 1, by omega⟩
    simp [List.replicate_succ']
  · rw [if_neg h0]; simp

theorem targ_end (m : Nat) (out : List UInt8) (h : m ≤ out.length) : targ m 0 out = out := by
  simp [targ, Nat.sub_eq_zero_of_le h]

theorem targ_len (m n : Nat) (out : List UInt8) : out.length ≤ (targ m n out).length := by
  unfold targ
  split <;> simp <;> omega
theorem pad_len (n : Nat) (hn : n < 18446744073709551616) : (pad 2 (Lib.decDigits n)).length ≤ 22 := by
  have := Lib.nDigits_le20 n hn
  rw [← Lib.decDigits_length] at this
  simp [pad]
  omega

theorem digit_at (r : Nat) (h : r < 10) : (⟨#[48, 49, 50, 51, 52, 53, 54, 55, 56, 57]⟩ : ByteArray).extract r (r + 1) = bs [UInt8.ofNat (48 + r)] := by
  match r, h with
  | 0, _ => rfl
  | 1, _ => rfl
  | 2, _ => rfl
  | 3, _ => rfl
  | 4, _ => rfl
  | 5, _ => rfl
  | 6, _ => rfl
  | 7, _ => rfl
  | 8, _ => rfl
  | 9, _ => rfl

theorem dateDigits (n : Nat) (hn : n < 4611686018427387904) (w : World) :
    Calls Tryd.prog 48 #[.int .i64 n, .int .i64 2] w fun e w' => e = .returned (.string (bs (pad 2 (Lib.decDigits n)))) ∧ w = w' := by
  go_enter Tryd.func48, Tryd.ntmps48
  go_wp2
  go_loopw [0, 5] (fun a o wr => ∃ (k : Nat) (out : List UInt8), a = .int .i64 k ∧ o = .string (bs out) ∧ targ 2 k out = pad 2 (Lib.decDigits n) ∧ k < 4611686018427387904 ∧ w = wr) (fun a o _ => (intOf a).toNat + (2 - lenS o))
  case atStart => exact ⟨n, [], rfl, rfl, targ_start 2 n (by omega), hn, rfl⟩
  case round =>
    obtain ⟨k, out, rfl, rfl, hT, hk, rfl⟩ := hrel
    have hsz := bs_size out
    by_cases hc : 0 < k ∨ out.length < 2
    · have z0 : (0 : Int) ≤ (k : Int) % 10 := by omega
      have z1 : (k : Int) % 10 + 1 ≤ 10 := by omega
      have z2 : (k : Int) % 10 ≤ (k : Int) % 10 + 1 := by omega
      have hd := digit_at (k % 10) (by omega)
      have hmeet : (∃ (k' : Nat) (out' : List UInt8), Value.int .i64 ((k : Int) / 10) = .int .i64 k' ∧ Value.string (bs [UInt8.ofNat (48 + k % 10)] ++ bs out) = .string (bs out') ∧ targ 2 k' out' = pad 2 (Lib.decDigits n) ∧ k' < 4611686018427387904) :=
        ⟨k / 10, UInt8.ofNat (48 + k % 10) :: out, by simp, by rw [bs_append]; rfl, by rw [targ_step 2 k out hc]; exact hT, by omega⟩
      have hlen : out.length ≤ 22 := by
        have := targ_len 2 k out
        rw [hT] at this
        exact Nat.le_trans this (pad_len n (by omega))
      have hs1 := bs_size [UInt8.ofNat (48 + k % 10)]
      rw [← hd] at hmeet hs1
      have hsz1 : ((⟨#[48, 49, 50, 51, 52, 53, 54, 55, 56, 57]⟩ : ByteArray).extract (k % 10) (k % 10 + 1)).size + out.length ≤ 9223372036854775807 := by rw [hs1]; simp; omega
      have hme : (intOf (Value.int .i64 ((k : Int) / 10))).toNat + (2 - lenS (.string ((⟨#[48, 49, 50, 51, 52, 53, 54, 55, 56, 57]⟩ : ByteArray).extract (k % 10) (k % 10 + 1) ++ bs out))) < (intOf (Value.int .i64 k)).toNat + (2 - lenS (.string (bs out))) := by
        rw [hd, bs_append]
        simp only [lenS, bs_size, intOf, List.length_append, List.length_singleton]
        omega
      clear hd hs1
      by_cases h0 : 0 < k
      · go_wp2
        exact ⟨by obtain ⟨k', out', a1, a2, a3, a4⟩ := hmeet; exact ⟨k', out', a1, a2, a3, a4, trivial⟩, hme⟩
      · obtain rfl : k = 0 := by omega
        go_wp2
        exact ⟨by obtain ⟨k', out', a1, a2, a3, a4⟩ := hmeet; exact ⟨k', out', a1, a2, a3, a4, trivial⟩, hme⟩
    · obtain rfl : k = 0 := by omega
      go_wp2
      go_ret
      rw [← hT, targ_end 2 out (by omega)]
      exact ⟨rfl, rfl⟩
end Go.Proofs.YthimnfdoeplebaaDoor
