/- zzPadded of what is not negative. -/
import Derived.Test.YtoachnjapfakdaaGreatDoorIvA
import Derived.Lib.AppendIntMem
namespace Go.Proofs.YtoachnjapfakdaaGreatDoor
open Go Go.RowKit

def Tab10 (w : World) : Prop := Lib.TabIs Tryz.prog w "internal/strconv.uint64pow10" .u64 Lib.pow10Tab
theorem Tab10.gr {w w' : World} (h : Tab10 w) (g : Gr w w') : Tab10 w' := Lib.tabBelow_of_tabIs h w' g

theorem fmtInt (n : Int) (h0 : -9223372036854775808 ≤ n) (h1 : n ≤ 9223372036854775807) (w : World) (h : Tab10 w) :
    Calls Tryz.prog 38 #[.int .i64 n, .int .i64 10] w fun e w' => e = .returned (.string (bs (Lib.itoa n))) ∧ Gr w w' := by
  refine (Tryz.strconv_FormatInt_10 n h0 h1 w h).mono fun e w' => ?_
  rintro ⟨rfl, k, os, rfl⟩
  exact ⟨rfl, Lib.below_grow _ w (Nat.le_refl _) k os⟩

theorem decDigits_all (n : Nat) : ∀ x ∈ Lib.decDigits n, x ≠ 45 := by
  induction n using Nat.strongRecOn with
  | _ n ih =>
    intro x hx
    have key : ∀ r, r < 10 → (UInt8.ofNat (48 + r)) ≠ 45 := by decide
    by_cases h : n < 10
    · rw [decDigits_lt h] at hx
      have hx := List.mem_singleton.1 hx; subst hx
      exact key n h
    · rw [decDigits_ge h] at hx
      rcases List.mem_append.1 hx with h1 | h1
      · exact ih (n / 10) (by omega) x h1
      · have h1 := List.mem_singleton.1 h1; subst h1
        exact key (n % 10) (by omega)
theorem decDigits_head (n : Nat) : ∃ d t, Lib.decDigits n = d :: t ∧ d ≠ 45 := by
  have hl := Lib.nDigits_pos n
  rw [← Lib.decDigits_length] at hl
  cases e : Lib.decDigits n with
  | nil => rw [e] at hl; simp at hl
  | cons d t => exact ⟨d, t, rfl, decDigits_all n d (by rw [e]; simp)⟩
end Go.Proofs.YtoachnjapfakdaaGreatDoor
