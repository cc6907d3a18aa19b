/- FromNumber: a digit more. -/
import Derived.Test.YtoachnjapfakdaaGreatDoorNmC
import Derived.Laws.Externs
import Derived.KernelRfl
namespace Go.Proofs.YtoachnjapfakdaaGreatDoor
open Go Go.RowKit

theorem add64_0 (x y : Int) (hx : 0 ≤ x) (hx1 : x < 18446744073709551616) (hy : 0 ≤ y) (hy1 : y < 18446744073709551616) (w : World) : (callFunc 47 #[.int .u64 x, .int .u64 y, .int .u64 0]).run Tryz.prog w =
    .ok (.value (.tuple #[.int .u64 ((x + y) % 18446744073709551616), .int .u64 ((x + y) / 18446744073709551616)])) w := by
  obtain ⟨x, rfl⟩ := Int.eq_ofNat_of_zero_le hx
  obtain ⟨y, rfl⟩ := Int.eq_ofNat_of_zero_le hy
  rw [run_callFunc_extern Tryz.func47 (by kernel_rfl) (by kernel_rfl) (by kernel_rfl) (e := add64Entry) (by kernel_rfl)]
  have := run_add64 (P := Tryz.prog) (x : Int) y 0 (by omega) (by omega) (by omega) (by omega) w
  rw [this]
  simp only [Result.andThen]
  congr 5 <;> omega

set_option maxRecDepth 100000 in
theorem addDigit (m d : Int) (hm : 0 ≤ m) (hd : 0 ≤ d ∧ d < 256) (hlt : m * 10 + d < 18446744073709551616) (w : World) :
    Calls Tryz.prog 36 #[.int .u64 m, .int .u8 d] w fun e w' => e = .returned (.tuple #[.int .u64 (m * 10 + d), .bool false]) ∧ w' = w := by
  obtain ⟨hd0, hd1⟩ := hd
  obtain ⟨k, rfl⟩ := Int.eq_ofNat_of_zero_le hm
  have hmul := Tryz.bits_Mul64 k 10 (by omega) (by omega) w
  have e1 : ((k * 10 / 18446744073709551616 : Nat) : Int) = 0 := by omega
  have e2 : ((k * 10 % 18446744073709551616 : Nat) : Int) = (k : Int) * 10 := by omega
  rw [e1, e2] at hmul
  have hadd := add64_0 ((k : Int) * 10) d (by omega) (by omega) hd0 (by omega) w
  have hadd0 := add64_0 0 d (by omega) (by omega) hd0 (by omega) w
  have e3 : ((k : Int) * 10 + d) % 18446744073709551616 = (k : Int) * 10 + d := by omega
  have e4 : ((k : Int) * 10 + d) / 18446744073709551616 = 0 := by omega
  have e5 : ((0 : Int) + d) % 18446744073709551616 = d := by omega
  have e6 : ((0 : Int) + d) / 18446744073709551616 = 0 := by omega
  rw [e3, e4] at hadd
  rw [e5, e6] at hadd0
  have HM := Lib.hid hmul
  clear hmul e1 e2 e3 e4 e5 e6
  by_cases hk : k = 0
  · subst hk
    go_enter Tryz.func36, Tryz.ntmps36
    go_wp2
    go_ret2
    simp
  · go_enter Tryz.func36, Tryz.ntmps36
    go_wp2_with (first | (go_at_call 46; refine HM.out.mono ?_; rintro e w1 ⟨rfl, rfl⟩))
    go_ret2
    simp
end Go.Proofs.YtoachnjapfakdaaGreatDoor
