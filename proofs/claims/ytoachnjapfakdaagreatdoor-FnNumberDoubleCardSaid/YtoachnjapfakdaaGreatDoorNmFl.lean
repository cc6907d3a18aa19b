/- The order of floats of 64 bits from nought on is that of their bits. -/
import Derived.Test.YtoachnjapfakdaaGreatDoorNmG
import Derived.Laws.Cover2
import Derived.Laws.FloatArith
import Derived.Laws.Externs
namespace Go.Proofs.YtoachnjapfakdaaGreatDoor
open Go Go.RowKit

/-- The magnitude and the place of a finite float from nought on. -/
def fmag (a : Nat) : Nat := if a < 4503599627370496 then a else 4503599627370496 + a % 4503599627370496
def fpl (a : Nat) : Nat := if a < 4503599627370496 then 0 else a / 4503599627370496 - 1
theorem f_split (a : Nat) : a = fpl a * 4503599627370496 + fmag a ∧ fmag a < 9007199254740992 ∧ (1 ≤ fpl a → 4503599627370496 ≤ fmag a) := by
  unfold fmag fpl
  by_cases h : a < 4503599627370496
  · rw [if_pos h, if_pos h]; omega
  · rw [if_neg h, if_neg h]; omega
theorem read_fin (a : Nat) (h : a < 9218868437227405312) : Ieee.Format.read FloatKind.f64.format a = .number false (fmag a) (-1074 + (fpl a : Nat)) := by
  have e1 : FloatKind.f64.format.signWeight = 9223372036854775808 := by decide +kernel
  have e2 : FloatKind.f64.format.binade = 4503599627370496 := by decide +kernel
  have e3 : FloatKind.f64.format.infRung = 9218868437227405312 := by decide +kernel
  have e4 : FloatKind.f64.format.leastPlace = -1074 := by decide +kernel
  unfold Ieee.Format.read
  simp only [e1, e2, e3, e4]
  have hn : (a / 9223372036854775808 % 2 == 1) = false := by rw [beq_eq_false_iff_ne]; omega
  have hr : a % 9223372036854775808 = a := by omega
  rw [hn, hr]
  unfold fmag fpl
  by_cases hb : a < 4503599627370496
  · rw [if_pos hb, if_pos hb, if_pos hb]; rfl
  · rw [if_neg hb, if_pos h, if_neg hb, if_neg hb]
theorem read_inf : Ieee.Format.read FloatKind.f64.format 9218868437227405312 = .infinity false := by decide +kernel
theorem read_nan (a : Nat) (h : 9218868437227405312 < a) (h2 : a < 9223372036854775808) : Ieee.Format.read FloatKind.f64.format a = .nan false (a - 9218868437227405312) := by
  have e1 : FloatKind.f64.format.signWeight = 9223372036854775808 := by decide +kernel
  have e2 : FloatKind.f64.format.binade = 4503599627370496 := by decide +kernel
  have e3 : FloatKind.f64.format.infRung = 9218868437227405312 := by decide +kernel
  unfold Ieee.Format.read
  simp only [e1, e2, e3]
  have hn : (a / 9223372036854775808 % 2 == 1) = false := by rw [beq_eq_false_iff_ne]; omega
  have hr : a % 9223372036854775808 = a := by omega
  rw [hn, hr, if_neg (by omega), if_neg (by omega), if_neg (by omega)]

theorem shl_lt {m n p q : Nat} (hm : m < 9007199254740992) (hn : 4503599627370496 ≤ n) (h : p < q) : m * 2 ^ 0 < n * 2 ^ (q - p) := by
  obtain ⟨k, hk⟩ : ∃ k, q - p = k + 1 := ⟨q - p - 1, by omega⟩
  rw [hk, Nat.pow_succ]
  have : 1 ≤ 2 ^ k := Nat.one_le_two_pow
  have h2 : 4503599627370496 * (1 * 2) ≤ n * (2 ^ k * 2) := Nat.mul_le_mul hn (Nat.mul_le_mul_right 2 this)
  omega
theorem f_order (a b : Nat) (ha : a < 9218868437227405312) (hb : b < 9218868437227405312) : FloatKind.f64.format.order a b = some (Ord.compare a b) := by
  unfold Ieee.Format.order
  rw [read_fin a ha, read_fin b hb]
  obtain ⟨a1, a2, a3⟩ := f_split a
  obtain ⟨b1, b2, b3⟩ := f_split b
  simp only [Ieee.Datum.order, Ieee.signed]
  congr 1
  generalize fmag a = m at *
  generalize fmag b = n at *
  generalize fpl a = p at *
  generalize fpl b = q at *
  have hmin : min (-1074 + (p : Int)) (-1074 + (q : Int)) = -1074 + ((min p q : Nat) : Int) := by omega
  rw [hmin]
  have e1 : (-1074 + (p : Int) - (-1074 + ((min p q : Nat) : Int))).toNat = p - min p q := by omega
  have e2 : (-1074 + (q : Int) - (-1074 + ((min p q : Nat) : Int))).toNat = q - min p q := by omega
  rw [e1, e2]
  have hc : ∀ x y : Nat, Ord.compare (x : Int) (y : Int) = Ord.compare x y := fun x y => by
    rcases Nat.lt_trichotomy x y with h | h | h
    · rw [Nat.compare_eq_lt.2 h, Int.compare_eq_lt.2 (by omega)]
    · rw [h]; simp
    · rw [Nat.compare_eq_gt.2 h, Int.compare_eq_gt.2 (by omega)]
  simp only [Bool.false_eq_true, if_false]
  rw [hc, Nat.shiftLeft_eq, Nat.shiftLeft_eq]
  rcases Nat.lt_trichotomy p q with h | h | h
  · rw [Nat.min_eq_left (by omega), Nat.sub_self]
    have := shl_lt a2 (b3 (by omega)) h
    rw [Nat.compare_eq_lt.2 this, Nat.compare_eq_lt.2 (by omega)]
  · subst h
    rw [Nat.min_self, Nat.sub_self, Nat.pow_zero, Nat.mul_one, Nat.mul_one]
    rcases Nat.lt_trichotomy m n with h | h | h
    · rw [Nat.compare_eq_lt.2 h, Nat.compare_eq_lt.2 (by omega)]
    · subst h; rw [a1, b1, Nat.compare_eq_eq.2 rfl, Nat.compare_eq_eq.2 rfl]
    · rw [Nat.compare_eq_gt.2 h, Nat.compare_eq_gt.2 (by omega)]
  · rw [Nat.min_eq_right (by omega), Nat.sub_self]
    have := shl_lt b2 (a3 (by omega)) h
    rw [Nat.compare_eq_gt.2 this, Nat.compare_eq_gt.2 (by omega)]
theorem f_nan (a : Nat) (h : 9218868437227405312 < a) (h2 : a < 9223372036854775808) : FloatKind.f64.format.order a a = none := by
  unfold Ieee.Format.order
  rw [read_nan a h h2]; rfl
theorem f_self (a : Nat) (h : a ≤ 9218868437227405312) : FloatKind.f64.format.order a a = some .eq := by
  by_cases e : a = 9218868437227405312
  · subst e; decide +kernel
  · rw [f_order a a (by omega) (by omega)]; simp
theorem f_max (a : Nat) (h : a ≤ 9218868437227405312) : (FloatKind.f64.format.order a 9218868437227405311 == some .gt) = decide (a = 9218868437227405312) := by
  by_cases e : a = 9218868437227405312
  · subst e; decide +kernel
  · rw [f_order a _ (by omega) (by omega), decide_eq_false e, beq_eq_false_iff_ne]
    intro h; injection h with h
    have := Nat.compare_eq_gt.1 h
    omega

theorem frombits (a : Nat) (w : World) : (callFunc 24 #[.int .u64 (a : Int)]).run Tryz.prog w = .ok (.value (.float .f64 a)) w := by
  rw [run_callFunc_extern Tryz.func24 (by kernel_rfl) (by kernel_rfl) (by kernel_rfl) (e := Extern.MathFloatBits.float64frombits) (by kernel_rfl)]
  rfl
theorem tobits (a : Nat) (w : World) : (callFunc 25 #[.float .f64 a]).run Tryz.prog w = .ok (.value (.int .u64 (a : Int))) w := by
  rw [run_callFunc_extern Tryz.func25 (by kernel_rfl) (by kernel_rfl) (by kernel_rfl) (e := Extern.MathFloatBits.float64bits) (by kernel_rfl)]
  rfl
end Go.Proofs.YtoachnjapfakdaaGreatDoor
