/- The smaller one of two small numbers, as floats. -/
import Derived.Test.YthimnfdoeplebaaDoorNmT
import Derived.Laws.Cover2
import Derived.Laws.FloatArith
import Derived.Laws.Externs
namespace Go.Proofs.YthimnfdoeplebaaDoor
open Go Go.RowKit

/-- The bits of a small number as a float of 64 bits. -/
def fl (i : Nat) : Nat := floatOfInt .f64 i

/-- Of two floats the smaller one. -/
def minBits (x y : Nat) : Nat :=
  let a := FloatKind.f64.decode x
  let b := FloatKind.f64.decode y
  if a == .infinity true || b == .infinity true then FloatKind.f64.encode (.infinity true)
  else if a.isNaN || b.isNaN then 0x7FF8000000000001
  else if a.isZero && b.isZero then (if a.neg == true then x else y)
  else if a.order b == some .lt then x else y
theorem minBits_fl' : ∀ i : Fin 24, ∀ j : Fin 24, minBits (fl i) (fl j) = fl (min i.val j.val) := by decide +kernel
theorem fl_int' : ∀ i : Fin 24, floatToIntVal .f64 (fl i) .i64 = some (i.val : Int) := by decide +kernel
theorem minBits_fl (i j : Nat) (hi : i < 24) (hj : j < 24) : minBits (fl i) (fl j) = fl (min i j) := minBits_fl' ⟨i, hi⟩ ⟨j, hj⟩
theorem fl_int (i : Nat) (hi : i < 24) : floatToIntVal .f64 (fl i) .i64 = some (i : Int) := fl_int' ⟨i, hi⟩

theorem archMin (x y : Nat) (w : World) : (callFunc 111 #[.float .f64 x, .float .f64 y]).run Tryd.prog w = .ok (.value (.float .f64 (minBits x y))) w := by
  rw [run_callFunc_extern Tryd.func111 (by kernel_rfl) (by kernel_rfl) (by kernel_rfl) (e := Extern.MathDim.pick "math.archMin" true .lt) (by kernel_rfl)]
  rfl
set_option maxRecDepth 100000 in
theorem minF (i j : Nat) (w : World) (hi : i < 24) (hj : j < 24) :
    Calls Tryd.prog 107 #[.float .f64 (fl i), .float .f64 (fl j)] w fun e w' => e = .returned (.float .f64 (fl (min i j))) ∧ w' = w := by
  have h := archMin (fl i) (fl j) w
  rw [minBits_fl i j hi hj] at h
  generalize fl (min i j) = Z at *
  generalize fl i = X at *
  generalize fl j = Y at *
  clear hi hj
  go_enter Tryd.func107, Tryd.ntmps107
  go_wp2
  go_ret
  exact ⟨rfl, rfl⟩
end Go.Proofs.YthimnfdoeplebaaDoor
