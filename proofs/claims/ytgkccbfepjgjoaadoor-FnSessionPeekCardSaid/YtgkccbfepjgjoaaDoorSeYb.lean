/- laws.sessionSize of a number without a sign. -/
import Derived.Test.YtgkccbfepjgjoaaDoorSeMh
import Derived.Laws.BitsLemmas
import Derived.Lib.EndianBits
namespace Go.Proofs.YtgkccbfepjgjoaaDoor
open Go Go.RowKit

def szOf (z : Nat) : Nat := if z % 4 = 0 then 1 else if z % 4 = 1 then 2 else if z % 4 = 2 then 4 else 8
theorem mask8 (a : Int) (h0 : 0 ≤ a) (h1 : a < 18446744073709551616) : bits .and .u64 a 255 = a % 256 := bits_mask .u64 64 (by decide) wraps_u64 8 (by decide) a h0 h1
theorem mask16 (a : Int) (h0 : 0 ≤ a) (h1 : a < 18446744073709551616) : bits .and .u64 a 65535 = a % 65536 := bits_mask .u64 64 (by decide) wraps_u64 16 (by decide) a h0 h1
theorem mask32 (a : Int) (h0 : 0 ≤ a) (h1 : a < 18446744073709551616) : bits .and .u64 a 4294967295 = a % 4294967296 := bits_mask .u64 64 (by decide) wraps_u64 32 (by decide) a h0 h1

set_option maxRecDepth 100000 in
theorem sessionSize3 (z a : Nat) (hz : z < 256) (ha : a < 18446744073709551616) (w : World) :
    Calls Tryd.prog 20 #[.agg #[.int .u8 3, .int .u8 z, .int .u64 a, .bool false, .bool false, .int .u8 0, .slice none 0 0, .slice none 0 0]] w
      fun e w' => e = .returned (.tuple #[.int .u8 (szOf z : Nat), .int .u64 (a % 256 ^ szOf z : Nat)]) ∧ Gr w w' := by
  have m8 := mask8 a (by omega) (by omega)
  have m16 := mask16 a (by omega) (by omega)
  have m32 := mask32 a (by omega) (by omega)
  rcases (by omega : z % 4 = 0 ∨ z % 4 = 1 ∨ z % 4 = 2 ∨ z % 4 = 3) with hz4 | hz4 | hz4 | hz4
  · have hzi : (z : Int) % 4 = 0 := by omega
    have hs : szOf z = 1 := by simp [szOf, hz4]
    have hv : ((a % 256 ^ 1 : Nat) : Int) = (a : Int) % 256 := by simp
    rw [hs, hv]
    clear hs hv
    go_enter Tryd.func20, Tryd.ntmps20
    go_wp2
    go_ret2
    exact ⟨by first | rfl | simp, ((Gr.refl w).alloc _).alloc _⟩
  · have hzi : (z : Int) % 4 = 1 := by omega
    have hs : szOf z = 2 := by simp [szOf, hz4]
    have hv : ((a % 256 ^ 2 : Nat) : Int) = (a : Int) % 65536 := by simp
    rw [hs, hv]
    clear hs hv
    go_enter Tryd.func20, Tryd.ntmps20
    go_wp2
    go_ret2
    exact ⟨by first | rfl | simp, ((Gr.refl w).alloc _).alloc _⟩
  · have hzi : (z : Int) % 4 = 2 := by omega
    have hs : szOf z = 4 := by simp [szOf, hz4]
    have hv : ((a % 256 ^ 4 : Nat) : Int) = (a : Int) % 4294967296 := by simp
    rw [hs, hv]
    clear hs hv
    go_enter Tryd.func20, Tryd.ntmps20
    go_wp2
    go_ret2
    exact ⟨by first | rfl | simp, ((Gr.refl w).alloc _).alloc _⟩
  · have hzi : (z : Int) % 4 = 3 := by omega
    have hs : szOf z = 8 := by simp [szOf, hz4]
    have hv : ((a % 256 ^ 8 : Nat) : Int) = (a : Int) % 18446744073709551616 := by simp
    rw [hs, hv]
    clear hs hv
    go_enter Tryd.func20, Tryd.ntmps20
    go_wp2
    go_ret2
    exact ⟨by rw [show (a : Int) % 18446744073709551616 = a by omega]; rfl, ((Gr.refl w).alloc _).alloc _⟩
end Go.Proofs.YtgkccbfepjgjoaaDoor
