/- Contracts over a packet's head: the bytes of a head, by the package. -/
import Derived.Test.YtoaajnhbcekglaaDoorPkA
import Derived.Test.YtoaajnhbcekglaaDoorZero
import Derived.Test.YtoaajnhbcekglaaDoorShelf
import Derived.Deep.RegionHeld3
namespace Go.Proofs.YtoaajnhbcekglaaDoor
open Go Go.RowKit

/-- The n least significant bytes of a number, the most significant one first. -/
def be2 (n : Int) : List Int := [n / 256 % 256, n % 256]
def be4 (n : Int) : List Int := [n / 16777216 % 256, n / 65536 % 256, n / 256 % 256, n % 256]

/-- The bytes of a head. -/
def headL (long : Bool) (len ty fl : Int) (off : Nat) : List Int :=
  (if long = true then be4 len else be2 len ++ [0, 0]) ++ [ty, fl, 0, 0] ++ List.replicate (off - 8) 0

/-- What a call returns: a slice of its own with these bytes; nothing that was there has changed. -/
def RetB (w0 : World) (xs : List Int) (e : Ending) (w' : World) : Prop := ∃ v, e = .returned v ∧ Own w0.heap.size w' v xs ∧ Gr w0 w'

theorem u8 : U8 Tryd.prog 30 := ⟨Tryd.underlying30, by kernel_rfl⟩

theorem be2_byt (n : Int) : Byt (be2 n) := by
  intro x hx; simp only [be2, List.mem_cons, List.not_mem_nil, or_false] at hx; omega
theorem be4_byt (n : Int) : Byt (be4 n) := by
  intro x hx; simp only [be4, List.mem_cons, List.not_mem_nil, or_false] at hx; omega

theorem beCells2 (v : Nat) : Lib.byteCells (Lib.beBytes 2 v) = (be2 v).map (Value.int .u8) := by
  simp [Lib.byteCells, Lib.beBytes, Lib.leBytes, be2]
theorem beCells4 (v : Nat) : Lib.byteCells (Lib.beBytes 4 v) = (be4 v).map (Value.int .u8) := by
  simp [Lib.byteCells, Lib.beBytes, Lib.leBytes, be4]
  omega

/-- PutUint16 into a row of the call's own, from place o on. -/
theorem put16 (w : World) (g cap : Nat) (xs : List Int) (o n c : Nat) (v : Int) (hv : 0 ≤ v ∧ v < 65536) (h : OwnAt w g cap xs) (hn : 2 ≤ n) (ho : o + 2 ≤ xs.length) :
    Calls Tryd.prog 53 #[.agg #[], .slice (some ⟨g, o, none⟩) n c, .int .u16 v] w fun e w' => e = .returned (.tuple #[]) ∧ OwnAt w' g cap (putAt xs o (be2 v)) ∧ ∀ w0, Gr w0 w → w0.heap.size ≤ g → Gr w0 w' := by
  obtain ⟨k, rfl⟩ := Int.eq_ofNat_of_zero_le hv.1
  refine (Tryd.binary_BE_PutUint16 g o n c k (by omega) _ _ w hn (h.cell o (by omega)) (h.cell (o + 1) (by omega)) (h.free o) (h.free (o + 1))).mono fun e w' => ?_
  rintro ⟨rfl, rfl⟩
  rw [beCells2]
  exact ⟨rfl, (h.alloc _).setCells o _ (by simp [be2]; omega) (be2_byt _), fun w0 h0 hg => (h0.alloc _).setCells hg _ _⟩
theorem put32 (w : World) (g cap : Nat) (xs : List Int) (o n c : Nat) (v : Int) (hv : 0 ≤ v ∧ v < 4294967296) (h : OwnAt w g cap xs) (hn : 4 ≤ n) (ho : o + 4 ≤ xs.length) :
    Calls Tryd.prog 52 #[.agg #[], .slice (some ⟨g, o, none⟩) n c, .int .u32 v] w fun e w' => e = .returned (.tuple #[]) ∧ OwnAt w' g cap (putAt xs o (be4 v)) ∧ ∀ w0, Gr w0 w → w0.heap.size ≤ g → Gr w0 w' := by
  obtain ⟨k, rfl⟩ := Int.eq_ofNat_of_zero_le hv.1
  refine (Tryd.binary_BE_PutUint32 g o n c k (by omega) _ _ _ _ w hn (h.cell o (by omega)) (h.cell (o + 1) (by omega)) (h.cell (o + 2) (by omega)) (h.cell (o + 3) (by omega)) (h.free o) (h.free (o + 1)) (h.free (o + 2)) (h.free (o + 3))).mono fun e w' => ?_
  rintro ⟨rfl, rfl⟩
  rw [beCells4]
  exact ⟨rfl, (h.alloc _).setCells o _ (by simp [be4]; omega) (be4_byt _), fun w0 h0 hg => (h0.alloc _).setCells hg _ _⟩

end Go.Proofs.YtoaajnhbcekglaaDoor
