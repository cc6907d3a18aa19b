/- '[]byte(s)' in this seat's words. -/
import Derived.Test.YtoachnjapfakdaaGreatDoorRdAt
import Derived.Laws.IdiomStrings
import Derived.Laws.AppendOwn
namespace Go.Proofs.YtoachnjapfakdaaGreatDoor
open Go Go.RowKit

/-- The bytes of a string as numbers. -/
def nums (L : List UInt8) : List Int := L.map fun b => (b.toNat : Int)
theorem nums_byt (L : List UInt8) : Byt (nums L) := by
  intro x hx
  obtain ⟨b, _, rfl⟩ := List.mem_map.1 hx
  have := b.toNat_lt
  omega

theorem bytes_of_str (L : List UInt8) (w : World) (hl : L.length ≤ maxLen) :
    ∃ c W2, (convert 9 22 (.string (⟨L.toArray⟩ : ByteArray))).run Tryz.prog w = .ok (.slice (some ⟨w.heap.size, 0, none⟩) L.length c) W2 ∧ RdAt W2 w.heap.size 0 (nums L) ∧ Gr w W2 ∧ L.length ≤ c ∧ c ≤ maxLen := by
  have h := run_bytes_of_string (P := Tryz.prog) w 9 22 5 ⟨L.toArray⟩ Tryz.underlying9 Tryz.underlying22 Tryz.underlying5
  have hs : (⟨L.toArray⟩ : ByteArray).size = L.length := by simp [ByteArray.size]
  rw [hs] at h
  refine ⟨_, _, h, ?_, (Gr.refl w).drew.alloc _, grownCap_ge _ _ _ _, grownCap_le_maxLen _ _ _ _ hl⟩
  refine ⟨fun i hi => ?_, nums_byt L⟩
  rw [Nat.zero_add]
  have hi' : i < L.length := by simpa [nums] using hi
  refine (blk_cell (show ((w.drew).alloc _).heap[w.heap.size]? = some _ from heap_alloc_new w.drew _) i).trans ?_
  unfold bytesRow
  rw [Array.getElem?_append_left (by simp; exact hi')]
  simp [nums, List.getD_eq_getElem?_getD, List.getElem?_eq_getElem hi']
end Go.Proofs.YtoachnjapfakdaaGreatDoor
