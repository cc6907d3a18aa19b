/- A text cut at a sign: plain. -/
import Derived.Test.YtpadpdmidiaeoaaGreatDoorUrE
namespace Go.Proofs.YtpadpdmidiaeoaaGreatDoor
open Go Go.RowKit

theorem cut_at (A R : List UInt8) (s : UInt8) (h : s ∉ A) (k : Nat) (hk : k < (bs (A ++ s :: R)).size) : (k < A.length → (((bs (A ++ s :: R))[k]'hk).toNat : Int) ≠ (s.toNat : Int)) ∧ (k = A.length → (((bs (A ++ s :: R))[k]'hk).toNat : Int) = (s.toNat : Int)) := by
  have h' : k < (A ++ s :: R).length := by rwa [bs_size] at hk
  rw [bs_get _ _ hk h']
  refine ⟨fun hka e => ?_, fun hka => ?_⟩
  · rw [List.getElem_append_left hka] at e
    have : A[k] = s := UInt8.toNat_inj.1 (by omega)
    exact h (this ▸ List.getElem_mem hka)
  · subst hka
    rw [List.getElem_append_right (Nat.le_refl _)]
    simp
theorem cut_parts (A R : List UInt8) (s : UInt8) : (bs (A ++ s :: R)).extract 0 A.length = bs A ∧ (bs (A ++ s :: R)).extract (A.length + 1) (A.length + 1 + R.length) = bs R := by
  refine ⟨bs_extract' _ _ _ _ (by simp), bs_extract' _ _ _ _ ?_⟩
  rw [List.take_of_length_le (by simp; omega)]
  simp [List.drop_append]
end Go.Proofs.YtpadpdmidiaeoaaGreatDoor
