/- One sign is taken off the end of a text (FnUrlOptions). -/
import Derived.Test.YtpadpdmidiaeoaaGreatDoorUrT
import Derived.LoopN
import Derived.Deep.QuietTactic
namespace Go.Proofs.YtpadpdmidiaeoaaGreatDoor
open Go Go.RowKit

theorem bs_idx0 (T : List UInt8) (j : Nat) (b : UInt8) (h : T[j]? = some b) : ∀ hj, (((bs T)[j]'hj).toNat : Int) = (b.toNat : Int) := fun hj => by
  have hj' : j < T.length := by rwa [bs_size] at hj
  rw [bs_get T j hj hj']
  rw [List.getElem?_eq_getElem hj'] at h
  injection h with h
  rw [h]

set_option maxRecDepth 100000 in
set_option maxHeartbeats 4000000 in
theorem zzTrimRight (A : List UInt8) (b c : UInt8) (hb : b ≠ c) (hl : A.length ≤ 100000000) (w : World) :
    Calls Tryz.prog 46 #[.string (bs (A ++ [b, c])), .string (bs [c])] w fun e w' => e = .returned (.string (bs (A ++ [b]))) ∧ Gr w w' := by
  have hsz : (bs (A ++ [b, c])).size = A.length + 2 := by rw [bs_size]; simp
  have hsz1 : (bs [c]).size = 1 := rfl
  have hx : (bs (A ++ [b, c])).extract 0 (A.length + 1) = bs (A ++ [b]) := bs_extract' _ _ _ _ (by rw [List.take_append]; simp [List.take_of_length_le (Nat.le_succ A.length)])
  have h1 : ∀ h, (((bs (A ++ [b, c]))[A.length]'h).toNat : Int) = (b.toNat : Int) := bs_idx0 _ _ _ (by simp)
  have h2 : ∀ h, (((bs (A ++ [b, c]))[A.length + 1]'h).toNat : Int) = (c.toNat : Int) := bs_idx0 _ _ _ (by rw [List.getElem?_append_right (by omega)]; simp)
  have h3 : ∀ h, (((bs [c])[0]'h).toNat : Int) = (c.toNat : Int) := fun h => rfl
  have hbc : ((c.toNat : Int) == (b.toNat : Int)) = false := by
    simp only [beq_eq_false_iff_ne, ne_eq]
    intro e; exact hb (UInt8.toNat_inj.1 (by omega)).symm
  generalize bs (A ++ [b, c]) = S at *
  generalize bs (A ++ [b]) = Y at *
  generalize bs [c] = C at *
  generalize A.length = m at *
  generalize (b.toNat : Int) = bb at *
  generalize (c.toNat : Int) = cc at *
  have i1 : (m : Int) + 2 - 1 = ((m + 1 : Nat) : Int) := by omega
  go_enter Tryz.func46, Tryz.ntmps46
  go_wp2
  refine wp_loop_rounds 2 ?_
  rw [rounds_succ]
  go_wp2
  refine wp_loop_rounds 2 ?_
  rw [rounds_succ]
  go_wp2
  go_quiet (fail)
  go_wp2
  rw [rounds_succ]
  go_wp2
  rw [rounds_succ]
  go_wp2
  refine wp_loop_rounds 2 ?_
  rw [rounds_succ]
  go_wp2
  go_quiet (fail)
  go_wp2
  rw [rounds_succ]
  go_wp2
  go_ret
  exact ⟨rfl, (Gr.refl w).drewN _⟩
end Go.Proofs.YtpadpdmidiaeoaaGreatDoor
