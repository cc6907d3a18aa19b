/- The laws' fixed example holds. -/
import Derived.Test.YtoachnjapfakdaaGreatDoorNmF
namespace Go.Proofs.YtoachnjapfakdaaGreatDoor
open Go Go.RowKit

set_option maxRecDepth 100000 in
theorem awake (w : World) (ht : Tab10 w) : Calls Tryz.prog 10 #[] w fun e w' => e = .returned (.bool true) ∧ Gr w w' := by
  have H := numberOf_pos 123 (by omega) w ht
  rw [form123, show ((123 : Nat) : Int) = 123 from rfl] at H
  have H := Lib.hid H
  have hS := fun (v u : Value) (w : World) (hx : Rd w v [194, 2, 24]) (hy : Rd w u [194, 2, 24]) => Lib.hid ((same v u [194, 2, 24] [194, 2, 24] w hx hy).mono fun e w' (h : _ ∧ w' = w) => (show e = Ending.returned (Value.bool true) ∧ w' = w from ⟨by rw [h.1]; simp, h.2⟩))
  have hB : Byt [194, 2, 24] := by intro x hx; simp at hx; omega
  have hL := fun w H (hH : w.heap.size = H) => Lib.hid (Rd.lit w [194, 2, 24] #[.int .u8 194, .int .u8 2, .int .u8 24] 3 hB rfl rfl (T := 5) (fr := (0, 0)) (by simp [maxLen]) hH)
  go_enter Tryz.func10, Tryz.ntmps10
  go_wp2_with (first
    | (go_at_call 18; go_must (with_reducible refine H.out.mono ?_); rintro e w1 ⟨v1, rfl, ho1, hg1⟩)
    | (go_at_call 5; go_must (with_reducible refine (hS v1 _ _ (ho1.rd.gr ((Gr.refl _).alloc _)) (hL w1 _ rfl).out).out.mono ?_); rintro e w2 ⟨rfl, rfl⟩)
    | (go_at_call 19; go_must (with_reducible refine (int123 _ _ (hL (w1.alloc (.cells #[.int .u8 194, .int .u8 2, .int .u8 24] 5)) (w1.heap.size + 1) (by simp)).out).mono ?_); rintro e w3 ⟨rfl, hg3⟩))
  go_ret
  exact ⟨rfl, (hg1.alloc _).trans (Gr.trans ((Gr.refl _).alloc _) hg3)⟩
end Go.Proofs.YtoachnjapfakdaaGreatDoor
