/- The reference's helpers: numbers put into bytes, and read out of them. -/
import Derived.Test.YtoaajnhbcekglaaDoorPkB
import Derived.LoopN
namespace Go.Proofs.YtoaajnhbcekglaaDoor
open Go Go.RowKit

set_option maxRecDepth 100000 in
theorem packetPut2 (g cap : Nat) (xs : List Int) (o n : Nat) (v : Int) (w : World) (h : OwnAt w g cap xs) (hv : 0 ≤ v ∧ v < 18446744073709551616) (hn : xs.length = n) (ho : o + 2 ≤ n) :
    Calls Tryd.prog 30 #[.slice (some ⟨g, 0, none⟩) n cap, .int .i64 o, .int .i64 2, .int .u64 v] w fun e w' => e = .returned (.tuple #[]) ∧ OwnAt w' g cap (putAt xs o (be2 v)) ∧ ∀ w0, Gr w0 w → w0.heap.size ≤ g → Gr w0 w' := by
  subst hn
  have c0 := h.cell o (by omega)
  have f0 := h.free o
  have c1 := h.cell (o + 1) (by omega)
  have f1 := h.free (o + 1)
  have hl : xs.length ≤ 9223372036854775807 := by have := h.2.1; have := h.2.2.1; simp only [maxLen] at this; omega
  have hv1 := hv.1
  have hv2 := hv.2
  go_enter Tryd.func30, Tryd.ntmps30
  go_wp2
  refine wp_loop_rounds 3 ?_
  rw [rounds_succ]
  go_wp2
  rw [rounds_succ]
  go_wp2
  rw [rounds_succ]
  go_wp2
  go_end0
  exact ⟨rfl, ((h.setCell o (by omega) _ (by omega)).setCell (o + 1) (by simp only [List.length_set]; omega) _ (by omega)), fun w0 hw hg => ((hw.setCell hg _).setCell hg _)⟩

set_option maxRecDepth 100000 in
theorem packetPut4 (g cap : Nat) (xs : List Int) (o n : Nat) (v : Int) (w : World) (h : OwnAt w g cap xs) (hv : 0 ≤ v ∧ v < 18446744073709551616) (hn : xs.length = n) (ho : o + 4 ≤ n) :
    Calls Tryd.prog 30 #[.slice (some ⟨g, 0, none⟩) n cap, .int .i64 o, .int .i64 4, .int .u64 v] w fun e w' => e = .returned (.tuple #[]) ∧ OwnAt w' g cap (putAt xs o (be4 v)) ∧ ∀ w0, Gr w0 w → w0.heap.size ≤ g → Gr w0 w' := by
  subst hn
  have c0 := h.cell o (by omega)
  have f0 := h.free o
  have c1 := h.cell (o + 1) (by omega)
  have f1 := h.free (o + 1)
  have c2 := h.cell (o + 2) (by omega)
  have f2 := h.free (o + 2)
  have c3 := h.cell (o + 3) (by omega)
  have f3 := h.free (o + 3)
  have hl : xs.length ≤ 9223372036854775807 := by have := h.2.1; have := h.2.2.1; simp only [maxLen] at this; omega
  have hv1 := hv.1
  have hv2 := hv.2
  go_enter Tryd.func30, Tryd.ntmps30
  go_wp2
  refine wp_loop_rounds 5 ?_
  rw [rounds_succ]
  go_wp2
  rw [rounds_succ]
  go_wp2
  rw [rounds_succ]
  go_wp2
  rw [rounds_succ]
  go_wp2
  rw [rounds_succ]
  go_wp2
  go_end0
  exact ⟨rfl, ((((h.setCell o (by omega) _ (by omega)).setCell (o + 1) (by simp only [List.length_set]; omega) _ (by omega)).setCell (o + 2) (by simp only [List.length_set]; omega) _ (by omega)).setCell (o + 3) (by simp only [List.length_set]; omega) _ (by omega)), fun w0 hw hg => ((((hw.setCell hg _).setCell hg _).setCell hg _).setCell hg _)⟩

theorem packetLong (c : Ctx) (w : World) : Calls Tryd.prog 36 #[c.val] w fun e w' => e = .returned (.bool (c.done && decide (315 ≤ c.ver))) ∧ Gr w w' := by
  unfold Ctx.val
  obtain ⟨ver, lo, opt, our, his, a0, a1, sdu, tdu, done⟩ := c
  simp only
  cases done
  · go_enter Tryd.func36, Tryd.ntmps36
    go_wp2
    go_ret
    exact ⟨rfl, (Gr.refl w).alloc _⟩
  · go_enter Tryd.func36, Tryd.ntmps36
    go_wp2
    go_ret
    exact ⟨by simp, (Gr.refl w).alloc _⟩

/-- The length at the beginning of a packet. -/
def lenL (long : Bool) (v : Int) : List Int := if long = true then be4 v else be2 v

theorem packetLength (c : Ctx) (g cap : Nat) (xs : List Int) (n : Nat) (v : Int) (w : World) (h : OwnAt w g cap xs) (hv : 0 ≤ v ∧ v < 18446744073709551616) (hn : xs.length = n) (ho : 4 ≤ n) :
    Calls Tryd.prog 29 #[c.val, .slice (some ⟨g, 0, none⟩) n cap, .int .u64 v] w fun e w' => e = .returned (.tuple #[]) ∧ OwnAt w' g cap (putAt xs 0 (lenL (c.done && decide (315 ≤ c.ver)) v)) ∧ ∀ w0, Gr w0 w → w0.heap.size ≤ g → Gr w0 w' := by
  have hc : ∀ w, Calls Tryd.prog 36 #[c.val] w fun e w' => e = .returned (.bool (c.done && decide (315 ≤ c.ver))) ∧ Gr w w' := packetLong c
  have HC := Lib.hid hc
  clear hc
  unfold Ctx.val at HC ⊢
  generalize (c.done && decide (315 ≤ c.ver)) = long at HC ⊢
  have hg0 := h.lt
  cases long
  · go_enter Tryd.func29, Tryd.ntmps29
    go_wp2_with (first
      | (go_at_call 36; refine (HC.out _).mono ?_; rintro e w1 ⟨rfl, hg1⟩; have hw1 := Gr.trans ((Gr.refl w).alloc _) hg1)
      | (go_at_call 30; refine (packetPut2 g cap xs 0 n v _ (h.gr hw1) hv hn (by omega)).mono ?_; rintro e w2 ⟨rfl, ho2, hf2⟩))
    go_end0
    exact ⟨rfl, ho2, fun w0 hw hg => hf2 w0 (hw.trans hw1) hg⟩
  · go_enter Tryd.func29, Tryd.ntmps29
    go_wp2_with (first
      | (go_at_call 36; refine (HC.out _).mono ?_; rintro e w1 ⟨rfl, hg1⟩; have hw1 := Gr.trans ((Gr.refl w).alloc _) hg1)
      | (go_at_call 30; refine (packetPut4 g cap xs 0 n v _ (h.gr hw1) hv hn (by omega)).mono ?_; rintro e w2 ⟨rfl, ho2, hf2⟩))
    refine bodyPost_ret (results_none rfl _ _ _) rfl ?_
    exact ⟨rfl, ho2, fun w0 hw hg => hf2 w0 (hw.trans hw1) hg⟩
end Go.Proofs.YtoaajnhbcekglaaDoor
