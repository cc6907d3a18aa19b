/- The laws' fixed example: 123. -/
import Derived.Test.YtoachnjapfakdaaGreatDoorNmD
namespace Go.Proofs.YtoachnjapfakdaaGreatDoor
open Go Go.RowKit

set_option maxRecDepth 100000 in
set_option maxHeartbeats 2000000 in
theorem from123 (b o c : Nat) (w : World) (h : RdAt w b o [194, 2, 24]) (hc : 3 ≤ c) (hm : c ≤ maxLen) :
    Calls Tryz.prog 26 #[.slice (some ⟨b, o, none⟩) 3 c] w fun e w' => e = .returned (.tuple #[.int .u64 123, .bool false, .int .i64 0, .int .i64 3, .nilIface]) ∧ w' = w := by
  have k0 := h.cell 0 (by simp)
  have k1 := h.cell 1 (by simp)
  have k2 := h.cell 2 (by simp)
  rw [Nat.add_zero] at k0
  rw [show ([194, 2, 24] : List Int).getD 0 0 = 194 from rfl] at k0
  rw [show ([194, 2, 24] : List Int).getD 1 0 = 2 from rfl] at k1
  rw [show ([194, 2, 24] : List Int).getD 2 0 = 24 from rfl] at k2
  have k2' : w.cell? ⟨b, o + 1 + 1, none⟩ = some (.int .u8 24) := k2
  have hb1 : bits .and .u8 194 128 = 128 := by decide +kernel
  have hb2 : bits .and .u8 194 127 = 66 := by decide +kernel
  have a1 : ∀ w, Calls Tryz.prog 36 #[.int .u64 0, .int .u8 0] w fun e w' => e = .returned (.tuple #[.int .u64 0, .bool false]) ∧ w' = w := fun w => addDigit 0 0 (by omega) (by omega) (by omega) w
  have a2 : ∀ w, Calls Tryz.prog 36 #[.int .u64 0, .int .u8 1] w fun e w' => e = .returned (.tuple #[.int .u64 1, .bool false]) ∧ w' = w := fun w => addDigit 0 1 (by omega) (by omega) (by omega) w
  have a3 : ∀ w, Calls Tryz.prog 36 #[.int .u64 1, .int .u8 2] w fun e w' => e = .returned (.tuple #[.int .u64 12, .bool false]) ∧ w' = w := fun w => addDigit 1 2 (by omega) (by omega) (by omega) w
  have a4 : ∀ w, Calls Tryz.prog 36 #[.int .u64 12, .int .u8 3] w fun e w' => e = .returned (.tuple #[.int .u64 123, .bool false]) ∧ w' = w := fun w => addDigit 12 3 (by omega) (by omega) (by omega) w
  have A1 := Lib.hid a1
  have A2 := Lib.hid a2
  have A3 := Lib.hid a3
  have A4 := Lib.hid a4
  have hcm : c ≤ 9223372036854775807 := by simp only [maxLen] at hm; omega
  have hc1 : ¬ c = 1 := by omega
  clear a1 a2 a3 a4 h hm
  go_enter Tryz.func26, Tryz.ntmps26
  go_wp2
  refine wp_loop_rounds 3 ?_
  rw [rounds_succ]
  go_wp2_with (first
    | (go_at_call 36; with_reducible refine (A1.out _).mono ?_; rintro e w1 ⟨rfl, rfl⟩)
    | (go_at_call 36; with_reducible refine (A2.out _).mono ?_; rintro e w1 ⟨rfl, rfl⟩))
  rw [rounds_succ]
  go_wp2_with (first
    | (go_at_call 36; with_reducible refine (A3.out _).mono ?_; rintro e w1 ⟨rfl, rfl⟩)
    | (go_at_call 36; with_reducible refine (A4.out _).mono ?_; rintro e w1 ⟨rfl, rfl⟩))
  rw [rounds_succ]
  go_wp2
  exact bodyPost_ret (v := .tuple #[.int .u64 123, .bool false, .int .i64 0, .int .i64 3, .nilIface]) (by simp [results, Tryz.results26, go_sem]) rfl ⟨rfl, rfl⟩

set_option maxRecDepth 100000 in
theorem decode123 (v : Value) (w : World) (h : Rd w v [194, 2, 24]) :
    Calls Tryz.prog 31 #[v] w fun e w' => e = .returned (.int .i64 123) ∧ w' = w := by
  obtain ⟨b, o, c, rfl, hc, hm, hr⟩ := h.at' (by simp)
  have HF := Lib.hid (from123 b o c w hr hc hm)
  show Calls Tryz.prog 31 #[.slice (some ⟨b, o, none⟩) 3 c] w _
  go_enter Tryz.func31, Tryz.ntmps31
  go_wp2_with (first | (go_at_call 26; refine HF.out.mono ?_; rintro e w1 ⟨rfl, rfl⟩))
  refine wp_loop_rounds 1 ?_
  rw [rounds_succ]
  go_wp2
  go_ret
  exact ⟨rfl, rfl⟩

theorem int123 (v : Value) (w : World) (h : Rd w v [194, 2, 24]) :
    Calls Tryz.prog 19 #[v] w fun e w' => e = .returned (.int .i64 123) ∧ Gr w w' := by
  have HC := Lib.hid (clone v _ w h (by simp))
  obtain ⟨p, c, rfl, _⟩ := h
  go_enter Tryz.func19, Tryz.ntmps19
  go_wp2_with (first
    | (go_at_call 17; go_must (refine HC.out.mono ?_); rintro e w1 ⟨u1, rfl, ho1, hg1⟩)
    | (go_at_call 31; go_must (refine (decode123 u1 w1 ho1.rd).mono ?_); rintro e w2 ⟨rfl, rfl⟩))
  go_ret
  exact ⟨rfl, hg1⟩
end Go.Proofs.YtoachnjapfakdaaGreatDoor
