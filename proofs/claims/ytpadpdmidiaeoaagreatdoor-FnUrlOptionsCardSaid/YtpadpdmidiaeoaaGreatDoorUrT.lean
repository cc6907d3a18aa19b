/- Where a sign stands in a text (FnUrlOptions). -/
import Derived.Test.YtpadpdmidiaeoaaGreatDoorUrF
namespace Go.Proofs.YtpadpdmidiaeoaaGreatDoor
open Go Go.RowKit

theorem ext_one (L : List UInt8) (c : UInt8) (k : Nat) (h : k < L.length) : (((bs L).extract k (k + 1)).toList == (bs [c]).toList) = decide (L[k] = c) := by
  have e : (bs L).extract k (k + 1) = bs [L[k]] := bs_extract' _ _ _ _ (by rw [List.take_succ_eq_append_getElem h, List.drop_append]; simp [Nat.min_eq_left (Nat.le_of_lt h)])
  rw [e, bs_eq]
  simp

set_option maxRecDepth 100000 in
set_option maxHeartbeats 2000000 in
theorem zzIndexAt (A R : List UInt8) (c : UInt8) (h : c ∉ A) (hl : A.length + R.length ≤ 100000000) (w : World) :
    Calls Tryz.prog 60 #[.string (bs (A ++ c :: R)), .string (bs [c])] w fun e w' => e = .returned (.int .i64 A.length) ∧ w' = w := by
  have hsz : (bs (A ++ c :: R)).size = A.length + 1 + R.length := by rw [bs_size]; simp; omega
  have hsz1 : (bs [c]).size = 1 := rfl
  have hq1 : ∀ k, k < A.length → (((bs (A ++ c :: R)).extract k (k + 1)).toList == (bs [c]).toList) = false := fun k hk => by
    rw [ext_one _ c k (by simp; omega), decide_eq_false_iff_not, List.getElem_append_left hk]
    intro e; exact h (e ▸ List.getElem_mem hk)
  have hq2 : (((bs (A ++ c :: R)).extract A.length (A.length + 1)).toList == (bs [c]).toList) = true := by
    rw [ext_one _ c A.length (by simp), decide_eq_true_iff]
    rw [List.getElem_append_right (Nat.le_refl _)]; simp
  have HQ1 := fun k h => Lib.hid (hq1 k h)
  have HQ2 := Lib.hid hq2
  generalize A.length = m at *
  generalize R.length = r at *
  generalize bs (A ++ c :: R) = S at *
  generalize bs [c] = C at *
  clear hq1 hq2 h
  go_enter Tryz.func60, Tryz.ntmps60
  go_wp2
  go_loopw [5] (fun i wr => ∃ k : Nat, i = .int .i64 k ∧ k ≤ m ∧ wr = w) (fun i _ => ((m : Int) - intOf i).toNat)
  case atStart => exact ⟨0, rfl, by omega, rfl⟩
  case round =>
    obtain ⟨k, rfl, hk, rfl⟩ := hrel
    have i1 : (k : Int) + 1 ≤ ((m + 1 + r : Nat) : Int) := by omega
    by_cases hkm : k < m
    · have hq := (HQ1 k hkm).out
      go_wp2
      go_roundw
      case rel => exact ⟨k + 1, by go_num, by omega, by trivial⟩
      case measure => first | (simp [intOf]; done) | (simp [intOf]; omega)
    · obtain rfl : m = k := by omega
      have hq := HQ2.out
      go_wp2
      go_ret
      exact ⟨rfl, rfl⟩

set_option maxRecDepth 100000 in
set_option maxHeartbeats 2000000 in
theorem zzIndexNo (A : List UInt8) (c : UInt8) (h : c ∉ A) (hl : A.length ≤ 100000000) (w : World) :
    Calls Tryz.prog 60 #[.string (bs A), .string (bs [c])] w fun e w' => e = .returned (.int .i64 (-1)) ∧ w' = w := by
  have hsz : (bs A).size = A.length := bs_size A
  have hsz1 : (bs [c]).size = 1 := rfl
  have hq1 : ∀ k, k < A.length → (((bs A).extract k (k + 1)).toList == (bs [c]).toList) = false := fun k hk => by
    rw [ext_one _ c k hk, decide_eq_false_iff_not]
    intro e; exact h (e ▸ List.getElem_mem hk)
  have HQ1 := fun k h => Lib.hid (hq1 k h)
  generalize A.length = m at *
  generalize bs A = S at *
  generalize bs [c] = C at *
  clear hq1 h
  go_enter Tryz.func60, Tryz.ntmps60
  go_wp2
  go_loopw [5] (fun i wr => ∃ k : Nat, i = .int .i64 k ∧ k ≤ m ∧ wr = w) (fun i _ => ((m : Int) - intOf i).toNat)
  case atStart => exact ⟨0, rfl, by omega, rfl⟩
  case round =>
    obtain ⟨k, rfl, hk, rfl⟩ := hrel
    by_cases hkm : k < m
    · have i1 : (k : Int) + 1 ≤ (m : Int) := by omega
      have hq := (HQ1 k hkm).out
      go_wp2
      go_roundw
      case rel => exact ⟨k + 1, by go_num, by omega, by trivial⟩
      case measure => first | (simp [intOf]; done) | (simp [intOf]; omega)
    · obtain rfl : m = k := by omega
      have i1 : ¬ ((m : Int) + 1 ≤ (m : Int)) := by omega
      go_wp2
      go_ret
      exact ⟨rfl, rfl⟩
end Go.Proofs.YtpadpdmidiaeoaaGreatDoor
