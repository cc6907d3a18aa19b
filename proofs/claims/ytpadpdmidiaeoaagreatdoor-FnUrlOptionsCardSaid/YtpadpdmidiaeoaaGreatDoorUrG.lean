/- FnUrlBack: a host's letters. -/
import Derived.Test.YtpadpdmidiaeoaaGreatDoorUrF
namespace Go.Proofs.YtpadpdmidiaeoaaGreatDoor
open Go Go.RowKit

theorem hostB_yes (x : Nat) (h : (97 ≤ x ∧ x ≤ 122) ∨ (65 ≤ x ∧ x ≤ 90) ∨ (48 ≤ x ∧ x ≤ 57) ∨ x = 46 ∨ x = 45) : hostB x = true := by
  unfold hostB
  simp only [Bool.or_eq_true, Bool.and_eq_true, decide_eq_true_eq, beq_iff_eq]
  omega
theorem hostB_no (x : Nat) (h : ¬ ((97 ≤ x ∧ x ≤ 122) ∨ (65 ≤ x ∧ x ≤ 90) ∨ (48 ≤ x ∧ x ≤ 57) ∨ x = 46 ∨ x = 45)) : hostB x = false := by
  cases e : hostB x with
  | false => rfl
  | true =>
    unfold hostB at e
    simp only [Bool.or_eq_true, Bool.and_eq_true, decide_eq_true_eq, beq_iff_eq] at e
    omega

set_option maxRecDepth 100000 in
set_option maxHeartbeats 4000000 in
theorem urlHost (L : List UInt8) (hl : L.length ≤ 4000000000) (w : World) :
    Calls Tryz.prog 5 #[.string (bs L)] w fun e w' => e = .returned (.bool (hostOk L)) ∧ Gr w w' := by
  obtain ⟨c, W2, hcv, hrw, hg, hc1, hc2⟩ := bytes_of_str_rw L w (by simp only [maxLen]; omega)
  obtain ⟨n, hn⟩ : ∃ n, L.length = n := ⟨_, rfl⟩
  have hsz : (bs L).size = n := by rw [bs_size, hn]
  have hem : (bs L).toList.isEmpty = decide (n = 0) := by
    have e : (bs L).toList = L := by simp [bs]
    rw [e, ← hn]
    cases L <;> simp
  have hok : hostOk L = (L.all (fun b => hostB b.toNat) && decide (1 ≤ n ∧ n ≤ 100)) := by unfold hostOk; rw [hn]
  rw [hn] at hcv hc1 hl
  have hcm : c ≤ 9223372036854775807 := by simp only [maxLen] at hc2; omega
  have HN := Lib.hid hn
  have HG := Lib.hid hg
  have HRW := Lib.hid hrw
  have HOK := Lib.hid hok
  clear hrw hg hn hc2 hok
  generalize hS : bs L = S at *
  clear hS
  go_enter Tryz.func5, Tryz.ntmps5
  go_wp2
  go_loopw [8] (fun i wr => ∃ k : Nat, i = .int .i64 k ∧ k ≤ n ∧ ((L.take k).all fun b => hostB b.toNat) = true ∧ wr = W2) (fun i _ => ((n : Int) - intOf i).toNat)
  case atStart => exact ⟨0, rfl, Nat.zero_le _, by simp, rfl⟩
  case round =>
    obtain ⟨k, rfl, hk, hall, rfl⟩ := hrel
    by_cases hkn : k < n
    · have hkL : k < L.length := by rw [HN.out]; exact hkn
      have kc := HRW.out.cell k (by rw [nums_length]; exact hkL)
      have hgd : (nums L).getD k 0 = (L[k].toNat : Int) := by simp [nums, List.getD_eq_getElem?_getD, hkL]
      rw [hgd] at kc
      have ht : ((L.take (k + 1)).all fun b => hostB b.toNat) = (((L.take k).all fun b => hostB b.toNat) && hostB L[k].toNat) := by
        rw [List.take_succ_eq_append_getElem hkL, List.all_append]; simp
      have hno : hostB L[k].toNat = false → (L.all fun b => hostB b.toNat) = false := fun h => by
        rw [← Bool.not_eq_true, List.all_eq_true]
        intro h2
        have := h2 L[k] (List.getElem_mem hkL)
        rw [h] at this
        cases this
      have hx := L[k].toNat_lt
      generalize L[k].toNat = x at *
      have HT := Lib.hid ht
      have HNO := Lib.hid hno
      have HALL := Lib.hid hall
      clear ht hno hall hgd
      rcases (by omega : x < 45 ∨ x = 45 ∨ x = 46 ∨ x = 47 ∨ (48 ≤ x ∧ x ≤ 57) ∨ (58 ≤ x ∧ x ≤ 64) ∨ (65 ≤ x ∧ x ≤ 90) ∨ (91 ≤ x ∧ x ≤ 96) ∨ (97 ≤ x ∧ x ≤ 122) ∨ 122 < x) with h | h | h | h | h | h | h | h | h | h
      all_goals first
        | have hb := hostB_yes x (by omega)
        | have hb := hostB_no x (by omega)
      all_goals
        have HB := Lib.hid hb
        have HH := Lib.hid h
        clear hb h
        first | (have a1 : (97 : Int) ≤ (x : Int) := by have := HH.out; omega) | (have a1 : ¬ (97 : Int) ≤ (x : Int) := by have := HH.out; omega)
        first | (have a2 : (x : Int) ≤ 122 := by have := HH.out; omega) | (have a2 : ¬ (x : Int) ≤ 122 := by have := HH.out; omega)
        first | (have a3 : (65 : Int) ≤ (x : Int) := by have := HH.out; omega) | (have a3 : ¬ (65 : Int) ≤ (x : Int) := by have := HH.out; omega)
        first | (have a4 : (x : Int) ≤ 90 := by have := HH.out; omega) | (have a4 : ¬ (x : Int) ≤ 90 := by have := HH.out; omega)
        first | (have a5 : (48 : Int) ≤ (x : Int) := by have := HH.out; omega) | (have a5 : ¬ (48 : Int) ≤ (x : Int) := by have := HH.out; omega)
        first | (have a6 : (x : Int) ≤ 57 := by have := HH.out; omega) | (have a6 : ¬ (x : Int) ≤ 57 := by have := HH.out; omega)
        first | (have a7 : ((x : Int) == 46) = true := by have := HH.out; simp; omega) | (have a7 : ((x : Int) == 46) = false := by have := HH.out; simp; omega)
        first | (have a8 : ((x : Int) == 45) = true := by have := HH.out; simp; omega) | (have a8 : ((x : Int) == 45) = false := by have := HH.out; simp; omega)
        go_wp2
        first
          | (go_roundw
             case rel => exact ⟨k + 1, by go_num, by omega, by rw [HT.out, HALL.out, HB.out]; rfl, by trivial⟩
             case measure => first | (simp [intOf]; done) | (simp [intOf]; omega))
          | (go_ret
             exact ⟨by rw [HOK.out, HNO.out HB.out]; rfl, HG.out⟩)
    · obtain rfl : n = k := by omega
      have hall2 : (L.all fun b => hostB b.toNat) = true := by rw [← hall, ← HN.out, List.take_length]
      have HA := Lib.hid hall2
      clear hall hall2
      by_cases h0 : n = 0
      · have hd : decide (n = 0) = true := by simp [h0]
        rw [hd] at hem
        have hno : hostOk L = false := by rw [HOK.out]; simp; omega
        have HNO := Lib.hid hno
        clear hno
        go_wp2
        go_ret
        exact ⟨by rw [HNO.out]; simp [hem], HG.out⟩
      · have hd : decide (n = 0) = false := by simp [h0]
        rw [hd] at hem
        by_cases h100 : (n : Int) ≤ 100
        · have hno : hostOk L = true := by rw [HOK.out, HA.out]; simp; omega
          have HNO := Lib.hid hno
          clear hno
          go_wp2
          go_ret
          exact ⟨by rw [HNO.out]; simp [hem], HG.out⟩
        · have hno : hostOk L = false := by rw [HOK.out]; simp; omega
          have HNO := Lib.hid hno
          clear hno
          go_wp2
          go_ret
          exact ⟨by rw [HNO.out]; simp [hem], HG.out⟩
end Go.Proofs.YtpadpdmidiaeoaaGreatDoor
