/- toInt64 of the form of an integer. -/
import Derived.Test.YthimnfdoeplebaaDoorNmV
namespace Go.Proofs.YthimnfdoeplebaaDoor
open Go Go.RowKit

theorem head_pos' : ∀ L : Fin 11, bits .and .u8 ((L.val : Int) + 192) 127 = L.val + 64 ∧ bits .and .u8 ((L.val : Int) + 192) 128 = 128 := by decide +kernel
theorem head_neg' : ∀ L : Fin 11, bits .xor .u8 (63 - (L.val : Int)) 255 = L.val + 192 ∧ bits .and .u8 (63 - (L.val : Int)) 128 = 0 := by decide +kernel
theorem hd_pos (L : Nat) (h : L ≤ 10) : bits .and .u8 ((L : Int) + 192) 127 = L + 64 ∧ bits .and .u8 ((L : Int) + 192) 128 = 128 := head_pos' ⟨L, by omega⟩
theorem hd_neg (L : Nat) (h : L ≤ 10) : bits .xor .u8 (63 - (L : Int)) 255 = L + 192 ∧ bits .and .u8 (63 - (L : Int)) 128 = 0 := head_neg' ⟨L, by omega⟩

theorem isPos (v : Value) (x : Int) (r : List Int) (s : Int) (w : World) (h : Rd w v (x :: r)) (hs : bits .and .u8 x 128 = s) :
    Calls Tryd.prog 108 #[v] w fun e w' => e = .returned (.bool (s != 0)) ∧ w' = w := by
  obtain ⟨b, o, c, rfl, hc, hm, hr⟩ := h.at' (by simp)
  have k0 := hr.cell 0 (by simp)
  rw [Nat.add_zero, List.getD_cons_zero] at k0
  obtain ⟨n, hn⟩ : ∃ n, (x :: r).length = n := ⟨_, rfl⟩
  have hn0 : 0 < n := by rw [← hn]; simp
  rw [hn] at hc ⊢
  have hcm : c ≤ 9223372036854775807 := by simp only [maxLen] at hm; omega
  clear hr h hn
  go_enter Tryd.func108, Tryd.ntmps108
  go_wp2
  go_ret
  exact ⟨rfl, rfl⟩

theorem w64 (n : Int) : IntKind.wrap .i64 n = (n + 9223372036854775808) % 18446744073709551616 - 9223372036854775808 := by
  have e : IntKind.wrap .i64 n = if n % 18446744073709551616 ≥ 9223372036854775808 then n % 18446744073709551616 - 18446744073709551616 else n % 18446744073709551616 := by
    simp [IntKind.wrap, IntKind.signed, IntKind.bits]
  rw [e]
  split <;> omega
theorem wrap_step (V p : Int) : IntKind.wrap .i64 (IntKind.wrap .i64 (IntKind.wrap .i64 V * 100) + p) = IntKind.wrap .i64 (V * 100 + p) := by
  simp only [w64]; omega
theorem wrap_mul (V : Int) : IntKind.wrap .i64 (IntKind.wrap .i64 V * 100) = IntKind.wrap .i64 (V * 100) := by
  simp only [w64]; omega
theorem wrap_neg (V : Int) : IntKind.wrap .i64 (0 - IntKind.wrap .i64 V) = IntKind.wrap .i64 (-V) := by
  simp only [w64]; omega
theorem val_take {P : List Int} {k : Nat} (h : k < P.length) : val (P.take (k + 1)) = val (P.take k) * 100 + P.getD k 0 := by
  rw [List.take_succ_eq_append_getElem h, val_append]
  simp [List.getD_eq_getElem?_getD, h]

set_option maxRecDepth 100000 in
set_option maxHeartbeats 1000000 in
theorem toI64_pos (P : List Int) (j L : Nat) (hL : P.length + j = L) (h1 : 1 ≤ P.length) (hL2 : L ≤ 10) (hD : D100 P) (v : Value) (w : World) (h : Rd w v (((L : Int) + 192) :: P.map (digB false))) :
    Calls Tryd.prog 99 #[v] w fun e w' => e = .returned (.tuple #[.int .i64 (IntKind.wrap .i64 (val P * 100 ^ j)), .nilIface]) ∧ w' = w := by
  obtain ⟨q1, q2⟩ := hd_pos L hL2
  have HP := Lib.hid (isPos v _ _ _ w h q2)
  rw [show ((128 : Int) != 0) = true from rfl] at HP
  have hbyt := h.byt
  obtain ⟨b, o, c, rfl, hc, hm, hr⟩ := h.at' (by simp)
  have k0 := hr.cell 0 (by simp)
  rw [Nat.add_zero, List.getD_cons_zero] at k0
  have hk := fun (k : Nat) (hk : k < P.length) => hr.cell (k + 1) (by simpa using hk)
  have hkd : ∀ k : Nat, k < P.length → (((L : Int) + 192) :: P.map (digB false)).getD (k + 1) 0 = P.getD k 0 + 1 := by
    intro k hk
    rw [List.getD_cons_succ]
    simp [List.getD_eq_getElem?_getD, hk, digB]
  have hd : ∀ k : Nat, k < P.length → 0 ≤ P.getD k 0 ∧ P.getD k 0 ≤ 99 := by
    intro k hk
    rw [List.getD_eq_getElem?_getD, List.getElem?_eq_getElem hk]
    exact hD _ (List.getElem_mem hk)
  have hstep := fun k (hk : k < P.length) => val_take hk
  obtain ⟨M, hM⟩ : ∃ M, P.length = M := ⟨_, rfl⟩
  have hlen : (((L : Int) + 192) :: P.map (digB false)).length = M + 1 := by simp [hM]
  rw [hlen] at hc HP ⊢
  rw [hM] at hk hkd hd hstep h1 hL
  have HK := Lib.hid (fun k hk' => by have := hk k hk'; rw [hkd k hk'] at this; exact this)
  have HD := Lib.hid hd
  have HS := Lib.hid hstep
  have HM := Lib.hid hM
  have hcm : c ≤ 9223372036854775807 := by simp only [maxLen] at hm; omega
  have g1 : ¬ L < M := by omega
  clear hk hkd hd hstep hlen hr h hm hD hM hbyt q2
  have q3 : (L : Int) + 64 - 65 = (L : Int) - 1 := by omega
  go_enter Tryd.func99, Tryd.ntmps99
  go_wp2_with (first | (go_at_call 108; refine HP.out.mono ?_; rintro e w1 ⟨rfl, rfl⟩))
  go_loopw [8, 9] (fun l i wr => ∃ k : Nat, i = .int .i64 k ∧ k ≤ M ∧ l = .int .i64 (IntKind.wrap .i64 (val (P.take k))) ∧ wr = w1) (fun _ i _ => ((M : Int) - intOf i).toNat)
  case atStart => exact ⟨0, rfl, Nat.zero_le _, rfl, rfl⟩
  case round =>
    obtain ⟨k, rfl, hk, rfl, rfl⟩ := hrel
    by_cases hkM : k < M
    · have kc := HK.out k hkM
      have hd := HD.out k hkM
      have hs := HS.out k hkM
      generalize P.getD k 0 = p at *
      have hw := wrap_step (val (P.take k)) p
      rw [← hs] at hw
      generalize IntKind.wrap .i64 (val (P.take k)) = l at *
      have hp1 : p + 1 - 1 = p := by omega
      have kc' : wr.cell? ⟨b, o + (1 + k), none⟩ = some (.int .u8 (p + 1)) := by rw [Nat.add_comm 1 k]; exact kc
      have HW := Lib.hid hw
      clear hs hw
      go_wp2
      go_roundw
      case rel => exact ⟨k + 1, by go_num, by omega, by rw [← HW.out]; congr 1; simp only [wrap64, IntKind.wrap_i64]; try omega, by first | rfl | trivial⟩
      case measure => first | (simp [intOf]; done) | (simp [intOf]; omega)
    · obtain rfl : k = M := by omega
      rw [List.take_of_length_le (by rw [HM.out]; omega)]
      obtain ⟨i0, hi0⟩ : ∃ i0 : Int, (L : Int) - 1 - ((k : Int) + 1 - 1) = i0 := ⟨_, rfl⟩
      have hi1 : i0 = (j : Int) - 1 := by omega
      go_wp2
      go_loopw [8, 11] (fun l i wr' => ∃ t : Nat, i = .int .i64 ((j : Int) - 1 - t) ∧ t ≤ j ∧ l = .int .i64 (IntKind.wrap .i64 (val P * 100 ^ t)) ∧ wr' = wr) (fun _ i _ => (intOf i + 1).toNat)
      case atStart => exact ⟨0, by first | rfl | (congr 1; omega), Nat.zero_le _, by simp, rfl⟩
      case round =>
        obtain ⟨t, rfl, ht, rfl, rfl⟩ := hrel
        by_cases htj : t < j
        · have hw := wrap_mul (val P * 100 ^ t)
          rw [Int.mul_assoc, ← Int.pow_succ] at hw
          generalize IntKind.wrap .i64 (val P * 100 ^ t) = l at *
          have HW := Lib.hid hw
          clear hw
          go_wp2
          go_roundw
          case rel => exact ⟨t + 1, by first | (congr 1; omega) | go_num, by omega, by rw [← HW.out]; congr 1; simp only [wrap64, IntKind.wrap_i64]; try omega, by first | rfl | trivial⟩
          case measure => first | (simp [intOf]; done) | (simp [intOf]; omega)
        · obtain rfl : t = j := by omega
          have hz : (t : Int) - 1 - t = -1 := by omega
          go_wp2
          exact bodyPost_ret (v := .tuple #[.int .i64 (IntKind.wrap .i64 (val P * 100 ^ t)), .nilIface]) (by simp [results, Tryd.results99, go_sem]) rfl ⟨rfl, rfl⟩
set_option maxRecDepth 100000 in
set_option maxHeartbeats 1000000 in
theorem toI64_neg (P : List Int) (j L : Nat) (hL : P.length + j = L) (h1 : 1 ≤ P.length) (hL2 : L ≤ 10) (hD : D100 P) (v : Value) (w : World) (h : Rd w v ((63 - (L : Int)) :: (P.map (digB true) ++ [102]))) :
    Calls Tryd.prog 99 #[v] w fun e w' => e = .returned (.tuple #[.int .i64 (IntKind.wrap .i64 (-(val P * 100 ^ j))), .nilIface]) ∧ w' = w := by
  obtain ⟨q1, q2⟩ := hd_neg L hL2
  have HP := Lib.hid (isPos v _ _ _ w h q2)
  rw [show ((0 : Int) != 0) = false from rfl] at HP
  have hbyt := h.byt
  obtain ⟨b, o, c, rfl, hc, hm, hr⟩ := h.at' (by simp)
  have k0 := hr.cell 0 (by simp)
  rw [Nat.add_zero, List.getD_cons_zero] at k0
  have hk := fun (k : Nat) (hk : k < P.length) => hr.cell (k + 1) (by simp; omega)
  have hkd : ∀ k : Nat, k < P.length → ((63 - (L : Int)) :: (P.map (digB true) ++ [102])).getD (k + 1) 0 = 101 - P.getD k 0 := by
    intro k hk
    rw [List.getD_cons_succ]
    rw [List.getD_eq_getElem?_getD, List.getElem?_append_left (by simpa using hk)]
    simp [List.getD_eq_getElem?_getD, hk, digB]
  have hd : ∀ k : Nat, k < P.length → 0 ≤ P.getD k 0 ∧ P.getD k 0 ≤ 99 := by
    intro k hk
    rw [List.getD_eq_getElem?_getD, List.getElem?_eq_getElem hk]
    exact hD _ (List.getElem_mem hk)
  have hstep := fun k (hk : k < P.length) => val_take hk
  obtain ⟨M, hM⟩ : ∃ M, P.length = M := ⟨_, rfl⟩
  have hlen : ((63 - (L : Int)) :: (P.map (digB true) ++ [102])).length = M + 2 := by simp [hM]
  rw [hlen] at hc HP ⊢
  rw [hM] at hk hkd hd hstep h1 hL
  have HK := Lib.hid (fun k hk' => by have := hk k hk'; rw [hkd k hk'] at this; exact this)
  have HD := Lib.hid hd
  have HS := Lib.hid hstep
  have HM := Lib.hid hM
  have hcm : c ≤ 9223372036854775807 := by simp only [maxLen] at hm; omega
  have g0 : ¬ ((M : Int) + 2 = 21) := by omega
  have g1 : ¬ L < M := by omega
  have q4 := (hd_pos L hL2).1
  clear hk hkd hd hstep hlen hr h hm hD hM hbyt q2
  have q3 : (L : Int) + 64 - 65 = (L : Int) - 1 := by omega
  go_enter Tryd.func99, Tryd.ntmps99
  go_wp2_with (first | (go_at_call 108; refine HP.out.mono ?_; rintro e w1 ⟨rfl, rfl⟩))
  go_loopw [8, 10] (fun l i wr => ∃ k : Nat, i = .int .i64 k ∧ k ≤ M ∧ l = .int .i64 (IntKind.wrap .i64 (val (P.take k))) ∧ wr = w1) (fun _ i _ => ((M : Int) - intOf i).toNat)
  case atStart => exact ⟨0, rfl, Nat.zero_le _, rfl, rfl⟩
  case round =>
    obtain ⟨k, rfl, hk, rfl, rfl⟩ := hrel
    by_cases hkM : k < M
    · have kc := HK.out k hkM
      have hd := HD.out k hkM
      have hs := HS.out k hkM
      generalize P.getD k 0 = p at *
      have hw := wrap_step (val (P.take k)) p
      rw [← hs] at hw
      generalize IntKind.wrap .i64 (val (P.take k)) = l at *
      have hp1 : 101 - (101 - p) = p := by omega
      have kc' : wr.cell? ⟨b, o + (1 + k), none⟩ = some (.int .u8 (101 - p)) := by rw [Nat.add_comm 1 k]; exact kc
      have HW := Lib.hid hw
      clear hs hw
      go_wp2
      go_roundw
      case rel => exact ⟨k + 1, by go_num, by omega, by rw [← HW.out]; congr 1; simp only [wrap64, IntKind.wrap_i64]; try omega, by first | rfl | trivial⟩
      case measure => first | (simp [intOf]; done) | (simp [intOf]; omega)
    · obtain rfl : k = M := by omega
      rw [List.take_of_length_le (by rw [HM.out]; omega)]
      obtain ⟨i0, hi0⟩ : ∃ i0 : Int, (L : Int) - 1 - ((k : Int) + 2 - 2) = i0 := ⟨_, rfl⟩
      have hi1 : i0 = (j : Int) - 1 := by omega
      go_wp2
      go_loopw [8, 11] (fun l i wr' => ∃ t : Nat, i = .int .i64 ((j : Int) - 1 - t) ∧ t ≤ j ∧ l = .int .i64 (IntKind.wrap .i64 (val P * 100 ^ t)) ∧ wr' = wr) (fun _ i _ => (intOf i + 1).toNat)
      case atStart => exact ⟨0, by first | rfl | (congr 1; omega), Nat.zero_le _, by simp, rfl⟩
      case round =>
        obtain ⟨t, rfl, ht, rfl, rfl⟩ := hrel
        by_cases htj : t < j
        · have hw := wrap_mul (val P * 100 ^ t)
          rw [Int.mul_assoc, ← Int.pow_succ] at hw
          generalize IntKind.wrap .i64 (val P * 100 ^ t) = l at *
          have HW := Lib.hid hw
          clear hw
          go_wp2
          go_roundw
          case rel => exact ⟨t + 1, by first | (congr 1; omega) | go_num, by omega, by rw [← HW.out]; congr 1; simp only [wrap64, IntKind.wrap_i64]; try omega, by first | rfl | trivial⟩
          case measure => first | (simp [intOf]; done) | (simp [intOf]; omega)
        · obtain rfl : t = j := by omega
          have hz : (t : Int) - 1 - t = -1 := by omega
          have hw := wrap_neg (val P * 100 ^ t)
          generalize IntKind.wrap .i64 (val P * 100 ^ t) = l at *
          have HW := Lib.hid hw
          clear hw
          have hw2 : wrap64 (0 - l) = IntKind.wrap .i64 (0 - l) := by simp only [wrap64, IntKind.wrap_i64]; try omega
          have HW2 := Lib.hid hw2
          clear hw2
          go_wp2
          rw [← HW.out]
          try rw [HW2.out]
          exact bodyPost_ret (v := .tuple #[.int .i64 (IntKind.wrap .i64 (0 - l)), .nilIface]) (by simp [results, Tryd.results99, go_sem]; try exact (IntWalk.i64_left _).symm) rfl ⟨rfl, rfl⟩
end Go.Proofs.YthimnfdoeplebaaDoor
