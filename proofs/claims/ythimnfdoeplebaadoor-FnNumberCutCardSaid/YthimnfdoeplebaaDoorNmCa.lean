/- toInt64 and toUInt64 of a form with one pair behind the point. -/
import Derived.Test.YthimnfdoeplebaaDoorNmY
import Derived.Test.YthimnfdoeplebaaDoorNmTa
namespace Go.Proofs.YthimnfdoeplebaaDoor
open Go Go.RowKit

set_option maxRecDepth 100000 in
set_option maxHeartbeats 1000000 in
theorem toI64c_pos (P : List Int) (L : Nat) (hL : P.length = L + 1) (h1 : 1 ≤ L) (hL2 : L ≤ 10) (hD : D100 P) (v : Value) (w : World) (h : Rd w v (((L : Int) + 192) :: P.map (digB false))) :
    Calls Tryd.prog 99 #[v] w fun e w' => e = .returned (.tuple #[.int .i64 (IntKind.wrap .i64 (val (P.take L))), .nilIface]) ∧ w' = w := by
  obtain ⟨q1, q2⟩ := hd_pos L hL2
  have HP := Lib.hid (isPos v _ _ _ w h q2)
  rw [show ((128 : Int) != 0) = true from rfl] at HP
  have hbyt := h.byt
  obtain ⟨b, o, c, rfl, hc, hm, hr⟩ := h.at' (by simp)
  have k0 := hr.cell 0 (by simp)
  rw [Nat.add_zero, List.getD_cons_zero] at k0
  have hk := fun (k : Nat) (hk : k < P.length) => hr.cell (k + 1) (by simpa using hk)
  have hkd : ∀ k : Nat, k < P.length → (((L : Int) + 192) :: P.map (digB false)).getD (k + 1) 0 = P.getD k 0 + 1 := by
    intro k hk
    rw [List.getD_cons_succ]
    simp [List.getD_eq_getElem?_getD, hk, digB]
  have hd : ∀ k : Nat, k < P.length → 0 ≤ P.getD k 0 ∧ P.getD k 0 ≤ 99 := by
    intro k hk
    rw [List.getD_eq_getElem?_getD, List.getElem?_eq_getElem hk]
    exact hD _ (List.getElem_mem hk)
  have hstep := fun k (hk : k < P.length) => val_take hk
  obtain ⟨M, hM⟩ : ∃ M, P.length = M := ⟨_, rfl⟩
  have hlen : (((L : Int) + 192) :: P.map (digB false)).length = M + 1 := by simp [hM]
  rw [hlen] at hc HP ⊢
  rw [hM] at hk hkd hd hstep hL
  have HK := Lib.hid (fun k hk' => by have := hk k hk'; rw [hkd k hk'] at this; exact this)
  have HD := Lib.hid hd
  have HS := Lib.hid hstep
  have HM := Lib.hid hM
  have hcm : c ≤ 9223372036854775807 := by simp only [maxLen] at hm; omega
  have g1 : L < M := by omega
  have g2 : M ≤ L + 1 := by omega
  clear hL
  have q5 : (L : Int) - 1 + 1 = L := by omega
  clear hk hkd hd hstep hlen hr h hm hD hM hbyt q2
  have q3 : (L : Int) + 64 - 65 = (L : Int) - 1 := by omega
  go_enter Tryd.func99, Tryd.ntmps99
  go_wp2_with (first | (go_at_call 108; refine HP.out.mono ?_; rintro e w1 ⟨rfl, rfl⟩))
  go_loopw [8, 9] (fun l i wr => ∃ k : Nat, i = .int .i64 k ∧ k ≤ L ∧ l = .int .i64 (IntKind.wrap .i64 (val (P.take k))) ∧ wr = w1) (fun _ i _ => ((L : Int) - intOf i).toNat)
  case atStart => exact ⟨0, rfl, Nat.zero_le _, rfl, rfl⟩
  case round =>
    obtain ⟨k, rfl, hk, rfl, rfl⟩ := hrel
    by_cases hkM : k < L
    · have kc := HK.out k (by omega)
      have hd := HD.out k (by omega)
      have hs := HS.out k (by omega)
      generalize P.getD k 0 = p at *
      have hw := wrap_step (val (P.take k)) p
      rw [← hs] at hw
      generalize IntKind.wrap .i64 (val (P.take k)) = l at *
      have hp1 : p + 1 - 1 = p := by omega
      have kc' : wr.cell? ⟨b, o + (1 + k), none⟩ = some (.int .u8 (p + 1)) := by rw [Nat.add_comm 1 k]; exact kc
      have HW := Lib.hid hw
      clear hs hw
      go_wp2
      go_roundw
      case rel => exact ⟨k + 1, by go_num, by omega, by rw [← HW.out]; congr 1; simp only [wrap64, IntKind.wrap_i64]; try omega, by first | rfl | trivial⟩
      case measure => first | (simp [intOf]; done) | (simp [intOf]; omega)
    · obtain rfl : k = L := by omega
      have hz : (k : Int) - 1 - ((M : Int) + 1 - 1) = -2 := by omega
      obtain ⟨l, hl⟩ : ∃ l, IntKind.wrap .i64 (val (P.take k)) = l := ⟨_, rfl⟩
      rw [hl]
      have HL := Lib.hid hl
      clear hl
      go_wp2
      refine wp_loop_rounds 1 ?_
      rw [rounds_succ]
      go_wp2
      try rw [HL.out]
      exact bodyPost_ret (v := .tuple #[.int .i64 l, .nilIface]) (by simp [results, Tryd.results99, go_sem]) rfl ⟨rfl, rfl⟩
set_option maxRecDepth 100000 in
set_option maxHeartbeats 1000000 in
theorem toI64c_neg (P : List Int) (L : Nat) (hL : P.length = L + 1) (h1 : 1 ≤ L) (hL2 : L ≤ 10) (hD : D100 P) (v : Value) (w : World) (h : Rd w v ((63 - (L : Int)) :: (P.map (digB true) ++ [102]))) :
    Calls Tryd.prog 99 #[v] w fun e w' => e = .returned (.tuple #[.int .i64 (IntKind.wrap .i64 (-(val (P.take L)))), .nilIface]) ∧ w' = w := by
  obtain ⟨q1, q2⟩ := hd_neg L hL2
  have HP := Lib.hid (isPos v _ _ _ w h q2)
  rw [show ((0 : Int) != 0) = false from rfl] at HP
  have hbyt := h.byt
  obtain ⟨b, o, c, rfl, hc, hm, hr⟩ := h.at' (by simp)
  have k0 := hr.cell 0 (by simp)
  rw [Nat.add_zero, List.getD_cons_zero] at k0
  have hk := fun (k : Nat) (hk : k < P.length) => hr.cell (k + 1) (by simp; omega)
  have hkd : ∀ k : Nat, k < P.length → ((63 - (L : Int)) :: (P.map (digB true) ++ [102])).getD (k + 1) 0 = 101 - P.getD k 0 := by
    intro k hk
    rw [List.getD_cons_succ]
    rw [List.getD_eq_getElem?_getD, List.getElem?_append_left (by simpa using hk)]
    simp [List.getD_eq_getElem?_getD, hk, digB]
  have hd : ∀ k : Nat, k < P.length → 0 ≤ P.getD k 0 ∧ P.getD k 0 ≤ 99 := by
    intro k hk
    rw [List.getD_eq_getElem?_getD, List.getElem?_eq_getElem hk]
    exact hD _ (List.getElem_mem hk)
  have hstep := fun k (hk : k < P.length) => val_take hk
  obtain ⟨M, hM⟩ : ∃ M, P.length = M := ⟨_, rfl⟩
  have hlen : ((63 - (L : Int)) :: (P.map (digB true) ++ [102])).length = M + 2 := by simp [hM]
  rw [hlen] at hc HP ⊢
  rw [hM] at hk hkd hd hstep hL
  have HK := Lib.hid (fun k hk' => by have := hk k hk'; rw [hkd k hk'] at this; exact this)
  have HD := Lib.hid hd
  have HS := Lib.hid hstep
  have HM := Lib.hid hM
  have hcm : c ≤ 9223372036854775807 := by simp only [maxLen] at hm; omega
  have g0 : ¬ ((M : Int) + 2 = 21) := by omega
  have g1 : L < M := by omega
  have g2 : M ≤ L + 1 := by omega
  clear hL
  have q5 : (L : Int) - 1 + 1 = L := by omega
  have q4 := (hd_pos L hL2).1
  clear hk hkd hd hstep hlen hr h hm hD hM hbyt q2
  have q3 : (L : Int) + 64 - 65 = (L : Int) - 1 := by omega
  go_enter Tryd.func99, Tryd.ntmps99
  go_wp2_with (first | (go_at_call 108; refine HP.out.mono ?_; rintro e w1 ⟨rfl, rfl⟩))
  go_loopw [8, 10] (fun l i wr => ∃ k : Nat, i = .int .i64 k ∧ k ≤ L ∧ l = .int .i64 (IntKind.wrap .i64 (val (P.take k))) ∧ wr = w1) (fun _ i _ => ((L : Int) - intOf i).toNat)
  case atStart => exact ⟨0, rfl, Nat.zero_le _, rfl, rfl⟩
  case round =>
    obtain ⟨k, rfl, hk, rfl, rfl⟩ := hrel
    by_cases hkM : k < L
    · have kc := HK.out k (by omega)
      have hd := HD.out k (by omega)
      have hs := HS.out k (by omega)
      generalize P.getD k 0 = p at *
      have hw := wrap_step (val (P.take k)) p
      rw [← hs] at hw
      generalize IntKind.wrap .i64 (val (P.take k)) = l at *
      have hp1 : 101 - (101 - p) = p := by omega
      have kc' : wr.cell? ⟨b, o + (1 + k), none⟩ = some (.int .u8 (101 - p)) := by rw [Nat.add_comm 1 k]; exact kc
      have HW := Lib.hid hw
      clear hs hw
      go_wp2
      go_roundw
      case rel => exact ⟨k + 1, by go_num, by omega, by rw [← HW.out]; congr 1; simp only [wrap64, IntKind.wrap_i64]; try omega, by first | rfl | trivial⟩
      case measure => first | (simp [intOf]; done) | (simp [intOf]; omega)
    · obtain rfl : k = L := by omega
      have hz : (k : Int) - 1 - ((M : Int) + 2 - 2) = -2 := by omega
      have hw := wrap_neg (val (P.take k))
      generalize IntKind.wrap .i64 (val (P.take k)) = l at *
      have HW := Lib.hid hw
      clear hw
      go_wp2
      refine wp_loop_rounds 1 ?_
      rw [rounds_succ]
      go_wp2
      rw [← HW.out]
      exact bodyPost_ret (v := .tuple #[.int .i64 (IntKind.wrap .i64 (0 - l)), .nilIface]) (by simp [results, Tryd.results99, go_sem]; try exact (IntWalk.i64_left _).symm) rfl ⟨rfl, rfl⟩
set_option maxRecDepth 100000 in
set_option maxHeartbeats 1000000 in
theorem toU64c (P : List Int) (L : Nat) (hL : P.length = L + 1) (h1 : 1 ≤ L) (hL2 : L ≤ 10) (hD : D100 P) (v : Value) (w : World) (hV : val P < 18446744073709551616) (h : Rd w v (((L : Int) + 192) :: P.map (digB false))) :
    Calls Tryd.prog 101 #[v] w fun e w' => e = .returned (.tuple #[.int .u64 (val (P.take L)), .nilIface]) ∧ w' = w := by
  obtain ⟨q1, q2⟩ := hd_pos L hL2
  have HP := Lib.hid (isPos v _ _ _ w h q2)
  rw [show ((128 : Int) != 0) = true from rfl] at HP
  have hbyt := h.byt
  obtain ⟨b, o, c, rfl, hc, hm, hr⟩ := h.at' (by simp)
  have k0 := hr.cell 0 (by simp)
  rw [Nat.add_zero, List.getD_cons_zero] at k0
  have hk := fun (k : Nat) (hk : k < P.length) => hr.cell (k + 1) (by simpa using hk)
  have hkd : ∀ k : Nat, k < P.length → (((L : Int) + 192) :: P.map (digB false)).getD (k + 1) 0 = P.getD k 0 + 1 := by
    intro k hk
    rw [List.getD_cons_succ]
    simp [List.getD_eq_getElem?_getD, hk, digB]
  have hd : ∀ k : Nat, k < P.length → 0 ≤ P.getD k 0 ∧ P.getD k 0 ≤ 99 := by
    intro k hk
    rw [List.getD_eq_getElem?_getD, List.getElem?_eq_getElem hk]
    exact hD _ (List.getElem_mem hk)
  have hstep := fun k (hk : k < P.length) => val_take hk
  obtain ⟨M, hM⟩ : ∃ M, P.length = M := ⟨_, rfl⟩
  have hlen : (((L : Int) + 192) :: P.map (digB false)).length = M + 1 := by simp [hM]
  rw [hlen] at hc HP ⊢
  rw [hM] at hk hkd hd hstep hL
  have HK := Lib.hid (fun k hk' => by have := hk k hk'; rw [hkd k hk'] at this; exact this)
  have HD := Lib.hid hd
  have HS := Lib.hid hstep
  have HM := Lib.hid hM
  have HLE := Lib.hid (fun k => val_take_le P hD k)
  have HV := Lib.hid hV
  have hcm : c ≤ 9223372036854775807 := by simp only [maxLen] at hm; omega
  have g1 : L < M := by omega
  have g2 : M ≤ L + 1 := by omega
  clear hL
  have q5 : (L : Int) - 1 + 1 = L := by omega
  clear hk hkd hd hstep hlen hr h hm hD hM hV hbyt q2
  have q3 : (L : Int) + 64 - 65 = (L : Int) - 1 := by omega
  go_enter Tryd.func101, Tryd.ntmps101
  go_wp2_with (first | (go_at_call 108; refine HP.out.mono ?_; rintro e w1 ⟨rfl, rfl⟩))
  go_loopw [8, 9] (fun l i wr => ∃ k : Nat, i = .int .i64 k ∧ k ≤ L ∧ l = .int .u64 (val (P.take k)) ∧ wr = w1) (fun _ i _ => ((L : Int) - intOf i).toNat)
  case atStart => exact ⟨0, rfl, Nat.zero_le _, rfl, rfl⟩
  case round =>
    obtain ⟨k, rfl, hk, rfl, rfl⟩ := hrel
    by_cases hkM : k < L
    · have kc := HK.out k (by omega)
      have hd := HD.out k (by omega)
      have hs := HS.out k (by omega)
      generalize P.getD k 0 = p at *
      have hle0 := (HLE.out k).1
      have hle1 := (HLE.out (k + 1)).2
      have hvk := HV.out
      rw [hs] at hle1
      have HS2 := Lib.hid hs
      clear hs
      generalize val (P.take k) = l at *
      have hp1 : p + 1 - 1 = p := by omega
      have kc' : wr.cell? ⟨b, o + (1 + k), none⟩ = some (.int .u8 (p + 1)) := by rw [Nat.add_comm 1 k]; exact kc
      go_wp2
      go_roundw
      case rel => exact ⟨k + 1, by go_num, by omega, by rw [HS2.out], by first | rfl | trivial⟩
      case measure => first | (simp [intOf]; done) | (simp [intOf]; omega)
    · obtain rfl : k = L := by omega
      have hz : (k : Int) - 1 - ((M : Int) + 1 - 1) = -2 := by omega
      obtain ⟨l, hl⟩ : ∃ l, val (P.take k) = l := ⟨_, rfl⟩
      rw [hl]
      have HL := Lib.hid hl
      clear hl
      go_wp2
      refine wp_loop_rounds 1 ?_
      rw [rounds_succ]
      go_wp2
      try rw [HL.out]
      exact bodyPost_ret (v := .tuple #[.int .u64 l, .nilIface]) (by simp [results, Tryd.results101, go_sem]) rfl ⟨rfl, rfl⟩
end Go.Proofs.YthimnfdoeplebaaDoor
