/- FromNumber of a form of at most ten pairs. -/
import Derived.Test.YtoachnjapfakdaaGreatDoorNmR
namespace Go.Proofs.YtoachnjapfakdaaGreatDoor
open Go Go.RowKit

theorem fr_pos' : ∀ f : Fin 128, bits .and .u8 ((f.val : Int) + 128) 127 = f.val ∧ bits .and .u8 ((f.val : Int) + 128) 128 = 128 := by decide +kernel
theorem fr_neg' : ∀ f : Fin 128, bits .xor .u8 (f.val : Int) 127 = 127 - f.val ∧ bits .and .u8 (f.val : Int) 128 = 0 := by decide +kernel
theorem fr_pos (f : Int) (h0 : 128 ≤ f) (h1 : f < 256) : bits .and .u8 f 127 = f - 128 ∧ bits .and .u8 f 128 = 128 := by
  have := fr_pos' ⟨(f - 128).toNat, by omega⟩
  simp only at this
  rw [show (((f - 128).toNat : Nat) : Int) = f - 128 by omega, show f - 128 + 128 = f by omega] at this
  exact this
theorem fr_neg (f : Int) (h0 : 0 ≤ f) (h1 : f < 128) : bits .xor .u8 f 127 = 127 - f ∧ bits .and .u8 f 128 = 0 := by
  have := fr_neg' ⟨f.toNat, by omega⟩
  simp only at this
  rw [show ((f.toNat : Nat) : Int) = f by omega] at this
  exact this

theorem val_app (a b : List Int) : val (a ++ b) = val a * 100 ^ b.length + val b := by
  induction a with
  | nil => simp [val]
  | cons p r ih =>
    rw [List.cons_append, val, val, ih, List.length_append, Int.pow_add, Int.add_mul, Int.mul_assoc]
    omega
theorem val_take_le (P : List Int) (hD : D100 P) (k : Nat) : 0 ≤ val (P.take k) ∧ val (P.take k) ≤ val P := by
  have h1 := val_bd (P.take k) (fun x hx => hD x (List.mem_of_mem_take hx))
  have h2 := val_bd (P.drop k) (fun x hx => hD x (List.mem_of_mem_drop hx))
  have h3 := val_app (P.take k) (P.drop k)
  rw [List.take_append_drop] at h3
  have h4 := pow_pos' (P.drop k).length
  refine ⟨h1.1, ?_⟩
  rw [h3]
  generalize (100 : Int) ^ (P.drop k).length = Q at *
  have : val (P.take k) * 1 ≤ val (P.take k) * Q := Int.mul_le_mul_of_nonneg_left (by omega) h1.1
  omega
theorem val_tk {P : List Int} {k : Nat} (h : k < P.length) : val (P.take (k + 1)) = val (P.take k) * 100 + P.getD k 0 := by
  rw [List.take_succ_eq_append_getElem h, val_append]
  simp [List.getD_eq_getElem?_getD, h]

set_option maxRecDepth 100000 in
set_option maxHeartbeats 1000000 in
theorem from_pos (P : List Int) (f : Int) (hD : D100 P) (h1 : 1 ≤ P.length) (h2 : P.length ≤ 100) (hv : val P < 18446744073709551616) (hf : 129 ≤ f ∧ f < 256) (v : Value) (w : World) (h : Rd w v (f :: P.map (digB false))) :
    Calls Tryz.prog 26 #[v] w fun e w' => e = .returned (.tuple #[.int .u64 (val P), .bool false, .int .i64 ((f - 192) * 2 - 2 * (P.length : Int)), .int .i64 (2 * (P.length : Int) - 1), .nilIface]) ∧ w' = w := by
  obtain ⟨q1, q2⟩ := fr_pos f (by omega) hf.2
  obtain ⟨b, o, c, rfl, hc, hm, hr⟩ := h.at' (by simp)
  have k0 := hr.cell 0 (by simp)
  rw [Nat.add_zero, List.getD_cons_zero] at k0
  have hk := fun (k : Nat) (hk : k < P.length) => hr.cell (k + 1) (by simp; omega)
  have hkd : ∀ k : Nat, k < P.length → (f :: P.map (digB false)).getD (k + 1) 0 = P.getD k 0 + 1 := by
    intro k hk
    rw [List.getD_cons_succ]
    simp [List.getD_eq_getElem?_getD, hk, digB]
  have hd : ∀ k : Nat, k < P.length → 0 ≤ P.getD k 0 ∧ P.getD k 0 ≤ 99 := by
    intro k hk
    rw [List.getD_eq_getElem?_getD, List.getElem?_eq_getElem hk]
    exact hD _ (List.getElem_mem hk)
  have hstep := fun k (hk : k < P.length) => val_tk hk
  have hle := fun k => val_take_le P hD k
  obtain ⟨M, hM⟩ : ∃ M, P.length = M := ⟨_, rfl⟩
  have hlen : (f :: P.map (digB false)).length = M + 1 := by simp [hM]
  rw [hlen] at hc ⊢
  rw [hM] at hk hkd hd hstep h1 h2 ⊢
  obtain ⟨V, hV⟩ : ∃ V, val P = V := ⟨_, rfl⟩
  rw [hV] at hv hle ⊢
  have HK := Lib.hid (fun k hk' => by have := hk k hk'; rw [hkd k hk'] at this; exact this)
  have HD := Lib.hid hd
  have HS := Lib.hid hstep
  have HM := Lib.hid hM
  have HV := Lib.hid hV
  have HLE := Lib.hid hle
  have hcm : c ≤ 9223372036854775807 := by simp only [maxLen] at hm; omega
  obtain ⟨hf0, hf1⟩ := hf
  have hne : (f == 128) = false := by rw [beq_eq_false_iff_ne]; omega
  have hnl : ((M : Int) + 1 == 0) = false := by rw [beq_eq_false_iff_ne]; omega
  clear hk hkd hd hstep hlen hr h hm hD hM hV hle
  go_enter Tryz.func26, Tryz.ntmps26
  go_wp2
  have eM : M + 1 - 1 = M := by omega
  have eM1 : M + 2 - 1 = M + 1 := by omega
  have eM2 : M + 1 - 1 = M := by omega
  try simp only [eM, eM1, eM2]
  go_loopw [2, 5, 9, 57] (fun m d z i wr => ∃ k : Nat, i = .int .i64 k ∧ k ≤ M ∧ m = .int .u64 (val (P.take k)) ∧ d = .int .i64 (2 * (k : Int)) ∧ (∃ z0 : Int, z = .int .i64 z0 ∧ z0 = if k = 0 then 0 else -1) ∧ wr = w) (fun _ _ _ i _ => ((M : Int) - intOf i).toNat)
  case atStart => exact ⟨0, rfl, Nat.zero_le _, rfl, rfl, ⟨0, rfl, rfl⟩, rfl⟩
  case round =>
    obtain ⟨k, rfl, hk, rfl, rfl, ⟨z0, rfl, hz⟩, rfl⟩ := hrel
    have HZ := Lib.hid hz
    clear hz
    by_cases hkM : k < M
    · have kc := HK.out k hkM
      obtain ⟨hd0, hd1⟩ := HD.out k hkM
      have hs := HS.out k hkM
      have hle0 := (HLE.out k).1
      have hle1 := (HLE.out (k + 1)).2
      generalize P.getD k 0 = p at *
      rw [hs] at hle1
      obtain ⟨m, hm⟩ : ∃ m, val (P.take k) = m := ⟨_, rfl⟩
      rw [hm] at hs hle0 hle1 ⊢
      obtain ⟨x, hx⟩ : ∃ x, p / 10 = x := ⟨_, rfl⟩
      obtain ⟨y, hy⟩ : ∃ y, p % 10 = y := ⟨_, rfl⟩
      obtain ⟨m1, hm1⟩ : ∃ m1, m * 10 + x = m1 := ⟨_, rfl⟩
      obtain ⟨m2, hm2⟩ : ∃ m2, m1 * 10 + y = m2 := ⟨_, rfl⟩
      have hm3 : val (P.take (k + 1)) = m2 := by rw [hs]; omega
      have A1 := fun w => Lib.hid (addDigit m x hle0 (by omega) (by omega) w)
      have A2 := fun w => Lib.hid (addDigit m1 y (by omega) (by omega) (by omega) w)
      rw [hm1] at A1
      rw [hm2] at A2
      have hp1 : p + 1 - 1 = p := by omega
      have kc' : wr.cell? ⟨b, o + (1 + k), none⟩ = some (.int .u8 (p + 1)) := by rw [Nat.add_comm 1 k]; exact kc
      have kc2 : wr.cell? ⟨b, o + 1 + k, none⟩ = some (.int .u8 (p + 1)) := by rw [Nat.add_assoc]; exact kc'
      have HM3 := Lib.hid hm3
      clear hs hm hm1 hm2 hm3 hle0 hle1
      rcases Nat.eq_zero_or_pos k with hk0 | hk0
      · subst hk0
        have kc3 : wr.cell? ⟨b, o + 1, none⟩ = some (.int .u8 (p + 1)) := kc
        clear kc kc' kc2
        go_wp2_with (first
          | (go_at_call 36; with_reducible refine (A1 _).out.mono ?_; rintro e w1 ⟨rfl, rfl⟩; clear A1)
          | (go_at_call 36; with_reducible refine (A2 _).out.mono ?_; rintro e w1 ⟨rfl, rfl⟩; clear A2))
        go_roundw
        case rel => exact ⟨1, by go_num, by omega, by rw [HM3.out], by first | go_num | (congr 1; omega), ⟨_, rfl, by simp⟩, by first | rfl | trivial⟩
        case measure => first | (simp [intOf]; done) | (simp [intOf]; omega)
      · have hk0i : ¬ (k : Int) = 0 := by omega
        go_wp2_with (first
          | (go_at_call 36; with_reducible refine (A1 _).out.mono ?_; rintro e w1 ⟨rfl, rfl⟩; clear A1)
          | (go_at_call 36; with_reducible refine (A2 _).out.mono ?_; rintro e w1 ⟨rfl, rfl⟩; clear A2))
        go_roundw
        case rel => exact ⟨k + 1, by go_num, by omega, by rw [HM3.out], by first | go_num | (congr 1; omega), ⟨_, rfl, by rw [HZ.out, if_neg (by omega), if_neg (by omega)]⟩, by first | rfl | trivial⟩
        case measure => first | (simp [intOf]; done) | (simp [intOf]; omega)
    · obtain rfl : k = M := by omega
      have hz := HZ.out
      rw [if_neg (by omega)] at hz
      subst hz
      rw [List.take_of_length_le (by rw [HM.out]; omega), HV.out]
      obtain ⟨d1, hd1⟩ : ∃ d1 : Int, 2 * (k : Int) = d1 := ⟨_, rfl⟩
      have hd2 : 2 ≤ d1 ∧ d1 ≤ 200 := by omega
      obtain ⟨hd3, hd4⟩ := hd2
      rw [hd1]
      have HD1 := Lib.hid hd1
      clear hd1
      go_wp2
      rw [HD1.out]
      exact bodyPost_ret (v := .tuple #[.int .u64 V, .bool false, .int .i64 ((f - 192) * 2 - d1), .int .i64 (d1 - 1), .nilIface]) (by simp [results, Tryz.results26, go_sem]; try omega) rfl ⟨rfl, rfl⟩

set_option maxRecDepth 100000 in
set_option maxHeartbeats 1000000 in
theorem from_neg (P : List Int) (f : Int) (hD : D100 P) (h1 : 1 ≤ P.length) (h2 : P.length ≤ 100) (hv : val P < 18446744073709551616) (hf : 0 ≤ f ∧ f < 128) (v : Value) (w : World) (h : Rd w v (f :: (P.map (digB true) ++ [102]))) :
    Calls Tryz.prog 26 #[v] w fun e w' => e = .returned (.tuple #[.int .u64 (val P), .bool true, .int .i64 ((63 - f) * 2 - 2 * (P.length : Int)), .int .i64 (2 * (P.length : Int) - 1), .nilIface]) ∧ w' = w := by
  obtain ⟨q1, q2⟩ := fr_neg f hf.1 hf.2
  obtain ⟨b, o, c, rfl, hc, hm, hr⟩ := h.at' (by simp)
  have k0 := hr.cell 0 (by simp)
  rw [Nat.add_zero, List.getD_cons_zero] at k0
  have kl := hr.cell (P.length + 1) (by simp)
  rw [List.getD_cons_succ, List.getD_eq_getElem?_getD, List.getElem?_append_right (by simp)] at kl
  simp only [List.length_map, Nat.sub_self, List.getElem?_cons_zero, Option.getD_some] at kl
  have hk := fun (k : Nat) (hk : k < P.length) => hr.cell (k + 1) (by simp; omega)
  have hkd : ∀ k : Nat, k < P.length → (f :: (P.map (digB true) ++ [102])).getD (k + 1) 0 = 101 - P.getD k 0 := by
    intro k hk
    rw [List.getD_cons_succ]
    rw [List.getD_eq_getElem?_getD, List.getElem?_append_left (by simpa using hk)]
    simp [List.getD_eq_getElem?_getD, hk, digB]
  have hd : ∀ k : Nat, k < P.length → 0 ≤ P.getD k 0 ∧ P.getD k 0 ≤ 99 := by
    intro k hk
    rw [List.getD_eq_getElem?_getD, List.getElem?_eq_getElem hk]
    exact hD _ (List.getElem_mem hk)
  have hstep := fun k (hk : k < P.length) => val_tk hk
  have hle := fun k => val_take_le P hD k
  obtain ⟨M, hM⟩ : ∃ M, P.length = M := ⟨_, rfl⟩
  have hlen : (f :: (P.map (digB true) ++ [102])).length = M + 2 := by simp [hM]
  rw [hlen] at hc ⊢
  rw [hM] at hk hkd hd hstep h1 h2 kl ⊢
  obtain ⟨V, hV⟩ : ∃ V, val P = V := ⟨_, rfl⟩
  rw [hV] at hv hle ⊢
  have HK := Lib.hid (fun k hk' => by have := hk k hk'; rw [hkd k hk'] at this; exact this)
  have HD := Lib.hid hd
  have HS := Lib.hid hstep
  have HM := Lib.hid hM
  have HV := Lib.hid hV
  have HLE := Lib.hid hle
  have hcm : c ≤ 9223372036854775807 := by simp only [maxLen] at hm; omega
  obtain ⟨hf0, hf1⟩ := hf
  have hne : (f == 128) = false := by rw [beq_eq_false_iff_ne]; omega
  have hnl : ((M : Int) + 2 == 0) = false := by rw [beq_eq_false_iff_ne]; omega
  have kl' : w.cell? ⟨b, o + (M + 2 - 1), none⟩ = some (.int .u8 102) := kl
  clear hk hkd hd hstep hlen hr h hm hD hM hV hle
  go_enter Tryz.func26, Tryz.ntmps26
  go_wp2
  have eM : M + 2 - 1 - 1 = M := by omega
  have eM1 : M + 2 - 1 = M + 1 := by omega
  have eM2 : M + 1 - 1 = M := by omega
  try simp only [eM, eM1, eM2]
  go_loopw [2, 5, 9, 57] (fun m d z i wr => ∃ k : Nat, i = .int .i64 k ∧ k ≤ M ∧ m = .int .u64 (val (P.take k)) ∧ d = .int .i64 (2 * (k : Int)) ∧ (∃ z0 : Int, z = .int .i64 z0 ∧ z0 = if k = 0 then 0 else -1) ∧ wr = w) (fun _ _ _ i _ => ((M : Int) - intOf i).toNat)
  case atStart => exact ⟨0, rfl, Nat.zero_le _, rfl, rfl, ⟨0, rfl, rfl⟩, rfl⟩
  case round =>
    obtain ⟨k, rfl, hk, rfl, rfl, ⟨z0, rfl, hz⟩, rfl⟩ := hrel
    have HZ := Lib.hid hz
    clear hz
    by_cases hkM : k < M
    · have kc := HK.out k hkM
      obtain ⟨hd0, hd1⟩ := HD.out k hkM
      have hs := HS.out k hkM
      have hle0 := (HLE.out k).1
      have hle1 := (HLE.out (k + 1)).2
      generalize P.getD k 0 = p at *
      rw [hs] at hle1
      obtain ⟨m, hm⟩ : ∃ m, val (P.take k) = m := ⟨_, rfl⟩
      rw [hm] at hs hle0 hle1 ⊢
      obtain ⟨x, hx⟩ : ∃ x, p / 10 = x := ⟨_, rfl⟩
      obtain ⟨y, hy⟩ : ∃ y, p % 10 = y := ⟨_, rfl⟩
      obtain ⟨m1, hm1⟩ : ∃ m1, m * 10 + x = m1 := ⟨_, rfl⟩
      obtain ⟨m2, hm2⟩ : ∃ m2, m1 * 10 + y = m2 := ⟨_, rfl⟩
      have hm3 : val (P.take (k + 1)) = m2 := by rw [hs]; omega
      have A1 := fun w => Lib.hid (addDigit m x hle0 (by omega) (by omega) w)
      have A2 := fun w => Lib.hid (addDigit m1 y (by omega) (by omega) (by omega) w)
      rw [hm1] at A1
      rw [hm2] at A2
      have hp1 : 100 - (101 - p - 1) = p := by omega
      have kc' : wr.cell? ⟨b, o + (1 + k), none⟩ = some (.int .u8 (101 - p)) := by rw [Nat.add_comm 1 k]; exact kc
      have kc2 : wr.cell? ⟨b, o + 1 + k, none⟩ = some (.int .u8 (101 - p)) := by rw [Nat.add_assoc]; exact kc'
      have HM3 := Lib.hid hm3
      clear hs hm hm1 hm2 hm3 hle0 hle1
      rcases Nat.eq_zero_or_pos k with hk0 | hk0
      · subst hk0
        have kc3 : wr.cell? ⟨b, o + 1, none⟩ = some (.int .u8 (101 - p)) := kc
        clear kc kc' kc2
        go_wp2_with (first
          | (go_at_call 36; with_reducible refine (A1 _).out.mono ?_; rintro e w1 ⟨rfl, rfl⟩; clear A1)
          | (go_at_call 36; with_reducible refine (A2 _).out.mono ?_; rintro e w1 ⟨rfl, rfl⟩; clear A2))
        go_roundw
        case rel => exact ⟨1, by go_num, by omega, by rw [HM3.out], by first | go_num | (congr 1; omega), ⟨_, rfl, by simp⟩, by first | rfl | trivial⟩
        case measure => first | (simp [intOf]; done) | (simp [intOf]; omega)
      · have hk0i : ¬ (k : Int) = 0 := by omega
        go_wp2_with (first
          | (go_at_call 36; with_reducible refine (A1 _).out.mono ?_; rintro e w1 ⟨rfl, rfl⟩; clear A1)
          | (go_at_call 36; with_reducible refine (A2 _).out.mono ?_; rintro e w1 ⟨rfl, rfl⟩; clear A2))
        go_roundw
        case rel => exact ⟨k + 1, by go_num, by omega, by rw [HM3.out], by first | go_num | (congr 1; omega), ⟨_, rfl, by rw [HZ.out, if_neg (by omega), if_neg (by omega)]⟩, by first | rfl | trivial⟩
        case measure => first | (simp [intOf]; done) | (simp [intOf]; omega)
    · obtain rfl : k = M := by omega
      have hz := HZ.out
      rw [if_neg (by omega)] at hz
      subst hz
      rw [List.take_of_length_le (by rw [HM.out]; omega), HV.out]
      obtain ⟨d1, hd1⟩ : ∃ d1 : Int, 2 * (k : Int) = d1 := ⟨_, rfl⟩
      have hd2 : 2 ≤ d1 ∧ d1 ≤ 200 := by omega
      obtain ⟨hd3, hd4⟩ := hd2
      rw [hd1]
      have HD1 := Lib.hid hd1
      clear hd1
      go_wp2
      rw [HD1.out]
      exact bodyPost_ret (v := .tuple #[.int .u64 V, .bool true, .int .i64 ((63 - f) * 2 - d1), .int .i64 (d1 - 1), .nilIface]) (by simp [results, Tryz.results26, go_sem]; try omega) rfl ⟨rfl, rfl⟩

end Go.Proofs.YtoachnjapfakdaaGreatDoor
