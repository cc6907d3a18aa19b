/- DecodeDouble of a whole number's form: a double near it. -/
import Derived.Test.YtoachnjapfakdaaGreatDoorNdM
import Derived.Test.YtoachnjapfakdaaGreatDoorNmS
namespace Go.Proofs.YtoachnjapfakdaaGreatDoor
open Go Go.RowKit

/-- A whole number's form, by its pairs. -/
theorem form_parts (neg : Bool) (N : Nat) (hN : 0 < N) (hN2 : N < 9007199254740992) :
    ∃ (P : List Int) (j L M : Nat), P.length + j = L ∧ 1 ≤ P.length ∧ L ≤ 8 ∧ D100 P ∧ val P = (M : Int) ∧ 0 < M ∧ M * 10 ^ (2 * j) = N ∧
      numForm neg (strip (letters N)) ((Lib.nDigits N : Int) - 1) = if neg then (63 - (L : Int)) :: (P.map (digB true) ++ [102]) else ((L : Int) + 192) :: P.map (digB false) := by
  obtain ⟨P, j, e1, e2, d1, n1, _, c1⟩ := forms N (by omega) (by omega)
  have v1 := (d100_val N).1
  have hvx : val (ext P j) = val P * 100 ^ j := by
    induction j with
    | zero => simp [ext]
    | succ j ih =>
      clear ih d1
      have key : ∀ k, val (ext P k) = val P * 100 ^ k := by
        intro k
        induction k with
        | zero => simp [ext]
        | succ k ih =>
          have : ext P (k + 1) = ext P k ++ [0] := by simp [ext, List.replicate_succ']
          rw [this, val_append, ih, Int.pow_succ, Int.mul_assoc]; omega
      exact key _
  rw [d1, hvx] at v1
  have hl := d100_length N
  have hle := nDig_le 15 N (by omega)
  rw [← letters_length] at hle
  have hb := val_bd P c1
  obtain ⟨M, hM⟩ : ∃ M : Nat, val P = (M : Int) := ⟨(val P).toNat, by omega⟩
  rw [hM] at v1
  have hMN : M * 10 ^ (2 * j) = N := by
    have : ((M * 10 ^ (2 * j) : Nat) : Int) = (N : Int) := by
      rw [← v1, Int.natCast_mul, Int.natCast_pow, Int.pow_mul]; rfl
    exact_mod_cast this
  have hf : ∀ b, intForm b N = numForm b (strip (letters N)) ((Lib.nDigits N : Int) - 1) := fun b => by
    unfold intForm
    rw [if_neg (strip_ne hN), letters_length]
  refine ⟨P, j, (d100 N).length, M, by rw [d1, ext_length], ?_, by omega, c1, hM, ?_, hMN, ?_⟩
  · cases P with
    | nil => exact absurd rfl n1
    | cons a r => simp
  · rcases Nat.eq_zero_or_pos M with h | h
    · subst h; omega
    · exact h
  · rw [← hf]
    cases neg
    · exact e1
    · exact e2

theorem tabF : ∀ p : Fin 16, floatOfInt .f64 (p.val : Int) % 9223372036854775808 = floatOfInt .f64 (p.val : Int) ∧ floatOfInt .f64 (p.val : Int) < 18446744073709551616 ∧ floatToIntVal .f64 (floatOfInt .f64 (p.val : Int)) .i64 = some (p.val : Int) := by decide +kernel
theorem xor_top' (a : Nat) (h : a < 2 ^ 63) : a ^^^ 2 ^ 63 = a + 2 ^ 63 := by
  apply Nat.eq_of_testBit_eq
  intro i
  rw [Nat.testBit_xor, Nat.testBit_two_pow, Nat.add_comm]
  rcases Nat.lt_trichotomy i 63 with hi | hi | hi
  · rw [Nat.testBit_two_pow_add_gt hi, decide_eq_false (by omega)]; simp
  · subst hi
    rw [Nat.testBit_two_pow_add_eq, Nat.testBit_lt_two_pow h]; simp
  · have h1 : 2 ^ 63 + a < 2 ^ i := by
      have : 2 ^ 64 ≤ 2 ^ i := Nat.pow_le_pow_right (by omega) (by omega)
      omega
    have h2 : a < 2 ^ i := by omega
    rw [Nat.testBit_lt_two_pow h1, Nat.testBit_lt_two_pow h2, decide_eq_false (by omega)]; rfl
theorem neg_fw {m : Nat} {e : Int} (h : Nm m e) : Op.negFloat .f64 (fw false m e) = fw true m e := by
  have hlt : fw false m e < 2 ^ 63 := by
    obtain ⟨h1, h2, h3, h4⟩ := h
    have : (2 ^ 63 : Nat) = 9223372036854775808 := by decide
    rw [this]
    unfold fw; simp only [Bool.false_eq_true, if_false]; omega
  show fw false m e ^^^ 2 ^ 63 = _
  rw [xor_top' _ hlt]
  have : (2 ^ 63 : Nat) = 9223372036854775808 := by decide
  rw [this]
  unfold fw
  simp only [Bool.false_eq_true, if_false, if_true]
  omega

set_option maxRecDepth 100000 in
set_option maxHeartbeats 1000000 in
theorem decD (neg : Bool) (N : Nat) (hN : 0 < N) (hN2 : N < 9007199254740992) (v : Value) (w : World) (hP : PowF w) (h : Rd w v (numForm neg (strip (letters N)) ((Lib.nDigits N : Int) - 1))) :
    Calls Tryz.prog 16 #[v] w fun e w' => ∃ m e', e = .returned (.float .f64 (fw neg m e')) ∧ Quo N m e' ∧ Gr w w' := by
  obtain ⟨P, j, L, M, h1, h2, h3, h4, h5, h6, h7, h8⟩ := form_parts neg N hN hN2
  rw [h8] at h
  obtain ⟨p, hp⟩ : ∃ p, 2 * j = p := ⟨_, rfl⟩
  have hp14 : p ≤ 14 := by omega
  have hp2 : p % 2 = 0 := by omega
  obtain ⟨t1, t2, t3⟩ := tabF ⟨p, by omega⟩
  simp only at t1 t2 t3
  obtain ⟨ht0, ht1⟩ := ten_lt p (by omega)
  rw [hp] at h7
  have hML : M < 9007199254740992 := by
    have : M * 1 ≤ M * 10 ^ p := Nat.mul_le_mul_left _ ht0
    omega
  have hfM : floatOfInt .f64 (M : Int) = fn false M := ofInt_fn false M h6 hML
  have hW := fun w1 (g : Gr w w1) => Lib.hid (powW p (by omega) hp2 w1 (hP.gr g))
  have hMul1 := fn_mul_exact false h6 hML ht0 ht1 (by rw [h7]; exact hN2)
  rw [h7] at hMul1
  obtain ⟨m, e, x, k1, k2, k3⟩ := fn_mul false hN hN2 ht0 ht1
  have hWh : Whole false m e := by
    by_cases he : 0 ≤ e
    · exact .inl he
    · obtain ⟨k31, k32, k33⟩ := k3 (by omega)
      exact .inr ⟨x, k32, k33, k31⟩
  have hR := fun w1 => Lib.hid (roundW false m e k2.nm hWh w1)
  have hng := neg_fw k2.nm
  obtain ⟨m', e', q1, q2⟩ := fn_div neg ht0 ht1 k2
  obtain ⟨A, hA⟩ : ∃ A, floatOfInt .f64 (p : Int) = A := ⟨_, rfl⟩
  rw [hA] at t1 t2 t3
  have hab := fun w1 => absW A t2 w1
  rw [t1] at hab
  have hab := fun w1 => Lib.hid (hab w1)
  have hFr : Hid (Calls Tryz.prog 26 #[v] w fun e w' => e = .returned (.tuple #[.int .u64 M, .bool neg, .int .i64 p, .int .i64 (2 * (P.length : Int) - 1), .nilIface]) ∧ w' = w) := by
    refine Lib.hid ?_
    cases neg
    · simp only [Bool.false_eq_true, if_false] at h
      have hf := from_pos P _ h4 h2 (by omega) (by omega) (by omega) v w h
      rw [h5, show ((L : Int) + 192 - 192) * 2 - 2 * (P.length : Int) = (p : Int) from by omega] at hf
      exact hf
    · simp only [if_true] at h
      have hf := from_neg P _ h4 h2 (by omega) (by omega) (by omega) v w h
      rw [h5, show (63 - (63 - (L : Int))) * 2 - 2 * (P.length : Int) = (p : Int) from by omega] at hf
      exact hf
  have hcv : ∀ w, (convert 25 3 (.float .f64 A)).run Tryz.prog w = .ok (.int .i64 (p : Int)) w := fun w => run_convert_float_int w 25 3 .f64 .i64 A p (by rw [Tryz.underlying25]; rfl) Tryz.underlying3 t3
  have hq2 := Lib.hid q2
  clear hP h h8 h4 h5 t1 t2 t3 k3 hWh k2 q2 h7
  generalize fn false M = FM at *
  generalize fn false N = FN at *
  generalize fn false (10 ^ p) = FT at *
  obtain ⟨X, hX⟩ : ∃ X, fw false m e = X := ⟨_, rfl⟩
  rw [hX] at k1 hR hng
  have o1 : ∀ t w, (binOp .mul t (.float .f64 FM) (.float .f64 FT)).run Tryz.prog w = .ok (.float .f64 FN) w := fun t w => run_float_arith w .mul t .f64 FM FT FN hMul1
  have o2 : ∀ t w, (binOp .mul t (.float .f64 FN) (.float .f64 FT)).run Tryz.prog w = .ok (.float .f64 X) w := fun t w => run_float_arith w .mul t .f64 FN FT X k1
  have hpi : (0 : Int) ≤ (p : Int) := by omega
  clear hMul1 k1
  cases neg
  · rw [hX] at q1
    obtain ⟨Z, hZ⟩ : ∃ Z, fw false m' e' = Z := ⟨_, rfl⟩
    rw [hZ] at q1
    have HGc := Lib.hid (Gr.refl w)
    have o3 : ∀ t w, (binOp .quo t (.float .f64 X) (.float .f64 FT)).run Tryz.prog w = .ok (.float .f64 Z) w := fun t w => run_float_arith w .quo t .f64 X FT Z q1
    clear q1 hng
    go_enter Tryz.func16, Tryz.ntmps16
    go_wp2_with (first
      | (go_at_call 26; refine hFr.out.mono ?_; rintro e w1 ⟨rfl, hw1⟩; obtain rfl := hw1)
      | (go_at_call 15; refine (hab _).out.mono ?_; rintro e w1 ⟨rfl, hw1⟩; obtain rfl := hw1)
      | (go_at_call 28; refine (hR _).out.mono ?_; rintro e w1 ⟨rfl, hw1⟩; obtain rfl := hw1)
      | (go_at_call 29; refine (hW _ HGc.out).out.mono ?_; rintro e w2 ⟨rfl, hg2⟩; replace HGc := Lib.hid (HGc.out.trans hg2); clear hg2)
      | (simp only [o1, o2, o3, hcv]))
    go_ret
    exact ⟨m', e', by first | rfl | (rw [← hZ]; rfl), hq2.out, HGc.out⟩
  · obtain ⟨Y, hY⟩ : ∃ Y, fw true m e = Y := ⟨_, rfl⟩
    rw [hY] at q1 hng
    obtain ⟨Z, hZ⟩ : ∃ Z, fw true m' e' = Z := ⟨_, rfl⟩
    rw [hZ] at q1
    have o3 : ∀ t w, (binOp .quo t (.float .f64 Y) (.float .f64 FT)).run Tryz.prog w = .ok (.float .f64 Z) w := fun t w => run_float_arith w .quo t .f64 Y FT Z q1
    have o4 : ∀ w, (Op.unary .neg (.float .f64 X)).run Tryz.prog w = .ok (.float .f64 Y) w := fun w => by rw [← hng]; rfl
    have HGc := Lib.hid (Gr.refl w)
    clear q1 hng
    go_enter Tryz.func16, Tryz.ntmps16
    go_wp2_with (first
      | (go_at_call 26; refine hFr.out.mono ?_; rintro e w1 ⟨rfl, hw1⟩; obtain rfl := hw1)
      | (go_at_call 15; refine (hab _).out.mono ?_; rintro e w1 ⟨rfl, hw1⟩; obtain rfl := hw1)
      | (go_at_call 28; refine (hR _).out.mono ?_; rintro e w1 ⟨rfl, hw1⟩; obtain rfl := hw1)
      | (go_at_call 29; refine (hW _ HGc.out).out.mono ?_; rintro e w2 ⟨rfl, hg2⟩; replace HGc := Lib.hid (HGc.out.trans hg2); clear hg2)
      | (simp only [o1, o2, o3, o4, hcv]))
    go_ret
    exact ⟨m', e', by first | rfl | (rw [← hZ]; rfl), hq2.out, HGc.out⟩
end Go.Proofs.YtoachnjapfakdaaGreatDoor
