/- math.Abs, math.Round and math.Pow10 at whole numbers as floats. -/
import Derived.Test.YtoachnjapfakdaaGreatDoorNdL
import Derived.Laws.BitsAllLaws
namespace Go.Proofs.YtoachnjapfakdaaGreatDoor
open Go Go.RowKit

theorem clear_low (a j : Nat) (ha : a < 18446744073709551616) (hj : j ≤ 63) : bits .andNot .u64 (a : Int) ((2 ^ j - 1 : Nat) : Int) = ((a / 2 ^ j * 2 ^ j : Nat) : Int) := by
  have hp : 2 ^ j ≤ 2 ^ 63 := Nat.pow_le_pow_right (by omega) hj
  have hp0 : 0 < 2 ^ j := Nat.two_pow_pos j
  have e63 : (2 ^ 63 : Nat) = 9223372036854775808 := by decide
  rw [u64_andNot_nat a _ ha (by omega)]
  congr 1
  apply Nat.eq_of_testBit_eq
  intro i
  have hM : 18446744073709551615 - (2 ^ j - 1) = 2 ^ 64 - ((2 ^ j - 1) + 1) := by
    have : (2 ^ 64 : Nat) = 18446744073709551616 := by decide
    rw [this]; omega
  rw [Nat.testBit_and, hM, Nat.testBit_two_pow_sub_succ (by
    have : (2 ^ 64 : Nat) = 18446744073709551616 := by decide
    rw [this]; omega), Nat.testBit_two_pow_sub_one, ← Nat.shiftLeft_eq, ← Nat.shiftRight_eq_div_pow, Nat.testBit_shiftLeft, Nat.testBit_shiftRight]
  by_cases h1 : i < j
  · simp [h1, Nat.not_le.2 h1]
  · have h2 : j ≤ i := by omega
    rw [show j + (i - j) = i from by omega]
    by_cases h3 : i < 64
    · simp [h1, h2, h3]
    · have : a.testBit i = false := Nat.testBit_lt_two_pow (Nat.lt_of_lt_of_le ha (show 18446744073709551616 ≤ 2 ^ i from Nat.pow_le_pow_right (n := 2) (i := 64) (by omega) (by omega)))
      simp [this]
theorem clear_top (a : Nat) (ha : a < 18446744073709551616) : bits .andNot .u64 (a : Int) 9223372036854775808 = ((a % 9223372036854775808 : Nat) : Int) := by
  have h := u64_andNot_nat a 9223372036854775808 ha (by omega)
  refine h.trans ?_
  rw [show 18446744073709551615 - 9223372036854775808 = 2 ^ 63 - 1 from by decide, Nat.and_two_pow_sub_one_eq_mod]

theorem fw_lt {s : Bool} {m : Nat} {e : Int} (h : Nm m e) : fw s m e < 18446744073709551616 := by
  obtain ⟨h1, h2, h3, h4⟩ := h
  unfold fw; split <;> omega
theorem fw_lt2 {s : Bool} {m : Nat} {e : Int} (h : Nm m e) : fw s m e < 17000000000000000000 := by
  obtain ⟨h1, h2, h3, h4⟩ := h
  unfold fw; split <;> omega
theorem fw_abs {s : Bool} {m : Nat} {e : Int} (h : Nm m e) : fw s m e % 9223372036854775808 = fw false m e := by
  obtain ⟨h1, h2, h3, h4⟩ := h
  unfold fw
  cases s <;> simp only [Bool.false_eq_true, if_false, if_true] <;> omega

set_option maxRecDepth 100000 in
theorem absW (a : Nat) (ha : a < 18446744073709551616) (w : World) : Calls Tryz.prog 15 #[.float .f64 a] w fun e w' => e = .returned (.float .f64 (a % 9223372036854775808)) ∧ w = w' := by
  have hc := clear_top a ha
  have hb := tobits a
  have hf := frombits (a % 9223372036854775808)
  obtain ⟨r, hr⟩ : ∃ r, a % 9223372036854775808 = r := ⟨_, rfl⟩
  rw [hr] at hc hf ⊢
  clear hr
  go_enter Tryz.func15, Tryz.ntmps15
  go_wp2
  go_ret
  exact ⟨rfl, rfl⟩

/-- What math.Round leaves as it is: a whole number. -/
def Whole (s : Bool) (m : Nat) (e : Int) : Prop := 0 ≤ e ∨ ∃ x, 0 < x ∧ x < 9007199254740992 ∧ fw s m e = fn s x

set_option maxRecDepth 100000 in
theorem roundW (s : Bool) (m : Nat) (e : Int) (h : Nm m e) (hw : Whole s m e) (w : World) : Calls Tryz.prog 28 #[.float .f64 (fw s m e)] w fun e' w' => e' = .returned (.float .f64 (fw s m e)) ∧ w = w' := by
  have hlt := fw_lt (s := s) h
  have hlt2 := fw_lt2 (s := s) h
  have hb := tobits (fw s m e)
  have hf := frombits (fw s m e)
  -- the exponent's field
  have hE : ∃ E : Nat, bits .and .u64 ((fw s m e : Nat) / 4503599627370496 : Int) 2047 = (E : Int) ∧ (E : Int) = e + 1075 := by
    obtain ⟨h1, h2, h3, h4⟩ := h
    refine ⟨(e + 1075).toNat, ?_, by omega⟩
    have hq : ((fw s m e : Nat) : Int) / 4503599627370496 = (if s then 2048 else 0) + e + 1075 := by
      unfold fw; cases s <;> simp only [Bool.false_eq_true, if_false, if_true] <;> omega
    rw [hq]
    have hm := bits_mask .u64 64 (by decide) (fun n h0 h1 => wrap64u n h0 h1) 11 (by decide) ((if s then 2048 else 0) + e + 1075) (by split <;> omega) (by split <;> omega)
    refine hm.trans ?_
    split <;> omega
  obtain ⟨E, hE1, hE2⟩ := hE
  by_cases he : 0 ≤ e
  · obtain ⟨b, hbb⟩ : ∃ b, fw s m e = b := ⟨_, rfl⟩
    rw [hbb] at hlt hb hf hE1 ⊢
    have g1 : (1075 : Int) ≤ E := by omega
    clear hw h hbb hE2
    go_enter Tryz.func28, Tryz.ntmps28
    go_wp2
    go_ret
    exact ⟨rfl, rfl⟩
  · obtain ⟨x, hx0, hx1, hx⟩ := hw.resolve_left he
    obtain ⟨hL, hn⟩ := fn_nm hx0 hx1
    -- the place is the one of the whole number
    have hex : e = (x.log2 : Int) - 52 := by
      have r1 := read_fw (s := s) h
      have r2 := read_fw (s := s) hn
      unfold fn at hx
      rw [hx, r2] at r1
      injection r1 with _ _ r3
      exact r3.symm
    obtain ⟨j, hj⟩ : ∃ j, 52 - x.log2 = j := ⟨_, rfl⟩
    have hj1 : 1 ≤ j ∧ j ≤ 52 := by omega
    obtain ⟨b, hbb⟩ : ∃ b, fw s m e = b := ⟨_, rfl⟩
    have hmul : ∃ t, b = t * 2 ^ j := by
      rw [← hbb, hx]
      unfold fn fw
      rw [hj]
      have e1 : (9223372036854775808 : Nat) = 2 ^ (63 - j) * 2 ^ j := by rw [← Nat.pow_add, show 63 - j + j = 63 from by omega]
      have e2 : (4503599627370496 : Nat) = 2 ^ (52 - j) * 2 ^ j := by rw [← Nat.pow_add, show 52 - j + j = 52 from by omega]
      obtain ⟨T, hT⟩ : ∃ T, ((x.log2 : Int) - 52 + 1074).toNat = T := ⟨_, rfl⟩
      rw [hT]
      refine ⟨(if s then 2 ^ (63 - j) else 0) + T * 2 ^ (52 - j) + x, ?_⟩
      rw [Nat.add_mul, Nat.add_mul, Nat.mul_assoc, ← e2]
      congr 2
      cases s
      · simp
      · simp only [if_true]; exact e1
    obtain ⟨t, ht⟩ := hmul
    rw [hbb] at hlt hlt2 hb hf hE1 ⊢
    have hp : 0 < 2 ^ (j - 1) := Nat.two_pow_pos _
    have hp2 : 2 ^ j = 2 * 2 ^ (j - 1) := by rw [← Nat.pow_succ', show (j - 1).succ = j from by omega]
    have hp3 : 2 ^ (j - 1) ≤ 2 ^ 51 := Nat.pow_le_pow_right (by omega) (by omega)
    have e51 : (2 ^ 51 : Nat) = 2251799813685248 := by decide
    have hsum : b + 2 ^ (j - 1) < 18446744073709551616 := by omega
    have hcl := clear_low (b + 2 ^ (j - 1)) j hsum (by omega)
    have hdiv : (b + 2 ^ (j - 1)) / 2 ^ j * 2 ^ j = b := by
      rw [ht, Nat.mul_comm t, Nat.mul_add_div (by omega), Nat.div_eq_of_lt (by omega), Nat.add_zero, Nat.mul_comm]
    rw [hdiv, Int.natCast_add] at hcl
    obtain ⟨l, hl⟩ : ∃ l : Nat, (E : Int) - 1023 = (l : Int) := ⟨(E - 1023), by omega⟩
    have hlj : l + j = 52 := by omega
    have s1 : (2251799813685248 : Int) / 2 ^ l = ((2 ^ (j - 1) : Nat) : Int) := by
      have e1 : (2251799813685248 : Nat) = 2 ^ (j - 1) * 2 ^ l := by rw [← Nat.pow_add, show j - 1 + l = 51 from by omega]
      have e2 : (2251799813685248 : Nat) / 2 ^ l = 2 ^ (j - 1) := by rw [e1, Nat.mul_div_cancel _ (Nat.two_pow_pos l)]
      rw [← e2, Int.natCast_ediv, Int.natCast_pow]; rfl
    have s2 : (4503599627370495 : Int) / 2 ^ l = ((2 ^ j - 1 : Nat) : Int) := by
      have e1 : (4503599627370496 : Nat) = 2 ^ j * 2 ^ l := by rw [← Nat.pow_add, show j + l = 52 from by omega]
      have e2 : (4503599627370495 : Nat) / 2 ^ l = 2 ^ j - 1 := by
        have hpl := Nat.two_pow_pos l
        have hpj := Nat.two_pow_pos j
        apply Nat.div_eq_of_lt_le
        · rw [Nat.sub_mul, ← e1]; omega
        · rw [show 2 ^ j - 1 + 1 = 2 ^ j from by omega, ← e1]; omega
      rw [← e2, Int.natCast_ediv, Int.natCast_pow]; rfl
    have g1 : (1023 : Int) ≤ E := by omega
    have g2 : (E : Int) < 1075 := by omega
    have g3 : l ≤ 52 := by omega
    obtain ⟨P, hP⟩ : ∃ P : Int, (2 : Int) ^ l = P := ⟨_, rfl⟩
    rw [hP] at s1 s2
    generalize 2 ^ (j - 1) = H at *
    generalize 2 ^ j - 1 = M at *
    have hHi : (b : Int) + (H : Int) < 18446744073709551616 := by omega
    have hH2 : (0 : Int) ≤ (H : Int) := by omega
    clear hw h hbb hE2 hL hn hex hj hj1 ht hp hp2 hp3 e51 hsum hdiv hlj he hx hx0 hx1
    go_enter Tryz.func28, Tryz.ntmps28
    have k1 : ((E : Int) < 1023) = False := eq_false (by omega)
    have k2 : ((E : Int) < 1075) = True := eq_true g2
    have k3 : IntKind.u64.wrap ((E : Int) - 1023) = (l : Int) := by rw [hl]; exact wrap64u _ (by omega) (by omega)
    have k4 : IntKind.u64.wrap ((b : Int) + (H : Int)) = (b : Int) + (H : Int) := wrap64u _ (by omega) (by omega)
    go_wp2
    go_ret
    exact ⟨rfl, rfl⟩

/-- The powers of ten as floats lie in the tables. -/
def PowF (w : World) : Prop := ∀ p, p ≤ 15 → w.cell? ⟨2, p, none⟩ = some (.float .f64 (fn false (10 ^ p))) ∧ w.cell? ⟨1, 0, none⟩ = some (.float .f64 (fn false 1))
theorem PowF.gr {w w' : World} (h : PowF w) (g : Gr w w') : PowF w' := fun p hp => ⟨g.cell (h p hp).1, g.cell (h p hp).2⟩
theorem ten_lt (p : Nat) (hp : p ≤ 15) : 0 < 10 ^ p ∧ 10 ^ p < 9007199254740992 := by
  refine ⟨Nat.pow_pos (by omega), ?_⟩
  have : 10 ^ p ≤ 10 ^ 15 := Nat.pow_le_pow_right (by omega) hp
  have e : (10 ^ 15 : Nat) = 1000000000000000 := by decide
  omega

set_option maxRecDepth 100000 in
theorem powW (p : Nat) (hp : p ≤ 15) (hp2 : p % 2 = 0) (w : World) (h : PowF w) : Calls Tryz.prog 29 #[.int .i64 (p : Nat)] w fun e w' => e = .returned (.float .f64 (fn false (10 ^ p))) ∧ Gr w w' := by
  obtain ⟨c1, c2⟩ := h p hp
  have hm := fn_mul_exact false (a := 1) (b := 10 ^ p) (by omega) (by omega) (ten_lt p hp).1 (ten_lt p hp).2 (by rw [Nat.one_mul]; exact (ten_lt p hp).2)
  rw [Nat.one_mul] at hm
  generalize fn false (10 ^ p) = T at *
  generalize fn false 1 = O at *
  have hop : ∀ t w, (binOp .mul t (.float .f64 O) (.float .f64 T)).run Tryz.prog w = .ok (.float .f64 T) w := fun t w => run_float_arith w .mul t .f64 O T T hm
  clear hm h
  have hp' : p = 0 ∨ p = 2 ∨ p = 4 ∨ p = 6 ∨ p = 8 ∨ p = 10 ∨ p = 12 ∨ p = 14 := by omega
  rcases hp' with rfl | rfl | rfl | rfl | rfl | rfl | rfl | rfl
  · clear hp hp2
    have q1 : IntKind.u64.wrap (0 : Int) = 0 := rfl
    have q2 : IntKind.u64.wrap (0 : Int) = 0 := rfl
    go_enter Tryz.func29, Tryz.ntmps29
    go_wp2_with fail
    go_region_held3 (fun w' => w'.cell? ⟨2, 0, none⟩ = some (.float .f64 T) ∧ w'.cell? ⟨1, 0, none⟩ = some (.float .f64 O)) (go_keep) (fail)
    all_goals go_wp2
    all_goals go_ret
    all_goals exact ⟨rfl, (Gr.refl _).drew⟩
  · clear hp hp2
    have q1 : IntKind.u64.wrap (2 : Int) = 2 := rfl
    have q2 : IntKind.u64.wrap (0 : Int) = 0 := rfl
    go_enter Tryz.func29, Tryz.ntmps29
    go_wp2_with fail
    go_region_held3 (fun w' => w'.cell? ⟨2, 2, none⟩ = some (.float .f64 T) ∧ w'.cell? ⟨1, 0, none⟩ = some (.float .f64 O)) (go_keep) (fail)
    all_goals go_wp2
    all_goals go_ret
    all_goals exact ⟨rfl, (Gr.refl _).drew⟩
  · clear hp hp2
    have q1 : IntKind.u64.wrap (4 : Int) = 4 := rfl
    have q2 : IntKind.u64.wrap (0 : Int) = 0 := rfl
    go_enter Tryz.func29, Tryz.ntmps29
    go_wp2_with fail
    go_region_held3 (fun w' => w'.cell? ⟨2, 4, none⟩ = some (.float .f64 T) ∧ w'.cell? ⟨1, 0, none⟩ = some (.float .f64 O)) (go_keep) (fail)
    all_goals go_wp2
    all_goals go_ret
    all_goals exact ⟨rfl, (Gr.refl _).drew⟩
  · clear hp hp2
    have q1 : IntKind.u64.wrap (6 : Int) = 6 := rfl
    have q2 : IntKind.u64.wrap (0 : Int) = 0 := rfl
    go_enter Tryz.func29, Tryz.ntmps29
    go_wp2_with fail
    go_region_held3 (fun w' => w'.cell? ⟨2, 6, none⟩ = some (.float .f64 T) ∧ w'.cell? ⟨1, 0, none⟩ = some (.float .f64 O)) (go_keep) (fail)
    all_goals go_wp2
    all_goals go_ret
    all_goals exact ⟨rfl, (Gr.refl _).drew⟩
  · clear hp hp2
    have q1 : IntKind.u64.wrap (8 : Int) = 8 := rfl
    have q2 : IntKind.u64.wrap (0 : Int) = 0 := rfl
    go_enter Tryz.func29, Tryz.ntmps29
    go_wp2_with fail
    go_region_held3 (fun w' => w'.cell? ⟨2, 8, none⟩ = some (.float .f64 T) ∧ w'.cell? ⟨1, 0, none⟩ = some (.float .f64 O)) (go_keep) (fail)
    all_goals go_wp2
    all_goals go_ret
    all_goals exact ⟨rfl, (Gr.refl _).drew⟩
  · clear hp hp2
    have q1 : IntKind.u64.wrap (10 : Int) = 10 := rfl
    have q2 : IntKind.u64.wrap (0 : Int) = 0 := rfl
    go_enter Tryz.func29, Tryz.ntmps29
    go_wp2_with fail
    go_region_held3 (fun w' => w'.cell? ⟨2, 10, none⟩ = some (.float .f64 T) ∧ w'.cell? ⟨1, 0, none⟩ = some (.float .f64 O)) (go_keep) (fail)
    all_goals go_wp2
    all_goals go_ret
    all_goals exact ⟨rfl, (Gr.refl _).drew⟩
  · clear hp hp2
    have q1 : IntKind.u64.wrap (12 : Int) = 12 := rfl
    have q2 : IntKind.u64.wrap (0 : Int) = 0 := rfl
    go_enter Tryz.func29, Tryz.ntmps29
    go_wp2_with fail
    go_region_held3 (fun w' => w'.cell? ⟨2, 12, none⟩ = some (.float .f64 T) ∧ w'.cell? ⟨1, 0, none⟩ = some (.float .f64 O)) (go_keep) (fail)
    all_goals go_wp2
    all_goals go_ret
    all_goals exact ⟨rfl, (Gr.refl _).drew⟩
  · clear hp hp2
    have q1 : IntKind.u64.wrap (14 : Int) = 14 := rfl
    have q2 : IntKind.u64.wrap (0 : Int) = 0 := rfl
    go_enter Tryz.func29, Tryz.ntmps29
    go_wp2_with fail
    go_region_held3 (fun w' => w'.cell? ⟨2, 14, none⟩ = some (.float .f64 T) ∧ w'.cell? ⟨1, 0, none⟩ = some (.float .f64 O)) (go_keep) (fail)
    all_goals go_wp2
    all_goals go_ret
    all_goals exact ⟨rfl, (Gr.refl _).drew⟩
end Go.Proofs.YtoachnjapfakdaaGreatDoor
