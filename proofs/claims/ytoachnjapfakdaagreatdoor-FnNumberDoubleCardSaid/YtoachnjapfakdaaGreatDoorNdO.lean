/- How far a double that is near a whole number is away from it, as floats tell it. -/
import Derived.Test.YtoachnjapfakdaaGreatDoorNdN
namespace Go.Proofs.YtoachnjapfakdaaGreatDoor
open Go Go.RowKit

/-- What is told of the difference. -/
structure Dif (s : Bool) (m : Nat) (e : Int) (N : Nat) (r D : Nat) : Prop where
  sub : floatBits .sub .f64 (fw s m e) (fn s N) = some r
  lt : r < 18446744073709551616
  quo : floatBits .quo .f64 (fn false N) 4823355200913801216 = some D
  ord : (FloatKind.f64.format.order (r % 9223372036854775808) D == some .lt || FloatKind.f64.format.order (r % 9223372036854775808) D == some .eq) = true

theorem pow_gap {m q a b : Nat} (h1 : m * 2 ^ a * 2251799813685248 ≤ q * 2 ^ b * 2251799813685249) (h2 : q * 2 ^ b * 2251799813685247 ≤ m * 2 ^ a * 2251799813685248)
    (hm : 4503599627370496 ≤ m) (hm2 : m < 9007199254740992) (hq : 4503599627370496 ≤ q) (hq2 : q < 9007199254740992) :
    (a = b ∧ m ≤ q + 3 ∧ q ≤ m + 3) ∨ (a = b + 1 ∧ 2 * m ≤ q + 3 ∧ q ≤ 2 * m + 3) ∨ (b = a + 1 ∧ m ≤ 2 * q + 7 ∧ 2 * q ≤ m + 7) := by
  have key : ∀ (x y g : Nat), 0 < g → x * g * 2251799813685248 ≤ y * g * 2251799813685249 → y * g * 2251799813685247 ≤ x * g * 2251799813685248 → x * 2251799813685248 ≤ y * 2251799813685249 ∧ y * 2251799813685247 ≤ x * 2251799813685248 := by
    intro x y g hg k1 k2
    rw [Nat.mul_right_comm x g, Nat.mul_right_comm y g] at k1 k2
    exact ⟨Nat.le_of_mul_le_mul_right k1 hg, Nat.le_of_mul_le_mul_right k2 hg⟩
  rcases Nat.lt_trichotomy a b with h | h | h
  · obtain ⟨c, rfl⟩ : ∃ c, b = a + 1 + c := ⟨b - a - 1, by omega⟩
    have hg := Nat.two_pow_pos a
    rw [Nat.pow_add, Nat.pow_add, Nat.mul_comm (2 ^ a * 2 ^ 1), ← Nat.mul_assoc, ← Nat.mul_assoc] at h1 h2
    rw [Nat.mul_right_comm (q * 2 ^ c)] at h1 h2
    obtain ⟨k1, k2⟩ := key _ _ _ hg h1 h2
    rcases Nat.eq_zero_or_pos c with hc | hc
    · subst hc
      simp only [Nat.pow_zero, Nat.mul_one, Nat.pow_one] at k1 k2
      exact .inr (.inr ⟨by omega, by omega, by omega⟩)
    · exfalso
      have h3 : 2 ^ 1 ≤ 2 ^ c := Nat.pow_le_pow_right (by omega) hc
      have h4 : q * 2 ^ 1 * 2 ^ 1 ≤ q * 2 ^ c * 2 ^ 1 := Nat.mul_le_mul_right _ (Nat.mul_le_mul_left _ h3)
      generalize q * 2 ^ c * 2 ^ 1 = Y at *
      omega
  · subst h
    obtain ⟨k1, k2⟩ := key _ _ _ (Nat.two_pow_pos a) h1 h2
    exact .inl ⟨rfl, by omega, by omega⟩
  · obtain ⟨c, rfl⟩ : ∃ c, a = b + 1 + c := ⟨a - b - 1, by omega⟩
    have hg := Nat.two_pow_pos b
    rw [Nat.pow_add, Nat.pow_add, Nat.mul_comm (2 ^ b * 2 ^ 1), ← Nat.mul_assoc, ← Nat.mul_assoc] at h1 h2
    rw [Nat.mul_right_comm (m * 2 ^ c)] at h1 h2
    obtain ⟨k1, k2⟩ := key _ _ _ hg h1 h2
    rcases Nat.eq_zero_or_pos c with hc | hc
    · subst hc
      simp only [Nat.pow_zero, Nat.mul_one, Nat.pow_one] at k1 k2
      exact .inr (.inl ⟨by omega, by omega, by omega⟩)
    · exfalso
      have h3 : 2 ^ 1 ≤ 2 ^ c := Nat.pow_le_pow_right (by omega) hc
      have h4 : m * 2 ^ 1 * 2 ^ 1 ≤ m * 2 ^ c * 2 ^ 1 := Nat.mul_le_mul_right _ (Nat.mul_le_mul_left _ h3)
      generalize m * 2 ^ c * 2 ^ 1 = Y at *
      omega

/-- A difference of at most seven units is small. -/
theorem small_word (sg : Bool) (t q : Nat) (base l : Int) (ht : t ≤ 7) (hb : base ≤ l) (hb2 : l - 1 ≤ base) (hq : Nm q l) (hl : -60 ≤ l) (hl2 : l ≤ 60) (h0 : t = 0 → sg = false) :
    ∃ r, FloatKind.f64.format.nearest sg t base = r ∧ r < 18446744073709551616 ∧ r % 9223372036854775808 < fw false q (l - 48) := by
  have hq1 := hq.lo
  rcases Nat.eq_zero_or_pos t with h | h
  · subst h
    rw [h0 rfl]
    refine ⟨_, rfl, ?_, ?_⟩
    · have : FloatKind.f64.format.nearest false 0 base = 0 := by unfold Ieee.Format.nearest; rw [if_pos rfl]; rfl
      rw [this]; omega
    · have : FloatKind.f64.format.nearest false 0 base = 0 := by unfold Ieee.Format.nearest; rw [if_pos rfl]; rfl
      rw [this]
      unfold fw; omega
  · have hu : ∃ u, 50 ≤ u ∧ u ≤ 52 ∧ 4503599627370496 ≤ t * 2 ^ u ∧ t * 2 ^ u < 9007199254740992 := by
      have e50 : (2 ^ 50 : Nat) = 1125899906842624 := by decide
      have e51 : (2 ^ 51 : Nat) = 2251799813685248 := by decide
      have e52 : (2 ^ 52 : Nat) = 4503599627370496 := by decide
      by_cases h1 : t < 2
      · exact ⟨52, by omega, by omega, by rw [e52]; omega, by rw [e52]; omega⟩
      · by_cases h2 : t < 4
        · exact ⟨51, by omega, by omega, by rw [e51]; omega, by rw [e51]; omega⟩
        · exact ⟨50, by omega, by omega, by rw [e50]; omega, by rw [e50]; omega⟩
    obtain ⟨u, u1, u2, u3, u4⟩ := hu
    have hnm : Nm (t * 2 ^ u) (base - u) := ⟨u3, u4, by omega, by omega⟩
    have hn := nearest_up sg t _ u (base - u) rfl hnm
    rw [show base - (u : Int) + (u : Int) = base from by omega] at hn
    refine ⟨_, hn, fw_lt hnm, ?_⟩
    rw [fw_abs hnm]
    generalize t * 2 ^ u = tu at *
    unfold fw
    simp only [Bool.false_eq_true, if_false]
    omega

theorem near_dif (s : Bool) (N m : Nat) (e : Int) (hN : 0 < N) (hN2 : N < 9007199254740992) (h : Quo N m e) : ∃ r D, Dif s m e N r D := by
  obtain ⟨hL, hn⟩ := fn_nm hN hN2
  obtain ⟨h1, h2, h3, h4, h5⟩ := h
  obtain ⟨q, hq⟩ : ∃ q, N * 2 ^ (52 - N.log2) = q := ⟨_, rfl⟩
  obtain ⟨l, hl⟩ : ∃ l, (N.log2 : Int) - 52 = l := ⟨_, rfl⟩
  have hfn : ∀ s, fn s N = fw s q l := fun s => by unfold fn; rw [hq, hl]
  rw [hq, hl] at hn
  have hl1 : -52 ≤ l ∧ l ≤ 0 := by omega
  -- both at one place
  have hNq : N * 1606938044258990275541962092341162602522202993782792835301376 = q * 2 ^ (l + 200).toNat := by
    have e200 : (1606938044258990275541962092341162602522202993782792835301376 : Nat) = 2 ^ 200 := by decide
    rw [← hq, Nat.mul_assoc, ← Nat.pow_add, e200, show 52 - N.log2 + (l + 200).toNat = 200 from by omega]
  rw [hNq] at h4 h5
  have hgap := pow_gap h4 h5 h1.lo h1.hi hn.lo hn.hi
  have hD : floatBits .quo .f64 (fn false N) 4823355200913801216 = some (fw false q (l - 48)) := by
    have e48 : (4823355200913801216 : Nat) = fw false 4503599627370496 (-4) := by decide
    rw [hfn, e48, div_num false false q 4503599627370496 l (-4) hn ⟨by omega, by omega, by omega, by omega⟩]
    have hz : q * 18014398509481984 / 4503599627370496 = q * 4 := by omega
    have hz2 : q * 18014398509481984 % 4503599627370496 = 0 := by omega
    rw [hz, hz2]
    have hd := nearest_down false q 3 (l - 48) ⟨hn.lo, hn.hi, by omega, by omega⟩
    rw [show q * 2 ^ 3 = 2 * (q * 4) + ((0 : Nat) != 0).toNat from by simp; omega, show l - 48 - ((3 : Nat) : Int) = l - -4 - 55 from by omega] at hd
    rw [show (false ^^ false) = false from rfl, hd]
  -- the difference
  have hsub : ∃ sg t base, floatBits .sub .f64 (fw s m e) (fn s N) = some (FloatKind.f64.format.nearest sg t base) ∧ t ≤ 7 ∧ base ≤ l ∧ l - 1 ≤ base ∧ (t = 0 → sg = false) := by
    have hs : floatBits .sub .f64 (fw s m e) (fn s N) = ((Ieee.Datum.number s m e).sum (Ieee.Datum.number (!s) q l)).map FloatKind.f64.format.write := by
      show FloatKind.f64.format.sub _ _ = _
      unfold Ieee.Format.sub
      rw [read_fw h1, hfn, read_fw hn]; rfl
    rw [hs]
    simp only [Ieee.Datum.sum, Option.map_some, write_num]
    refine ⟨_, _, _, rfl, ?_, by omega, ?_, ?_⟩
    · rcases hgap with ⟨g1, g2, g3⟩ | ⟨g1, g2, g3⟩ | ⟨g1, g2, g3⟩
      · have he : e = l := by omega
        subst he
        rw [Int.min_self, Int.sub_self]
        unfold Ieee.signed
        cases s <;> simp [Nat.shiftLeft_eq] <;> omega
      · have he : e = l + 1 := by omega
        subst he
        rw [show min (l + 1) l = l from by omega, Int.sub_self, show (l + 1 - l).toNat = 1 from by omega]
        unfold Ieee.signed
        cases s <;> simp [Nat.shiftLeft_eq] <;> omega
      · have he : l = e + 1 := by omega
        subst he
        rw [show min e (e + 1) = e from by omega, Int.sub_self, show (e + 1 - e).toNat = 1 from by omega]
        unfold Ieee.signed
        cases s <;> simp [Nat.shiftLeft_eq] <;> omega
    · rcases hgap with ⟨g1, _⟩ | ⟨g1, _⟩ | ⟨g1, _⟩ <;> omega
    · intro h0
      rw [Int.natAbs_eq_zero] at h0
      rw [if_pos h0]
      cases s <;> rfl
  obtain ⟨sg, t, base, s1, s2, s3, s4, s5⟩ := hsub
  obtain ⟨r, r1, r2, r3⟩ := small_word sg t q base l s2 s3 s4 hn (by omega) (by omega) s5
  refine ⟨r, _, ⟨by rw [s1, r1], r2, hD, ?_⟩⟩
  have hDl : fw false q (l - 48) < 9218868437227405312 := by
    have := hn.hi
    unfold fw; simp only [Bool.false_eq_true, if_false]; omega
  rw [f_order _ _ (by omega) hDl, Nat.compare_eq_lt.2 r3]
  rfl
end Go.Proofs.YtoachnjapfakdaaGreatDoor
