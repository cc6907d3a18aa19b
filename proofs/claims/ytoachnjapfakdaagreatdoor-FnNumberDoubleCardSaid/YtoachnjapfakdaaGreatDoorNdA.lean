/- Floats of 64 bits in plain words: a normal one by its sign, its 53 digits and its place; the rounding of a whole number; whole numbers below two to the power of 53 are exact. -/
import Derived.Laws.FloatArith
namespace Go.Proofs.YtoachnjapfakdaaGreatDoor
open Go

/-- The bits of the normal number m * 2 ^ e (negated if s). -/
def fw (s : Bool) (m : Nat) (e : Int) : Nat := (if s then 9223372036854775808 else 0) + (e + 1074).toNat * 4503599627370496 + m
/-- A normal number's digits, and a place far from the ends. -/
structure Nm (m : Nat) (e : Int) : Prop where
  lo : 4503599627370496 ≤ m
  hi : m < 9007199254740992
  el : -500 ≤ e
  eh : e ≤ 500

theorem f64w : FloatKind.f64.format.signWeight = 9223372036854775808 := by decide +kernel
theorem f64b : FloatKind.f64.format.binade = 4503599627370496 := by decide +kernel
theorem f64i : FloatKind.f64.format.infRung = 9218868437227405312 := by decide +kernel
theorem f64l : FloatKind.f64.format.leastPlace = -1074 := by decide +kernel
theorem f64f : FloatKind.f64.format.fractionBits = 52 := by decide +kernel

theorem read_fw {s : Bool} {m : Nat} {e : Int} (h : Nm m e) : FloatKind.f64.format.read (fw s m e) = .number s m e := by
  obtain ⟨h1, h2, h3, h4⟩ := h
  unfold Ieee.Format.read
  simp only [f64w, f64b, f64i, f64l]
  obtain ⟨k, hk⟩ : ∃ k, (e + 1074).toNat = k := ⟨_, rfl⟩
  have hr : fw s m e % 9223372036854775808 = k * 4503599627370496 + m := by
    unfold fw; rw [hk]; cases s <;> simp only [Bool.false_eq_true, if_false, if_true] <;> omega
  have hn : (fw s m e / 9223372036854775808 % 2 == 1) = s := by
    unfold fw; rw [hk]; cases s
    · rw [beq_eq_false_iff_ne]; simp only [Bool.false_eq_true, if_false]; omega
    · rw [beq_iff_eq]; simp only [if_true]; omega
  rw [hr, hn, if_neg (by omega), if_pos (by omega)]
  have e1 : 4503599627370496 + (k * 4503599627370496 + m) % 4503599627370496 = m := by omega
  have e2 : (k * 4503599627370496 + m) / 4503599627370496 - 1 = k := by omega
  rw [e1, e2]
  congr 1; omega

/-- What is left of n / 2 ^ d, rounded: at most half a unit away; exact if nothing is left over. -/
theorem cut_even (s : Bool) (n d : Nat) (hd : d ≤ n.log2 + 2) :
    2 * (Ieee.Toward.even.cut s n d * 2 ^ d) ≤ 2 * n + 2 ^ d ∧ 2 * n ≤ 2 * (Ieee.Toward.even.cut s n d * 2 ^ d) + 2 ^ d := by
  unfold Ieee.Toward.cut
  simp only [Nat.min_eq_left hd, Nat.one_shiftLeft]
  have hg : 0 < 2 ^ d := Nat.two_pow_pos d
  generalize 2 ^ d = g at *
  have hdm := Nat.div_add_mod n g
  have hlt := Nat.mod_lt n hg
  rw [Nat.mul_comm] at hdm
  generalize n / g = a at *
  generalize n % g = r at *
  rcases hb : (decide (g < 2 * r) || (g == 2 * r && a % 2 == 1)) with _ | _
  · simp only [Bool.toNat_false, Nat.add_zero]
    simp only [Bool.or_eq_false_iff, decide_eq_false_iff_not] at hb
    omega
  · simp only [Bool.toNat_true, Nat.add_mul, Nat.one_mul]
    simp only [Bool.or_eq_true, decide_eq_true_eq, Bool.and_eq_true, beq_iff_eq] at hb
    omega
theorem cut_exact (s : Bool) (q d : Nat) (hd : d ≤ (q * 2 ^ d).log2 + 2) : Ieee.Toward.even.cut s (q * 2 ^ d) d = q := by
  unfold Ieee.Toward.cut
  simp only [Nat.min_eq_left hd, Nat.one_shiftLeft]
  have hg : 0 < 2 ^ d := Nat.two_pow_pos d
  generalize 2 ^ d = g at *
  rw [Nat.mul_div_cancel _ hg, Nat.mul_mod_left]
  have e1 : decide (g < 2 * 0) = false := by rw [decide_eq_false_iff_not]; omega
  have e2 : (g == 2 * 0) = false := by rw [beq_eq_false_iff_ne]; omega
  rw [e1, e2]
  simp

theorem word_fw (s : Bool) (q : Nat) (e : Int) : FloatKind.f64.format.word s ((e + 1074).toNat * 4503599627370496 + q) = fw s q e := by
  unfold Ieee.Format.word fw
  rw [f64w]
  cases s
  · simp
  · simp only [if_true]; omega

theorem log2_of {m L : Nat} (h1 : 2 ^ L ≤ m) (h2 : m < 2 ^ (L + 1)) : m.log2 = L := by
  have h0 : m ≠ 0 := by have := Nat.two_pow_pos L; omega
  have a := (Nat.le_log2 h0).2 h1
  have b := (Nat.log2_lt h0).2 h2
  omega
theorem log2_bounds {m : Nat} (h0 : m ≠ 0) : 2 ^ m.log2 ≤ m ∧ m < 2 ^ (m.log2 + 1) := ⟨(Nat.le_log2 h0).1 (Nat.le_refl _), (Nat.log2_lt h0).1 (Nat.lt_succ_self _)⟩

/-- A number of 53 digits with d noughts more. -/
theorem nearest_down (s : Bool) (q d : Nat) (e : Int) (h : Nm q e) : FloatKind.f64.format.nearest s (q * 2 ^ d) (e - d) = fw s q e := by
  obtain ⟨h1, h2, h3, h4⟩ := h
  have hg : 0 < 2 ^ d := Nat.two_pow_pos d
  have hL : (q * 2 ^ d).log2 = 52 + d := by
    apply log2_of
    · rw [Nat.pow_add]; exact Nat.mul_le_mul_right _ h1
    · rw [Nat.add_right_comm, Nat.pow_add]; exact Nat.mul_lt_mul_of_pos_right h2 hg
  unfold Ieee.Format.nearest
  have hne : ¬ q * 2 ^ d = 0 := by
    intro h0; rcases Nat.mul_eq_zero.1 h0 with h0 | h0 <;> omega
  rw [if_neg hne]
  simp only [hL, f64f, f64l, f64b, f64i]
  have hlast : max (e - (d : Int) + ((52 + d : Nat) : Int) - ((52 : Nat) : Int)) (-1074) = e := by omega
  rw [hlast]
  have z1 : (e - (d : Int) - e).toNat = 0 := by omega
  have z2 : (e - (e - (d : Int))).toNat = d := by omega
  rw [z1, z2, Nat.shiftLeft_zero, cut_exact s q d (by omega)]
  have z3 : (e - -1074 : Int) = e + 1074 := by omega
  rw [z3, Nat.min_eq_left (by omega), word_fw]

theorem nearest_up (s : Bool) (n q u : Nat) (e : Int) (hn : n * 2 ^ u = q) (h : Nm q e) : FloatKind.f64.format.nearest s n (e + u) = fw s q e := by
  obtain ⟨h1, h2, h3, h4⟩ := h
  have hg : 0 < 2 ^ u := Nat.two_pow_pos u
  have hne : ¬ n = 0 := by rintro rfl; omega
  have hu : u ≤ 52 := by
    apply Nat.le_of_not_lt; intro hu
    have a : 2 ^ 53 ≤ 2 ^ u := Nat.pow_le_pow_right (by omega) (by omega)
    have b : 1 * 2 ^ u ≤ n * 2 ^ u := Nat.mul_le_mul_right _ (by omega)
    omega
  have hp : 2 ^ (52 - u) * 2 ^ u = 2 ^ 52 := by rw [← Nat.pow_add]; congr 1; omega
  have hL : n.log2 = 52 - u := by
    apply log2_of
    · apply Nat.le_of_mul_le_mul_right _ hg
      rw [hp, hn]; exact h1
    · apply Nat.lt_of_mul_lt_mul_right (a := 2 ^ u)
      rw [hn, Nat.pow_succ, Nat.mul_right_comm, hp]; exact h2
  unfold Ieee.Format.nearest
  rw [if_neg hne]
  simp only [hL, f64f, f64l, f64b, f64i]
  have hlast : max (e + (u : Int) + ((52 - u : Nat) : Int) - ((52 : Nat) : Int)) (-1074) = e := by omega
  rw [hlast]
  have z1 : (e + (u : Int) - e).toNat = u := by omega
  have z2 : (e - (e + (u : Int))).toNat = 0 := by omega
  rw [z1, z2, Nat.shiftLeft_eq, hn]
  have hc := cut_exact s q 0 (by omega)
  rw [Nat.pow_zero, Nat.mul_one] at hc
  rw [hc]
  have z3 : (e - -1074 : Int) = e + 1074 := by omega
  rw [z3, Nat.min_eq_left (by omega), word_fw]

/-- The rounding of a number of 53 + d digits. -/
theorem nearest_round (s : Bool) (n d : Nat) (e : Int) (h1 : 2 ^ (52 + d) ≤ n) (h2 : n < 2 ^ (53 + d)) (h3 : -400 ≤ e) (h4 : e ≤ 400) :
    ∃ m c r, FloatKind.f64.format.nearest s n (e - d) = fw s m (e + (c : Nat)) ∧ c ≤ 1 ∧ Nm m (e + (c : Nat)) ∧ m * 2 ^ c = r ∧ 2 * (r * 2 ^ d) ≤ 2 * n + 2 ^ d ∧ 2 * n ≤ 2 * (r * 2 ^ d) + 2 ^ d := by
  have hg : 0 < 2 ^ d := Nat.two_pow_pos d
  have hL : n.log2 = 52 + d := log2_of h1 (by rw [show 52 + d + 1 = 53 + d from by omega]; exact h2)
  have hne : ¬ n = 0 := by have := Nat.two_pow_pos (52 + d); omega
  obtain ⟨c1, c2⟩ := cut_even s n d (by omega)
  obtain ⟨r, hr⟩ : ∃ r, Ieee.Toward.even.cut s n d = r := ⟨_, rfl⟩
  have hN : FloatKind.f64.format.nearest s n (e - d) = fw s r e ∧ r ≤ 9007199254740992 ∧ 4503599627370496 ≤ r := by
    rw [hr] at c1 c2
    have b1 : r ≤ 9007199254740992 := by
      rw [Nat.pow_add] at h2
      apply Nat.le_of_not_lt; intro hh
      have a : 9007199254740993 * 2 ^ d ≤ r * 2 ^ d := Nat.mul_le_mul_right _ hh
      have b : (2 ^ 53 : Nat) = 9007199254740992 := by decide
      rw [b] at h2
      omega
    have b2 : 4503599627370496 ≤ r := by
      rw [Nat.pow_add] at h1
      apply Nat.le_of_not_lt; intro hh
      have a : (r + 1) * 2 ^ d ≤ 4503599627370496 * 2 ^ d := Nat.mul_le_mul_right _ hh
      rw [Nat.add_mul] at a
      have b : (2 ^ 52 : Nat) = 4503599627370496 := by decide
      rw [b] at h1
      omega
    refine ⟨?_, b1, b2⟩
    unfold Ieee.Format.nearest
    rw [if_neg hne]
    simp only [hL, f64f, f64l, f64b, f64i]
    have hlast : max (e - (d : Int) + ((52 + d : Nat) : Int) - ((52 : Nat) : Int)) (-1074) = e := by omega
    rw [hlast]
    have z1 : (e - (d : Int) - e).toNat = 0 := by omega
    have z2 : (e - (e - (d : Int))).toNat = d := by omega
    rw [z1, z2, Nat.shiftLeft_zero, hr]
    have z3 : (e - -1074 : Int) = e + 1074 := by omega
    rw [z3, Nat.min_eq_left (by omega), word_fw]
  rw [hr] at c1 c2
  obtain ⟨n1, n2, n3⟩ := hN
  by_cases hm : r < 9007199254740992
  · refine ⟨r, 0, r, ?_, by omega, ⟨n3, hm, by omega, by omega⟩, by omega, c1, c2⟩
    rw [n1]; congr 1; omega
  · have hr2 : r = 9007199254740992 := by omega
    refine ⟨4503599627370496, 1, r, ?_, by omega, ⟨by omega, by omega, by omega, by omega⟩, by omega, c1, c2⟩
    rw [n1]; unfold fw
    have : (e + ((1 : Nat) : Int) + 1074).toNat = (e + 1074).toNat + 1 := by omega
    rw [this, Nat.add_mul]; omega

/-- The bits of a whole number below 2 ^ 53 (not nought). -/
def fn (s : Bool) (n : Nat) : Nat := fw s (n * 2 ^ (52 - n.log2)) ((n.log2 : Int) - 52)
theorem fn_nm {n : Nat} (h0 : 0 < n) (h : n < 9007199254740992) : n.log2 ≤ 52 ∧ Nm (n * 2 ^ (52 - n.log2)) ((n.log2 : Int) - 52) := by
  obtain ⟨b1, b2⟩ := log2_bounds (m := n) (by omega)
  have hL : n.log2 ≤ 52 := by
    have := (Nat.log2_lt (n := n) (k := 53) (by omega)).2 (by exact h)
    omega
  generalize n.log2 = L at *
  have hg : 0 < 2 ^ (52 - L) := Nat.two_pow_pos _
  refine ⟨hL, ?_, ?_, by omega, by omega⟩
  · have := Nat.mul_le_mul_right (2 ^ (52 - L)) b1
    rw [← Nat.pow_add, show L + (52 - L) = 52 from by omega] at this
    exact this
  · have := Nat.mul_lt_mul_of_pos_right b2 hg
    rw [← Nat.pow_add, show L + 1 + (52 - L) = 53 from by omega] at this
    exact this
theorem ofInt_fn (s : Bool) (n : Nat) (h0 : 0 < n) (h : n < 9007199254740992) : floatOfInt .f64 (if s then -(n : Int) else n) = fn s n := by
  obtain ⟨hL, hn⟩ := fn_nm h0 h
  have e1 : decide ((if s then -(n : Int) else n) < 0) = s := by
    cases s
    · rw [decide_eq_false_iff_not]; simp only [Bool.false_eq_true, if_false]; omega
    · rw [decide_eq_true_eq]; simp only [if_true]; omega
  have e2 : (if s then -(n : Int) else n).natAbs = n := by
    cases s
    · simp only [Bool.false_eq_true, if_false]; omega
    · simp only [if_true]; omega
  show FloatKind.f64.format.nearest (decide ((if s then -(n : Int) else n) < 0)) (if s then -(n : Int) else n).natAbs 0 = _
  rw [e1, e2]
  have := nearest_up s n _ (52 - n.log2) ((n.log2 : Int) - 52) rfl hn
  rw [show (n.log2 : Int) - 52 + ((52 - n.log2 : Nat) : Int) = 0 from by omega] at this
  exact this
theorem ofInt_zero : floatOfInt .f64 0 = 0 := by decide +kernel
end Go.Proofs.YtoachnjapfakdaaGreatDoor
