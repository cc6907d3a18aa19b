/- Products and quotients of whole numbers as floats: how far the rounded ones are away. -/
import Derived.Test.YtoachnjapfakdaaGreatDoorNdA
namespace Go.Proofs.YtoachnjapfakdaaGreatDoor
open Go

theorem write_num (s : Bool) (m : Nat) (e : Int) : FloatKind.f64.format.write (.number s m e) = FloatKind.f64.format.nearest s m e := rfl

/-- X is n, but for one part in 2 ^ 53. -/
def Near53 (x n : Nat) : Prop := x * 9007199254740992 ≤ n * 9007199254740992 + n ∧ n * 9007199254740992 ≤ x * 9007199254740992 + n

/-- A product of whole numbers as floats: a normal float, a whole number, near the product; the product itself if it is below 2 ^ 53. -/
structure Prd (n m : Nat) (e : Int) (x : Nat) : Prop where
  nm : Nm m e
  el : -60 ≤ e
  eh : e ≤ 60
  val : m * 2 ^ (e + 60).toNat = x * 1152921504606846976
  near : Near53 x n

theorem fn_prd {n : Nat} (h0 : 0 < n) (h : n < 9007199254740992) : Prd n (n * 2 ^ (52 - n.log2)) ((n.log2 : Int) - 52) n := by
  obtain ⟨hL, hn⟩ := fn_nm h0 h
  refine ⟨hn, by omega, by omega, ?_, by omega, by omega⟩
  rw [Nat.mul_assoc, ← Nat.pow_add, show 52 - n.log2 + ((n.log2 : Int) - 52 + 60).toNat = 60 from by omega]

theorem mul_num (s t : Bool) (m n : Nat) (e f : Int) (hm : Nm m e) (hn : Nm n f) : floatBits .mul .f64 (fw s m e) (fw t n f) = some (FloatKind.f64.format.nearest (s ^^ t) (m * n) (e + f)) := by
  show FloatKind.f64.format.mul _ _ = _
  unfold Ieee.Format.mul
  rw [read_fw hm, read_fw hn]; rfl

theorem fn_mul_exact (s : Bool) {a b : Nat} (ha : 0 < a) (ha2 : a < 9007199254740992) (hb : 0 < b) (hb2 : b < 9007199254740992) (hab : a * b < 9007199254740992) :
    floatBits .mul .f64 (fn s a) (fn false b) = some (fn s (a * b)) := by
  obtain ⟨la, na⟩ := fn_nm ha ha2
  obtain ⟨lb, nb⟩ := fn_nm hb hb2
  obtain ⟨lc, nc⟩ := fn_nm (Nat.mul_pos ha hb) hab
  unfold fn
  rw [mul_num _ _ _ _ _ _ na nb, Bool.xor_false]
  have hlog : a.log2 + b.log2 ≤ (a * b).log2 := by
    have h1 := (log2_bounds (m := a) (by omega)).1
    have h2 := (log2_bounds (m := b) (by omega)).1
    have h3 := (log2_bounds (m := a * b) (by have := Nat.mul_pos ha hb; omega)).2
    have h4 := Nat.mul_le_mul h1 h2
    rw [← Nat.pow_add] at h4
    have := (Nat.pow_lt_pow_iff_right (a := 2) (by omega)).1 (Nat.lt_of_le_of_lt h4 h3)
    omega
  generalize hA : a.log2 = A at *
  generalize hB : b.log2 = B at *
  generalize hC : (a * b).log2 = C at *
  have := nearest_down s (a * b * 2 ^ (52 - C)) (52 - A + (52 - B) - (52 - C)) ((C : Int) - 52) nc
  rw [Nat.mul_assoc (a * b), ← Nat.pow_add, show 52 - C + (52 - A + (52 - B) - (52 - C)) = 52 - A + (52 - B) from by omega, show (C : Int) - 52 - ((52 - A + (52 - B) - (52 - C) : Nat) : Int) = (A : Int) - 52 + ((B : Int) - 52) from by omega] at this
  rw [← this]
  congr 2
  rw [Nat.pow_add, Nat.mul_mul_mul_comm]

theorem fn_mul (s : Bool) {a b : Nat} (ha : 0 < a) (ha2 : a < 9007199254740992) (hb : 0 < b) (hb2 : b < 9007199254740992) :
    ∃ m e x, floatBits .mul .f64 (fn s a) (fn false b) = some (fw s m e) ∧ Prd (a * b) m e x ∧ (e < 0 → fw s m e = fn s x ∧ 0 < x ∧ x < 9007199254740992) := by
  by_cases hab : a * b < 9007199254740992
  · exact ⟨_, _, a * b, fn_mul_exact s ha ha2 hb hb2 hab, fn_prd (Nat.mul_pos ha hb) hab, fun _ => ⟨rfl, Nat.mul_pos ha hb, hab⟩⟩
  obtain ⟨la, na⟩ := fn_nm ha ha2
  obtain ⟨lb, nb⟩ := fn_nm hb hb2
  unfold fn
  rw [mul_num _ _ _ _ _ _ na nb, Bool.xor_false]
  have hne : a * b ≠ 0 := by omega
  obtain ⟨c1, c2⟩ := log2_bounds hne
  have c3 : 53 ≤ (a * b).log2 := (Nat.le_log2 hne).2 (by omega)
  have c4 : (a * b).log2 ≤ 105 := by
    have : a * b < 9007199254740992 * 9007199254740992 := Nat.mul_lt_mul_of_lt_of_lt ha2 hb2
    have := (Nat.log2_lt (k := 106) hne).2 (Nat.lt_of_lt_of_eq this (by decide))
    omega
  generalize hA : a.log2 = A at *
  generalize hB : b.log2 = B at *
  generalize hC : (a * b).log2 = C at *
  clear hA hB hC
  obtain ⟨i, rfl⟩ : ∃ i, C = 52 + i := ⟨C - 52, by omega⟩
  obtain ⟨z, hz⟩ : ∃ z, 52 - A + (52 - B) = z := ⟨_, rfl⟩
  have hmag : a * 2 ^ (52 - A) * (b * 2 ^ (52 - B)) = a * b * 2 ^ z := by rw [← hz, Nat.pow_add, Nat.mul_mul_mul_comm]
  have hzp : 0 < 2 ^ z := Nat.two_pow_pos z
  have q1 : 2 ^ (52 + (i + z)) ≤ a * b * 2 ^ z := by rw [← Nat.add_assoc, Nat.pow_add]; exact Nat.mul_le_mul_right _ c1
  have q2 : a * b * 2 ^ z < 2 ^ (53 + (i + z)) := by
    rw [← Nat.add_assoc, Nat.pow_add, show 53 + i = 52 + i + 1 from by omega]; exact Nat.mul_lt_mul_of_pos_right c2 hzp
  obtain ⟨m, c, r, k1, k2, k3, k4, k5, k6⟩ := nearest_round s (a * b * 2 ^ z) (i + z) i q1 q2 (by omega) (by omega)
  have hpl : (A : Int) - 52 + ((B : Int) - 52) = (i : Int) - ((i + z : Nat) : Int) := by omega
  rw [hmag, hpl, k1]
  refine ⟨m, _, r * 2 ^ i, rfl, ⟨k3, by omega, by omega, ?_, ?_⟩, fun h => by omega⟩
  · rw [show ((i : Int) + (c : Nat) + 60).toNat = c + (i + 60) from by omega, Nat.pow_add, ← Nat.mul_assoc, k4, Nat.pow_add, Nat.mul_assoc]
  · rw [Nat.pow_add 2 i z, ← Nat.mul_assoc r] at k5 k6
    have h5 : 2 * (r * 2 ^ i) ≤ 2 * (a * b) + 2 ^ i := by
      apply Nat.le_of_mul_le_mul_right (c := 2 ^ z) _ hzp
      rw [Nat.add_mul, Nat.mul_assoc 2, Nat.mul_assoc 2]; exact k5
    have h6 : 2 * (a * b) ≤ 2 * (r * 2 ^ i) + 2 ^ i := by
      apply Nat.le_of_mul_le_mul_right (c := 2 ^ z) _ hzp
      rw [Nat.add_mul, Nat.mul_assoc 2, Nat.mul_assoc 2]; exact k6
    rw [Nat.pow_add] at c1
    have e52 : (2 ^ 52 : Nat) = 4503599627370496 := by decide
    rw [e52] at c1
    unfold Near53
    generalize a * b = N at *
    generalize 2 ^ i = I at *
    generalize r * I = R at *
    omega

theorem div_num (s t : Bool) (m n : Nat) (e f : Int) (hm : Nm m e) (hn : Nm n f) :
    floatBits .quo .f64 (fw s m e) (fw t n f) = some (FloatKind.f64.format.nearest (s ^^ t) (2 * (m * 18014398509481984 / n) + (m * 18014398509481984 % n != 0).toNat) (e - f - 55)) := by
  show FloatKind.f64.format.div _ _ = _
  unfold Ieee.Format.div
  rw [read_fw hm, read_fw hn]
  have h1 := hm.lo; have h2 := hm.hi; have h3 := hn.lo; have h4 := hn.hi
  have l1 : m.log2 = 52 := log2_of h1 h2
  have l2 : n.log2 = 52 := log2_of h3 h4
  simp only [Ieee.Datum.quotient, f64f]
  rw [if_neg (by omega), l1, l2, Nat.shiftLeft_eq]
  simp only [Option.map_some, write_num]
  congr 2
  show e - f - ((54 : Nat) : Int) - 1 = _
  omega

/-- The number N, but for four parts in 2 ^ 53. -/
structure Quo (n m : Nat) (e : Int) : Prop where
  nm : Nm m e
  el : -190 ≤ e
  eh : e ≤ 190
  up : m * 2 ^ (e + 200).toNat * 2251799813685248 ≤ n * 1606938044258990275541962092341162602522202993782792835301376 * 2251799813685249
  dn : n * 1606938044258990275541962092341162602522202993782792835301376 * 2251799813685247 ≤ m * 2 ^ (e + 200).toNat * 2251799813685248

theorem odd_tail {Q R d M G : Nat} (h : Q * d + R = M) (hlt : R < d) (hG : 2 * Q + (R != 0).toNat = G) : G * d ≤ 2 * M + d ∧ 2 * M ≤ G * d + d := by
  subst hG
  rcases hb : (R != 0) with _ | _
  · rw [bne_eq_false_iff_eq] at hb
    subst hb
    rw [Bool.toNat_false, Nat.add_zero, Nat.mul_assoc]; omega
  · rw [Bool.toNat_true, Nat.add_mul, Nat.mul_assoc]; omega
theorem near_lin {P1 P2 P3 P4 P5 : Nat} (u1 : P3 ≤ P4 + P5) (u2 : P4 ≤ P3 + P5) (u3 : 18014398509481984 * P5 ≤ P3)
    (w1 : P2 * 9007199254740992 ≤ P3 * 9007199254740992 + P3) (w2 : P3 * 9007199254740992 ≤ P2 * 9007199254740992 + P3)
    (y1 : P4 * 9007199254740992 ≤ P1 * 9007199254740992 + P1) (y2 : P1 * 9007199254740992 ≤ P4 * 9007199254740992 + P1) :
    P2 * 2251799813685248 ≤ P1 * 2251799813685249 ∧ P1 * 2251799813685247 ≤ P2 * 2251799813685248 := by omega

theorem fn_div (s : Bool) {n T m x : Nat} {e : Int} (hT : 0 < T) (hT2 : T < 9007199254740992) (hp : Prd (n * T) m e x) :
    ∃ m' e', floatBits .quo .f64 (fw s m e) (fn false T) = some (fw s m' e') ∧ Quo n m' e' := by
  obtain ⟨lT, nT⟩ := fn_nm hT hT2
  obtain ⟨p1, p2, p3, p4, p5⟩ := hp
  unfold fn
  rw [div_num _ _ _ _ _ _ p1 nT, Bool.xor_false]
  obtain ⟨j, hj⟩ : ∃ j, 52 - T.log2 = j := ⟨_, rfl⟩
  have hf : ((T.log2 : Int) - 52) = -(j : Int) := by omega
  rw [hj, hf] at nT ⊢
  obtain ⟨d, hd⟩ : ∃ d, T * 2 ^ j = d := ⟨_, rfl⟩
  rw [hd] at nT ⊢
  have m1 := p1.lo; have m2 := p1.hi; have d1 := nT.lo; have d2 := nT.hi
  obtain ⟨G, hG⟩ : ∃ G, 2 * (m * 18014398509481984 / d) + (m * 18014398509481984 % d != 0).toNat = G := ⟨_, rfl⟩
  rw [hG]
  have hdm := Nat.div_add_mod (m * 18014398509481984) d
  have hlt := Nat.mod_lt (m * 18014398509481984) (show d > 0 by omega)
  generalize m * 18014398509481984 / d = Q at *
  generalize hR : m * 18014398509481984 % d = R at *
  -- G d is m 2^55 but for d
  have g1 : G * d ≤ m * 36028797018963968 + d ∧ m * 36028797018963968 ≤ G * d + d := by
    rw [Nat.mul_comm d Q] at hdm
    have := odd_tail hdm hlt hG
    omega
  have g2 : 18014398509481984 ≤ G := by
    apply Nat.le_of_not_lt; intro hh
    have := Nat.mul_le_mul_right d (show G + 1 ≤ 18014398509481984 by omega)
    rw [Nat.add_mul] at this
    omega
  have g3 : G < 72057594037927936 := by
    apply Nat.lt_of_not_le; intro hh
    have := Nat.mul_le_mul_right d hh
    omega
  have hround : ∃ k, k ≤ 3 ∧ 2 ≤ k ∧ 2 ^ (52 + k) ≤ G ∧ G < 2 ^ (53 + k) := by
    by_cases h : G < 36028797018963968
    · refine ⟨2, by omega, by omega, ?_, ?_⟩
      · rw [show (2 ^ (52 + 2) : Nat) = 18014398509481984 from by decide]; exact g2
      · rw [show (2 ^ (53 + 2) : Nat) = 36028797018963968 from by decide]; exact h
    · refine ⟨3, by omega, by omega, ?_, ?_⟩
      · rw [show (2 ^ (52 + 3) : Nat) = 36028797018963968 from by decide]; omega
      · rw [show (2 ^ (53 + 3) : Nat) = 72057594037927936 from by decide]; exact g3
  obtain ⟨k, k1, k0, k2, k3⟩ := hround
  obtain ⟨m', c, r, q1, q2, q3, q4, q5, q6⟩ := nearest_round s G k (e - -(j : Int) - 55 + k) k2 k3 (by omega) (by omega)
  rw [show e - -(j : Int) - 55 + (k : Int) - (k : Int) = e - -(j : Int) - 55 from by omega] at q1
  rw [q1]
  suffices hh : m' * 2 ^ (e - -(j : Int) - 55 + (k : Int) + (c : Nat) + 200).toNat * 2251799813685248 ≤ n * 1606938044258990275541962092341162602522202993782792835301376 * 2251799813685249 ∧ n * 1606938044258990275541962092341162602522202993782792835301376 * 2251799813685247 ≤ m' * 2 ^ (e - -(j : Int) - 55 + (k : Int) + (c : Nat) + 200).toNat * 2251799813685248 from ⟨m', _, rfl, ⟨q3, by omega, by omega, hh.1, hh.2⟩⟩
  -- the scaled values
  obtain ⟨t, ht⟩ : ∃ t, (e - -(j : Int) - 55 + 200).toNat = t := ⟨_, rfl⟩
  have hexp : (e - -(j : Int) - 55 + (k : Int) + (c : Nat) + 200).toNat = c + (k + t) := by omega
  rw [hexp, Nat.pow_add, ← Nat.mul_assoc, q4, Nat.pow_add, ← Nat.mul_assoc]
  have hkt : t + 55 = (e + 60).toNat + (j + 140) := by omega
  -- near in mag
  have n1 : r * 2 ^ k * 9007199254740992 ≤ G * 9007199254740992 + G ∧ G * 9007199254740992 ≤ r * 2 ^ k * 9007199254740992 + G := by
    rw [Nat.pow_add] at k2
    have e52 : (2 ^ 52 : Nat) = 4503599627370496 := by decide
    rw [e52] at k2
    generalize 2 ^ k = K at *
    generalize r * K = RK at *
    omega
  obtain ⟨W, hW⟩ : ∃ W, r * 2 ^ k = W := ⟨_, rfl⟩
  rw [hW] at n1 ⊢
  have htp : 0 < 2 ^ t := Nat.two_pow_pos t
  have hjp : 0 < 2 ^ j := Nat.two_pow_pos j
  -- G T 2^j 2^t against x 2^60 2^(j+140)
  have v1 : m * 36028797018963968 * 2 ^ t = x * 1606938044258990275541962092341162602522202993782792835301376 * 2 ^ j := by
    have e200 : (1606938044258990275541962092341162602522202993782792835301376 : Nat) = 2 ^ 200 := by decide
    have e55 : (36028797018963968 : Nat) = 2 ^ 55 := by decide
    have e60 : (1152921504606846976 : Nat) = 2 ^ 60 := by decide
    rw [e55, Nat.mul_assoc, ← Nat.pow_add, Nat.add_comm 55 t, hkt, Nat.pow_add, ← Nat.mul_assoc, p4, e60, e200, Nat.mul_assoc, ← Nat.pow_add, Nat.mul_assoc, ← Nat.pow_add, show 60 + (j + 140) = 200 + j from by omega]
  generalize 1606938044258990275541962092341162602522202993782792835301376 = S at *
  clear q1 q4 hexp hkt
  have v2 : G * d * 2 ^ t = G * T * 2 ^ t * 2 ^ j := by rw [← hd, ← Nat.mul_assoc, Nat.mul_right_comm]
  have v3 : d * 2 ^ t = T * 2 ^ t * 2 ^ j := by rw [← hd, Nat.mul_right_comm]
  have u1 : G * T * 2 ^ t ≤ x * S + T * 2 ^ t := by
    apply Nat.le_of_mul_le_mul_right (c := 2 ^ j) _ hjp
    rw [Nat.add_mul, ← v1, ← v2, ← v3, ← Nat.add_mul]
    exact Nat.mul_le_mul_right _ g1.1
  have u2 : x * S ≤ G * T * 2 ^ t + T * 2 ^ t := by
    apply Nat.le_of_mul_le_mul_right (c := 2 ^ j) _ hjp
    rw [Nat.add_mul, ← v1, ← v2, ← v3, ← Nat.add_mul]
    exact Nat.mul_le_mul_right _ g1.2
  have u3 : 18014398509481984 * (T * 2 ^ t) ≤ G * T * 2 ^ t := by
    rw [Nat.mul_assoc]; exact Nat.mul_le_mul_right _ g2
  have w1 := Nat.mul_le_mul_right (T * 2 ^ t) n1.1
  have w2 := Nat.mul_le_mul_right (T * 2 ^ t) n1.2
  obtain ⟨p5, p6⟩ := p5
  have y1 := Nat.mul_le_mul_right S p5
  have y2 := Nat.mul_le_mul_right S p6
  simp only [Nat.add_mul] at w1 w2 y1 y2
  rw [Nat.mul_right_comm W 9007199254740992, Nat.mul_right_comm G 9007199254740992] at w1 w2
  rw [Nat.mul_right_comm x, Nat.mul_right_comm (n * T)] at y1 y2
  have hGT : G * (T * 2 ^ t) = G * T * 2 ^ t := (Nat.mul_assoc ..).symm
  rw [hGT] at w1 w2
  have hNT : n * T * S = n * S * T := Nat.mul_right_comm ..
  have hWT : W * (T * 2 ^ t) = W * 2 ^ t * T := by rw [Nat.mul_comm T, Nat.mul_assoc]
  rw [hNT] at y1 y2
  rw [hWT] at w1 w2
  have hl := near_lin u1 u2 u3 w1 w2 y1 y2
  refine ⟨Nat.le_of_mul_le_mul_right (c := T) ?_ hT, Nat.le_of_mul_le_mul_right (c := T) ?_ hT⟩
  · rw [Nat.mul_right_comm (W * 2 ^ t) _ T, Nat.mul_right_comm (n * S) _ T]; exact hl.1
  · rw [Nat.mul_right_comm (W * 2 ^ t) _ T, Nat.mul_right_comm (n * S) _ T]; exact hl.2
end Go.Proofs.YtoachnjapfakdaaGreatDoor
