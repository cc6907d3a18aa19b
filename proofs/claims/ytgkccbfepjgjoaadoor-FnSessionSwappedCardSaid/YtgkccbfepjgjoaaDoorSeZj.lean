/- Numbers as bytes, in plain Lean: compressed and not, written and read. -/
import Derived.Test.YtgkccbfepjgjoaaDoorSeMh
import Derived.Test.YtgkccbfepjgjoaaDoorSeMa
namespace Go.Proofs.YtgkccbfepjgjoaaDoor
open Go Go.RowKit

theorem le_cons (n v : Nat) : numB false (n + 1) v = ((v % 256 : Nat) : Int) :: numB false n (v / 256) := by
  simp [numB, Lib.leBytes]
theorem be_snoc (n v : Nat) : numB true (n + 1) v = numB true n (v / 256) ++ [((v % 256 : Nat) : Int)] := by
  simp [numB, Lib.beBytes, Lib.leBytes]
theorem leZ_numB : ∀ (n v : Nat), v < 256 ^ n → Lib.leZ (numB false n v) = v
  | 0, v, h => by
    have : v = 0 := by simpa using h
    subst this
    rfl
  | n + 1, v, h => by
    have ih := leZ_numB n (v / 256) (Nat.div_lt_of_lt_mul (by rw [Nat.pow_succ] at h; omega))
    rw [le_cons, Lib.leZ, ih]
    omega
theorem beFromZ_snoc : ∀ (l : List Int) (a x : Int), Lib.beFromZ a (l ++ [x]) = Lib.beFromZ a l * 256 + x
  | [], a, x => rfl
  | y :: l, a, x => by
    rw [List.cons_append, Lib.beFromZ, Lib.beFromZ]
    exact beFromZ_snoc l _ x
theorem beZ_numB : ∀ (n v : Nat), v < 256 ^ n → Lib.beZ (numB true n v) = v
  | 0, v, h => by
    have : v = 0 := by simpa using h
    subst this
    rfl
  | n + 1, v, h => by
    have ih := beZ_numB n (v / 256) (Nat.div_lt_of_lt_mul (by rw [Nat.pow_succ] at h; omega))
    unfold Lib.beZ at ih ⊢
    rw [be_snoc, beFromZ_snoc, ih]
    omega
theorem numB_zero : ∀ n, numB true n 0 = List.replicate n 0
  | 0 => rfl
  | n + 1 => by
    have ih := numB_zero n
    rw [be_snoc, Nat.zero_div, ih, List.replicate_succ']
    rfl
theorem numB_pad : ∀ (n m v : Nat), v < 256 ^ n → numB true (m + n) v = List.replicate m 0 ++ numB true n v
  | 0, m, v, h => by
    have : v = 0 := by simpa using h
    subst this
    rw [Nat.add_zero, numB_zero]
    simp [numB, Lib.beBytes, Lib.leBytes]
  | n + 1, m, v, h => by
    have ih := numB_pad n m (v / 256) (Nat.div_lt_of_lt_mul (by rw [Nat.pow_succ] at h; omega))
    rw [← Nat.add_assoc, be_snoc, ih, be_snoc, List.append_assoc]

theorem split_zeros : ∀ l : List Int, (∃ x ∈ l, x ≠ 0) → ∃ (k : Nat) (x : Int) (t : List Int), l = List.replicate k 0 ++ x :: t ∧ x ≠ 0 ∧ l.dropWhile (· == 0) = x :: t
  | [], h => by obtain ⟨x, hx, _⟩ := h; simp at hx
  | y :: l, h => by
    by_cases hy : y = 0
    · subst hy
      obtain ⟨k, x, t, h1, h2, h3⟩ := split_zeros l (by
        obtain ⟨x, hx, hne⟩ := h
        rcases List.mem_cons.1 hx with rfl | hx
        · exact absurd rfl hne
        · exact ⟨x, hx, hne⟩)
      refine ⟨k + 1, x, t, ?_, h2, ?_⟩
      · rw [h1, List.replicate_succ]; rfl
      · rw [List.dropWhile_cons]; simpa using h3
    · exact ⟨0, y, l, rfl, hy, by rw [List.dropWhile_cons]; simp [hy]⟩

/-- The bytes of a compressed number. -/
def pkN (u : Nat) : List Int := ((((numB true 8 u).dropWhile (· == 0)).length : Nat) : Int) :: (numB true 8 u).dropWhile (· == 0)
theorem pkN_zero : pkN 0 = [0] := by decide +kernel
theorem pkN_row (u z : Nat) (h0 : u ≠ 0) (hz8 : z ≤ 8) (hu : u < 256 ^ z) : ∃ (k : Nat) (x : Int) (t : List Int), numB true 8 u = row8 k (x :: t) ∧ x ≠ 0 ∧ k + t.length = 7 ∧ 8 - k ≤ z ∧ pkN u = ((8 - k : Nat) : Int) :: x :: t := by
  have h8 : u < 256 ^ 8 := Nat.lt_of_lt_of_le hu (Nat.pow_le_pow_right (by omega) hz8)
  have hb := beZ_numB 8 u h8
  have hp := numB_pad z (8 - z) u hu
  rw [show 8 - z + z = 8 by omega] at hp
  obtain ⟨k, x, t, h1, h2, h3⟩ := split_zeros (numB true 8 u) (by
    refine Classical.byContradiction fun hn => ?_
    have hall : ∀ x ∈ numB true 8 u, x = 0 := fun x hx => Classical.byContradiction fun hne => hn ⟨x, hx, hne⟩
    have : numB true 8 u = List.replicate 8 0 ++ [] := by
      rw [List.append_nil]
      exact List.eq_replicate_iff.2 ⟨numB_length _ _ _, hall⟩
    rw [this] at hb
    unfold Lib.beZ at hb
    rw [beFromZ_zeros] at hb
    have : (u : Int) = 0 := hb.symm
    omega)
  have hl := congrArg List.length h1
  rw [numB_length] at hl
  simp only [List.length_append, List.length_replicate, List.length_cons] at hl
  refine ⟨k, x, t, h1, h2, by omega, ?_, ?_⟩
  · by_cases hk : 8 - z ≤ k
    · omega
    · exfalso
      have e1 : (numB true 8 u)[k]? = some x := by rw [h1, List.getElem?_append_right (by simp)]; simp
      rw [hp, List.getElem?_append_left (by simp; omega), List.getElem?_replicate, if_pos (by omega)] at e1
      exact h2 (by injection e1 with e1; exact e1.symm)
  · unfold pkN
    rw [h3]
    congr 1
    simp only [List.length_cons]
    omega
theorem pkN_len (u : Nat) : (pkN u).length ≤ 9 := by
  have h : (numB true 8 u).dropWhile (· == 0) <:+ numB true 8 u := List.dropWhile_suffix _
  have := h.length_le
  rw [numB_length] at this
  unfold pkN
  simp only [List.length_cons]
  omega
/-- It is read back. -/
theorem pkN_back (u : Nat) (h8 : u < 256 ^ 8) (more : List Int) : PkShort (pkN u ++ more) ∧ rdPk (pkN u ++ more) = some (wrap64 u, more) := by
  by_cases h0 : u = 0
  · subst h0
    rw [pkN_zero]
    exact ⟨by show (0 : Int) % 128 ≤ 8; decide, by simp [rdPk, pkV, wrap64]⟩
  · obtain ⟨k, x, t, h1, h2, h3, _, h5⟩ := pkN_row u 8 h0 (Nat.le_refl _) h8
    have hb := beZ_numB 8 u h8
    rw [h1] at hb
    unfold row8 Lib.beZ at hb
    rw [beFromZ_zeros] at hb
    rw [h5]
    have e0 : (8 - k : Nat) = t.length + 1 := by omega
    have e1 : (((8 - k : Nat) : Int) % 128).toNat = t.length + 1 := by omega
    refine ⟨by show ((8 - k : Nat) : Int) % 128 ≤ 8; omega, ?_⟩
    show (if (((8 - k : Nat) : Int) % 128).toNat ≤ (x :: t ++ more).length then some (pkV ((8 - k : Nat) : Int) ((x :: t ++ more).take (((8 - k : Nat) : Int) % 128).toNat), (x :: t ++ more).drop (((8 - k : Nat) : Int) % 128).toNat) else none) = _
    rw [e1, if_pos (by simp)]
    have et : (x :: t ++ more).take (t.length + 1) = x :: t := by simp
    have ed : (x :: t ++ more).drop (t.length + 1) = more := by simp
    rw [et, ed]
    congr 2
    unfold pkV
    rw [if_neg (by omega), if_neg (by omega)]
    show wrap64 (Lib.beFromZ 0 (x :: t)) = _
    rw [hb]
/-- The bytes of a number that is not compressed. -/
def plainB (be : Bool) (n v : Nat) : List Int := if n = 1 then [(v : Int)] else numB be n v
theorem plainB_len (be : Bool) (n v : Nat) : (plainB be n v).length = n := by
  unfold plainB
  split
  · rename_i h; rw [h]; rfl
  · exact numB_length _ _ _
theorem plainB_back (be : Bool) (n v : Nat) (hv : v < 256 ^ n) (more : List Int) : rdNum n be (plainB be n v ++ more) = some (wrap64 v, more) := by
  have hl := plainB_len be n v
  have hval : numV be (plainB be n v) = wrap64 v := by
    unfold numV plainB
    congr 1
    by_cases h : n = 1
    · subst h
      rw [if_pos rfl]
      cases be <;> simp [Lib.beZ, Lib.beFromZ, Lib.leZ]
    · rw [if_neg h]
      cases be
      · exact leZ_numB n v hv
      · exact beZ_numB n v hv
  unfold rdNum
  rw [if_pos (by rw [List.length_append]; omega)]
  have e1 : (plainB be n v ++ more).take n = plainB be n v := List.take_left' hl
  have e2 : (plainB be n v ++ more).drop n = more := List.drop_left' hl
  rw [e1, e2, hval]
end Go.Proofs.YtgkccbfepjgjoaaDoor
