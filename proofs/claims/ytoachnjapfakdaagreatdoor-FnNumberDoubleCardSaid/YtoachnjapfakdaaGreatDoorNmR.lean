/- The order of the forms of integers: the digits. -/
import Derived.Test.YtoachnjapfakdaaGreatDoorNmQ
namespace Go.Proofs.YtoachnjapfakdaaGreatDoor
open Go

def sgn (x y : Int) : Int := if x < y then -1 else if y < x then 1 else 0

/-- Its last digit is no nought. -/
def Ends (P : List Int) : Prop := P = [] ∨ P.getLast? ≠ some 0
theorem Ends.tail {p : Int} {r : List Int} (h : Ends (p :: r)) : Ends r := by
  cases r with
  | nil => exact .inl rfl
  | cons q s =>
    rcases h with h | h
    · cases h
    · exact .inr (by simpa using h)

/-- The digits, noughts behind them. -/
def ext (P : List Int) (j : Nat) : List Int := P ++ List.replicate j 0
theorem ext_d {P : List Int} (h : D100 P) (j : Nat) : D100 (ext P j) := by
  intro x hx
  rcases List.mem_append.1 hx with hx | hx
  · exact h x hx
  · have := (List.mem_replicate.1 hx).2; omega
theorem ext_length (P : List Int) (j : Nat) : (ext P j).length = P.length + j := by simp [ext]
theorem val_ext_cons (p : Int) (r : List Int) (j : Nat) : val (ext (p :: r) j) = p * 100 ^ (r.length + j) + val (ext r j) := by
  show val (p :: ext r j) = _
  rw [val, ext_length]
theorem val_ext_nil (j : Nat) : val (ext [] j) = 0 := val_zeros j
theorem val_ext_pos : ∀ (P : List Int) (j : Nat), D100 P → Ends P → P ≠ [] → 0 < val (ext P j)
  | [], _, _, _, h => absurd rfl h
  | [p], j, hd, he, _ => by
    rw [val_ext_cons, val_ext_nil]
    have hp := hd p (by simp)
    have : p ≠ 0 := by
      rcases he with he | he
      · cases he
      · simpa using he
    have := Int.mul_pos (show 0 < p by omega) (pow_pos' (([] : List Int).length + j))
    omega
  | p :: q :: r, j, hd, he, _ => by
    rw [val_ext_cons]
    have ih := val_ext_pos (q :: r) j (fun x hx => hd x (List.mem_cons_of_mem _ hx)) he.tail (by simp)
    have := Int.mul_nonneg (hd p (by simp)).1 (Int.le_of_lt (pow_pos' ((q :: r).length + j)))
    omega

theorem head_lt {p q x y Q : Int} (h : p < q) (hx : x < Q) (hy : 0 ≤ y) (hQ : 0 < Q) : p * Q + x < q * Q + y := by
  have : (p + 1) * Q ≤ q * Q := Int.mul_le_mul_of_nonneg_right (by omega) (by omega)
  rw [Int.add_mul, Int.one_mul] at this
  omega

theorem cmp_pos : ∀ (P Q : List Int) (j k : Nat), D100 P → D100 Q → Ends P → Ends Q → P.length + j = Q.length + k → cmpI (P.map (digB false)) (Q.map (digB false)) = sgn (val (ext P j)) (val (ext Q k))
  | [], [], j, k, _, _, _, _, _ => by simp [cmpI, val_ext_nil, sgn]
  | [], q :: s, j, k, _, hq, _, eq, _ => by
    have := val_ext_pos (q :: s) k hq eq (by simp)
    rw [val_ext_nil]; simp only [List.map, cmpI, sgn]; rw [if_pos this]
  | p :: r, [], j, k, hp, _, ep, _, _ => by
    have := val_ext_pos (p :: r) j hp ep (by simp)
    rw [val_ext_nil]; simp only [List.map, cmpI, sgn]; rw [if_neg (by omega), if_pos this]
  | p :: r, q :: s, j, k, hp, hq, ep, eq, hl => by
    have hl2 : r.length + j = s.length + k := by simp only [List.length_cons] at hl; omega
    have ih := cmp_pos r s j k (fun x hx => hp x (List.mem_cons_of_mem _ hx)) (fun x hx => hq x (List.mem_cons_of_mem _ hx)) ep.tail eq.tail hl2
    have br := val_bd _ (ext_d (fun x hx => hp x (List.mem_cons_of_mem _ hx)) j : D100 (ext r j))
    have bs := val_bd _ (ext_d (fun x hx => hq x (List.mem_cons_of_mem _ hx)) k : D100 (ext s k))
    rw [ext_length] at br bs
    rw [val_ext_cons, val_ext_cons, hl2]
    rw [hl2] at br
    have hQ := pow_pos' (s.length + k)
    generalize (100 : Int) ^ (s.length + k) = Z at *
    simp only [List.map, cmpI, digB, Bool.false_eq_true, if_false] at ih ⊢
    by_cases h1 : p < q
    · have := head_lt (x := val (ext r j)) (y := val (ext s k)) h1 br.2 bs.1 hQ
      rw [if_pos (by omega)]; unfold sgn; rw [if_pos this]
    · by_cases h2 : q < p
      · have := head_lt (x := val (ext s k)) (y := val (ext r j)) h2 bs.2 br.1 hQ
        rw [if_neg (by omega), if_pos (by omega)]; unfold sgn; rw [if_neg (by omega), if_pos this]
      · obtain rfl : p = q := by omega
        rw [if_neg (by omega), if_neg (by omega)]
        rw [ih]
        generalize p * Z = T
        unfold sgn
        (repeat' split) <;> omega
theorem cmp_neg : ∀ (P Q : List Int) (j k : Nat), D100 P → D100 Q → Ends P → Ends Q → P.length + j = Q.length + k → cmpI (P.map (digB true) ++ [102]) (Q.map (digB true) ++ [102]) = sgn (val (ext Q k)) (val (ext P j))
  | [], [], j, k, _, _, _, _, _ => by simp [cmpI, val_ext_nil, sgn]
  | [], q :: s, j, k, _, hq, _, eq, _ => by
    have := val_ext_pos (q :: s) k hq eq (by simp)
    have hq0 := hq q (by simp)
    rw [val_ext_nil]; simp only [List.map, List.nil_append, List.cons_append, cmpI, sgn, digB, if_true]; rw [if_neg (by omega), if_pos (by omega), if_neg (by omega), if_pos this]
  | p :: r, [], j, k, hp, _, ep, _, _ => by
    have := val_ext_pos (p :: r) j hp ep (by simp)
    have hp0 := hp p (by simp)
    rw [val_ext_nil]; simp only [List.map, List.nil_append, List.cons_append, cmpI, sgn, digB, if_true]; rw [if_pos (by omega), if_pos this]
  | p :: r, q :: s, j, k, hp, hq, ep, eq, hl => by
    have hl2 : r.length + j = s.length + k := by simp only [List.length_cons] at hl; omega
    have ih := cmp_neg r s j k (fun x hx => hp x (List.mem_cons_of_mem _ hx)) (fun x hx => hq x (List.mem_cons_of_mem _ hx)) ep.tail eq.tail hl2
    have br := val_bd _ (ext_d (fun x hx => hp x (List.mem_cons_of_mem _ hx)) j : D100 (ext r j))
    have bs := val_bd _ (ext_d (fun x hx => hq x (List.mem_cons_of_mem _ hx)) k : D100 (ext s k))
    rw [ext_length] at br bs
    rw [val_ext_cons, val_ext_cons, hl2]
    rw [hl2] at br
    have hQ := pow_pos' (s.length + k)
    generalize (100 : Int) ^ (s.length + k) = Z at *
    simp only [List.map, List.cons_append, cmpI, digB, if_true] at ih ⊢
    by_cases h1 : p < q
    · have := head_lt (x := val (ext r j)) (y := val (ext s k)) h1 br.2 bs.1 hQ
      rw [if_neg (by omega), if_pos (by omega)]; unfold sgn; rw [if_neg (by omega), if_pos this]
    · by_cases h2 : q < p
      · have := head_lt (x := val (ext s k)) (y := val (ext r j)) h2 bs.2 br.1 hQ
        rw [if_pos (by omega)]; unfold sgn; rw [if_pos this]
      · obtain rfl : p = q := by omega
        rw [if_neg (by omega), if_neg (by omega)]
        rw [ih]
        generalize p * Z = T
        unfold sgn
        (repeat' split) <;> omega
end Go.Proofs.YtoachnjapfakdaaGreatDoor
