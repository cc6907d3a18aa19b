/- What parts are written as is read again. -/
import Derived.Test.YtgkccbfepjgjoaaDoorSeZk
import Derived.Test.YtgkccbfepjgjoaaDoorSeGt
namespace Go.Proofs.YtgkccbfepjgjoaaDoor
open Go Go.RowKit

/-- A fixed CLR is read as its bytes. -/
theorem fix_back (l more : List Int) (hl : l.length ≤ 1000000) : Fix (fixB l ++ more) (some (l, more)) := by
  unfold fixB
  split
  · rename_i h
    by_cases h0 : l.length = 0
    · obtain rfl : l = [] := List.eq_nil_of_length_eq_zero h0
      exact Fix.null (.inl rfl)
    · have := Fix.one (t := l ++ more) (n := l.length) (by omega) h (by simp)
      simpa using this
  · have h1 : rdNum 4 true (numB true 4 l.length ++ (l ++ more)) = some (((l.length : Nat) : Int), l ++ more) := by
      have := plainB_back true 4 l.length (by omega) (l ++ more)
      unfold plainB at this
      rw [if_neg (by decide)] at this
      rw [this]
      congr 2
      unfold wrap64
      omega
    have := Fix.long (t := numB true 4 l.length ++ (l ++ more)) (u := l ++ more) (n := l.length) h1 (by simp)
    simpa [List.append_assoc] using this

/-- What reading a part gives. -/
def gotOf (x : Sp) : G :=
  if x.k % 6 = 2 ∨ x.k % 6 = 3 then ⟨true, [], [], wrap64 (numOf x : Nat), ⟨#[]⟩⟩
  else if x.k % 6 = 4 then ⟨true, x.d, x.o, (x.fl : Nat), ⟨#[]⟩⟩ else ⟨true, x.d, [], 0, ⟨#[]⟩⟩
theorem gotOf_ok (x : Sp) : (gotOf x).ok = true := by unfold gotOf; (repeat' split) <;> rfl

theorem does_of (big : Bool) (c : Nat) (hc1 : 1 ≤ c) (hc2 : c ≤ 252) (x : Sp) (hx : x.Ok) (hd : x.d.length ≤ 1000) (ho : x.o.length ≤ 1000) (more : List Int) : Does big (gtOf x) (outOf big c x ++ more) (some (gotOf x, more)) := by
  intro s ch E w hS
  have hlt := numOf_lt x
  have hz8 := szOf_cases x.z
  have hlt8 : numOf x < 256 ^ 8 := Nat.lt_of_lt_of_le hlt (Nat.pow_le_pow_right (n := 256) (by omega) (szOf_le x.z))
  unfold outOf at hS
  unfold gtOf gotOf
  rcases (by omega : x.k % 6 = 0 ∨ x.k % 6 = 1 ∨ x.k % 6 = 2 ∨ x.k % 6 = 3 ∨ x.k % 6 = 4 ∨ x.k % 6 = 5) with h | h | h | h | h | h
  · rw [if_pos h] at hS ⊢
    rw [if_neg (by omega), if_neg (by omega)]
    exact got_bytes s big ch E (x.d ++ more) more x.d x.d.length false false w hS (by simp) (by simp) (by simp) (by omega)
  · rw [if_neg (by omega), if_pos h] at hS ⊢
    rw [if_neg (by omega), if_neg (by omega)]
    exact got_clr s big ch E _ more x.d 0 false false w hS (clr_back big c hc1 hc2 x.d more) (by omega) (by omega)
  · rw [if_neg (by omega), if_neg (by omega), if_pos h] at hS ⊢
    rw [if_pos (.inl h)]
    cases hco : x.co
    · rw [hco, if_neg (by simp)] at hS
      exact got_i64n s big ch E _ more _ (szOf x.z) x.be w hS (by omega) (by omega) (plainB_back x.be (szOf x.z) (numOf x) hlt more)
    · rw [hco, if_pos rfl] at hS
      obtain ⟨q1, q2⟩ := pkN_back (numOf x) hlt8 more
      exact got_i64c s big ch E _ more _ ((szOf x.z : Nat) : Int) x.be w hS q1 q2 (by omega)
  · rw [if_neg (by omega), if_neg (by omega), if_neg (by omega), if_pos h] at hS ⊢
    rw [if_pos (.inr h)]
    by_cases hz1 : x.co = true ∧ szOf x.z ≠ 1
    · rw [if_pos hz1] at hS
      obtain ⟨q1, q2⟩ := pkN_back (numOf x) hlt8 more
      have e : (x.co && decide (1 < ((szOf x.z : Nat) : Int))) = true := by
        rw [hz1.1, Bool.true_and]
        exact decide_eq_true (by have := hz1.2; omega)
      rw [e]
      exact got_i64c s big ch E _ more _ ((szOf x.z : Nat) : Int) x.be w hS q1 q2 (by omega)
    · rw [if_neg hz1] at hS
      have e : (x.co && decide (1 < ((szOf x.z : Nat) : Int))) = false := by
        cases hco : x.co
        · rfl
        · rw [Bool.true_and]
          exact decide_eq_false (fun hh => hz1 ⟨hco, by omega⟩)
      rw [e]
      exact got_i64n s big ch E _ more _ (szOf x.z) x.be w hS (by omega) (by omega) (plainB_back x.be (szOf x.z) (numOf x) hlt more)
  · rw [if_neg (by omega), if_neg (by omega), if_neg (by omega), if_neg (by omega), if_pos h] at hS ⊢
    rw [if_neg (by omega), if_pos h]
    have d1 := dlc_back big c hc1 hc2 x.d (dlcB big c x.o ++ (pkB x.fl ++ more)) (by omega)
    have d2 := dlc_back big c hc1 hc2 x.o (pkB x.fl ++ more) (by omega)
    have hf := hx.fl
    obtain ⟨q1, q2⟩ := pk_back x.fl (by omega) more
    rw [List.append_assoc, List.append_assoc] at hS
    refine got_kv s big ch E _ more x.d x.o (x.fl : Nat) 0 false false w hS (fun w hS => ?_) (by omega) (by omega) (by omega) (by omega) (by omega)
    have := keyVal_ok s big ch E _ _ _ x.d x.o _ w hS d1 d2 q1 q2
    exact this
  · rw [if_neg (by omega), if_neg (by omega), if_neg (by omega), if_neg (by omega), if_neg (by omega)] at hS ⊢
    rw [if_neg (by omega), if_neg (by omega)]
    exact got_fix s big ch E _ more x.d 0 false false w hS (fix_back x.d more (by omega)) (by omega) (by omega)

theorem runs_of (big : Bool) (c : Nat) (hc1 : 1 ≤ c) (hc2 : c ≤ 252) (more : List Int) : ∀ l : List Sp, Good l → Runs big (l.map gtOf) (l.flatMap (outOf big c) ++ more) (l.map gotOf) (some more)
  | [], _ => Runs.nil _
  | x :: l, h => by
    have ih := runs_of big c hc1 hc2 more l fun y hy => h y (by simp [hy])
    obtain ⟨hx, hd, ho⟩ := h x (by simp)
    rw [List.flatMap_cons, List.append_assoc]
    exact Runs.cons (does_of big c hc1 hc2 x hx hd ho _) (gotOf_ok x) ih
end Go.Proofs.YtgkccbfepjgjoaaDoor
