/- What parts are written as. -/
import Derived.Test.YtgkccbfepjgjoaaDoorSePv
import Derived.Test.YtgkccbfepjgjoaaDoorSeZj
import Derived.Test.YtgkccbfepjgjoaaDoorSeFx
import Derived.Test.YtgkccbfepjgjoaaDoorSeKv
namespace Go.Proofs.YtgkccbfepjgjoaaDoor
open Go Go.RowKit

theorem partB_len2 (big : Bool) : ∀ l : List (List Int), (l.flatMap (partB big)).length ≤ 2 * l.length + l.flatten.length
  | [] => by simp
  | x :: l => by
    have ih := partB_len2 big l
    have hp : (partB big x).length ≤ x.length + 2 := by unfold partB; cases big <;> simp
    simp only [List.flatMap_cons, List.flatten_cons, List.length_append, List.length_cons]
    omega
theorem clrB_len2 (big : Bool) (c : Nat) (hc : 1 ≤ c) (l : List Int) : (clrB big c l).length ≤ 3 * l.length + 2 := by
  unfold clrB
  split
  · simp; omega
  · have h1 := partB_len2 big (chunks c l.length l)
    have h2 := chunks_count c l.length l
    rw [chunks_flat c hc _ _ (Nat.le_refl _)] at h1
    simp only [List.length_append, List.length_cons, List.length_nil]
    omega
theorem dlcB_len2 (big : Bool) (c : Nat) (hc : 1 ≤ c) (l : List Int) : (dlcB big c l).length ≤ 3 * l.length + 5 := by
  unfold dlcB
  split
  · simp
  · have h1 := clrB_len2 big c hc l
    have h2 := pkB_len l.length
    rw [List.length_append]
    omega
theorem fixB_len (l : List Int) : (fixB l).length ≤ l.length + 5 := by
  unfold fixB
  split
  · simp
  · simp only [List.length_cons, List.length_append, numB_length]; omega

/-- What a part is written as. -/
def outOf (big : Bool) (c : Nat) (x : Sp) : List Int :=
  if x.k % 6 = 0 then x.d else if x.k % 6 = 1 then clrB big c x.d
  else if x.k % 6 = 2 then (if x.co = true then pkN (numOf x) else plainB x.be (szOf x.z) (numOf x))
  else if x.k % 6 = 3 then (if x.co = true ∧ szOf x.z ≠ 1 then pkN (numOf x) else plainB x.be (szOf x.z) (numOf x))
  else if x.k % 6 = 4 then dlcB big c x.d ++ dlcB big c x.o ++ pkB x.fl
  else fixB x.d
theorem szOf_le (z : Nat) : szOf z ≤ 8 := by have := szOf_cases z; omega
theorem outOf_len (big : Bool) (c : Nat) (hc : 1 ≤ c) (x : Sp) (hd : x.d.length ≤ 1000) (ho : x.o.length ≤ 1000) : (outOf big c x).length ≤ 7000 := by
  have h1 := clrB_len2 big c hc x.d
  have h2 := dlcB_len2 big c hc x.d
  have h3 := dlcB_len2 big c hc x.o
  have h4 := pkB_len x.fl
  have h5 := fixB_len x.d
  have h6 := pkN_len (numOf x)
  have h7 := plainB_len x.be (szOf x.z) (numOf x)
  have h8 := szOf_le x.z
  unfold outOf
  (repeat' split) <;> (try simp only [List.length_append]) <;> omega

set_option maxHeartbeats 1000000 in
theorem puts_of (big : Bool) (c : Nat) (hc1 : 1 ≤ c) (hc2 : c ≤ 252) (x : Sp) (hx : x.Ok) (hd : x.d.length ≤ 1000) (ho : x.o.length ≤ 1000) : Puts big c (ptOf x) (outOf big c x) := by
  have hlt := numOf_lt x
  unfold outOf
  rcases (by omega : x.k % 6 = 0 ∨ x.k % 6 = 1 ∨ x.k % 6 = 2 ∨ x.k % 6 = 3 ∨ x.k % 6 = 4 ∨ x.k % 6 = 5) with h | h | h | h | h | h
  · rw [if_pos h]
    have := Puts.bytes (big := big) (ch := (c : Int)) (x := ptOf x) (by simp [ptOf, h])
    exact this
  · rw [if_neg (by omega), if_pos h]
    refine Puts.clr (by simp [ptOf, h]) fun s xs v w hS hv ha hl => ?_
    exact putClr_any s big c xs x.d v w hS hv ha (by omega) hc1 hc2 (by omega)
  · rw [if_neg (by omega), if_neg (by omega), if_pos h]
    have h63 := numOf_63 x h
    refine Puts.int (by simp [ptOf, h]) fun s xs w hS hl => ?_
    have en : (ptOf x).n = ((numOf x : Nat) : Int) := by simp [ptOf, h]
    have ez : (ptOf x).sz = ((szOf x.z : Nat) : Int) := rfl
    have eb : (ptOf x).be = x.be := rfl
    have ec : (ptOf x).co = x.co := rfl
    rw [en, ez, eb, ec]
    have hz8 := szOf_cases x.z
    cases hco : x.co
    · rw [if_neg (by simp)]
      unfold plainB
      rcases hz8 with hz | hz | hz | hz
      · rw [hz] at hlt ⊢
        rw [if_pos rfl]
        exact putInt_1 s big c xs (numOf x) x.be w hS (by simpa using hlt) (by omega)
      · rw [hz] at hlt ⊢
        rw [if_neg (by decide)]
        cases x.be
        · exact putInt_LE2 s big c xs (numOf x) w hS hlt (by omega)
        · exact putInt_BE2 s big c xs (numOf x) w hS hlt (by omega)
      · rw [hz] at hlt ⊢
        rw [if_neg (by decide)]
        cases x.be
        · exact putInt_LE4 s big c xs (numOf x) w hS hlt (by omega)
        · exact putInt_BE4 s big c xs (numOf x) w hS hlt (by omega)
      · rw [hz]
        rw [if_neg (by decide)]
        cases x.be
        · exact putInt_LE8 s big c xs (numOf x) w hS h63 (by omega)
        · exact putInt_BE8 s big c xs (numOf x) w hS h63 (by omega)
    · rw [if_pos rfl]
      by_cases h0 : numOf x = 0
      · rw [h0, pkN_zero]
        exact putInt_zero_i64 s big c xs (szOf x.z) x.be w hS (by omega) (by omega)
      · obtain ⟨k, y, t, h1, h2, h3, h4, h5⟩ := pkN_row (numOf x) (szOf x.z) h0 (by omega) hlt
        rw [h5]
        exact putInt_pkG s big c xs (numOf x) k x.be y t w hS h63 h1 h2 h3 (szOf x.z) (by omega) h4 (by omega)
  · rw [if_neg (by omega), if_neg (by omega), if_neg (by omega), if_pos h]
    have h64 : numOf x < 18446744073709551616 := Nat.lt_of_lt_of_le hlt (Nat.pow_le_pow_right (n := 256) (by omega) (szOf_le x.z))
    refine Puts.uint (by simp [ptOf, h]) fun s xs w hS hl => ?_
    have en : (ptOf x).u = ((numOf x : Nat) : Int) := by simp [ptOf, h]
    have ez : (ptOf x).sz = ((szOf x.z : Nat) : Int) := rfl
    have eb : (ptOf x).be = x.be := rfl
    have ec : (ptOf x).co = x.co := rfl
    rw [en, ez, eb, ec]
    have hz8 := szOf_cases x.z
    by_cases hz1 : szOf x.z = 1
    · rw [if_neg (by simp [hz1])]
      unfold plainB
      rw [hz1] at hlt ⊢
      rw [if_pos rfl]
      exact putUint_1 s big c xs (numOf x) x.be x.co w hS (by simpa using hlt) (by omega)
    · cases hco : x.co
      · rw [if_neg (by simp)]
        unfold plainB
        rcases hz8 with hz | hz | hz | hz
        · exact absurd hz hz1
        · rw [hz] at hlt ⊢
          rw [if_neg (by decide)]
          cases x.be
          · exact putUint_LE2 s big c xs (numOf x) w hS hlt (by omega)
          · exact putUint_BE2 s big c xs (numOf x) w hS hlt (by omega)
        · rw [hz] at hlt ⊢
          rw [if_neg (by decide)]
          cases x.be
          · exact putUint_LE4 s big c xs (numOf x) w hS hlt (by omega)
          · exact putUint_BE4 s big c xs (numOf x) w hS hlt (by omega)
        · rw [hz]
          rw [if_neg (by decide)]
          cases x.be
          · exact putUint_LE8 s big c xs (numOf x) w hS h64 (by omega)
          · exact putUint_BE8 s big c xs (numOf x) w hS h64 (by omega)
      · rw [if_pos ⟨rfl, hz1⟩]
        by_cases h0 : numOf x = 0
        · rw [h0, pkN_zero]
          exact putUint_zero_u64 s big c xs (szOf x.z) x.be w hS (by omega) hz1 (by omega)
        · obtain ⟨k, y, t, h1, h2, h3, h4, h5⟩ := pkN_row (numOf x) (szOf x.z) h0 (by omega) hlt
          rw [h5]
          exact putUint_pkG s big c xs (numOf x) k x.be y t w hS h64 h1 h2 h3 (szOf x.z) (by omega) h4 hz1 (by omega)
  · rw [if_neg (by omega), if_neg (by omega), if_neg (by omega), if_neg (by omega), if_pos h]
    exact put_kv big c x.d x.o x.fl (ptOf x) (by simp [ptOf, h]) rfl rfl rfl (by omega) (by omega) hx.fl hc1 hc2
  · rw [if_neg (by omega), if_neg (by omega), if_neg (by omega), if_neg (by omega), if_neg (by omega)]
    refine Puts.fix (by simp [ptOf, h]) fun s B b v w hb hB hbw hv hlo => ?_
    exact writeFixed s B b x.d v w hb hB hbw hv hlo (by omega)

/-- Parts as they may come. -/
def Good (l : List Sp) : Prop := ∀ x ∈ l, x.Ok ∧ x.d.length ≤ 1000 ∧ x.o.length ≤ 1000
theorem put_all (big : Bool) (c : Nat) (hc1 : 1 ≤ c) (hc2 : c ≤ 252) : ∀ l : List Sp, Good l → PutAll big c (l.map ptOf) (l.flatMap (outOf big c))
  | [], _ => PutAll.nil
  | x :: l, h => PutAll.cons (puts_of big c hc1 hc2 x (h x (by simp)).1 (h x (by simp)).2.1 (h x (by simp)).2.2) (put_all big c hc1 hc2 l fun y hy => h y (by simp [hy]))
theorem out_len (big : Bool) (c : Nat) (hc : 1 ≤ c) : ∀ l : List Sp, Good l → (l.flatMap (outOf big c)).length ≤ 7000 * l.length
  | [], _ => by simp
  | x :: l, h => by
    have ih := out_len big c hc l fun y hy => h y (by simp [hy])
    have hx := outOf_len big c hc x (h x (by simp)).2.1 (h x (by simp)).2.2
    rw [List.flatMap_cons, List.length_append, List.length_cons]
    omega
theorem RdSp.ok {w : World} {v : Value} {l : List Sp} (h : RdSp w v l) : ∀ x ∈ l, x.Ok := by
  intro x hx
  obtain ⟨i, hi, rfl⟩ := List.mem_iff_getElem.1 hx
  obtain ⟨p, c, _, _, _, h3⟩ := h
  obtain ⟨b, o, _, hc⟩ := h3 (by omega)
  obtain ⟨dv, ov, _, _, _, hok⟩ := hc i hi
  exact hok
theorem good_of {w : World} {v : Value} {l : List Sp} (h : RdSp w v l) (hf : (decide (l.length ≤ 20) && !l.any Bad) = true) : l.length ≤ 20 ∧ Good l := by
  rw [Bool.and_eq_true, decide_eq_true_iff, Bool.not_eq_true', List.any_eq_false] at hf
  refine ⟨hf.1, fun x hx => ⟨h.ok x hx, ?_⟩⟩
  have := hf.2 x hx
  unfold Bad at this
  simp only [Bool.or_eq_true, decide_eq_true_eq, not_or] at this
  omega
end Go.Proofs.YtgkccbfepjgjoaaDoor
