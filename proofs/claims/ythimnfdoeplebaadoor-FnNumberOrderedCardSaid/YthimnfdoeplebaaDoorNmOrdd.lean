/- FnNumberOrdered: the walk of the law. -/
import Derived.Test.YthimnfdoeplebaaDoorNmOd
import Derived.Test.YthimnfdoeplebaaDoorNmG
namespace Go.Proofs.YthimnfdoeplebaaDoor
open Go Go.RowKit

theorem andnot63 (a : Nat) (h : a < 9223372036854775808) : bits .andNot .u64 (a : Int) 9223372036854775808 = (a : Int) := by
  have h1 : (9223372036854775808 : Int) = ((9223372036854775808 : Nat) : Int) := rfl
  rw [h1]
  simp only [bits, BitVec.ofInt_natCast, BitVec.toNat_and, BitVec.toNat_ofNat, BitVec.toNat_not]
  have e1 : a % 2 ^ IntKind.u64.bits = a := Nat.mod_eq_of_lt (by show a < 2 ^ 64; omega)
  have e2 : 2 ^ IntKind.u64.bits - 1 - 9223372036854775808 % 2 ^ IntKind.u64.bits = 2 ^ 63 - 1 := by decide
  rw [e1, e2, Nat.and_two_pow_sub_one_eq_mod, Nat.mod_eq_of_lt (by omega)]
  exact wraps_u64 _ (by omega) (by omega)

theorem isNaN_no (a : Nat) (w : World) (h : a ≤ 9218868437227405312) : Calls Tryd.prog 28 #[.float .f64 a] w fun e w' => e = .returned (.bool false) ∧ w' = w := by
  have hs := f_self a h
  have hc : (some Ordering.eq != some Ordering.eq) = false := rfl
  clear h
  go_enter Tryd.func28, Tryd.ntmps28
  go_wp2
  go_ret
  exact ⟨rfl, rfl⟩
theorem isNaN_yes (a : Nat) (w : World) (h : 9218868437227405312 < a) (h2 : a < 9223372036854775808) : Calls Tryd.prog 28 #[.float .f64 a] w fun e w' => e = .returned (.bool true) ∧ w' = w := by
  have hs := f_nan a h h2
  have hc : ((none : Option Ordering) != some Ordering.eq) = true := rfl
  clear h h2
  go_enter Tryd.func28, Tryd.ntmps28
  go_wp2
  go_ret
  exact ⟨rfl, rfl⟩
theorem absF (a : Nat) (w : World) (h : a < 9223372036854775808) : Calls Tryd.prog 54 #[.float .f64 a] w fun e w' => e = .returned (.float .f64 a) ∧ w' = w := by
  have h1 := tobits a
  have h2 := frombits a
  have h3 := andnot63 a h
  clear h
  go_enter Tryd.func54, Tryd.ntmps54
  go_wp2
  go_ret
  exact ⟨rfl, rfl⟩
theorem isInf_0 (a : Nat) (w : World) (h : a ≤ 9218868437227405312) (d : Bool) (hd : decide (a = 9218868437227405312) = d) : Calls Tryd.prog 30 #[.float .f64 a, .int .i64 0] w fun e w' => e = .returned (.bool d) ∧ w' = w := by
  have HA := Lib.hid (absF a w (by omega))
  have hm := f_max a h
  rw [hd] at hm
  clear h hd
  go_enter Tryd.func30, Tryd.ntmps30
  go_wp2_with (first | (go_at_call 54; with_reducible refine HA.out.mono ?_; rintro e w1 ⟨rfl, rfl⟩))
  go_ret
  exact ⟨rfl, rfl⟩

set_option maxRecDepth 100000 in
set_option maxHeartbeats 1000000 in
theorem law_ordered (x y : Int) (hx : 0 ≤ x ∧ x ≤ 18446744073709551615) (hy : 0 ≤ y ∧ y ≤ 18446744073709551615) (w : World) (ht : Tab10 w) :
    Calls Tryd.prog 8 #[.int .u64 x, .int .u64 y] w fun e w' => e = .returned (.bool true) ∧ Gr w w' := by
  obtain ⟨a, ha⟩ : ∃ a : Nat, x % 9223372036854775808 = a := ⟨(x % 9223372036854775808).toNat, by omega⟩
  obtain ⟨b, hb⟩ : ∃ b : Nat, y % 9223372036854775808 = b := ⟨(y % 9223372036854775808).toNat, by omega⟩
  have ma := and63 x hx.1 (by omega)
  have mb := and63 y hy.1 (by omega)
  rw [ha] at ma
  rw [hb] at mb
  have la : a < 9223372036854775808 := by omega
  have lb : b < 9223372036854775808 := by omega
  obtain ⟨hx0, hx1⟩ := hx
  obtain ⟨hy0, hy1⟩ := hy
  have HA := fun w ht => Lib.hid (awake w ht)
  have hfa := frombits a
  have hfb := frombits b
  clear ha hb
  by_cases na : 9218868437227405312 < a
  · have NA := fun w => Lib.hid (isNaN_yes a w na la)
    clear na la lb
    go_enter Tryd.func8, Tryd.ntmps8
    go_wp2_with (first
      | (go_at_call 28; with_reducible refine (NA _).out.mono ?_; rintro e w1 ⟨rfl, rfl⟩)
      | (go_at_call 18; with_reducible refine (HA _ ht).out.mono ?_; rintro e w2 ⟨rfl, hg2⟩))
    go_ret
    exact ⟨rfl, hg2⟩
  have NA := fun w => Lib.hid (isNaN_no a w (by omega))
  by_cases nb : 9218868437227405312 < b
  · have NB := fun w => Lib.hid (isNaN_yes b w nb lb)
    clear na nb la lb
    go_enter Tryd.func8, Tryd.ntmps8
    go_wp2_with (first
      | (go_at_call 28; with_reducible refine (NA _).out.mono ?_; rintro e w1 ⟨rfl, rfl⟩; clear NA)
      | (go_at_call 28; with_reducible refine (NB _).out.mono ?_; rintro e w1 ⟨rfl, rfl⟩)
      | (go_at_call 18; with_reducible refine (HA _ ht).out.mono ?_; rintro e w2 ⟨rfl, hg2⟩))
    go_ret
    exact ⟨rfl, hg2⟩
  have NB := fun w => Lib.hid (isNaN_no b w (by omega))
  by_cases ia : a = 9218868437227405312
  · have IA := fun w => Lib.hid (isInf_0 a w (by omega) true (by simp [ia]))
    clear na nb la lb ia
    go_enter Tryd.func8, Tryd.ntmps8
    go_wp2_with (first
      | (go_at_call 28; with_reducible refine (NA _).out.mono ?_; rintro e w1 ⟨rfl, rfl⟩; clear NA)
      | (go_at_call 28; with_reducible refine (NB _).out.mono ?_; rintro e w1 ⟨rfl, rfl⟩)
      | (go_at_call 30; with_reducible refine (IA _).out.mono ?_; rintro e w1 ⟨rfl, rfl⟩)
      | (go_at_call 18; with_reducible refine (HA _ ht).out.mono ?_; rintro e w2 ⟨rfl, hg2⟩))
    go_ret
    exact ⟨rfl, hg2⟩
  have IA := fun w => Lib.hid (isInf_0 a w (by omega) false (by simp [ia]))
  by_cases ib : b = 9218868437227405312
  · have IB := fun w => Lib.hid (isInf_0 b w (by omega) true (by simp [ib]))
    clear na nb la lb ia ib
    go_enter Tryd.func8, Tryd.ntmps8
    go_wp2_with (first
      | (go_at_call 28; with_reducible refine (NA _).out.mono ?_; rintro e w1 ⟨rfl, rfl⟩; clear NA)
      | (go_at_call 28; with_reducible refine (NB _).out.mono ?_; rintro e w1 ⟨rfl, rfl⟩)
      | (go_at_call 30; with_reducible refine (IA _).out.mono ?_; rintro e w1 ⟨rfl, rfl⟩; clear IA)
      | (go_at_call 30; with_reducible refine (IB _).out.mono ?_; rintro e w1 ⟨rfl, rfl⟩)
      | (go_at_call 18; with_reducible refine (HA _ ht).out.mono ?_; rintro e w2 ⟨rfl, hg2⟩))
    go_ret
    exact ⟨rfl, hg2⟩
  have IB := fun w => Lib.hid (isInf_0 b w (by omega) false (by simp [ib]))
  have SA := fun w => Lib.hid (specOrd a la w)
  have SB := fun w => Lib.hid (specOrd b lb w)
  have BA := fun w => Lib.hid (binD a la w)
  have BB := fun w => Lib.hid (binD b lb w)
  have ho := f_order a b (by omega) (by omega)
  generalize ob a = oa at *
  generalize ob b = obb at *
  have hcase : (a < b ∧ Ord.compare a b = .lt) ∨ (¬ a < b ∧ Ord.compare a b = .eq) ∨ (¬ a < b ∧ Ord.compare a b = .gt) := by
    rcases Nat.lt_trichotomy a b with h | h | h
    · exact .inl ⟨h, Nat.compare_eq_lt.2 h⟩
    · exact .inr (.inl ⟨by omega, Nat.compare_eq_eq.2 h⟩)
    · exact .inr (.inr ⟨by omega, Nat.compare_eq_gt.2 h⟩)
  have c1 : (some Ordering.lt == some Ordering.lt) = true := rfl
  have c2 : (some Ordering.eq == some Ordering.lt) = false := rfl
  have c3 : (some Ordering.gt == some Ordering.lt) = false := rfl
  clear na nb la lb ia ib
  rcases hcase with ⟨h, hc⟩ | ⟨h, hc⟩ | ⟨h, hc⟩ <;> rw [hc] at ho
  all_goals
    clear hc
    go_enter Tryd.func8, Tryd.ntmps8
    go_wp2_with (first
      | (go_at_call 28; with_reducible refine (NA _).out.mono ?_; rintro e w1 ⟨rfl, rfl⟩; clear NA)
      | (go_at_call 28; with_reducible refine (NB _).out.mono ?_; rintro e w1 ⟨rfl, rfl⟩)
      | (go_at_call 30; with_reducible refine (IA _).out.mono ?_; rintro e w1 ⟨rfl, rfl⟩; clear IA)
      | (go_at_call 30; with_reducible refine (IB _).out.mono ?_; rintro e w1 ⟨rfl, rfl⟩)
      | (go_at_call 32; with_reducible refine (SA _).out.mono ?_; rintro e w1 ⟨rfl, hg1⟩; clear SA)
      | (go_at_call 31; with_reducible refine (BA _).out.mono ?_; rintro e w2 ⟨rfl, hg2⟩; clear BA)
      | (go_at_call 32; with_reducible refine (SB _).out.mono ?_; rintro e w3 ⟨rfl, hg3⟩; clear SB)
      | (go_at_call 31; with_reducible refine (BB _).out.mono ?_; rintro e w4 ⟨rfl, hg4⟩; clear BB)
      | (go_at_call 18; with_reducible refine (HA _ (ht.gr (((hg1.trans hg2).trans hg3).trans hg4))).out.mono ?_; rintro e w5 ⟨rfl, hg5⟩))
    go_ret
    exact ⟨rfl, (((hg1.trans hg2).trans hg3).trans hg4).trans hg5⟩
end Go.Proofs.YthimnfdoeplebaaDoor
