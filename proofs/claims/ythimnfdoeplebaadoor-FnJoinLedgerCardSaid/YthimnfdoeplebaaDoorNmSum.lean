/- FnNumberSum: the walk of the law. -/
import Derived.Test.YthimnfdoeplebaaDoorNmY
import Derived.Test.YthimnfdoeplebaaDoorNmOrd
namespace Go.Proofs.YthimnfdoeplebaaDoor
open Go Go.RowKit

/-- bytes.Compare of two integers' forms tells their order. -/
theorem cmpForms (a b : Int) (ha : -9223372036854775808 ≤ a ∧ a ≤ 9223372036854775807) (hb : -9223372036854775808 ≤ b ∧ b ≤ 9223372036854775807) (v u : Value) (w : World) (hx : Rd w v (formOf a)) (hy : Rd w u (formOf b)) :
    Calls Tryd.prog 20 #[v, u] w fun e w' => e = .returned (.int .i64 (sgn a b)) ∧ w' = w :=
  (compare v u _ _ w hx hy).mono fun e w' h => ⟨by rw [h.1, compareBytes_cmpI _ _ hx.byt hy.byt, order a b ha hb], h.2⟩

set_option maxRecDepth 100000 in
set_option maxHeartbeats 1000000 in
theorem law_sum (a b : Int) (ha : -9223372036854775808 ≤ a ∧ a ≤ 9223372036854775807) (hb : -9223372036854775808 ≤ b ∧ b ≤ 9223372036854775807) (w : World) (ht : Tab10 w) :
    Calls Tryd.prog 11 #[.int .i64 a, .int .i64 b] w fun e w' => e = .returned (.bool true) ∧ Gr w w' := by
  obtain ⟨p, hp⟩ : ∃ p, a / 2 = p := ⟨_, rfl⟩
  obtain ⟨q, hq⟩ : ∃ q, b / 2 = q := ⟨_, rfl⟩
  obtain ⟨s, hs⟩ : ∃ s, p + q = s := ⟨_, rfl⟩
  have p1 : -9223372036854775808 ≤ p ∧ p ≤ 9223372036854775807 := by omega
  have q1 : -9223372036854775808 ≤ q ∧ q ≤ 9223372036854775807 := by omega
  have s1 : -9223372036854775808 ≤ s ∧ s ≤ 9223372036854775807 := by omega
  have N1 := fun w ht => Lib.hid (numberOf p p1 w ht)
  have N2 := fun w ht => Lib.hid (numberOf q q1 w ht)
  have N3 := fun w ht => Lib.hid (numberOf s s1 w ht)
  have N4 := fun w ht => Lib.hid (numberOf s s1 w ht)
  have NL := fun w ht => Lib.hid (numberOf (-9223372036854775808) (by omega) w ht)
  have NM := fun w ht => Lib.hid (numberOf 9223372036854775807 (by omega) w ht)
  have I1 := fun v w h => Lib.hid (int64Of p p1 v w h)
  have I2 := fun v w h => Lib.hid (int64Of q q1 v w h)
  have I3 := fun v w h => Lib.hid (int64Of s s1 v w h)
  have CL := fun v u w hx hy => Lib.hid (cmpForms (-9223372036854775808) s (by omega) s1 v u w hx hy)
  have CM := fun v u w hx hy => Lib.hid (cmpForms s 9223372036854775807 s1 (by omega) v u w hx hy)
  have HA := fun w ht => Lib.hid (awake w ht)
  obtain ⟨l, hl⟩ : ∃ l, sgn (-9223372036854775808) s = l := ⟨_, rfl⟩
  obtain ⟨m, hm⟩ : ∃ m, sgn s 9223372036854775807 = m := ⟨_, rfl⟩
  have hl0 : l ≤ 0 := by rw [← hl]; unfold sgn; split <;> (try split) <;> omega
  have hm0 : m ≤ 0 := by rw [← hm]; unfold sgn; split <;> (try split) <;> omega
  rw [hl] at CL
  rw [hm] at CM
  generalize formOf p = P at *
  generalize formOf q = Q at *
  generalize formOf s = S at *
  generalize formOf (-9223372036854775808) = L at *
  generalize formOf 9223372036854775807 = M at *
  obtain ⟨s2, s3⟩ := s1
  clear hl hm p1 q1 ha hb
  go_enter Tryd.func11, Tryd.ntmps11
  go_wp2_with (first
    | (go_at_call 19; with_reducible refine (N1 w ht).out.mono ?_; rintro e w1 ⟨v1, rfl, ho1, hg1⟩; clear N1; have ht1 := ht.gr hg1)
    | (go_at_call 36; with_reducible refine (I1 v1 w1 ho1.rd).out.mono ?_; rintro e w2 ⟨rfl, hg2⟩; clear I1; have ht2 := ht1.gr hg2)
    | (go_at_call 19; with_reducible refine (N2 w2 ht2).out.mono ?_; rintro e w3 ⟨v3, rfl, ho3, hg3⟩; clear N2; have ht3 := ht2.gr hg3)
    | (go_at_call 36; with_reducible refine (I2 v3 w3 ho3.rd).out.mono ?_; rintro e w4 ⟨rfl, hg4⟩; clear I2; have ht4 := ht3.gr hg4)
    | (go_at_call 19; with_reducible refine (N3 w4 ht4).out.mono ?_; rintro e w5 ⟨v5, rfl, ho5, hg5⟩; clear N3; have ht5 := ht4.gr hg5)
    | (go_at_call 36; with_reducible refine (I3 v5 w5 ho5.rd).out.mono ?_; rintro e w6 ⟨rfl, hg6⟩; clear I3; have ht6 := ht5.gr hg6)
    | (go_at_call 19; with_reducible refine (NL w6 ht6).out.mono ?_; rintro e w7 ⟨v7, rfl, ho7, hg7⟩; clear NL; have ht7 := ht6.gr hg7)
    | (go_at_call 19; with_reducible refine (NM w7 ht7).out.mono ?_; rintro e w8 ⟨v8, rfl, ho8, hg8⟩; clear NM; have ht8 := ht7.gr hg8)
    | (go_at_call 19; with_reducible refine (N4 w8 ht8).out.mono ?_; rintro e w9 ⟨v9, rfl, ho9, hg9⟩; clear N4; have ht9 := ht8.gr hg9)
    | (go_at_call 20; with_reducible refine (CL v7 v9 w9 (ho7.gr (hg8.trans hg9)).rd ho9.rd).out.mono ?_; rintro e w10 ⟨rfl, rfl⟩; clear CL)
    | (go_at_call 20; with_reducible refine (CM v9 v8 _ ho9.rd (ho8.gr hg9).rd).out.mono ?_; rintro e w10 ⟨rfl, rfl⟩; clear CM)
    | (go_at_call 18; with_reducible refine (HA _ ht9).out.mono ?_; rintro e w11 ⟨rfl, hg11⟩))
  go_ret
  exact ⟨rfl, ((((((((hg1.trans hg2).trans hg3).trans hg4).trans hg5).trans hg6).trans hg7).trans hg8).trans hg9).trans hg11⟩
end Go.Proofs.YthimnfdoeplebaaDoor
