/- FnJoinLedger: the walk of the law. -/
import Derived.Test.YthimnfdoeplebaaDoorNmSum
import Derived.Test.YthimnfdoeplebaaDoorOpenI
namespace Go.Proofs.YthimnfdoeplebaaDoor
open Go Go.RowKit

set_option maxRecDepth 100000 in
set_option maxHeartbeats 2000000 in
theorem law_ledger (v : Value) (xs : List Int) (w : World) (h : Ri .i64 w v xs) (ht : Tab10 w) :
    Calls Tryd.prog 10 #[v] w fun e w' => e = .returned (.bool true) ∧ Gr w w' := by
  obtain ⟨p, c, rfl, hc, hm, hb, hwf⟩ := h
  have hbd : ∀ k, k < xs.length → -9223372036854775808 ≤ xs.getD k 0 ∧ xs.getD k 0 ≤ 9223372036854775807 := by
    intro k hk
    rw [List.getD_eq_getElem?_getD, List.getElem?_eq_getElem hk]
    have := bounds_i64 (hwf _ (List.getElem_mem hk))
    simpa using this
  obtain ⟨n, hn⟩ : ∃ n, xs.length = n := ⟨_, rfl⟩
  rw [hn] at hc hb hbd ⊢
  have hcm : c ≤ 9223372036854775807 := by simp only [maxLen] at hm; omega
  have HB := Lib.hid hb
  have HBD := Lib.hid hbd
  have HA := fun w ht => Lib.hid (awake w ht)
  clear hb hbd hwf hm hn
  by_cases h1 : (n : Int) > 2147483647
  · go_enter Tryd.func10, Tryd.ntmps10
    go_wp2
    go_ret
    exact ⟨rfl, Gr.refl _⟩
  by_cases h2 : (n : Int) > 40
  · go_enter Tryd.func10, Tryd.ntmps10
    go_wp2_with (first | (go_at_call 18; with_reducible refine (HA _ ht).out.mono ?_; rintro e w1 ⟨rfl, hg1⟩))
    go_ret
    exact ⟨rfl, hg1⟩
  have N0 := fun w ht => Lib.hid (numberOf 0 (by omega) w ht)
  go_enter Tryd.func10, Tryd.ntmps10
  go_wp2_with (first
    | (go_at_call 19; with_reducible refine (N0 w ht).out.mono ?_; rintro e w1 ⟨v1, rfl, ho1, hg1⟩; clear N0; have ht1 := ht.gr hg1))
  go_loopw [3, 4, 21] (fun s l i wr => ∃ (k : Nat) (t : Int), s = .int .i64 t ∧ i = .int .i64 k ∧ k ≤ n ∧ -((k : Int) * 144115188075855872) ≤ t ∧ t ≤ (k : Int) * 144115188075855872 ∧ Rd wr l (formOf t) ∧ Gr w1 wr) (fun _ _ i _ => ((n : Int) - intOf i).toNat)
  case atStart => exact ⟨0, 0, rfl, rfl, Nat.zero_le _, by simp, by simp, ho1.rd, Gr.refl _⟩
  case round =>
    obtain ⟨k, t, rfl, rfl, hk, t1, t2, hr, hg⟩ := hrel
    have htr := ht1.gr hg
    by_cases hkn : k < n
    · obtain ⟨b, o, rfl, hcell⟩ := HB.out (by omega)
      have kc := (hg1.trans hg).cell (hcell k hkn)
      obtain ⟨y1, y2⟩ := HBD.out k hkn
      generalize xs.getD k 0 = y at *
      obtain ⟨x, hx⟩ : ∃ x, y / 64 = x := ⟨_, rfl⟩
      obtain ⟨s, hs⟩ : ∃ s, t + x = s := ⟨_, rfl⟩
      have s1 : -(((k : Int) + 1) * 144115188075855872) ≤ s := by omega
      have s2 : s ≤ ((k : Int) + 1) * 144115188075855872 := by omega
      have s3 : -9223372036854775808 ≤ s ∧ s ≤ 9223372036854775807 := by omega
      have t3 : -9223372036854775808 ≤ t ∧ t ≤ 9223372036854775807 := by omega
      have NS := Lib.hid (numberOf s s3 wr htr)
      have IS := fun v w h => Lib.hid (int64Of s s3 v w h)
      have CS := fun v u w hx hy => Lib.hid (cmpForms t s t3 s3 v u w hx hy)
      have hlS := form_length s s3
      have CL := fun v w h => Lib.hid (clone v (formOf s) w h (by omega))
      obtain ⟨s4, s5⟩ := s3
      obtain ⟨d, hd⟩ : ∃ d, sgn t s = d := ⟨_, rfl⟩
      rw [hd] at CS
      have hcase : (0 < x ∧ d = -1) ∨ ((¬ 0 < x ∧ ¬ x < 0) ∧ d = 0) ∨ (x < 0 ∧ d = 1) := by
        rw [← hd]; unfold sgn
        rcases Int.lt_trichotomy x 0 with h | h | h
        · exact .inr (.inr ⟨h, by rw [if_neg (by omega), if_pos (by omega)]⟩)
        · exact .inr (.inl ⟨by omega, by rw [if_neg (by omega), if_neg (by omega)]⟩)
        · exact .inl ⟨h, by rw [if_pos (by omega)]⟩
      have HR := Lib.hid hr
      have HG := Lib.hid hg
      have S1 := Lib.hid s1
      have S2 := Lib.hid s2
      obtain ⟨S, hS⟩ : ∃ S, formOf s = S := ⟨_, rfl⟩
      rw [hS] at NS IS CS CL
      have HSE := Lib.hid hS
      generalize formOf t = T at *
      clear hr hg hd hlS hS s1 s2 t1 t2 t3 h1 h2 htr hcell
      rcases hcase with ⟨hx0, rfl⟩ | ⟨⟨hx0, hx1⟩, rfl⟩ | ⟨hx0, rfl⟩
      all_goals
        go_wp2_with (first
          | (go_at_call 19; with_reducible refine NS.out.mono ?_; rintro e w2 ⟨v2, rfl, ho2, hg2⟩)
          | (go_at_call 35; with_reducible refine (CL v2 w2 ho2.rd).out.mono ?_; rintro e w3 ⟨v3, rfl, ho3, hg3⟩)
          | (go_at_call 36; with_reducible refine (IS v3 w3 ho3.rd).out.mono ?_; rintro e w4 ⟨rfl, hg4⟩)
          | (go_at_call 20; with_reducible refine (CS _ v2 w4 ((HR.out.gr hg2).gr (hg3.trans hg4)) (ho2.rd.gr (hg3.trans hg4))).out.mono ?_; rintro e w5 ⟨rfl, rfl⟩))
        go_roundw
        case rel => exact ⟨k + 1, s, rfl, by go_num, by omega, by have := S1.out; simpa using this, by have := S2.out; simpa using this, by rw [HSE.out]; exact ho2.rd.gr (hg3.trans hg4), (HG.out.trans hg2).trans (hg3.trans hg4)⟩
        case measure => first | (simp [intOf]; done) | (simp [intOf]; omega)
    · obtain rfl : k = n := by omega
      go_wp2_with (first | (go_at_call 18; with_reducible refine (HA _ htr).out.mono ?_; rintro e w2 ⟨rfl, hg2⟩))
      go_ret
      exact ⟨rfl, (hg1.trans hg).trans hg2⟩
end Go.Proofs.YthimnfdoeplebaaDoor
