/- compareBytes of two short rows. -/
import Derived.Test.YthimnfdoeplebaaDoorNmU
namespace Go.Proofs.YthimnfdoeplebaaDoor
open Go Go.RowKit

theorem band255' : ∀ x : Fin 256, bits .and .u8 (x.val : Int) 255 = x.val := by decide +kernel
theorem band255 (x : Int) (h0 : 0 ≤ x) (h1 : x < 256) : bits .and .u8 x 255 = x := by
  obtain ⟨n, rfl⟩ := Int.eq_ofNat_of_zero_le h0
  exact band255' ⟨n, by omega⟩

theorem cmpI_drop {xs ys : List Int} {k : Nat} (hk : k < xs.length) (hl : k < ys.length) :
    cmpI (xs.drop k) (ys.drop k) = if xs.getD k 0 < ys.getD k 0 then -1 else if ys.getD k 0 < xs.getD k 0 then 1 else cmpI (xs.drop (k + 1)) (ys.drop (k + 1)) := by
  rw [List.drop_eq_getElem_cons hk, List.drop_eq_getElem_cons hl, cmpI]
  simp [List.getD_eq_getElem?_getD, hk, hl]
theorem cmpI_end {xs ys : List Int} {k : Nat} (hk : k = min xs.length ys.length) :
    cmpI (xs.drop k) (ys.drop k) = sgn (xs.length : Int) (ys.length : Int) := by
  unfold sgn
  rcases Nat.lt_trichotomy xs.length ys.length with h | h | h
  · rw [Nat.min_eq_left (by omega)] at hk
    subst hk
    rw [List.drop_length, if_pos (by omega), List.drop_eq_getElem_cons h]; rfl
  · rw [h, Nat.min_self] at hk
    rw [if_neg (by omega), if_neg (by omega), List.drop_of_length_le (by omega), List.drop_of_length_le (by omega)]; rfl
  · rw [Nat.min_eq_right (by omega)] at hk
    subst hk
    rw [List.drop_length, if_neg (by omega), if_pos (by omega), List.drop_eq_getElem_cons h]; rfl

set_option maxRecDepth 100000 in
set_option maxHeartbeats 1000000 in
theorem cmpB (v u : Value) (xs ys : List Int) (w : World) (hx : Rd w v xs) (hy : Rd w u ys) (hn : 1 ≤ xs.length ∧ xs.length < 24) (hm : 1 ≤ ys.length ∧ ys.length < 24) :
    Calls Tryd.prog 98 #[v, u] w fun e w' => e = .returned (.int .i64 (cmpI xs ys)) ∧ w' = w := by
  have bx := hx.byt
  have by' := hy.byt
  obtain ⟨b, o, c, rfl, hc, hc', hr⟩ := hx.at' (by omega)
  obtain ⟨d, p, f, rfl, hf, hf', hs⟩ := hy.at' (by omega)
  have hend := fun k (hk : k = min xs.length ys.length) => cmpI_end (xs := xs) (ys := ys) hk
  have hstep := fun k hk hl => cmpI_drop (xs := xs) (ys := ys) (k := k) hk hl
  obtain ⟨C, hC⟩ : ∃ C, cmpI xs ys = C := ⟨_, rfl⟩
  have hC0 : cmpI (xs.drop 0) (ys.drop 0) = C := hC
  rw [hC]
  obtain ⟨n, hn'⟩ : ∃ n, xs.length = n := ⟨_, rfl⟩
  obtain ⟨m, hm'⟩ : ∃ m, ys.length = m := ⟨_, rfl⟩
  rw [hn'] at hc hn hend hstep ⊢
  rw [hm'] at hf hm hend hstep ⊢
  obtain ⟨K, hK⟩ : ∃ K, min n m = K := ⟨_, rfl⟩
  have hKn : K ≤ n := by omega
  have hKm : K ≤ m := by omega
  have hKi := fl_int K (by omega)
  have f1 : ∀ w, (convert 3 48 (.int .i64 (n : Int))).run Tryd.prog w = .ok (.float .f64 (fl n)) w := fun w => run_convert_int_float w _ _ .i64 .f64 _ (by rw [Tryd.underlying3]; rfl) Tryd.underlying48
  have f2 : ∀ w, (convert 3 48 (.int .i64 (m : Int))).run Tryd.prog w = .ok (.float .f64 (fl m)) w := fun w => run_convert_int_float w _ _ .i64 .f64 _ (by rw [Tryd.underlying3]; rfl) Tryd.underlying48
  have f3 : ∀ w, (convert 48 3 (.float .f64 (fl K))).run Tryd.prog w = .ok (.int .i64 (K : Int)) w := fun w => run_convert_float_int w _ _ .f64 .i64 _ _ (by rw [Tryd.underlying48]; rfl) Tryd.underlying3 hKi
  have HM := minF n m w (by omega) (by omega)
  rw [hK] at HM hend
  have hcm : c ≤ 9223372036854775807 := by simp only [maxLen] at hc'; omega
  have hfm : f ≤ 9223372036854775807 := by simp only [maxLen] at hf'; omega
  generalize fl n = X at *
  generalize fl m = Y at *
  generalize fl K = Z at *
  have HM := Lib.hid HM
  have HS := Lib.hid hstep
  have HE := Lib.hid hend
  have HR := Lib.hid hr
  have HQ := Lib.hid hs
  have HC0 := Lib.hid hC0
  have BX := Lib.hid bx
  have BY := Lib.hid by'
  have HN := Lib.hid hn'
  have HMm := Lib.hid hm'
  have HK := Lib.hid hK
  clear hstep hend hr hs hC0 hC hKi bx by' hn' hm' hK hx hy hc' hf'
  go_enter Tryd.func98, Tryd.ntmps98
  go_wp2_with (first | (go_at_call 107; refine HM.out.mono ?_; rintro e w1 ⟨rfl, rfl⟩))
  go_loopw [7, 9, 10] (fun i x y wr => ∃ k : Nat, i = .int .i64 k ∧ (∃ x', x = .int .i64 x') ∧ (∃ y', y = .int .i64 y') ∧ k ≤ K ∧ cmpI (xs.drop k) (ys.drop k) = C ∧ wr = w1) (fun i _ _ _ => ((K : Int) - intOf i).toNat)
  case atStart => exact ⟨0, rfl, ⟨0, rfl⟩, ⟨0, rfl⟩, Nat.zero_le _, HC0.out, rfl⟩
  case round =>
    obtain ⟨k, rfl, ⟨x', rfl⟩, ⟨y', rfl⟩, hk, hCk, rfl⟩ := hrel
    have HCK := Lib.hid hCk
    clear hCk
    by_cases hkK : k < K
    · have k1 := HR.out.cell k (by rw [HN.out]; omega)
      have k2 := HQ.out.cell k (by rw [HMm.out]; omega)
      have hx1 := byt_getD BX.out k
      have hy1 := byt_getD BY.out k
      have hst := HS.out k (by omega) (by omega)
      rw [HCK.out] at hst
      generalize xs.getD k 0 = x at *
      generalize ys.getD k 0 = y at *
      have bb1 := band255 x (by omega) (by omega)
      have bb2 := band255 y (by omega) (by omega)
      rcases Int.lt_trichotomy x y with h | h | h
      · rw [if_pos h] at hst
        subst hst
        have hne : ¬ x = y := by omega
        go_wp2
        go_ret
        exact ⟨rfl, rfl⟩
      · subst h
        rw [if_neg (by omega), if_neg (by omega)] at hst
        have HST := Lib.hid hst
        clear hst
        go_wp2
        go_roundw
        case rel => exact ⟨k + 1, by go_num, ⟨_, rfl⟩, ⟨_, rfl⟩, by omega, HST.out.symm, by first | rfl | trivial⟩
        case measure => first | (simp [intOf]; done) | (simp [intOf]; omega)
      · rw [if_neg (by omega), if_pos h] at hst
        subst hst
        have hne : ¬ x = y := by omega
        have hnl : ¬ x < y := by omega
        go_wp2
        go_ret
        exact ⟨rfl, rfl⟩
    · obtain rfl : k = K := by omega
      have he := HE.out k rfl
      rw [HCK.out] at he
      unfold sgn at he
      rcases Int.lt_trichotomy (n : Int) (m : Int) with h | h | h
      · rw [if_pos h] at he
        subst he
        have hne : ¬ (n : Int) = (m : Int) := by omega
        have hng : ¬ (m : Int) < (n : Int) := by omega
        go_wp2
        go_ret
        exact ⟨rfl, rfl⟩
      · rw [if_neg (by omega), if_neg (by omega)] at he
        subst he
        obtain rfl : n = m := by omega
        go_wp2
        go_ret
        exact ⟨rfl, rfl⟩
      · rw [if_neg (by omega), if_pos h] at he
        subst he
        have hne : ¬ (n : Int) = (m : Int) := by omega
        go_wp2
        go_ret
        exact ⟨rfl, rfl⟩
end Go.Proofs.YthimnfdoeplebaaDoor
