/- NumberInt64 of the form of an integer gives the integer. -/
import Derived.Test.YthimnfdoeplebaaDoorNmW
namespace Go.Proofs.YthimnfdoeplebaaDoor
open Go Go.RowKit

theorem val_ext (P : List Int) (j : Nat) : val (ext P j) = val P * 100 ^ j := by
  induction j with
  | zero => simp [ext]
  | succ j ih =>
    have : ext P (j + 1) = ext P j ++ [0] := by simp [ext, List.replicate_succ']
    rw [this, val_append, ih, Int.pow_succ, Int.mul_assoc]; omega

/-- The three ways of the form of an integer. -/
theorem form_cases (n : Int) (hn : -9223372036854775808 ≤ n ∧ n ≤ 9223372036854775807) :
    (n = 0 ∧ formOf n = [128]) ∨ ∃ (P : List Int) (j L : Nat), P.length + j = L ∧ 1 ≤ P.length ∧ L ≤ 10 ∧ D100 P ∧
      ((formOf n = ((L : Int) + 192) :: P.map (digB false) ∧ val P * 100 ^ j = n) ∨ (formOf n = (63 - (L : Int)) :: (P.map (digB true) ++ [102]) ∧ -(val P * 100 ^ j) = n)) := by
  by_cases h0 : n = 0
  · subst h0; exact .inl ⟨rfl, form_zero _⟩
  · right
    obtain ⟨u, hu⟩ : ∃ u, n.natAbs = u := ⟨_, rfl⟩
    obtain ⟨P, j, e1, e2, d1, n1, _, c1⟩ := forms u (by omega) (by omega)
    have v1 := (d100_val u).1
    rw [d1, val_ext] at v1
    have hl := d100_length u
    have hle := letters_le u (by omega)
    refine ⟨P, j, (d100 u).length, by rw [d1, ext_length], ?_, by omega, c1, ?_⟩
    · cases P with
      | nil => exact absurd rfl n1
      | cons a r => simp
    · unfold formOf
      rw [hu]
      by_cases hneg : n < 0
      · rw [decide_eq_true hneg]; exact .inr ⟨e2, by omega⟩
      · rw [decide_eq_false hneg]; exact .inl ⟨e1, by omega⟩
theorem form_length (n : Int) (hn : -9223372036854775808 ≤ n ∧ n ≤ 9223372036854775807) : 1 ≤ (formOf n).length ∧ (formOf n).length < 24 := by
  rcases form_cases n hn with ⟨_, e⟩ | ⟨P, j, L, h1, h2, h3, _, ⟨e, _⟩ | ⟨e, _⟩⟩ <;> rw [e] <;> simp <;> omega

theorem wrap_in (n : Int) (hn : -9223372036854775808 ≤ n ∧ n ≤ 9223372036854775807) : IntKind.wrap .i64 n = n := by rw [w64]; omega

theorem form_max : formOf 9223372036854775807 = [202, 10, 23, 34, 73, 4, 69, 55, 78, 59, 8] := by
  have e : letters 9223372036854775807 = [57, 50, 50, 51, 51, 55, 50, 48, 51, 54, 56, 53, 52, 55, 55, 53, 56, 48, 55] := by
    iterate 18 rw [letters_ge (by omega)]
    rw [letters_lt (by omega)]
    rfl
  show intForm false 9223372036854775807 = _
  unfold intForm
  rw [e]
  decide
theorem form_min : formOf (-9223372036854775808) = [53, 92, 79, 68, 29, 98, 33, 47, 24, 43, 93, 102] := by
  have e : letters 9223372036854775808 = [57, 50, 50, 51, 51, 55, 50, 48, 51, 54, 56, 53, 52, 55, 55, 53, 56, 48, 56] := by
    iterate 18 rw [letters_ge (by omega)]
    rw [letters_lt (by omega)]
    rfl
  show intForm true 9223372036854775808 = _
  unfold intForm
  rw [e]
  decide

/-- toInt64 gives the integer back. -/
theorem toI64 (n : Int) (hn : -9223372036854775808 ≤ n ∧ n ≤ 9223372036854775807) (h0 : n ≠ 0) (v : Value) (w : World) (h : Rd w v (formOf n)) :
    Calls Tryd.prog 99 #[v] w fun e w' => e = .returned (.tuple #[.int .i64 n, .nilIface]) ∧ w' = w := by
  rcases form_cases n hn with ⟨e, _⟩ | ⟨P, j, L, h1, h2, h3, hD, ⟨e, hv⟩ | ⟨e, hv⟩⟩
  · exact absurd e h0
  · rw [e] at h
    have := toI64_pos P j L h1 h2 h3 hD v w h
    rw [hv, wrap_in n hn] at this
    exact this
  · rw [e] at h
    have := toI64_neg P j L h1 h2 h3 hD v w h
    rw [hv, wrap_in n hn] at this
    exact this

theorem isZero_no (v : Value) (x : Int) (r : List Int) (w : World) (h : Rd w v (x :: r)) (hx : x ≠ 128) :
    Calls Tryd.prog 96 #[v] w fun e w' => e = .returned (.bool false) ∧ w' = w := by
  obtain ⟨b, o, c, rfl, hc, hm, hr⟩ := h.at' (by simp)
  have k0 := hr.cell 0 (by simp)
  rw [Nat.add_zero, List.getD_cons_zero] at k0
  obtain ⟨n, hn⟩ : ∃ n, (x :: r).length = n := ⟨_, rfl⟩
  have hn0 : 0 < n := by rw [← hn]; simp
  rw [hn] at hc ⊢
  have hcm : c ≤ 9223372036854775807 := by simp only [maxLen] at hm; omega
  clear hr h hn
  go_enter Tryd.func96, Tryd.ntmps96
  go_wp2
  go_ret
  exact ⟨rfl, rfl⟩
theorem isZero_yes (v : Value) (w : World) (h : Rd w v [128]) :
    Calls Tryd.prog 96 #[v] w fun e w' => e = .returned (.bool true) ∧ w' = w := by
  obtain ⟨b, o, c, rfl, hc, hm, hr⟩ := h.at' (by simp)
  have k0 := hr.cell 0 (by simp)
  rw [Nat.add_zero, List.getD_cons_zero] at k0
  have hcm : c ≤ 9223372036854775807 := by simp only [maxLen] at hm; omega
  simp only [List.length_cons, List.length_nil] at hc ⊢
  clear hr h
  go_enter Tryd.func96, Tryd.ntmps96
  go_wp2
  go_ret
  exact ⟨rfl, rfl⟩
theorem isInf_no (v : Value) (x : Int) (r : List Int) (w : World) (h : Rd w v (x :: r)) (hx : x ≠ 0) (hx' : x ≠ 255) :
    Calls Tryd.prog 97 #[v] w fun e w' => e = .returned (.bool false) ∧ w' = w := by
  obtain ⟨b, o, c, rfl, hc, hm, hr⟩ := h.at' (by simp)
  have k0 := hr.cell 0 (by simp)
  rw [Nat.add_zero, List.getD_cons_zero] at k0
  obtain ⟨n, hn⟩ : ∃ n, (x :: r).length = n := ⟨_, rfl⟩
  have hn0 : 0 < n := by rw [← hn]; simp
  rw [hn] at hc ⊢
  have hcm : c ≤ 9223372036854775807 := by simp only [maxLen] at hm; omega
  clear hr h hn
  by_cases h2 : (n : Int) = 2
  all_goals
    go_enter Tryd.func97, Tryd.ntmps97
    go_wp2
    go_ret
    exact ⟨rfl, rfl⟩

theorem maxB (w : World) : Calls Tryd.prog 86 #[] w fun e w' => ∃ v, e = .returned v ∧ Rd w' v [202, 10, 23, 34, 73, 4, 69, 55, 78, 59, 8] ∧ Gr w w' := by
  have hB : Byt [202, 10, 23, 34, 73, 4, 69, 55, 78, 59, 8] := by intro x hx; simp at hx; omega
  have hL := fun w H (hH : w.heap.size = H) => Lib.hid (Rd.lit w [202, 10, 23, 34, 73, 4, 69, 55, 78, 59, 8] #[.int .u8 202, .int .u8 10, .int .u8 23, .int .u8 34, .int .u8 73, .int .u8 4, .int .u8 69, .int .u8 55, .int .u8 78, .int .u8 59, .int .u8 8] 11 hB rfl rfl (T := 5) (fr := (0, 0)) (by simp [maxLen]) hH)
  go_enter Tryd.func86, Tryd.ntmps86
  go_wp2
  go_ret
  exact ⟨_, rfl, (hL w _ rfl).out, (Gr.refl _).alloc _⟩
theorem minB (w : World) : Calls Tryd.prog 87 #[] w fun e w' => ∃ v, e = .returned v ∧ Rd w' v [53, 92, 79, 68, 29, 98, 33, 47, 24, 43, 93, 102] ∧ Gr w w' := by
  have hB : Byt [53, 92, 79, 68, 29, 98, 33, 47, 24, 43, 93, 102] := by intro x hx; simp at hx; omega
  have hL := fun w H (hH : w.heap.size = H) => Lib.hid (Rd.lit w [53, 92, 79, 68, 29, 98, 33, 47, 24, 43, 93, 102] #[.int .u8 53, .int .u8 92, .int .u8 79, .int .u8 68, .int .u8 29, .int .u8 98, .int .u8 33, .int .u8 47, .int .u8 24, .int .u8 43, .int .u8 93, .int .u8 102] 12 hB rfl rfl (T := 5) (fr := (0, 0)) (by simp [maxLen]) hH)
  go_enter Tryd.func87, Tryd.ntmps87
  go_wp2
  go_ret
  exact ⟨_, rfl, (hL w _ rfl).out, (Gr.refl _).alloc _⟩
end Go.Proofs.YthimnfdoeplebaaDoor
