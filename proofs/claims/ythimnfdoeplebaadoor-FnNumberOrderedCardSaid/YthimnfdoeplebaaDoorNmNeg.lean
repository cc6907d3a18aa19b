/- FnNumberNegate: the law. -/
import Derived.Test.YthimnfdoeplebaaDoorNmG
import Derived.BigQuiet
namespace Go.Proofs.YthimnfdoeplebaaDoor
open Go Go.RowKit

theorem letters_some (u : Nat) (h : 1 ≤ u) : ∃ x ∈ letters u, x ≠ 48 := by
  induction u using Nat.strongRecOn with
  | _ n ih =>
    by_cases h1 : n < 10
    · rw [letters_lt h1]; exact ⟨48 + (n : Int), by simp, by omega⟩
    · obtain ⟨x, hx, hne⟩ := ih (n / 10) (by omega) (by omega)
      rw [letters_ge h1]
      exact ⟨x, by simp [hx], hne⟩
theorem dropWhile_nil {l : List Int} (h : l.dropWhile (· == 48) = []) : ∀ x ∈ l, x = 48 := by
  induction l with
  | nil => intro x hx; cases hx
  | cons a r ih =>
    by_cases ha : a = 48
    · subst ha
      rw [List.dropWhile_cons_of_pos (by simp)] at h
      intro x hx
      rcases List.mem_cons.1 hx with rfl | hx
      · rfl
      · exact ih h x hx
    · rw [List.dropWhile_cons_of_neg (by simpa using ha)] at h
      cases h
theorem strip_ne {u : Nat} (h : 1 ≤ u) : strip (letters u) ≠ [] := by
  intro e
  obtain ⟨x, hx, hne⟩ := letters_some u h
  unfold strip at e
  rw [List.reverse_eq_nil_iff] at e
  exact hne (dropWhile_nil e x (by simpa using hx))
theorem strip_le (l : List Int) : (strip l).length ≤ l.length := by
  unfold strip
  rw [List.length_reverse]
  have := (List.dropWhile_sublist (fun x : Int => x == 48) (l := l.reverse)).length_le
  simpa using this
theorem mant_le (e : Int) (ms : List Int) : (mant e ms).length ≤ ms.length + 1 := by unfold mant; split <;> simp

/-- The two forms of a number and of its negative, side by side. -/
theorem forms_opposed (u : Nat) (h : 1 ≤ u) (hu : u ≤ 9223372036854775807) : ∃ (N : Nat) (A B : List Int), intForm false u = A ∧ intForm true u = B ∧ A.length = N ∧ B.length = N + 1 ∧ 1 ≤ N ∧ N ≤ 100 ∧
    A.getD 0 0 + B.getD 0 0 = 255 ∧ B.getD N 0 = 102 ∧ ∀ i, 1 ≤ i → i < N → A.getD i 0 + B.getD i 0 = 102 := by
  unfold intForm
  rw [if_neg (strip_ne h), if_neg (strip_ne h)]
  have hs := strip_le (letters u)
  have hl := letters_le u (by omega)
  have hm := mant_le ((letters u).length - 1) (strip (letters u))
  unfold numForm
  rw [if_neg (by simp), if_pos ⟨rfl, by omega⟩]
  generalize hP : pairs (mant ((letters u).length - 1) (strip (letters u))) = P
  have hPl := pairs_length (mant ((letters u).length - 1) (strip (letters u)))
  rw [hP] at hPl
  generalize ((letters u).length : Int) - 1 = e
  refine ⟨P.length + 1, _, _, rfl, rfl, by simp, by simp, by omega, by omega, ?_, ?_, ?_⟩
  · simp [headB]; omega
  · simp [List.getD_eq_getElem?_getD]
  · intro i h1 h2
    obtain ⟨k, rfl⟩ : ∃ k, i = k + 1 := ⟨i - 1, by omega⟩
    have hk : k < P.length := by omega
    simp only [List.getD_cons_succ, List.append_nil]
    rw [List.getD_eq_getElem?_getD, List.getD_eq_getElem?_getD, List.getElem?_append_left (by simpa using hk)]
    simp [List.getElem?_eq_getElem hk, digB]
    omega

set_option maxRecDepth 100000 in
set_option maxHeartbeats 1000000 in
theorem law_negate (n : Int) (hn : -9223372036854775808 ≤ n ∧ n ≤ 9223372036854775807) (w : World) (ht : Tab10 w) :
    Calls Tryd.prog 4 #[.int .i64 n] w fun e w' => e = .returned (.bool true) ∧ Gr w w' := by
  obtain ⟨hn0, hn1⟩ := hn
  have HA := fun w ht => Lib.hid (awake w ht)
  by_cases hp : n ≤ 0
  · have HA := HA w ht
    go_enter Tryd.func4, Tryd.ntmps4
    go_wp2_with (first | (go_at_call 18; refine HA.out.mono ?_; rintro e w4 ⟨rfl, hg4⟩))
    go_ret
    exact ⟨rfl, hg4⟩
  · obtain ⟨u, rfl⟩ := Int.eq_ofNat_of_zero_le (show 0 ≤ n by omega)
    obtain ⟨N, A, B, hA, hB, lA, lB, hN0, hN1, hs0, hlast, hs⟩ := forms_opposed u (by omega) (by omega)
    have H1 := fun w ht => Lib.hid (numberOf_pos u (by omega) w ht)
    have H2 := fun w ht => Lib.hid (numberOf_neg u (by omega) w ht)
    rw [hA] at H1
    rw [hB] at H2
    have HLA := Lib.hid lA
    have HLB := Lib.hid lB
    have HS := Lib.hid hs
    clear hA hB lA lB hs
    generalize hA0 : A.getD 0 0 = a0 at hs0
    generalize hB0 : B.getD 0 0 = b0 at hs0
    generalize hBN : B.getD N 0 = bl at hlast
    subst hlast
    have HA0 := Lib.hid hA0
    have HB0 := Lib.hid hB0
    have HBN := Lib.hid hBN
    clear hA0 hB0 hBN
    have hNi : (0 : Int) < (N : Nat) := by omega
    go_enter Tryd.func4, Tryd.ntmps4
    go_wp2_with (first
      | (go_at_call 19; refine (H1 w ht).out.mono ?_; rintro e w1 ⟨v1, rfl, ho1, hg1⟩; clear H1; obtain ⟨ga, ca, hv1, hga, hoa⟩ := ho1.form (by rw [HLA.out]; omega); rw [HLA.out] at hv1; subst hv1; have ht1 := ht.gr hg1)
      | (go_at_call 19; refine (H2 w1 ht1).out.mono ?_; rintro e w2 ⟨v2, rfl, ho2, hg2⟩; clear H2; obtain ⟨gb, cb, hv2, hgb, hob⟩ := ho2.form (by rw [HLB.out]; omega); rw [HLB.out] at hv2; subst hv2; have ht2 := ht1.gr hg2; have hoa := hoa.gr hg2; have ka0 := hoa.cell 0 (by rw [HLA.out]; omega); have kb0 := hob.cell 0 (by rw [HLB.out]; omega); have kbl := hob.cell N (by rw [HLB.out]; omega); rw [HA0.out] at ka0; rw [HB0.out] at kb0; rw [HBN.out] at kbl; have ba0 := byt_getD hoa.byt 0; have bb0 := byt_getD hob.byt 0; rw [HA0.out] at ba0; rw [HB0.out] at bb0; obtain ⟨ba00, ba01⟩ := ba0; obtain ⟨bb00, bb01⟩ := bb0))
    have i1 : ((N : Nat) : Int) < (N : Int) + 1 := by omega
    go_quiet (fail)
    go_wp2
    have HOA := Lib.hid hoa
    have HOB := Lib.hid hob
    have HGG := Lib.hid (hg1.trans hg2)
    have HT2 := Lib.hid ht2
    clear hoa hob ka0 kb0 kbl hs0 ba00 ba01 bb00 bb01 ho1 ho2 hg1 hg2 ht1 ht2
    go_loopw [5] (fun i wr => ∃ k : Nat, i = .int .i64 k ∧ 1 ≤ k ∧ k ≤ N ∧ Gr w2 wr) (fun i _ => N - (intOf i).toNat)
    case atStart => exact ⟨1, rfl, Nat.le_refl _, hN0, (Gr.refl _).drewN _⟩
    case round =>
      obtain ⟨k, rfl, hk1, hkN, hgr⟩ := hrel
      by_cases hk : k < N
      · have ca := (HOA.out.gr hgr).cell k (by rw [HLA.out]; exact hk)
        have cb := (HOB.out.gr hgr).cell k (by rw [HLB.out]; omega)
        have hsum := HS.out k hk1 hk
        have ba := byt_getD HOA.out.byt k
        have bb := byt_getD HOB.out.byt k
        generalize A.getD k 0 = x at ca hsum ba
        generalize B.getD k 0 = y at cb hsum bb
        obtain ⟨ba0, ba1⟩ := ba
        obtain ⟨bb0, bb1⟩ := bb
        have j0 : (0 : Int) ≤ (k : Int) := by omega
        have j1 : (k : Int) < (N : Int) := by omega
        have j2 : (k : Int) < (N : Int) + 1 := by omega
        go_wp2
        go_quiet (fail)
        go_wp2
        go_roundw
        case rel => exact ⟨k + 1, by go_num, by omega, hk, hgr.drewN _⟩
        case measure => simp [intOf]; omega
      · obtain rfl : k = N := by omega
        have HAA := HA wr (HT2.out.gr hgr)
        go_wp2_with (first | (go_at_call 18; refine HAA.out.mono ?_; rintro e w4 ⟨rfl, hg4⟩))
        go_ret
        exact ⟨rfl, (HGG.out.trans hgr).trans hg4⟩
end Go.Proofs.YthimnfdoeplebaaDoor
