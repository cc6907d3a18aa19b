/- FnNumberTaken: the walk of the law. -/
import Derived.Test.YthimnfdoeplebaaDoorNmTb
namespace Go.Proofs.YthimnfdoeplebaaDoor
open Go Go.RowKit

/-- What FromNumber makes of a form: the mantissa's digits are those of the number, the exponent fits. -/
theorem taken_plain (d : List Int) (e : Int) (hd : D10 d) (hl : 1 ≤ d.length ∧ d.length ≤ 18) (hc : Core d) :
    ∃ (P : List Int) (m : Nat), prs (padE (lead e d)) = P ∧ D100 P ∧ 1 ≤ P.length ∧ P.length ≤ 10 ∧ val P = m ∧ m < 18446744073709551616 ∧ strip0 (dgs m) = d ∧ (1 + e / 2) * 2 - 2 * (P.length : Int) + (((dgs m).length : Int) - 1) = e := by
  obtain ⟨t, ht, hv⟩ := val_form d e
  have hd2 : D10 (d ++ List.replicate t 0) := fun x hx => by
    rcases List.mem_append.1 hx with h | h
    · exact hd x h
    · have := (List.mem_replicate.1 h).2; omega
  have hb := dval_bd _ hd2
  rcases hc with rfl | ⟨hc1, hc2⟩
  · simp at hl
  have hne : d ≠ [] := by intro e; rw [e] at hl; simp at hl
  have hg : (d ++ List.replicate t 0).getD 0 1 ≠ 0 := by
    cases d with
    | nil => exact absurd rfl hne
    | cons a r => simpa using hc1
  have hdg := dgs_dval _ hd2 hg
  have hlen : (prs (padE (lead e d))).length = ((lead e d).length + t) / 2 := by rw [prs_length, padE_length, ht]; omega
  have hll := lead_length e d
  have htl : (d ++ List.replicate t 0).length = d.length + t := by simp
  have h19 : (d ++ List.replicate t 0).length ≤ 19 := by rw [htl]; omega
  have hp19 : (10 : Int) ^ (d ++ List.replicate t 0).length ≤ 10 ^ 19 := by
    obtain ⟨k, hk⟩ : ∃ k, 19 = (d ++ List.replicate t 0).length + k := ⟨19 - (d ++ List.replicate t 0).length, by omega⟩
    rw [hk, Int.pow_add]
    have h1 := ten_pos (d ++ List.replicate t 0).length
    have h2 := ten_pos k
    generalize (10 : Int) ^ (d ++ List.replicate t 0).length = A at *
    generalize (10 : Int) ^ k = B at *
    have : A * 1 ≤ A * B := Int.mul_le_mul_of_nonneg_left (by omega) (by omega)
    omega
  refine ⟨_, (dval (d ++ List.replicate t 0)).toNat, rfl, prs_d _ ((hd.lead e).padE), ?_, ?_, ?_, ?_, ?_, ?_⟩
  · rw [hlen]; split at hll <;> omega
  · rw [hlen]; split at hll <;> omega
  · rw [hv]; omega
  · omega
  · rw [hdg, strip0_of _ _ (.inr hc2)]
  · rw [hdg, htl, hlen]
    split at hll <;> omega

theorem tmod61 (x : Int) (hx : -128 ≤ x ∧ x ≤ 127) : -60 ≤ x.tmod 61 ∧ x.tmod 61 ≤ 60 := by
  have h1 := Int.lt_tmod_of_pos x (show (0 : Int) < 61 by omega)
  have h2 := Int.tmod_lt_of_pos x (show (0 : Int) < 61 by omega)
  omega

theorem numTaken (v : Value) (neg : Bool) (d : List Int) (e : Int) (P : List Int) (m : Nat) (w : World) (h : Rd w v (sform neg d e)) (hP : prs (padE (lead e d)) = P) (hD : D100 P) (h1 : 1 ≤ P.length) (h2 : P.length ≤ 10) (hv : val P = m) (hm : m < 18446744073709551616) (he : -100 ≤ e ∧ e ≤ 100) :
    Calls Tryd.prog 22 #[v] w fun e' w' => e' = .returned (.tuple #[.int .u64 m, .bool neg, .int .i64 ((1 + e / 2) * 2 - 2 * (P.length : Int)), .int .i64 (2 * (P.length : Int) - 1), .bool true]) ∧ Gr w w' := by
  have hlen : (sform neg d e).length ≤ 12 := by unfold sform; rw [hP]; split <;> simp <;> omega
  have HC := Lib.hid (clone v _ w h (by omega))
  have HF : ∀ u w, Rd w u (sform neg d e) → Calls Tryd.prog 52 #[u] w fun e' w' => e' = .returned (.tuple #[.int .u64 m, .bool neg, .int .i64 ((1 + e / 2) * 2 - 2 * (P.length : Int)), .int .i64 (2 * (P.length : Int) - 1), .nilIface]) ∧ w' = w := by
    intro u w hu
    unfold sform at hu
    rw [hP] at hu
    cases neg
    · rw [if_neg (by simp)] at hu
      have := from_pos P _ hD h1 (by omega) (by omega) (by omega) u w hu
      rw [hv, show 193 + e / 2 - 192 = 1 + e / 2 by omega] at this
      exact this
    · rw [if_pos rfl] at hu
      have := from_neg P _ hD h1 (by omega) (by omega) (by omega) u w hu
      rw [hv, show 63 - (62 - e / 2) = 1 + e / 2 by omega] at this
      exact this
  have HF := fun u w hu => Lib.hid (HF u w hu)
  obtain ⟨p, c, rfl, _⟩ := h
  obtain ⟨x, hx⟩ : ∃ x : Int, (1 + e / 2) * 2 - 2 * (P.length : Int) = x := ⟨_, rfl⟩
  obtain ⟨y, hy⟩ : ∃ y : Int, 2 * (P.length : Int) - 1 = y := ⟨_, rfl⟩
  rw [hx, hy] at HF
  rw [hx, hy]
  clear hx hy hlen he h1 h2 hv hm hD hP
  generalize sform neg d e = S at *
  go_enter Tryd.func22, Tryd.ntmps22
  go_wp2_with (first
    | (go_at_call 35; go_must (refine HC.out.mono ?_); rintro e w1 ⟨u1, rfl, ho1, hg1⟩)
    | (go_at_call 52; go_must (refine (HF u1 w1 ho1.rd).out.mono ?_); rintro e w2 ⟨rfl, rfl⟩))
  go_quiet (fail)
  go_wp2
  exact bodyPost_ret (v := .tuple #[.int .u64 m, .bool neg, .int .i64 x, .int .i64 y, .bool true]) (by simp [results, Tryd.results22, go_sem]) rfl ⟨rfl, hg1.drewN _⟩

set_option maxRecDepth 100000 in
set_option maxHeartbeats 1000000 in
theorem law_taken (v : Value) (xs : List Int) (neg : Bool) (x : Int) (hx : -128 ≤ x ∧ x ≤ 127) (w : World) (h : Rd w v xs) (ht : Tab10 w) :
    Calls Tryd.prog 6 #[v, .bool neg, .int .i8 x] w fun e w' => e = .returned (.bool true) ∧ Gr w w' := by
  have HND := Lib.hid (numDig v xs w h)
  have HA := fun w ht => Lib.hid (awake w ht)
  obtain ⟨e0, e1⟩ := tmod61 x hx
  obtain ⟨e, he⟩ : ∃ e, x.tmod 61 = e := ⟨_, rfl⟩
  rw [he] at e0 e1
  obtain ⟨p, c, rfl, _⟩ := h
  obtain ⟨n, hn⟩ : ∃ n, xs.length = n := ⟨_, rfl⟩
  rw [hn] at HND ⊢
  clear hn
  obtain ⟨hx0, hx1⟩ := hx
  by_cases hbig : (n : Int) > 2147483647
  · go_enter Tryd.func6, Tryd.ntmps6
    go_wp2
    go_ret
    exact ⟨rfl, Gr.refl _⟩
  go_enter Tryd.func6, Tryd.ntmps6
  go_upto_if 26 with (first
    | (go_at_call 21; refine HND.out.mono ?_; rintro e' w1 ⟨u1, d, rfl, hr1, hd, hl18, hcore, hg1⟩; have ht1 := ht.gr hg1; have HR1 := Lib.hid hr1; obtain ⟨p1, c1, rfl, _⟩ := hr1))
  have HD := Lib.hid hd
  have HCORE := Lib.hid hcore
  obtain ⟨L, hL⟩ : ∃ L, d.length = L := ⟨_, rfl⟩
  rw [hL] at hl18 HR1 ⊢
  clear hd hcore
  rcases Nat.eq_zero_or_pos L with rfl | hLp
  · clear hL
    go_wp2_with (first
      | (go_at_call 18; with_reducible refine (HA _ ht1).out.mono ?_; rintro e w2 ⟨rfl, hg2⟩))
    go_ret
    exact ⟨rfl, hg1.trans hg2⟩
  · have HSB := Lib.hid (specBytes (.slice p1 L c1) d neg e w1 HR1.out HD.out (by omega) (by omega))
    obtain ⟨P, m, hP, hDP, hP1, hP2, hv, hm, hst, hsum⟩ := taken_plain d e HD.out (by omega) HCORE.out
    have HNT := fun v w h => Lib.hid (numTaken v neg d e P m w h hP hDP hP1 hP2 hv hm (by omega))
    have HDG := fun w => Lib.hid (specDigits m hm w)
    rw [hst] at HDG
    have HSM := fun u v w hu hv => Lib.hid ((same u v d d w hu hv).mono fun e w' (h : _ ∧ w' = w) => (show e = Ending.returned (Value.bool true) ∧ w' = w from ⟨by rw [h.1]; simp, h.2⟩))
    obtain ⟨a, ha⟩ : ∃ a : Int, (1 + e / 2) * 2 - 2 * (P.length : Int) = a := ⟨_, rfl⟩
    obtain ⟨y, hy⟩ : ∃ y : Int, 2 * (P.length : Int) - 1 = y := ⟨_, rfl⟩
    obtain ⟨z, hz⟩ : ∃ z : Int, ((dgs m).length : Int) - 1 = z := ⟨_, rfl⟩
    rw [ha, hy] at HNT
    rw [hz] at HDG
    rw [ha, hz] at hsum
    have hy0 : 0 < y := by omega
    have hLz : ((L : Int) == 0) = false := by rw [beq_eq_false_iff_ne]; omega
    have hneg : (neg == neg) = true := by cases neg <;> rfl
    clear hL ha hy hz hst hP hDP hP1 hP2 hv
    go_wp2_with (first
      | (go_at_call 23; with_reducible refine HSB.out.mono ?_; rintro e' w2 ⟨u2, rfl, ho2, hg2⟩; have ht2 := ht1.gr hg2)
      | (go_at_call 22; with_reducible refine (HNT u2 w2 ho2.rd).out.mono ?_; rintro e' w3 ⟨rfl, hg3⟩; have ht3 := ht2.gr hg3)
      | (go_at_call 24; with_reducible refine (HDG w3).out.mono ?_; rintro e' w4 ⟨u4, rfl, ho4, hg4⟩; have ht4 := ht3.gr hg4)
      | (go_at_call 25; with_reducible refine (HSM u4 _ w4 ho4.rd (((HR1.out.gr hg2).gr hg3).gr hg4)).out.mono ?_; rintro e' w5 ⟨rfl, rfl⟩)
      | (go_at_call 18; with_reducible refine (HA _ ht4).out.mono ?_; rintro e' w6 ⟨rfl, hg6⟩))
    go_ret
    exact ⟨rfl, (((hg1.trans hg2).trans hg3).trans hg4).trans hg6⟩
end Go.Proofs.YthimnfdoeplebaaDoor
