/- FnNumberCut: the walk of the law. -/
import Derived.Test.YthimnfdoeplebaaDoorNmCb
namespace Go.Proofs.YthimnfdoeplebaaDoor
open Go Go.RowKit

theorem dval_dgs (n : Nat) : dval (dgs n) = n := by
  induction n using Nat.strongRecOn with
  | _ n ih =>
    by_cases h : n = 0
    · rw [h, dgs_zero]; rfl
    · rw [dgs_pos h, dval_app, ih (n / 10) (by omega)]; omega
theorem dgs_ge3 (n : Nat) (h : 100 ≤ n) : 3 ≤ (dgs n).length := by
  have hb := dval_bd _ (dgs_d n)
  rw [dval_dgs] at hb
  rcases Nat.lt_or_ge (dgs n).length 3 with hl | hl
  · have : (dgs n).length = 0 ∨ (dgs n).length = 1 ∨ (dgs n).length = 2 := by omega
    rcases this with e | e | e <;> rw [e] at hb <;> simp at hb <;> omega
  · exact hl
theorem dgs_last {n : Nat} (h : n ≠ 0) : (dgs n).getLast? = some ((n % 10 : Nat) : Int) := by rw [dgs_pos h]; simp

theorem cut_plain (u r N : Nat) (hu : 1 ≤ u ∧ u ≤ 999999999) (hr : 1 ≤ r ∧ r ≤ 99) (hN : N = u * 100 + r) :
    ∃ (P : List Int) (L : Nat), prs (padE (lead ((((dgs N).length : Int) - 1) - 2) (strip0 (dgs N)))) = P ∧ D100 P ∧ P.length = L + 1 ∧ 1 ≤ L ∧ L ≤ 5 ∧ ((((dgs N).length : Int) - 1) - 2) / 2 = (L : Int) - 1 ∧ val (P.take L) = u ∧ val P = N ∧
      D10 (strip0 (dgs N)) ∧ 1 ≤ (strip0 (dgs N)).length ∧ (strip0 (dgs N)).length ≤ 11 ∧ (dgs N).length ≤ 11 ∧ 3 ≤ (dgs N).length := by
  have h11 := dgs_le 11 N (by omega)
  have h3 := dgs_ge3 N (by omega)
  have hd := dgs_d N
  obtain ⟨z, hz, hst, hsp⟩ : ∃ z, z ≤ 1 ∧ dgs N = strip0 (dgs N) ++ List.replicate z 0 ∧ True := by
    by_cases h0 : N % 10 = 0
    · refine ⟨1, Nat.le_refl _, ?_, trivial⟩
      have e : dgs N = dgs (N / 10) ++ List.replicate 1 0 := by rw [dgs_pos (by omega), h0]; rfl
      have hs : strip0 (dgs N) = dgs (N / 10) := by
        rw [e]
        exact strip0_of _ 1 (.inr (by rw [dgs_last (by omega)]; intro h; injection h with h; omega))
      rw [hs]; exact e
    · refine ⟨0, Nat.zero_le _, ?_, trivial⟩
      have hs : strip0 (dgs N ++ List.replicate 0 0) = dgs N := strip0_of _ 0 (.inr (by rw [dgs_last (by omega)]; intro h; injection h with h; omega))
      rw [List.replicate_zero, List.append_nil] at hs ⊢
      rw [hs]
  have hv := dval_dgs N
  generalize strip0 (dgs N) = d at *
  generalize dgs N = D at *
  obtain ⟨ℓ, hℓ⟩ : ∃ ℓ, D.length = ℓ := ⟨_, rfl⟩
  have hdl : d.length + z = ℓ := by rw [← hℓ, hst]; simp
  have hD : D10 d := fun x hx => hd x (by rw [hst]; simp [hx])
  rw [hℓ] at h11 h3 ⊢
  have hpar : ((ℓ : Int) - 1 - 2) % 2 = 0 ↔ ℓ % 2 = 1 := by omega
  have hlead : padE (lead ((ℓ : Int) - 1 - 2) d) = lead ((ℓ : Int) - 1 - 2) D := by
    have hl := lead_length ((ℓ : Int) - 1 - 2) d
    unfold padE
    have hzc : z = 0 ∨ z = 1 := by omega
    by_cases he : ((ℓ : Int) - 1 - 2) % 2 = 0
    · rw [if_pos he] at hl
      have := hpar.1 he
      rcases hzc with rfl | rfl
      · rw [if_neg (by omega), hst]; simp
      · rw [if_pos (by omega), hst]; unfold lead; rw [if_pos he, if_pos he]; rfl
    · rw [if_neg he] at hl
      have : ¬ ℓ % 2 = 1 := fun h => he (hpar.2 h)
      rcases hzc with rfl | rfl
      · rw [if_neg (by omega), hst]; simp
      · rw [if_pos (by omega), hst]; unfold lead; rw [if_neg he, if_neg he]; rfl
  rw [hlead]
  have hll := lead_length ((ℓ : Int) - 1 - 2) D
  rw [hℓ] at hll
  have hev : (lead ((ℓ : Int) - 1 - 2) D).length % 2 = 0 := by rw [hll]; split <;> omega
  have hval : val (prs (lead ((ℓ : Int) - 1 - 2) D)) = N := by
    rw [val_prs _ hev, ← hv]
    unfold lead; split; exact dval_zero D; rfl
  have hPd : D100 (prs (lead ((ℓ : Int) - 1 - 2) D)) := prs_d _ (D10.lead hd _)
  have hPl := prs_length (lead ((ℓ : Int) - 1 - 2) D)
  obtain ⟨L, hL⟩ : ∃ L, (prs (lead ((ℓ : Int) - 1 - 2) D)).length = L + 1 := ⟨(prs (lead ((ℓ : Int) - 1 - 2) D)).length - 1, by rw [hPl, hll]; split <;> omega⟩
  rw [hL] at hPl
  refine ⟨_, L, rfl, hPd, hL, ?_, ?_, ?_, ?_, hval, hD, ?_, by omega, h11, h3⟩
  · split at hll <;> omega
  · split at hll <;> omega
  · split at hll <;> omega
  · have ht := val_tk (P := prs (lead ((ℓ : Int) - 1 - 2) D)) (k := L) (by omega)
    rw [List.take_of_length_le (by omega), hval] at ht
    have hb := hPd ((prs (lead ((ℓ : Int) - 1 - 2) D)).getD L 0) (by rw [List.getD_eq_getElem?_getD, List.getElem?_eq_getElem (by omega)]; exact List.getElem_mem _)
    omega
  · omega

theorem sizeOf (n : Int) (hn : -1000000000 < n ∧ n < 1000000000) (w : World) :
    Calls Tryd.prog 44 #[.int .i64 n] w fun e w' => e = .returned (.int .u64 (n.natAbs : Nat)) ∧ w' = w := by
  by_cases h : n < 0
  · obtain ⟨u, rfl⟩ : ∃ u : Nat, n = -(u : Int) := ⟨n.natAbs, by omega⟩
    have hwr : IntKind.u64.wrap (-IntKind.u64.wrap (-(u : Int))) = (u : Int) := by rw [IntKind.wrap_u64, IntKind.wrap_u64]; omega
    have hwr2 : IntKind.u64.wrap (0 - IntKind.u64.wrap (-(u : Int))) = (u : Int) := by rw [IntKind.wrap_u64, IntKind.wrap_u64]; omega
    have e : (-(u : Int)).natAbs = u := by omega
    rw [e]
    clear e
    go_enter Tryd.func44, Tryd.ntmps44
    go_wp2
    go_ret
    exact ⟨rfl, rfl⟩
  · obtain ⟨u, rfl⟩ := Int.eq_ofNat_of_zero_le (show 0 ≤ n by omega)
    have e : ((u : Int)).natAbs = u := by omega
    rw [e]
    clear e
    go_enter Tryd.func44, Tryd.ntmps44
    go_wp2
    go_ret
    exact ⟨rfl, rfl⟩

set_option maxRecDepth 100000 in
set_option maxHeartbeats 1000000 in
theorem law_cut (x p : Int) (hp : 0 ≤ p ∧ p < 256) (w : World) (ht : Tab10 w) :
    Calls Tryd.prog 13 #[.int .i64 x, .int .u8 p] w fun e w' => e = .returned (.bool true) ∧ Gr w w' := by
  have hr1 := Int.lt_tmod_of_pos x (show (0 : Int) < 1000000000 by omega)
  have hr2 := Int.tmod_lt_of_pos x (show (0 : Int) < 1000000000 by omega)
  obtain ⟨n, hn⟩ : ∃ n, x.tmod 1000000000 = n := ⟨_, rfl⟩
  rw [hn] at hr1 hr2
  have HA := fun w ht => Lib.hid (awake w ht)
  have HS := fun w => Lib.hid (sizeOf n (by omega) w)
  obtain ⟨u, hu⟩ : ∃ u, n.natAbs = u := ⟨_, rfl⟩
  rw [hu] at HS
  obtain ⟨q, hq⟩ : ∃ q : Int, p % 99 = q := ⟨_, rfl⟩
  have q0 : 0 ≤ q := by omega
  have q1 : q ≤ 98 := by omega
  obtain ⟨N, hN⟩ : ∃ N : Nat, (N : Int) = (u : Int) * 100 + q + 1 := ⟨((u : Int) * 100 + q + 1).toNat, by omega⟩
  obtain ⟨a, ha⟩ : ∃ a : Int, (u : Int) * 100 = a := ⟨_, rfl⟩
  obtain ⟨b, hb⟩ : ∃ b : Int, a + q = b := ⟨_, rfl⟩
  have hc : b + 1 = (N : Int) := by omega
  have hNlt : N < 100000000000 := by omega
  have HD := fun w => Lib.hid (specDigits N (by omega) w)
  have a0 : 0 ≤ a := by omega
  have a1 : a < 18446744073709551615 := by omega
  have b0 : 0 ≤ b := by omega
  have b1 : b < 18446744073709551615 := by omega
  obtain ⟨p0, p1⟩ := hp
  by_cases h0 : n = 0
  · obtain ⟨z, hz⟩ : ∃ z : Int, ((dgs N).length : Int) - 1 = z := ⟨_, rfl⟩
    rw [hz] at HD
    rw [h0] at hn HS
    clear hz hu hN h0 hr1 hr2
    go_enter Tryd.func13, Tryd.ntmps13
    go_wp2_with (first
      | (go_at_call 44; with_reducible refine (HS _).out.mono ?_; rintro e w1 ⟨rfl, rfl⟩)
      | (go_at_call 24; with_reducible refine (HD _).out.mono ?_; rintro e w2 ⟨v2, rfl, ho2, hg2⟩)
      | (go_at_call 18; with_reducible refine (HA _ (ht.gr hg2)).out.mono ?_; rintro e w3 ⟨rfl, hg3⟩))
    go_ret
    exact ⟨rfl, hg2.trans hg3⟩
  · obtain ⟨P, L, hP, hPd, hPl, hL1, hL5, hpow, hvt, hv, hdd, hd1, hd11, hN11, hN3⟩ := cut_plain u (q.toNat + 1) N (by omega) (by omega) (by omega)
    obtain ⟨d, hd⟩ : ∃ d, strip0 (dgs N) = d := ⟨_, rfl⟩
    obtain ⟨z, hz⟩ : ∃ z : Int, ((dgs N).length : Int) - 1 = z := ⟨_, rfl⟩
    rw [hd, hz] at HD
    rw [hd] at hP hdd hd1 hd11
    rw [hz] at hP hpow
    have hz0 : 2 ≤ z ∧ z ≤ 10 := by omega
    obtain ⟨y, hy⟩ : ∃ y : Int, z - 2 = y := ⟨_, rfl⟩
    rw [hy] at hP hpow
    have hy0 : 0 ≤ y ∧ y ≤ 8 := by omega
    obtain ⟨z1, z2⟩ := hz0
    have HNZ := (show (n == 0) = false by rw [beq_eq_false_iff_ne]; exact h0)
    by_cases hneg : n < 0
    · have e1 : sform true d y = (63 - (L : Int)) :: (P.map (digB true) ++ [102]) := by unfold sform; rw [if_pos rfl, hP, hpow]; congr 1; omega
      have HB := fun v w h => Lib.hid (specBytes v d true y w h hdd (by omega) (by omega))
      have HT := fun v w (h : Rd w v (sform true d y)) => (by rw [e1] at h; have := toI64c_neg P L hPl hL1 (by omega) hPd v w h; rw [hvt, wrap_in _ (by omega), show -(u : Int) = n by omega] at this; exact this : Calls Tryd.prog 99 #[v] w fun e w' => e = .returned (.tuple #[.int .i64 n, .nilIface]) ∧ w' = w)
      have HI := fun v w h => Lib.hid (toIntC (sform true d y) n _ _ e1 (by omega) (by omega) (by omega) (by rw [e1]; simp; omega) (by omega) (by omega) HT v w h)
      have HC := fun v w h => Lib.hid (clone v (sform true d y) w h (by rw [e1]; simp; omega))
      generalize sform true d y = S at *
      clear hP hPd hPl hL1 hL5 hpow hvt hv hdd hd1 hd11 hN11 hN3 hd hz hy0 e1 HT hu hN h0
      go_enter Tryd.func13, Tryd.ntmps13
      go_wp2_with (first
        | (go_at_call 44; with_reducible refine (HS _).out.mono ?_; rintro e w1 ⟨rfl, rfl⟩)
        | (go_at_call 24; with_reducible refine (HD _).out.mono ?_; rintro e w2 ⟨v2, rfl, ho2, hg2⟩)
        | (go_at_call 23; with_reducible refine (HB v2 w2 ho2.rd).out.mono ?_; rintro e w3 ⟨v3, rfl, ho3, hg3⟩)
        | (go_at_call 35; with_reducible refine (HC v3 w3 ho3.rd).out.mono ?_; rintro e w4 ⟨v4, rfl, ho4, hg4⟩)
        | (go_at_call 36; with_reducible refine (HI v4 w4 ho4.rd).out.mono ?_; rintro e w5 ⟨rfl, hg5⟩)
        | (go_at_call 18; with_reducible refine (HA _ (ht.gr (((hg2.trans hg3).trans hg4).trans hg5))).out.mono ?_; rintro e w6 ⟨rfl, hg6⟩))
      go_ret
      exact ⟨rfl, (((hg2.trans hg3).trans hg4).trans hg5).trans hg6⟩
    · have hdn : decide (n < 0) = false := by rw [decide_eq_false_iff_not]; exact hneg
      have e1 : sform false d y = ((L : Int) + 192) :: P.map (digB false) := by unfold sform; rw [if_neg (by simp), hP, hpow]; congr 1; omega
      have HB := fun v w h => Lib.hid (specBytes v d false y w h hdd (by omega) (by omega))
      have HT := fun v w (h : Rd w v (sform false d y)) => (by rw [e1] at h; have := toI64c_pos P L hPl hL1 (by omega) hPd v w h; rw [hvt, wrap_in _ (by omega), show (u : Int) = n by omega] at this; exact this : Calls Tryd.prog 99 #[v] w fun e w' => e = .returned (.tuple #[.int .i64 n, .nilIface]) ∧ w' = w)
      have HU := fun v w (h : Rd w v (sform false d y)) => (by rw [e1] at h; have := toU64c P L hPl hL1 (by omega) hPd v w (by rw [hv]; omega) h; rw [hvt] at this; exact this : Calls Tryd.prog 101 #[v] w fun e w' => e = .returned (.tuple #[.int .u64 (u : Int), .nilIface]) ∧ w' = w)
      have HI := fun v w h => Lib.hid (toIntC (sform false d y) n _ _ e1 (by omega) (by omega) (by omega) (by rw [e1]; simp; omega) (by omega) (by omega) HT v w h)
      have HJ := fun v w h => Lib.hid (toUintC (sform false d y) (u : Int) _ _ e1 (by omega) (by rw [e1]; simp; omega) (by omega) HU v w h)
      have HC := fun v w h => Lib.hid (clone v (sform false d y) w h (by rw [e1]; simp; omega))
      have HC2 := fun v w h => Lib.hid (clone v (sform false d y) w h (by rw [e1]; simp; omega))
      generalize sform false d y = S at *
      clear hP hPd hPl hL1 hL5 hpow hvt hv hdd hd1 hd11 hN11 hN3 hd hz hy0 e1 HT HU hu hN h0
      go_enter Tryd.func13, Tryd.ntmps13
      go_wp2_with (first
        | (go_at_call 44; with_reducible refine (HS _).out.mono ?_; rintro e w1 ⟨rfl, rfl⟩)
        | (go_at_call 24; with_reducible refine (HD _).out.mono ?_; rintro e w2 ⟨v2, rfl, ho2, hg2⟩)
        | (go_at_call 23; with_reducible refine (HB v2 w2 ho2.rd).out.mono ?_; rintro e w3 ⟨v3, rfl, ho3, hg3⟩)
        | (go_at_call 35; with_reducible refine (HC v3 w3 ho3.rd).out.mono ?_; rintro e w4 ⟨v4, rfl, ho4, hg4⟩; clear HC)
        | (go_at_call 36; with_reducible refine (HI v4 w4 ho4.rd).out.mono ?_; rintro e w5 ⟨rfl, hg5⟩)
        | (go_at_call 35; with_reducible refine (HC2 v3 w5 (ho3.rd.gr (hg4.trans hg5))).out.mono ?_; rintro e w6 ⟨v6, rfl, ho6, hg6⟩)
        | (go_at_call 45; with_reducible refine (HJ v6 w6 ho6.rd).out.mono ?_; rintro e w7 ⟨rfl, hg7⟩)
        | (go_at_call 18; with_reducible refine (HA _ (ht.gr (((((hg2.trans hg3).trans hg4).trans hg5).trans hg6).trans hg7))).out.mono ?_; rintro e w8 ⟨rfl, hg8⟩))
      go_ret
      exact ⟨rfl, (((((hg2.trans hg3).trans hg4).trans hg5).trans hg6).trans hg7).trans hg8⟩
end Go.Proofs.YthimnfdoeplebaaDoor
