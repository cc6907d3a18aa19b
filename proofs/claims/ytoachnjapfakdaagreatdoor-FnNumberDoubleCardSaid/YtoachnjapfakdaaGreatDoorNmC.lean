/- EncodeInt64: its own walk. -/
import Derived.Test.YtoachnjapfakdaaGreatDoorNmB
import Derived.Test.YtoachnjapfakdaaGreatDoorStrB
namespace Go.Proofs.YtoachnjapfakdaaGreatDoor
open Go Go.RowKit

theorem nDig_le : ∀ (k u : Nat), u < 10 ^ (k + 1) → Lib.nDigits u ≤ k + 1
  | 0, u, h => by rw [Lib.nDigits_small (by simpa using h)]; omega
  | k + 1, u, h => by
    by_cases h1 : u < 10
    · rw [Lib.nDigits_small h1]; omega
    · rw [Lib.nDigits_big h1]
      have := nDig_le k (u / 10) (by rw [Nat.pow_succ] at h; omega)
      omega
theorem letters_le (u : Nat) (h : u ≤ 9223372036854775808) : (letters u).length ≤ 19 := by
  rw [letters_length]; exact nDig_le 18 u (by omega)

/-- The form of an integer that is u, or -u. -/
def intForm (neg : Bool) (u : Nat) : List Int := if strip (letters u) = [] then [128] else numForm neg (strip (letters u)) (((letters u).length : Int) - 1)

set_option maxRecDepth 100000 in
set_option maxHeartbeats 2000000 in
theorem encode_pos (u : Nat) (hu : u ≤ 9223372036854775807) (w : World) (ht : Tab10 w) :
    Calls Tryz.prog 30 #[.int .i64 (u : Int)] w fun e' w' => ∃ v, e' = .returned v ∧ Own w.heap.size w' v (intForm false u) ∧ Gr w w' := by
  have hf := fmtInt (u : Int) (by omega) (by omega) w ht
  rw [Lib.itoa_nonneg] at hf
  have hD1 := letters_pos u
  have hD2 := letters_le u (by omega)
  have hdig := letters_dig u
  have hnl : nums (Lib.decDigits u) = letters u := rfl
  have hll : (Lib.decDigits u).length = (letters u).length := by simp [letters]
  have hneg : ((-(u : Int)) < 0) = True ∨ True := .inr trivial
  unfold intForm
  obtain ⟨L, hL⟩ : ∃ L, Lib.decDigits u = L := ⟨_, rfl⟩
  rw [hL] at hf
  have hnL : nums L = letters u := by rw [← hL]; rfl
  have hlL : L.length = (letters u).length := by rw [← hL]; simp [hll]
  generalize letters u = ds at *
  obtain ⟨D, hD⟩ : ∃ D, ds.length = D := ⟨_, rfl⟩
  rw [hD] at hD1 hD2 hlL ⊢
  obtain ⟨F, hFe⟩ : ∃ F, (if strip ds = [] then [128] else numForm false (strip ds) ((D : Int) - 1)) = F := ⟨_, rfl⟩
  have hF1 : strip ds = [] → F = [128] := fun e => by rw [← hFe, if_pos e]
  have hF2 : strip ds ≠ [] → F = numForm false (strip ds) ((D : Int) - 1) := fun e => by rw [← hFe, if_neg e]
  rw [hFe]
  have HF1 := Lib.hid hF1
  have HF2 := Lib.hid hF2
  clear hFe hF1 hF2
  have HF := Lib.hid hf
  have HNL := Lib.hid hnL
  have HD := Lib.hid hD
  have HDG := Lib.hid hdig
  have HUU := Lib.hid hu
  have HLL := Lib.hid hlL
  clear hf hnL hD hdig hL hnl hll hneg hu hlL
  go_enter Tryz.func30, Tryz.ntmps30
  go_wp2_with (first | (go_at_call 38; refine HF.out.mono ?_; rintro e w1 ⟨rfl, hg1⟩; obtain ⟨c, W2, hcv, hr, hg2, hc1, hc2⟩ := bytes_of_str L w1 (by rw [HLL.out]; simp only [maxLen]; omega); rw [show (⟨L.toArray⟩ : ByteArray) = bs L from rfl, HLL.out] at hcv; rw [HLL.out] at hc1; have hcm : c ≤ 9223372036854775807 := (by simp only [maxLen] at hc2; omega); rw [HNL.out] at hr; obtain ⟨b, hb⟩ : ∃ b, w1.heap.size = b := ⟨_, rfl⟩; rw [hb] at hcv hr; have k0 := hr.cell 0 (by rw [HD.out]; omega); rw [Nat.add_zero] at k0; obtain ⟨hx0, hx1⟩ := HDG.out.getD 0 (by rw [HD.out]; omega); generalize ds.getD 0 0 = x0 at k0 hx0 hx1; have hG : Gr w W2 := hg1.trans hg2; have HRR := Lib.hid hr; have HG := Lib.hid hG; clear hr hG hb))
  have hds : RdAt W2 b 0 ds := HRR.out
  go_loopw [6, 7] (fun a i wr => ∃ k : Nat, a = .int .i64 k ∧ i = .int .i64 ((D : Int) - 1 - k) ∧ Tail ds k ∧ wr = W2) (fun _ i _ => (intOf i + 1).toNat)
  case atStart => exact ⟨0, rfl, by simp, tail_zero _, rfl⟩
  case round =>
    obtain ⟨k, rfl, rfl, hT, rfl⟩ := hrel
    have hkD : k ≤ D := by have := hT.1; rw [HD.out] at this; exact this
    have HT := Lib.hid hT
    clear hT
    by_cases hk : k < D
    · obtain ⟨j, hj⟩ : ∃ j : Nat, (D : Int) - 1 - (k : Int) = (j : Int) := ⟨D - 1 - k, by omega⟩
      have hjD : j < D := by omega
      have ck := hds.cell j (by rw [HD.out]; exact hjD)
      rw [Nat.zero_add] at ck
      have hjn : D - 1 - k = j := by omega
      rw [hj]
      by_cases hx : ds.getD j 0 = 48
      · rw [hx] at ck
        have hT2 : Tail ds (k + 1) := tail_step HT.out (by rw [HD.out]; exact hk) (by rw [HD.out, hjn]; exact hx)
        have HT2 := Lib.hid hT2
        have HJ := Lib.hid hj
        clear hT2 hj hjn hx
        go_wp2
        go_roundw
        case rel => exact ⟨k + 1, by go_num, by have := HJ.out; congr 1; omega, HT2.out, by first | rfl | trivial⟩
        case measure => first | (simp [intOf]; done) | (simp [intOf]; omega)
      · have hst := tail_strip HT.out (.inr (by rw [HD.out, hjn]; exact hx))
        rw [HD.out] at hst
        have hdx := HDG.out.getD j (by rw [HD.out]; exact hjD)
        obtain ⟨m, hm⟩ : ∃ m : Nat, (D : Int) - (k : Int) = (m : Int) := ⟨D - k, by omega⟩
        have hmn : D - k = m := by omega
        rw [hmn] at hst
        have hml : (ds.take m).length = m := by rw [List.length_take, HD.out]; omega
        have hm1 : 1 ≤ m := by omega
        have hmD : m ≤ D := by omega
        have hne : ¬ strip ds = [] := by rw [← hst]; intro e; rw [e] at hml; simp at hml; omega
        have hFF := HF2.out hne
        rw [← hst] at hFF
        have HFF := Lib.hid hFF
        generalize ds.getD j 0 = x at *
        have hTN := toNumber b 0 m c (ds.take m) false ((D : Int) - 1) wr (hds.take m) hml (by omega) (by omega) (by omega) (by simp only [maxLen] at hc2 ⊢; omega) (fun y hy => HDG.out y (List.mem_of_mem_take hy)) (by omega)
        have HTN := Lib.hid hTN
        have im0 : (0 : Int) ≤ (m : Nat) := by omega
        have im1 : ((m : Nat) : Int) ≤ (c : Int) := by omega
        clear hst hmn hml hjn hne hTN hFF
        go_wp2_with (first | (go_at_call 23; go_must (refine HTN.out.mono ?_); rintro e w3 ⟨v3, rfl, ho3, hg3⟩))
        go_ret
        rw [HFF.out]
        exact ⟨_, rfl, ho3.mono HG.out.size, HG.out.trans hg3⟩
    · obtain rfl : k = D := by omega
      have hst := tail_strip HT.out (.inl HD.out.symm)
      rw [HD.out, Nat.sub_self, List.take_zero] at hst
      have HFF := Lib.hid (HF1.out hst.symm)
      have hTN := toNumber_nil (some ⟨b, 0, none⟩) c false ((k : Int) - 1) wr
      have HTN := Lib.hid hTN
      have HST := Lib.hid hst
      have hz : (k : Int) - 1 - (k : Int) = -1 := by omega
      clear hst hTN
      go_wp2_with (first | (go_at_call 23; go_must (refine HTN.out.mono ?_); rintro e w3 ⟨v3, rfl, ho3, hg3⟩))
      go_ret
      rw [HFF.out]
      exact ⟨_, rfl, ho3.mono HG.out.size, HG.out.trans hg3⟩

set_option maxRecDepth 100000 in
set_option maxHeartbeats 2000000 in
theorem encode_neg (u : Nat) (hu : 1 ≤ u ∧ u ≤ 9223372036854775808) (w : World) (ht : Tab10 w) :
    Calls Tryz.prog 30 #[.int .i64 (-(u : Int))] w fun e' w' => ∃ v, e' = .returned v ∧ Own w.heap.size w' v (intForm true u) ∧ Gr w w' := by
  have hf := fmtInt (-(u : Int)) (by omega) (by omega) w ht
  rw [Lib.itoa_neg u hu.1] at hf
  have hD1 := letters_pos u
  have hD2 := letters_le u (by omega)
  have hdig := letters_dig u
  have hnl : nums (Lib.decDigits u) = letters u := rfl
  have hll : (Lib.decDigits u).length = (letters u).length := by simp [letters]
  have hneg : ((-(u : Int)) < 0) = True ∨ True := .inr trivial
  unfold intForm
  obtain ⟨L, hL⟩ : ∃ L, 45 :: Lib.decDigits u = L := ⟨_, rfl⟩
  rw [hL] at hf
  have hnL : nums L = 45 :: letters u := by rw [← hL]; rfl
  have hlL : L.length = (letters u).length + 1 := by rw [← hL]; simp [hll]
  generalize letters u = ds at *
  obtain ⟨D, hD⟩ : ∃ D, ds.length = D := ⟨_, rfl⟩
  rw [hD] at hD1 hD2 hlL ⊢
  obtain ⟨F, hFe⟩ : ∃ F, (if strip ds = [] then [128] else numForm true (strip ds) ((D : Int) - 1)) = F := ⟨_, rfl⟩
  have hF1 : strip ds = [] → F = [128] := fun e => by rw [← hFe, if_pos e]
  have hF2 : strip ds ≠ [] → F = numForm true (strip ds) ((D : Int) - 1) := fun e => by rw [← hFe, if_neg e]
  rw [hFe]
  have HF1 := Lib.hid hF1
  have HF2 := Lib.hid hF2
  clear hFe hF1 hF2
  have HF := Lib.hid hf
  have HNL := Lib.hid hnL
  have HD := Lib.hid hD
  have HDG := Lib.hid hdig
  have HUU := Lib.hid hu
  have HLL := Lib.hid hlL
  clear hf hnL hD hdig hL hnl hll hneg hu hlL
  go_enter Tryz.func30, Tryz.ntmps30
  go_wp2_with (first | (go_at_call 38; refine HF.out.mono ?_; rintro e w1 ⟨rfl, hg1⟩; obtain ⟨c, W2, hcv, hr, hg2, hc1, hc2⟩ := bytes_of_str L w1 (by rw [HLL.out]; simp only [maxLen]; omega); rw [show (⟨L.toArray⟩ : ByteArray) = bs L from rfl, HLL.out] at hcv; rw [HLL.out] at hc1; have hcm : c ≤ 9223372036854775807 := (by simp only [maxLen] at hc2; omega); rw [HNL.out] at hr; obtain ⟨b, hb⟩ : ∃ b, w1.heap.size = b := ⟨_, rfl⟩; rw [hb] at hcv hr; have k0 := hr.cell 0 (by simp); rw [Nat.add_zero] at k0; rw [List.getD_cons_zero] at k0; have hG : Gr w W2 := hg1.trans hg2; have HRR := Lib.hid hr; have HG := Lib.hid hG; clear hr hG hb))
  have hds : RdAt W2 b 1 ds := by have := HRR.out.drop 1; simpa using this
  go_loopw [6, 7] (fun a i wr => ∃ k : Nat, a = .int .i64 k ∧ i = .int .i64 ((D : Int) - 1 - k) ∧ Tail ds k ∧ wr = W2) (fun _ i _ => (intOf i + 1).toNat)
  case atStart => exact ⟨0, rfl, by simp, tail_zero _, rfl⟩
  case round =>
    obtain ⟨k, rfl, rfl, hT, rfl⟩ := hrel
    have hkD : k ≤ D := by have := hT.1; rw [HD.out] at this; exact this
    have HT := Lib.hid hT
    clear hT
    by_cases hk : k < D
    · obtain ⟨j, hj⟩ : ∃ j : Nat, (D : Int) - 1 - (k : Int) = (j : Int) := ⟨D - 1 - k, by omega⟩
      have hjD : j < D := by omega
      have ck := hds.cell j (by rw [HD.out]; exact hjD)
      skip
      have hjn : D - 1 - k = j := by omega
      rw [hj]
      by_cases hx : ds.getD j 0 = 48
      · rw [hx] at ck
        have hT2 : Tail ds (k + 1) := tail_step HT.out (by rw [HD.out]; exact hk) (by rw [HD.out, hjn]; exact hx)
        have HT2 := Lib.hid hT2
        have HJ := Lib.hid hj
        clear hT2 hj hjn hx
        go_wp2
        go_roundw
        case rel => exact ⟨k + 1, by go_num, by have := HJ.out; congr 1; omega, HT2.out, by first | rfl | trivial⟩
        case measure => first | (simp [intOf]; done) | (simp [intOf]; omega)
      · have hst := tail_strip HT.out (.inr (by rw [HD.out, hjn]; exact hx))
        rw [HD.out] at hst
        have hdx := HDG.out.getD j (by rw [HD.out]; exact hjD)
        obtain ⟨m, hm⟩ : ∃ m : Nat, (D : Int) - (k : Int) = (m : Int) := ⟨D - k, by omega⟩
        have hmn : D - k = m := by omega
        rw [hmn] at hst
        have hml : (ds.take m).length = m := by rw [List.length_take, HD.out]; omega
        have hm1 : 1 ≤ m := by omega
        have hmD : m ≤ D := by omega
        have hne : ¬ strip ds = [] := by rw [← hst]; intro e; rw [e] at hml; simp at hml; omega
        have hFF := HF2.out hne
        rw [← hst] at hFF
        have HFF := Lib.hid hFF
        generalize ds.getD j 0 = x at *
        have hTN := toNumber b 1 m (c - 1) (ds.take m) true ((D : Int) - 1) wr (hds.take m) hml (by omega) (by omega) (by omega) (by simp only [maxLen] at hc2 ⊢; omega) (fun y hy => HDG.out y (List.mem_of_mem_take hy)) (by omega)
        have HTN := Lib.hid hTN
        have im0 : (0 : Int) ≤ (m : Nat) := by omega
        have im1 : ((m : Nat) : Int) ≤ ((c : Int) - 1) := by omega
        clear hst hmn hml hjn hne hTN hFF
        go_wp2_with (first | (go_at_call 23; go_must (refine HTN.out.mono ?_); rintro e w3 ⟨v3, rfl, ho3, hg3⟩))
        go_ret
        rw [HFF.out]
        exact ⟨_, rfl, ho3.mono HG.out.size, HG.out.trans hg3⟩
    · obtain rfl : k = D := by omega
      have hst := tail_strip HT.out (.inl HD.out.symm)
      rw [HD.out, Nat.sub_self, List.take_zero] at hst
      have HFF := Lib.hid (HF1.out hst.symm)
      have hTN := toNumber_nil (some ⟨b, 1, none⟩) (c - 1) true ((k : Int) - 1) wr
      have HTN := Lib.hid hTN
      have HST := Lib.hid hst
      have hz : (k : Int) - 1 - (k : Int) = -1 := by omega
      clear hst hTN
      go_wp2_with (first | (go_at_call 23; go_must (refine HTN.out.mono ?_); rintro e w3 ⟨v3, rfl, ho3, hg3⟩))
      go_ret
      rw [HFF.out]
      exact ⟨_, rfl, ho3.mono HG.out.size, HG.out.trans hg3⟩

end Go.Proofs.YtoachnjapfakdaaGreatDoor
