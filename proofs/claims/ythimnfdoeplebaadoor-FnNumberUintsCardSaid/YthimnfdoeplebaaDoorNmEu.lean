/- EncodeUint64. -/
import Derived.Test.YthimnfdoeplebaaDoorNmFu
namespace Go.Proofs.YthimnfdoeplebaaDoor
open Go Go.RowKit

theorem letters_le20 (u : Nat) (h : u ≤ 18446744073709551615) : (letters u).length ≤ 20 := by
  rw [letters_length]; exact nDig_le 19 u (by omega)

theorem toNumber20 (b o m c : Nat) (ms : List Int) (D : Nat) (w : World) (h : RdAt w b o ms) (hn : ms.length = m) (h1 : 1 ≤ m) (h2 : m ≤ D) (hD : D ≤ 20) (hc : m ≤ c) (hm : c ≤ maxLen) (hd : Dig ms) :
    Calls Tryd.prog 69 #[.slice (some ⟨b, o, none⟩) m c, .bool false, .int .i64 ((D : Int) - 1)] w fun e' w' => ∃ u, e' = .returned u ∧ Own w.heap.size w' u (numForm false ms ((D : Int) - 1)) ∧ Gr w w' := by
  by_cases hm19 : m ≤ 19
  · exact toNumber b o m c ms false _ w h hn h1 hm19 hc hm hd (by omega)
  · unfold numForm mant
    rw [if_neg (show ¬ ((D : Int) - 1) % 2 = 0 by omega), if_neg (by simp)]
    exact toNumber_odd_pos b o m c ms _ w h hn h1 (by omega) hd (by omega) (by omega)

set_option maxRecDepth 100000 in
set_option maxHeartbeats 2000000 in
theorem encode_u (u : Nat) (hu : u ≤ 18446744073709551615) (w : World) (ht : Tab10 w) :
    Calls Tryd.prog 53 #[.int .u64 (u : Int)] w fun e' w' => ∃ v, e' = .returned v ∧ Own w.heap.size w' v (intForm false u) ∧ Gr w w' := by
  have hf := fmtUint u (by omega) w ht
  have hD1 := letters_pos u
  have hD2 := letters_le20 u (by omega)
  have hdig := letters_dig u
  have hnl : nums (Lib.decDigits u) = letters u := rfl
  have hll : (Lib.decDigits u).length = (letters u).length := by simp [letters]
  have hneg := True.intro
  unfold intForm
  obtain ⟨L, hL⟩ : ∃ L, Lib.decDigits u = L := ⟨_, rfl⟩
  rw [hL] at hf
  have hnL : nums L = letters u := by rw [← hL]; rfl
  have hlL : L.length = (letters u).length := by rw [← hL]; simp [hll]
  generalize letters u = ds at *
  obtain ⟨D, hD⟩ : ∃ D, ds.length = D := ⟨_, rfl⟩
  rw [hD] at hD1 hD2 hlL ⊢
  obtain ⟨F, hFe⟩ : ∃ F, (if strip ds = [] then [128] else numForm false (strip ds) ((D : Int) - 1)) = F := ⟨_, rfl⟩
  have hF1 : strip ds = [] → F = [128] := fun e => by rw [← hFe, if_pos e]
  have hF2 : strip ds ≠ [] → F = numForm false (strip ds) ((D : Int) - 1) := fun e => by rw [← hFe, if_neg e]
  rw [hFe]
  have HF1 := Lib.hid hF1
  have HF2 := Lib.hid hF2
  clear hFe hF1 hF2
  have HF := Lib.hid hf
  have HNL := Lib.hid hnL
  have HD := Lib.hid hD
  have HDG := Lib.hid hdig
  have HUU := Lib.hid hu
  have HLL := Lib.hid hlL
  clear hf hnL hD hdig hL hnl hll hneg hu hlL
  go_enter Tryd.func53, Tryd.ntmps53
  go_wp2_with (first | (go_at_call 72; refine HF.out.mono ?_; rintro e w1 ⟨rfl, hg1⟩; obtain ⟨c, W2, hcv, hr, hg2, hc1, hc2⟩ := bytes_of_str L w1 (by rw [HLL.out]; simp only [maxLen]; omega); rw [show (⟨L.toArray⟩ : ByteArray) = bs L from rfl, HLL.out] at hcv; rw [HLL.out] at hc1; have hcm : c ≤ 9223372036854775807 := (by simp only [maxLen] at hc2; omega); rw [HNL.out] at hr; obtain ⟨b, hb⟩ : ∃ b, w1.heap.size = b := ⟨_, rfl⟩; rw [hb] at hcv hr; have k0 := hr.cell 0 (by rw [HD.out]; omega); rw [Nat.add_zero] at k0; obtain ⟨hx0, hx1⟩ := HDG.out.getD 0 (by rw [HD.out]; omega); generalize ds.getD 0 0 = x0 at k0 hx0 hx1; have hG : Gr w W2 := hg1.trans hg2; have HRR := Lib.hid hr; have HG := Lib.hid hG; clear hr hG hb))
  have hds : RdAt W2 b 0 ds := HRR.out
  go_loopw [5, 6] (fun a i wr => ∃ k : Nat, a = .int .i64 k ∧ i = .int .i64 ((D : Int) - 1 - k) ∧ Tail ds k ∧ wr = W2) (fun _ i _ => (intOf i + 1).toNat)
  case atStart => exact ⟨0, rfl, by simp, tail_zero _, rfl⟩
  case round =>
    obtain ⟨k, rfl, rfl, hT, rfl⟩ := hrel
    have hkD : k ≤ D := by have := hT.1; rw [HD.out] at this; exact this
    have HT := Lib.hid hT
    clear hT
    by_cases hk : k < D
    · obtain ⟨j, hj⟩ : ∃ j : Nat, (D : Int) - 1 - (k : Int) = (j : Int) := ⟨D - 1 - k, by omega⟩
      have hjD : j < D := by omega
      have ck := hds.cell j (by rw [HD.out]; exact hjD)
      rw [Nat.zero_add] at ck
      have hjn : D - 1 - k = j := by omega
      rw [hj]
      by_cases hx : ds.getD j 0 = 48
      · rw [hx] at ck
        have hT2 : Tail ds (k + 1) := tail_step HT.out (by rw [HD.out]; exact hk) (by rw [HD.out, hjn]; exact hx)
        have HT2 := Lib.hid hT2
        have HJ := Lib.hid hj
        clear hT2 hj hjn hx
        go_wp2
        go_roundw
        case rel => exact ⟨k + 1, by go_num, by have := HJ.out; congr 1; omega, HT2.out, by first | rfl | trivial⟩
        case measure => first | (simp [intOf]; done) | (simp [intOf]; omega)
      · have hst := tail_strip HT.out (.inr (by rw [HD.out, hjn]; exact hx))
        rw [HD.out] at hst
        have hdx := HDG.out.getD j (by rw [HD.out]; exact hjD)
        obtain ⟨m, hm⟩ : ∃ m : Nat, (D : Int) - (k : Int) = (m : Int) := ⟨D - k, by omega⟩
        have hmn : D - k = m := by omega
        rw [hmn] at hst
        have hml : (ds.take m).length = m := by rw [List.length_take, HD.out]; omega
        have hm1 : 1 ≤ m := by omega
        have hmD : m ≤ D := by omega
        have hne : ¬ strip ds = [] := by rw [← hst]; intro e; rw [e] at hml; simp at hml; omega
        have hFF := HF2.out hne
        rw [← hst] at hFF
        have HFF := Lib.hid hFF
        generalize ds.getD j 0 = x at *
        have hTN := toNumber20 b 0 m c (ds.take m) D wr (hds.take m) hml (by omega) (by omega) (by omega) (by omega) (by simp only [maxLen] at hc2 ⊢; omega) (fun y hy => HDG.out y (List.mem_of_mem_take hy))
        have HTN := Lib.hid hTN
        have im0 : (0 : Int) ≤ (m : Nat) := by omega
        have im1 : ((m : Nat) : Int) ≤ (c : Int) := by omega
        clear hst hmn hml hjn hne hTN hFF
        go_wp2_with (first | (go_at_call 69; go_must (refine HTN.out.mono ?_); rintro e w3 ⟨v3, rfl, ho3, hg3⟩))
        go_ret
        rw [HFF.out]
        exact ⟨_, rfl, ho3.mono HG.out.size, HG.out.trans hg3⟩
    · obtain rfl : k = D := by omega
      have hst := tail_strip HT.out (.inl HD.out.symm)
      rw [HD.out, Nat.sub_self, List.take_zero] at hst
      have HFF := Lib.hid (HF1.out hst.symm)
      have hTN := toNumber_nil (some ⟨b, 0, none⟩) c false ((k : Int) - 1) wr
      have HTN := Lib.hid hTN
      have HST := Lib.hid hst
      have hz : (k : Int) - 1 - (k : Int) = -1 := by omega
      clear hst hTN
      go_wp2_with (first | (go_at_call 69; go_must (refine HTN.out.mono ?_); rintro e w3 ⟨v3, rfl, ho3, hg3⟩))
      go_ret
      rw [HFF.out]
      exact ⟨_, rfl, ho3.mono HG.out.size, HG.out.trans hg3⟩

theorem numberOf_u (u : Nat) (hu : u ≤ 18446744073709551615) (w : World) (ht : Tab10 w) :
    Calls Tryd.prog 26 #[.int .u64 u] w fun e' w' => ∃ v, e' = .returned v ∧ Own w.heap.size w' v (intForm false u) ∧ Gr w w' := by
  have H := Lib.hid (encode_u u hu w ht)
  go_enter Tryd.func26, Tryd.ntmps26
  go_wp2_with (first | (go_at_call 53; refine H.out.mono ?_; rintro e w1 ⟨v, rfl, ho, hg⟩))
  go_ret
  exact ⟨_, rfl, ho, hg⟩

/-- The order of the forms of numbers without a sign. -/
theorem forms_u (u : Nat) (h : 1 ≤ u) : ∃ (P : List Int) (j : Nat), intForm false u = (((d100 u).length : Int) + 192) :: P.map (digB false) ∧ d100 u = ext P j ∧ P ≠ [] ∧ Ends P ∧ D100 P := by
  obtain ⟨P, j, hP, hd, hne, hl⟩ := form_digits u h
  have hpos := letters_pos u
  refine ⟨P, j, ?_, hd, hne, .inr hl, fun x hx => (d100_val u).2 x (by rw [hd]; simp [hx])⟩
  unfold intForm numForm
  rw [if_neg (strip_ne h), hP, if_neg (by simp), List.append_nil, d100_length]
  congr 1
  simp [headB]; omega
theorem order_u (u v : Nat) : cmpI (intForm false u) (intForm false v) = sgn u v := by
  rcases Nat.eq_zero_or_pos u with rfl | hu <;> rcases Nat.eq_zero_or_pos v with rfl | hv
  · rw [form_zero]; simp [cmpI, sgn]
  · obtain ⟨Q, k, e2, _⟩ := forms_u v hv
    rw [form_zero, e2, cmp_head _ _ (by omega)]; unfold sgn; rw [if_pos (by omega), if_pos (by omega)]
  · obtain ⟨Q, k, e2, _⟩ := forms_u u hu
    rw [form_zero, e2, cmp_head _ _ (by omega)]; unfold sgn; rw [if_neg (by omega), if_pos (by omega), if_neg (by omega), if_pos (by omega)]
  · obtain ⟨P, j, e1, d1, n1, q1, c1⟩ := forms_u u hu
    obtain ⟨Q, k, e2, d2, n2, q2, c2⟩ := forms_u v hv
    have v1 := (d100_val u).1
    have v2 := (d100_val v).1
    rw [e1, e2]
    by_cases hl : (d100 u).length = (d100 v).length
    · rw [hl, cmp_same, cmp_pos P Q j k c1 c2 q1 q2 (by rw [d1, d2, ext_length, ext_length] at hl; exact hl), ← d1, ← d2, v1, v2]
    · rw [cmp_head _ _ (by omega)]
      by_cases h1 : (d100 u).length < (d100 v).length
      · have := len_lt hv h1
        unfold sgn; rw [if_pos (by omega), if_pos (by omega)]
      · have := len_lt hu (show (d100 v).length < (d100 u).length by omega)
        unfold sgn; rw [if_neg (by omega), if_pos (by omega), if_neg (by omega), if_pos (by omega)]
end Go.Proofs.YthimnfdoeplebaaDoor
