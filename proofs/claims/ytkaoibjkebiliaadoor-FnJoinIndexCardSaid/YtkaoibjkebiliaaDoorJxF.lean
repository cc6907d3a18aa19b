/- FnJoinIndex: the walk of the law, where there are keys. -/
import Derived.Test.YtkaoibjkebiliaaDoorJxE
namespace Go.Proofs.YtkaoibjkebiliaaDoor
open Go Go.RowKit Go.Sort

set_option maxRecDepth 100000 in
set_option maxHeartbeats 4000000 in
theorem lawIndexSome (vk va : Value) (ks qs : List Int) (w : World) (hk : Ri .i64 w vk ks) (ha : Ri .i64 w va qs) (ht : Tab10 w) (hk0 : 0 < ks.length) (hk40 : ks.length ≤ 40) (ha40 : qs.length ≤ 40) :
    Calls Tryd.prog 4 #[vk, va] w fun e w' => e = .returned (.bool true) ∧ Gr w w' := by
  have HT := Lib.hid ht
  have HK := Lib.hid hk
  have HA := Lib.hid ha
  have HAW := fun W (g : Gr w W) => Lib.hid (awake W (HT.out.gr g))
  have hkb := bound_i64 (xs := ks) (by obtain ⟨_, _, _, _, _, _, h⟩ := hk; exact h)
  have hab := bound_i64 (xs := qs) (by obtain ⟨_, _, _, _, _, _, h⟩ := ha; exact h)
  have HKB := Lib.hid hkb
  have HAB := Lib.hid hab
  have HK0 := Lib.hid hk0
  obtain ⟨p, c, rfl, hlc, hcm, hcells, _⟩ := hk
  obtain ⟨q, c2, rfl, hlc2, hcm2, hcells2, _⟩ := ha
  obtain ⟨n, hn⟩ : ∃ n, ks.length = n := ⟨_, rfl⟩
  obtain ⟨m, hm⟩ : ∃ m, qs.length = m := ⟨_, rfl⟩
  obtain ⟨b, o, rfl, hc⟩ := hcells hk0
  have HC := Lib.hid hc
  have HC2 := Lib.hid hcells2
  have HN := Lib.hid hn
  have HM := Lib.hid hm
  have HCL := fun W (g : Gr w W) => Lib.hid (cloneI _ ks W (HK.out.gr g) hk0 (by omega))
  obtain ⟨S, hS⟩ : ∃ S, (ks.mergeSort fun x y => decide (x ≤ y)) = S := ⟨_, rfl⟩
  obtain ⟨P, hP⟩ : ∃ P, Lib.compact S = P := ⟨_, rfl⟩
  have hSl : S.length = n := by rw [← hS]; simp [hn]
  have HSO := fun b c W h => Lib.hid (sortI b c ks W h (by omega))
  have HCO := fun b c W h hc => Lib.hid (compactI b c S W h (by omega) hc)
  rw [hS] at HSO
  rw [hP] at HCO
  rw [hSl] at HCO
  have HS := Lib.hid hS
  have HP := Lib.hid hP
  rw [hn] at HCL HSO hlc hk40
  rw [hm] at hlc2 ha40
  have hcm3 : c ≤ 9223372036854775807 := by simp only [maxLen] at hcm; omega
  have hcm4 : c2 ≤ 9223372036854775807 := by simp only [maxLen] at hcm2; omega
  rw [hn, hm]
  clear hn hm hc hcells hcells2 hkb hab hcm hcm2 ht hS hP hSl hk0 HK HA
  go_enter Tryd.func4, Tryd.ntmps4
  go_wp2_with (first
    | (go_at_call 15; go_must (refine (HCL _ (Gr.refl _)).out.mono ?_); rintro e w1 ⟨b1, c1, rfl, hc11, hc12, hb1, hr1, hg1⟩; clear HCL)
    | (go_at_call 16; go_must (refine (HSO b1 c1 w1 hr1).out.mono ?_); rintro e w2 ⟨rfl, hr2, hf2⟩; have hg2 := hf2.gr hg1 hb1; clear hr1 hf2 hg1 HSO)
    | (go_at_call 17; go_must (refine (HCO b1 c1 w2 hr2 hc11).out.mono ?_); rintro e w3 ⟨rfl, hr3, hf3⟩; have hg3 := hf3.gr hg2 hb1; clear hr2 hf3 hg2 HCO))
  have hPl : P.length ≤ 40 := by
    have : (Lib.compact S).length ≤ S.length := by
      unfold Lib.compact Lib.compactUpTo
      rw [List.length_map]
      exact Nat.le_trans (List.length_filter_le _ _) (by simp)
    rw [HP.out, ← HS.out, List.length_mergeSort, HN.out] at this
    omega
  have HPL := Lib.hid hPl
  have I0 : Hid (Ix w w3 b1 P (.slice none 0 0) #[]) := ⟨OwnR.nil _ _ _ _, fun x h => by simp at h, hr3, hg3⟩
  have HB1 := Lib.hid hb1
  clear hr3 hg3 hb1 hc11 hc12 hPl
  go_loopw [40, 6] (fun i ov wr => ∃ (j : Nat) (D : Array El), i = .int .i64 j ∧ j ≤ n ∧ Hid (D.toList.map El.n = ks.take j) ∧ Hid (Ix w wr b1 P ov D)) (fun i _ _ => ((n : Int) - intOf i).toNat)
  case atStart => exact ⟨0, #[], rfl, Nat.zero_le _, by show _ = _; simp, I0⟩
  case round =>
    obtain ⟨j, D, rfl, hj, HD, HI⟩ := hrel
    clear I0
    by_cases e : j < n
    · have hjl : j < ks.length := by rw [HN.out]; exact e
      have cx := HI.out.gr.cell (HC.out j hjl)
      have htk : ks.take (j + 1) = ks.take j ++ [ks.getD j 0] := by
        rw [List.take_succ_eq_append_getElem hjl, List.getD_eq_getElem?_getD, List.getElem?_eq_getElem hjl]
        rfl
      have hmem : ks.getD j 0 ∈ ks := by
        rw [List.getD_eq_getElem?_getD, List.getElem?_eq_getElem hjl]
        exact List.getElem_mem hjl
      have hbd := HKB.out _ hmem
      have HTK := Lib.hid htk
      obtain ⟨x, hx⟩ : ∃ x, ks.getD j 0 = x := ⟨_, rfl⟩
      rw [hx] at cx hbd HTK
      have HX := Lib.hid hbd
      have HNU := fun W (g : Gr w W) => Lib.hid (numberOf x hbd W (HT.out.gr g))
      obtain ⟨po, co, rfl, _⟩ := id HI.out.own.shape
      have hDl : (D.toList.map fun x => [x.v]).length = D.size := by simp
      rw [hDl] at HI ⊢
      have hDs : D.size = j := by
        have := congrArg List.length HD.out
        simp only [List.length_map, Array.length_toList, List.length_take] at this
        omega
      have HDS := Lib.hid hDs
      clear htk hmem hbd hjl hx hDl hDs
      go_wp2_with (first
        | (go_at_call 12; go_must (refine (HNU _ HI.out.gr).out.mono ?_); rintro e w5 ⟨v5, rfl, ho5, hg5⟩; obtain ⟨p5, n5, c5, e5⟩ : ∃ p n c, v5 = Value.slice p n c := (by obtain ⟨p, c, e, _⟩ := ho5.rd; exact ⟨p, _, c, e⟩); subst e5; have HO5 := Lib.hid (ho5.mono (Nat.zero_le _)); have HI5 := Lib.hid (HI.out.step hg5); clear ho5 hg5)
        | (at_builtin; go_must (refine wpList_append_row rfl _ _ rfl Tryd.underlying37 rowInfo rfl (by decide) (by decide) (B := w.heap.size) (cs := D.toList.map fun x => [x.v]) rfl (HI5.out.step ((Gr.refl _).alloc _)).own [[.slice p5 n5 c5]] (fun c hc => by rw [List.mem_singleton] at hc; subst hc; exact ⟨rfl, fun u hu => by rw [List.mem_singleton] at hu; subst hu; rfl⟩) ⟨w5.heap.size, 0, none⟩ 1 1 rfl rfl (cells_new rfl rfl) (by have := HDS.out; simp; omega) ((HI5.out.step ((Gr.refl _).alloc _)).gr.size) ?_); intro v6 w6 ho6 hg6; have HI6 := Lib.hid ((HI5.out.step ((Gr.refl _).alloc _)).grow (x := ⟨.slice p5 n5 c5, x⟩) ⟨HO5.out.gr ((Gr.refl _).alloc _), HX.out⟩ ho6 hg6); clear ho6 hg6))
      go_roundw
      case rel => exact ⟨j + 1, D.push ⟨.slice p5 n5 c5, x⟩, by go_num, by omega, (show _ = _ by rw [HTK.out, ← HD.out]; simp), HI6⟩
      case measure => simp [intOf]; omega
    · obtain rfl : n = j := by omega
      have et : ks.take n = ks := by rw [← HN.out, List.take_length]
      have hd := HD.out
      rw [et] at hd
      have hDs : D.size = n := by
        have := congrArg List.length hd
        simp only [List.length_map, Array.length_toList] at this
        have h2 := HN.out
        omega
      have hn0 : 0 < n := by have h2 := HN.out; have h3 := HK0.out; omega
      obtain ⟨b2, c3, rfl, hc31, hc32, hb2, hrow⟩ := HI.out.rowE (by omega)
      rw [hDs] at hc31
      have HSF := Lib.hid (indexSort b2 c3 n ks S D wr hrow HI.out.frm hd HS.out HN.out hn0 hk40)
      have HCF := fun E W (h : Idx wr W b2 S E) => Lib.hid (indexCompact b2 c3 n S P E wr W h (by rw [← HS.out, List.length_mergeSort]; exact HN.out) (by rw [← HS.out]; exact sort_le ks) HP.out hn0 hc31 hc32)
      rw [hDs]
      have HTY := Lib.hid hrow.blk
      have HB2 := Lib.hid hb2
      clear et hd hDs hrow hb2 hc31 hc32 HC hk40
      go_wp2_with (first
        | (go_at_call 18; go_must (refine HSF.out.mono ?_); rintro e w4 ⟨rfl, E1, h1⟩; have H1 := Lib.hid h1; clear h1 HSF)
        | (go_at_call 19; go_must (refine (HCF E1 w4 H1.out).out.mono ?_); rintro e w5 ⟨rfl, ⟨hp0, hps⟩, E2, h2⟩; have H2 := Lib.hid h2; have HPS := Lib.hid hps; have HP0 := Lib.hid hp0; clear h2 HCF hps hp0))
      have hty4 : ∃ cur, w4.heap[b2]? = some (.cells cur 26 (0, 0)) := H1.out.row.blk
      have HRI : Hid (RowI w5 b1 P) := (HI.out.row.fx H1.out.fx HTY.out).fx H2.out.fx hty4
      have HG5 : Hid (Gr w w5) := H2.out.fx.gr (H1.out.fx.gr HI.out.gr HB2.out) HB2.out
      clear HI HTY hty4
      go_loopw [61] (fun i wr => ∃ j : Nat, i = .int .i64 j ∧ j ≤ m ∧ Hid (Gr w5 wr)) (fun i _ => ((m : Int) - intOf i).toNat)
      case atStart => exact ⟨0, rfl, Nat.zero_le _, Gr.refl _⟩
      case round =>
        obtain ⟨j, rfl, hj, HGR⟩ := hrel
        by_cases e : j < m
        · have hjl : j < qs.length := by rw [HM.out]; exact e
          obtain ⟨b3, o3, rfl, hc3⟩ := HC2.out (by omega)
          have cx := (HG5.out.trans HGR.out).cell (hc3 j hjl)
          have hbd := HAB.out (qs.getD j 0) (by
            rw [List.getD_eq_getElem?_getD, List.getElem?_eq_getElem hjl]
            exact List.getElem_mem hjl)
          generalize qs.getD j 0 = x at cx hbd
          have HNU := fun W (g : Gr w W) => Lib.hid (numberOf x hbd W (HT.out.gr g))
          have HSE := fun tv W (g : Gr w5 W) ho => Lib.hid (indexSearch b2 c3 P E2 tv x w4 w5 H2.out W g HPS.out HP0.out (by have := HPL.out; omega) ho hbd)
          have HSI := fun W (g : Gr w5 W) => Lib.hid (searchI b1 c1 P x W (HRI.out.gr g) (by have := HPL.out; omega) HPS.out)
          generalize P.countP (fun y => decide (y < x)) = cnt at *
          generalize P.contains x = fnd at *
          clear hc3 hjl hbd
          go_wp2_with (first
            | (go_at_call 12; go_must (refine (HNU _ (HG5.out.trans HGR.out)).out.mono ?_); rintro e w6 ⟨v6, rfl, ho6, hg6⟩; have HO6 := Lib.hid (ho6.mono (Nat.zero_le _)); have HG6 := Lib.hid (HGR.out.trans hg6); clear ho6 hg6)
            | (go_at_call 21; go_must (refine (HSE v6 w6 HG6.out HO6.out).out.mono ?_); rintro e w7 ⟨rfl, hg7⟩; have HG7 := Lib.hid (HG6.out.trans hg7); clear hg7)
            | (go_at_call 22; go_must (refine (HSI w7 HG7.out).out.mono ?_); rintro e w8 ⟨rfl, hg8⟩; have HG8 := Lib.hid (HG7.out.trans hg8); clear hg8))
          go_roundw
          case rel => exact ⟨j + 1, by go_num, by omega, HG8⟩
          case measure => simp [intOf]; omega
        · obtain rfl : m = j := by omega
          go_wp2_with (first
            | (go_at_call 7; go_must (refine (HAW _ (HG5.out.trans HGR.out)).out.mono ?_); rintro e w9 ⟨rfl, hg9⟩))
          go_ret
          exact ⟨rfl, (HG5.out.trans HGR.out).trans hg9⟩
end Go.Proofs.YtkaoibjkebiliaaDoor
