/- FnJoinIndex: the walk of the law, where there are no keys; the law. -/
import Derived.Test.YtkaoibjkebiliaaDoorJxF
import Derived.Shelf.SlSortCmp.NoneTotal
namespace Go.Proofs.YtkaoibjkebiliaaDoor
open Go Go.RowKit Go.Sort

set_option maxRecDepth 100000 in
set_option maxHeartbeats 4000000 in
theorem lawIndexNone (p : Option Addr) (c : Nat) (va : Value) (qs : List Int) (w : World) (ha : Ri .i64 w va qs) (ht : Tab10 w) (ha40 : qs.length ≤ 40) :
    Calls Tryd.prog 4 #[.slice p 0 c, va] w fun e w' => e = .returned (.bool true) ∧ Gr w w' := by
  have HT := Lib.hid ht
  have HAW := fun W (g : Gr w W) => Lib.hid (awake W (HT.out.gr g))
  have hab := bound_i64 (xs := qs) (by obtain ⟨_, _, _, _, _, _, h⟩ := ha; exact h)
  have HAB := Lib.hid hab
  obtain ⟨q, c2, rfl, hlc2, hcm2, hcells2, _⟩ := ha
  obtain ⟨m, hm⟩ : ∃ m, qs.length = m := ⟨_, rfl⟩
  have HC2 := Lib.hid hcells2
  have HM := Lib.hid hm
  rw [hm] at hlc2 ha40
  have hcm4 : c2 ≤ 9223372036854775807 := by simp only [maxLen] at hcm2; omega
  rw [hm]
  clear hm hcells2 hab hcm2 ht
  have HSN := fun p c W => Lib.hid (AnyM.slices_Sort_int_none Tryd.lSortI p c W)
  have HCN := fun p c W => Lib.hid (AnyG.slices_Compact_int_empty Tryd.lCompactI p c W)
  have HFN := fun p c fv W => Lib.hid (AnyF.slices_SortFunc_none (P := Tryd.prog) (ρ := Tryd.lSortF_ren) { Tryd.lSortF with } p c fv W)
  have HBN := fun p c tv fv W => Lib.hid (Any.slices_BinarySearchFunc_none Tryd.lBinF p c tv fv W)
  go_enter Tryd.func4, Tryd.ntmps4
  go_wp2_with (first
    | (go_at_call 15; go_must (refine (cloneI0 p c _).mono ?_); rintro e w1 ⟨p1, c1, rfl, hg1⟩)
    | (go_at_call 16; go_must (refine (HSN p1 c1 _).out.mono ?_); rintro e w2 ⟨rfl, hw2⟩; obtain rfl := hw2.symm)
    | (go_at_call 17; go_must (refine (HCN p1 c1 _).out.mono ?_); rintro e w3 ⟨rfl, hw3⟩; obtain rfl := hw3.symm))
  have HG1 := Lib.hid hg1
  clear hg1 hw2 hw3
  go_loopw [40, 6] (fun i ov wr => i = .int .i64 0 ∧ ov = .slice none 0 0 ∧ wr = w1) (fun _ _ _ => 0)
  case atStart => exact ⟨rfl, rfl, rfl⟩
  case round =>
    obtain ⟨rfl, rfl, rfl⟩ := hrel
    go_wp2_with (first
      | (go_at_call 18; go_must (refine (HFN none 0 _ _).out.mono ?_); rintro e w4 ⟨rfl, hw4⟩; obtain rfl := hw4.symm)
      | (go_at_call 19; go_must (refine (compactF0 none 0 _).mono ?_); rintro e w5 ⟨rfl, hw5⟩; obtain rfl := hw5.symm))
    clear hw4 hw5
    go_loopw [61] (fun i wz => ∃ j : Nat, i = .int .i64 j ∧ j ≤ m ∧ Hid (Gr w wz)) (fun i _ => ((m : Int) - intOf i).toNat)
    case atStart => exact ⟨0, rfl, Nat.zero_le _, HG1⟩
    case round =>
      obtain ⟨j, rfl, hj, HGR⟩ := hrel
      by_cases e : j < m
      · have hjl : j < qs.length := by rw [HM.out]; exact e
        obtain ⟨b3, o3, rfl, hc3⟩ := HC2.out (by omega)
        have cx := HGR.out.cell (hc3 j hjl)
        have hbd := HAB.out (qs.getD j 0) (by
          rw [List.getD_eq_getElem?_getD, List.getElem?_eq_getElem hjl]
          exact List.getElem_mem hjl)
        generalize qs.getD j 0 = x at cx hbd
        have HNU := fun W (g : Gr w W) => Lib.hid (numberOf x hbd W (HT.out.gr g))
        clear hc3 hjl hbd
        go_wp2_with (first
          | (go_at_call 12; go_must (refine (HNU _ HGR.out).out.mono ?_); rintro e w6 ⟨v6, rfl, ho6, hg6⟩; have HG6 := Lib.hid (HGR.out.trans hg6); clear ho6 hg6)
          | (go_at_call 21; go_must (refine (HBN none 0 v6 _ w6).out.mono ?_); rintro e w7 ⟨rfl, hw7⟩; obtain rfl := hw7.symm)
          | (go_at_call 22; go_must (refine (searchI0 p1 c1 x w6).mono ?_); rintro e w8 ⟨rfl, hw8⟩; obtain rfl := hw8.symm))
        go_roundw
        case rel => exact ⟨j + 1, by go_num, by omega, HG6⟩
        case measure => simp [intOf]; omega
      · obtain rfl : m = j := by omega
        go_wp2_with (first
          | (go_at_call 7; go_must (refine (HAW _ HGR.out).out.mono ?_); rintro e w9 ⟨rfl, hg9⟩))
        go_ret
        exact ⟨rfl, HGR.out.trans hg9⟩

set_option maxRecDepth 100000 in
set_option maxHeartbeats 1000000 in
theorem lawJoinIndex (vk va : Value) (ks qs : List Int) (w : World) (hk : Ri .i64 w vk ks) (ha : Ri .i64 w va qs) (ht : Tab10 w) :
    Calls Tryd.prog 4 #[vk, va] w fun e w' => e = .returned (.bool true) ∧ Gr w w' := by
  by_cases h40 : ks.length ≤ 40 ∧ qs.length ≤ 40
  · by_cases h0 : 0 < ks.length
    · exact lawIndexSome vk va ks qs w hk ha ht h0 h40.1 h40.2
    · obtain ⟨p, c, rfl, _⟩ := hk
      have : ks.length = 0 := by omega
      rw [this]
      exact lawIndexNone p c va qs w ha ht h40.2
  · have HAW := Lib.hid (awake w ht)
    obtain ⟨p, c, rfl, hlc, hcm, _⟩ := hk
    obtain ⟨q, c2, rfl, hlc2, hcm2, _⟩ := ha
    have hcm3 : c ≤ 9223372036854775807 := by simp only [maxLen] at hcm; omega
    have hcm4 : c2 ≤ 9223372036854775807 := by simp only [maxLen] at hcm2; omega
    generalize ks.length = n at *
    generalize qs.length = m at *
    by_cases hA : (2147483647 : Int) < (n : Int)
    · clear h40
      go_enter Tryd.func4, Tryd.ntmps4
      go_wp2
      go_ret
      exact ⟨rfl, Gr.refl _⟩
    · by_cases hB : (2147483647 : Int) < (m : Int)
      · clear h40
        go_enter Tryd.func4, Tryd.ntmps4
        go_wp2
        go_ret
        exact ⟨rfl, Gr.refl _⟩
      · by_cases hC : (40 : Int) < (n : Int)
        · clear h40
          go_enter Tryd.func4, Tryd.ntmps4
          go_wp2_with (first
            | (go_at_call 7; go_must (refine HAW.out.mono ?_); rintro e w9 ⟨rfl, hg9⟩))
          go_ret
          exact ⟨rfl, hg9⟩
        · have hD : (40 : Int) < (m : Int) := by omega
          clear h40
          go_enter Tryd.func4, Tryd.ntmps4
          go_wp2_with (first
            | (go_at_call 7; go_must (refine HAW.out.mono ?_); rintro e w9 ⟨rfl, hg9⟩))
          go_ret
          exact ⟨rfl, hg9⟩
end Go.Proofs.YtkaoibjkebiliaaDoor
