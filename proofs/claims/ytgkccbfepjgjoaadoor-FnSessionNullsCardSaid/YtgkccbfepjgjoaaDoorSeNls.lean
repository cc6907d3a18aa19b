/- FnSessionNulls: the walk of the law. -/
import Derived.Test.YtgkccbfepjgjoaaDoorSeNul
import Derived.Test.YtgkccbfepjgjoaaDoorSeV
namespace Go.Proofs.YtgkccbfepjgjoaaDoor
open Go Go.RowKit

/-- Texts, each with a 0 behind it. -/
def joinN (l : List (List Int)) : List Int := l.flatMap (fun x => x ++ [0])
theorem joinN_cons (x : List Int) (l : List (List Int)) : joinN (x :: l) = x ++ [0] ++ joinN l := by simp [joinN]
theorem joinN_take {l : List (List Int)} {k : Nat} (hk : k < l.length) : joinN (l.take (k + 1)) = joinN (l.take k) ++ l[k] ++ [0] := by
  unfold joinN
  rw [List.take_succ_eq_append_getElem hk, List.flatMap_append]
  simp only [List.flatMap_cons, List.flatMap_nil, List.append_nil, List.append_assoc]
theorem joinN_drop {l : List (List Int)} {k : Nat} (hk : k < l.length) : joinN (l.drop k) = l[k] ++ [0] ++ joinN (l.drop (k + 1)) := by
  rw [List.drop_eq_getElem_cons hk, joinN_cons]
def GoodT (x : List Int) : Prop := 0 < x.length ∧ x.length ≤ 60 ∧ 0 ∉ x
theorem joinN_len : ∀ l : List (List Int), (∀ x ∈ l, GoodT x) → (joinN l).length ≤ 61 * l.length
  | [], _ => by simp [joinN]
  | x :: l, h => by
    have ih := joinN_len l (fun y hy => h y (by simp [hy]))
    have hx := (h x (by simp)).2.1
    rw [joinN_cons]
    simp only [List.length_append, List.length_cons, List.length_nil]
    omega
theorem GoodT.snoc {l : List (List Int)} {k : Nat} (h : ∀ x ∈ l.take k, GoodT x) (hk : k < l.length) (hx : GoodT l[k]) : ∀ x ∈ l.take (k + 1), GoodT x := by
  rw [List.take_succ_eq_append_getElem hk]
  intro x hm
  rcases List.mem_append.1 hm with hm | hm
  · exact h x hm
  · rw [List.mem_singleton.1 hm]; exact hx

set_option maxRecDepth 100000 in
set_option maxHeartbeats 4000000 in
theorem law_nulls (v : Value) (l : List (List Int)) (E : Value) (w : World) (h : Rdd w v l) (hE : EndE w E) :
    Calls Tryd.prog 6 #[v] w (RetT w) := by
  obtain ⟨bb, HF⟩ := fits9 v l w h
  have HF := Lib.hid HF
  have HE := Lib.hid hE
  have HL := fun W h => Lib.hid (sessionLive E W h)
  obtain ⟨p, c, rfl, hlc, hcm, hcells⟩ := id h
  obtain ⟨n, hn⟩ : ∃ n, l.length = n := ⟨_, rfl⟩
  have hcm2 : c ≤ 9223372036854775807 := by simp only [maxLen] at hcm; omega
  have HN := Lib.hid hn
  rw [hn] at hlc HF ⊢
  have HCL := Lib.hid (fun (W : World) (hg : Gr w W) i (hi : i < l.length) => by
    obtain ⟨b, o, e, hc⟩ := hcells (by omega)
    obtain ⟨u, k1, k2⟩ := hc i hi
    exact (⟨b, o, u, e, hg.cell k1, k2.gr hg⟩ : ∃ b o u, p = some ⟨b, o, none⟩ ∧ W.cell? ⟨b, o + i, none⟩ = some u ∧ Rd W u l[i]))
  clear hn hcm h hE hcells
  cases bb
  · go_enter Tryd.func6, Tryd.ntmps6
    go_wp2_with (first | (go_at_call 19; go_must (refine HF.out.mono ?_); rintro e w1 ⟨rfl, rfl⟩))
    go_ret
    exact ⟨rfl, Gr.refl _⟩
  by_cases h20 : 20 < n
  · go_enter Tryd.func6, Tryd.ntmps6
    go_wp2_with (first
      | (go_at_call 19; go_must (refine HF.out.mono ?_); rintro e w1 ⟨rfl, rfl⟩)
      | (go_at_call 14; go_must (refine (HL _ (HE.out)).out.mono ?_); rintro e w4 ⟨rfl, hg4⟩))
    go_ret
    exact ⟨rfl, hg4⟩
  have h20 : n ≤ 20 := by omega
  go_enter Tryd.func6, Tryd.ntmps6
  go_wp2_with (first
    | (go_at_call 19; go_must (refine HF.out.mono ?_); rintro e w1 ⟨rfl, rfl⟩))
  go_loopw [20, 3] (fun i bv wr => ∃ k : Nat, i = .int .i64 k ∧ k ≤ n ∧ (∀ x ∈ l.take k, GoodT x) ∧ Own w.heap.size wr bv (joinN (l.take k)) ∧ Gr w wr) (fun i _ _ => n - (intOf i).toNat)
  case atStart => exact ⟨0, rfl, Nat.zero_le _, fun x hx => by simp at hx, Own.nil _ _, Gr.refl _⟩
  case round =>
    obtain ⟨k, rfl, hk, hgood, hown, hgr⟩ := hrel
    by_cases hlt : k < n
    · have hkl : k < l.length := by rw [HN.out]; exact hlt
      obtain ⟨b, o, u, rfl, k1, hru⟩ := HCL.out wr hgr k hkl
      have HKL := Lib.hid hkl
      have HGD := Lib.hid hgood
      have HOW := Lib.hid hown
      have HGR := Lib.hid hgr
      obtain ⟨x, hx⟩ : ∃ x, l[k] = x := ⟨_, rfl⟩
      replace hru : Rd wr u x := by rw [← hx]; exact hru
      obtain ⟨m, hm⟩ : ∃ m, x.length = m := ⟨_, rfl⟩
      have HI := fun h => Lib.hid (indexByte0 u x wr hru h)
      obtain ⟨pu, cu, rfl, hcu, hcmu, _⟩ := id hru
      have hcmu : cu ≤ 9223372036854775807 := by simp only [maxLen] at hcmu; omega
      rw [hm] at hcu HI hru k1
      have HRU := Lib.hid hru
      have HX := Lib.hid hx
      have HM := Lib.hid hm
      clear hkl hgood hown hgr hru hx hm
      by_cases hB : m = 0 ∨ 60 < m
      · clear HI
        by_cases hB0 : m = 0 <;> by_cases hB1 : 60 < m <;> try (exfalso; omega)
        all_goals
          go_wp2_with (first
            | (go_at_call 14; go_must (refine (HL _ (HE.out.gr HGR.out)).out.mono ?_); rintro e w4 ⟨rfl, hg4⟩))
          go_ret
          exact ⟨rfl, HGR.out.trans hg4⟩
      · obtain ⟨hB0, hB1⟩ : 0 < m ∧ m ≤ 60 := by omega
        obtain ⟨z, hz1, hz2, hz3⟩ := (HI (by first | exact hB0 | (rw [HM.out]; exact hB0))).out
        have HZ := Lib.hid hz3
        clear HI hz3
        have m0 : ((m : Int) == 0) = false := beq_eq_false_iff_ne.2 (by omega)
        by_cases hz : 0 ≤ z
        · clear hz1
          go_wp2_with (first
            | (go_at_call 18; go_must (refine HZ.out.mono ?_); rintro e w4 ⟨rfl, rfl⟩)
            | (go_at_call 14; go_must (refine (HL _ (HE.out.gr HGR.out)).out.mono ?_); rintro e w4 ⟨rfl, hg4⟩))
          go_ret
          exact ⟨rfl, HGR.out.trans hg4⟩
        · have hz0 : 0 ∉ x := by
            intro hx
            rw [decide_eq_true hx] at hz1
            exact hz (of_decide_eq_true hz1)
          have HGX := Lib.hid (show GoodT x from ⟨by rw [HM.out]; exact hB0, by rw [HM.out]; exact hB1, hz0⟩)
          have HLK := Lib.hid (joinN_len _ HGD.out)
          have hlk : (l.take k).length ≤ 20 := by rw [List.length_take]; omega
          have HJ := Lib.hid (joinN_take HKL.out)
          have tok1 : True := trivial
          clear hz1 hz0
          go_wp2_with (first
            | (go_at_call 18; go_must (refine HZ.out.mono ?_); rintro e w4 ⟨rfl, rfl⟩)
            | (at_builtin; have _t := tok1; go_must (refine wpList_append_gr Go.Proofs.YtgkccbfepjgjoaaDoor.u8 rfl _ _ rfl (w0 := w) HGR.out rfl HOW.out rfl HRU.out (by have := HLK.out; rw [HM.out]; omega) ?_); intro v5 w5 ho5 hG5; have HO5 := Lib.hid ho5; clear ho5 tok1 _t)
            | (at_builtin; go_must (refine wpList_append_gr Go.Proofs.YtgkccbfepjgjoaaDoor.u8 rfl _ _ rfl (w0 := w) (hG5.alloc _) rfl (HO5.out.gr ((Gr.refl _).alloc _)) rfl (ys := [0]) (Rd.lit w5 [0] _ 1 (byt_of (by decide)) rfl (by rfl) (by simp [maxLen]) rfl) (by have := HLK.out; rw [List.length_append, HM.out]; simp; omega) ?_); intro v6 w6 ho6 hG6; have HO6 := Lib.hid ho6; clear ho6))
          go_roundw
          case rel =>
            refine ⟨k + 1, by go_num, by omega, GoodT.snoc HGD.out HKL.out (by have h := HGX.out; rw [← HX.out] at h; exact h), ?_, hG6⟩
            have h := HO6.out
            rw [← HX.out] at h
            rw [HJ.out]
            exact h
          case measure => simp [intOf]; omega
    · obtain rfl : n = k := by omega
      rw [List.take_of_length_le (by rw [HN.out]; exact Nat.le_refl _)] at hgood hown
      have HGD := Lib.hid hgood
      have HRB := Lib.hid hown.rd
      have HGR := Lib.hid hgr
      clear hgood hown hgr
      go_wp2_with fail
      go_loopw [47, 6] (fun i bv wx => ∃ k : Nat, i = .int .i64 k ∧ k ≤ n ∧ Rd wx bv (joinN (l.drop k)) ∧ Gr w wx) (fun i _ _ => n - (intOf i).toNat)
      case atStart => exact ⟨0, rfl, Nat.zero_le _, HRB.out, HGR.out⟩
      case round =>
        obtain ⟨k, rfl, hk2, hrb, hgx⟩ := hrel
        by_cases hlt2 : k < n
        · have hkl : k < l.length := by rw [HN.out]; exact hlt2
          have hjd := joinN_drop hkl
          rw [hjd] at hrb
          have hgl := joinN_len _ HGD.out
          have hdl : (joinN (l.drop (k + 1))).length ≤ 61 * (l.drop (k + 1)).length := joinN_len _ (fun x hx => HGD.out x (List.mem_of_mem_drop hx))
          have hg1 := HGD.out _ (List.getElem_mem hkl)
          obtain ⟨b, o, u, rfl, k1, hru⟩ := HCL.out _ hgx k hkl
          obtain ⟨ys, hys⟩ : ∃ ys, joinN (l.drop (k + 1)) = ys := ⟨_, rfl⟩
          rw [hys] at hrb
          generalize hx : l[k]'hkl = x at hru hg1 hrb
          rw [hys] at hdl
          have hyl : ys.length ≤ 1220 := by have hln := HN.out; rw [List.length_drop] at hdl; omega
          obtain ⟨m, hm⟩ : ∃ m, x.length = m := ⟨_, rfl⟩
          obtain ⟨N, hNN⟩ : ∃ N, (x ++ [0] ++ ys).length = N := ⟨_, rfl⟩
          have hNm : N = m + 1 + ys.length := by rw [← hNN, ← hm]; simp; omega
          obtain ⟨g0, g1, g2⟩ := hg1
          obtain ⟨z0, z1, z2, z3⟩ := zero_found (ys := ys) hm g2
          have hrun : Runs false [⟨7, N, false, false⟩] (x ++ [0] ++ ys) [⟨true, [], [], 0, tx x⟩] (some ys) :=
            Runs.cons (fun s ch E w h => got_null s false ch E (x ++ [0] ++ ys) ys (tx x) N false false w h (fun w h => by have := null_found s false ch E (x ++ [0] ++ ys) N m w h (by omega) (by omega) (by omega) z0 z1; rw [z2, z3] at this; exact this)) rfl (Runs.nil _)
          have HS := fun W u v hE hu hv => Lib.hid (sessionGet u v (x ++ [0] ++ ys) [⟨7, N, false, false⟩] false _ _ E W hE hu (by omega) hv (by simp) hrun)
          obtain ⟨cu0, hcr, _, hcut⟩ := cut1 hrb (m + 1) (by omega)
          rw [z3] at hcr
          rw [show ((m + 1 : Nat) : Int) = (m : Int) + 1 by omega] at hcut
          have HRB2 := Lib.hid hrb
          have HRU := Lib.hid hru
          have HCR := Lib.hid hcr
          have HYS := Lib.hid hys
          have HNL := Lib.hid hNN
          have HGX := Lib.hid hgx
          obtain ⟨pl, cl, hble, hcl1, hcl2, _⟩ := id hrb
          subst hble
          rw [hNN] at hcut HRB2 hcl1 ⊢
          have hcl2 : cl ≤ 9223372036854775807 := by simp only [maxLen] at hcl2; omega
          obtain ⟨pu, cu, rfl, hcu, hcmu, _⟩ := id hru
          have hcmu : cu ≤ 9223372036854775807 := by simp only [maxLen] at hcmu; omega
          rw [hm] at hcu k1 HRU
          have i1 : (m : Int) ≤ 60 := by omega
          have i2 : (N : Int) ≤ 1281 := by omega
          have i3 : (m : Int) + 1 ≤ N := by omega
          have HCUT := Lib.hid hcut
          have hwm : IntKind.i64.wrap ((m : Int) + 1) = (m : Int) + 1 := by rw [IntKind.wrap_i64]; omega
          clear hcut hNm hx hjd hgl hdl hkl hru hrb hcr hys hNN hgx z0 z1 z2 z3 hrun g2
          go_wp2_with (first
            | (go_at_call 16; go_must (refine (clone _ (x ++ [0] ++ ys) _ HRB2.out (by rw [HNL.out]; omega)).mono ?_); rintro e w2 ⟨u2, rfl, ho2, hg2⟩; have HO2 := Lib.hid ho2; have HG2 := Lib.hid (HGX.out.trans hg2); have HG3 := Lib.hid hg2; clear ho2 hg2)
            | (go_at_call 13; go_must (refine (HS _ _ _ (HE.out.gr (HG2.out.alloc _)) (HO2.out.rd.gr ((Gr.refl _).alloc _)) (RdSt.one ⟨7, N, false, false⟩ (heap_new_at _ _ (by simp)))).out.mono ?_); rintro e w6 ⟨g6, l6, left6, rfl, hO6, ho6, hl6, hg6⟩; obtain rfl := hl6 _ rfl; have hG6 := (HG2.out.alloc _).trans hg6; have hG7 := (HG3.out.alloc _).trans hg6; obtain ⟨gb6, gc6, gd6, go6, rfl, hgc6, hgm6, d0, d1, d2, d3, d4, rd6, ro6⟩ := hO6.one; have HR6 := Lib.hid ho6.rd; have HR7 := Lib.hid (HCR.out.gr hG7); have HR8 := Lib.hid (HRU.out.gr hG7); clear hO6 rd6 ro6 ho6 hg6))
          have hG8 := hG6.drew
          go_region_held3 (fun w' => w'.cell? ⟨gb6, 0, none⟩ = some (.bool true) ∧ w'.cell? ⟨gb6, 4, none⟩ = some (.string (tx x)) ∧ (convert 24 9 (.slice pu m cu)).run Tryd.prog w' = .ok (.string (tx x)) w' ∧ (Instr.slice 24 (.slice pl N cl) (some (.int .i64 ((m : Int) + 1))) none none).run Tryd.prog w' = .ok cu0 w') (first | (with_reducible exact ⟨(Gr.refl w6).drew.cell d0, (Gr.refl w6).drew.cell d4, str_conv (HR8.out.gr (Gr.refl w6).drew), HCUT.out _⟩))
            ((first
              | (go_at_call 17; go_must (refine (equal_same _ _ _ _ (HR6.out.gr (Gr.refl _).drew) (HR7.out.gr (Gr.refl _).drew)).mono ?_); rintro e w7 ⟨rfl, rfl⟩)))
          go_wp2_with fail
          go_roundw
          case rel => exact ⟨k + 1, by go_num, by omega, by rw [HYS.out]; exact HR6.out.gr (Gr.refl _).drew, hG8⟩
          case measure => simp [intOf]; omega
        · obtain rfl : n = k := by omega
          rw [List.drop_of_length_le (by rw [HN.out]; exact Nat.le_refl _)] at hrb
          obtain ⟨pl, cl, rfl, _⟩ := hrb
          go_wp2_with (first
            | (go_at_call 14; go_must (refine (HL _ (HE.out.gr hgx)).out.mono ?_); rintro e w4 ⟨rfl, hg4⟩))
          go_ret
          exact ⟨rfl, hgx.trans hg4⟩
end Go.Proofs.YtgkccbfepjgjoaaDoor
