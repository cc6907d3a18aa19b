/- FnSessionSwapped: the walk of the law. -/
import Derived.Test.YtgkccbfepjgjoaaDoorSeRo
import Derived.Test.YtgkccbfepjgjoaaDoorSeBk
import Derived.Test.YtgkccbfepjgjoaaDoorSeApt
import Derived.Deep.RegionHeld3
namespace Go.Proofs.YtgkccbfepjgjoaaDoor
open Go Go.RowKit

theorem Good.turn {l : List Sp} (h : Good l) (k : Nat) : Good (l.drop k ++ l.take k) := fun x hx => by
  rcases List.mem_append.1 hx with h1 | h1
  · exact h x (List.mem_of_mem_drop h1)
  · exact h x (List.mem_of_mem_take h1)
theorem turn_len {α β : Type} (f : α → List β) (l : List α) (k : Nat) : ((l.drop k ++ l.take k).flatMap f).length = (l.flatMap f).length := by
  conv => rhs; rw [← List.take_append_drop k l]
  simp only [List.flatMap_append, List.length_append]
  omega

set_option maxRecDepth 100000 in
set_option maxHeartbeats 4000000 in
theorem law_swapped (va : Value) (la : List Sp) (t : Nat) (ht : t < 256) (big : Bool) (E : Value) (w : World) (ha : RdSp w va la) (hE : EndE w E) :
    Calls Tryd.prog 12 #[va, .int .u8 (t : Nat), .bool big] w (RetT w) := by
  have HE := Lib.hid hE
  have HL := fun W h => Lib.hid (sessionLive E W h)
  have HFA := fun W (g : Gr w W) => Lib.hid (fits11 va la W (ha.gr g))
  have HSA := fun W (g : Gr w W) => Lib.hid (sessionFits va la W (ha.gr g))
  have hga := fun h => good_of ha h
  have HA := Lib.hid ha
  obtain ⟨n, hn⟩ : ∃ n, la.length = n := ⟨_, rfl⟩
  obtain ⟨pa, ca, rfl, hca, hcm, _⟩ := id ha
  have hcm2 : ca ≤ 9223372036854775807 := by simp only [maxLen] at hcm; omega
  generalize (decide (la.length ≤ 2147483647) && la.all Fit) = FA at HFA
  generalize (decide (la.length ≤ 20) && !la.any Bad) = SA at HSA hga
  rw [hn] at hca HA HFA HSA ⊢
  have HN := Lib.hid hn
  clear hE hcm hn
  cases FA
  · clear ha hga
    go_enter Tryd.func12, Tryd.ntmps12
    go_wp2_with (first
      | (go_at_call 30; go_must (refine (HFA _ (Gr.refl _)).out.mono ?_); rintro e w1 ⟨rfl, g1⟩))
    go_ret
    exact ⟨rfl, g1⟩
  cases SA
  · clear ha hga
    go_enter Tryd.func12, Tryd.ntmps12
    go_wp2_with (first
      | (go_at_call 30; go_must (refine (HFA _ (Gr.refl _)).out.mono ?_); rintro e w1 ⟨rfl, g1⟩)
      | (go_at_call 31; go_must (refine (HSA w1 g1).out.mono ?_); rintro e w3 ⟨rfl, g3'⟩; have g3 := g1.trans g3')
      | (go_at_call 14; go_must (refine (HL _ (HE.out.gr g3)).out.mono ?_); rintro e w9 ⟨rfl, hg9⟩))
    go_ret
    exact ⟨rfl, g3.trans hg9⟩
  by_cases h0 : n = 0
  · subst h0
    clear ha hga
    go_enter Tryd.func12, Tryd.ntmps12
    go_wp2_with (first
      | (go_at_call 30; go_must (refine (HFA _ (Gr.refl _)).out.mono ?_); rintro e w1 ⟨rfl, g1⟩)
      | (go_at_call 31; go_must (refine (HSA w1 g1).out.mono ?_); rintro e w3 ⟨rfl, g3'⟩; have g3 := g1.trans g3')
      | (go_at_call 14; go_must (refine (HL _ (HE.out.gr g3)).out.mono ?_); rintro e w9 ⟨rfl, hg9⟩))
    go_ret
    exact ⟨rfl, g3.trans hg9⟩
  obtain ⟨hla, hGA⟩ := hga rfl
  have hn20 : n ≤ 20 := by have := HN.out; omega
  obtain ⟨b, o, c', ps, hv, _, _, hrd⟩ := rdA_of_sp ha (by have := HN.out; omega)
  rw [HN.out] at hv
  injection hv with hv1 hv2 hv3
  subst hv1
  subst hv3
  obtain ⟨k, hk⟩ : ∃ k, t % n = k := ⟨_, rfl⟩
  have hkn : k < n := by rw [← hk]; exact Nat.mod_lt _ (by omega)
  have hik : ((t : Nat) : Int) % (n : Int) = (k : Int) := by omega
  -- the two cuts
  have HS1 := fun W => Lib.hid (run_cutR1 Tryd.underlying65 spInfo b o n ca k hkn hca W)
  have HS2 := fun W => Lib.hid (run_cutRH Tryd.underlying65 spInfo b o n ca k hkn hca W)
  have hld : (la.drop k).length = n - k := by rw [List.length_drop, HN.out]
  have hlt : (la.take k).length = k := by rw [List.length_take, HN.out]; omega
  have HC1 := fun W (g : Gr w W) => Lib.hid (((hrd.gr g).drop k).src hld (ca - k))
  have HC2 := fun W (g : Gr w W) => Lib.hid (((hrd.gr g).take k).src hlt ca)
  have HK1 := Lib.hid ((hrd.drop k).cells spT_cell)
  have HK2 := Lib.hid ((hrd.take k).cells spT_cell)
  have hMl : (la.drop k ++ la.take k).length = n := by rw [List.length_append, hld, hlt]; omega
  have hfl : [List.zipWith spT.cs (la.drop k) (ps.drop k), List.zipWith spT.cs (la.take k) (ps.take k)].flatten.length ≤ 1000000 := by
    have h1 := (hrd.turn (Gr.refl w) k)
    rw [h1.1, zip_len _ _ _ h1.2.1, hMl]
    omega
  have HCO := fun W u h => Lib.hid (concat_sp u _ W h hfl)
  have HTU := fun W (g : Gr w W) => Lib.hid (hrd.turn g k)
  have hGM := hGA.turn k
  have hoa := out_len big 64 (by omega) la hGA
  have hob := turn_len (outOf big 64) la k
  have HMN := fun W B u (g : Gr w W) (h : OwnR 48 8 B W u [List.zipWith spT.cs (la.drop k) (ps.drop k), List.zipWith spT.cs (la.take k) (ps.take k)].flatten) => (show Hid (∃ c, RdSp W u (la.drop k ++ la.take k) ∧ c ≤ 9223372036854775807 ∧ ∃ b, u = .slice (some ⟨b, 0, none⟩) n c) from by
    obtain ⟨e1, e2, e3⟩ := hrd.turn g k
    rw [e1] at h
    obtain ⟨b, c, rfl, h1, h2, h3⟩ := RdA.of_own (Y := spT) h e2 e3 (by omega)
    exact Lib.hid ⟨c, sp_of_rdA h3 h1 h2 (fun x hx => (hGM x hx).1), by simp only [maxLen] at h2; omega, b, by rw [hMl]⟩)
  have HPA := fun W (g : Gr w W) => Lib.hid (sessionPuts _ la W (HA.out.gr g) hla (fun x hx => (hGA x hx).2))
  have HPM := fun W u (h : RdSp W u (la.drop k ++ la.take k)) => Lib.hid (sessionPuts u _ W h (by omega) (fun x hx => (hGM x hx).2))
  have HGA := fun W (g : Gr w W) => Lib.hid (sessionGets _ la W (HA.out.gr g) hla)
  have HGM := fun W u (h : RdSp W u (la.drop k ++ la.take k)) => Lib.hid (sessionGets u _ W h (by omega))
  have HQA := fun W v h => Lib.hid (sessionPut v (la.map ptOf) big (64 : Nat) (la.flatMap (outOf big 64)) W h (by rw [List.length_map]; omega) (good_pts hGA) (put_all big 64 (by omega) (by omega) la hGA) (by omega))
  have HQM := fun W v h => Lib.hid (sessionPut v ((la.drop k ++ la.take k).map ptOf) big (64 : Nat) ((la.drop k ++ la.take k).flatMap (outOf big 64)) W h (by rw [List.length_map]; omega) (good_pts hGM) (put_all big 64 (by omega) (by omega) _ hGM) (by omega))
  have hra := runs_of big 64 (by omega) (by omega) [] la hGA
  have hrm := runs_of big 64 (by omega) (by omega) [] _ hGM
  rw [List.append_nil] at hra hrm
  have HXA := fun W u v hE hu hv => Lib.hid (sessionGet u v (la.flatMap (outOf big 64)) (la.map gtOf) big _ _ E W hE hu (by omega) hv (by rw [List.length_map]; omega) hra)
  have HXM := fun W u v hE hu hv => Lib.hid (sessionGet u v ((la.drop k ++ la.take k).flatMap (outOf big 64)) ((la.drop k ++ la.take k).map gtOf) big _ _ E W hE hu (by omega) hv (by rw [List.length_map]; omega) hrm)
  have HLA := Lib.hid (show (la.map gotOf).length = n by rw [List.length_map, HN.out])
  have HMT := Lib.hid (show (la.map gotOf).drop k ++ (la.map gotOf).take k = (la.drop k ++ la.take k).map gotOf by rw [List.map_append, List.map_drop, List.map_take])
  have HCLA := fun W u h => Lib.hid (clone u (la.flatMap (outOf big 64)) W h (by omega))
  have HCLM := fun W u h => Lib.hid (clone u ((la.drop k ++ la.take k).flatMap (outOf big 64)) W h (by omega))
  clear hra hrm hfl hGA hGM hoa hga ha hla
  generalize (la.drop k ++ la.take k).map gotOf = GM at *
  generalize la.map gotOf = GA at *
  generalize (la.drop k ++ la.take k).flatMap (outOf big 64) = OM at *
  generalize la.flatMap (outOf big 64) = OA at *
  obtain ⟨N, hNA⟩ : ∃ N, OA.length = N := ⟨_, rfl⟩
  rw [hNA] at hob
  have HNA := Lib.hid hNA
  have HNM := Lib.hid hob
  have tok1 : True := trivial
  have tok2 : True := trivial
  have tok3 : True := trivial
  have tok4 : True := trivial
  have tok5 : True := trivial
  clear hk hob hNA hld hlt hMl hrd
  have i1 : (0 : Int) < n := by omega
  have i2 : ((n : Int) == 0) = false := beq_eq_false_iff_ne.2 (by omega)
  have i3 : (k : Int) < n := by omega
  clear h0
  go_enter Tryd.func12, Tryd.ntmps12
  go_wp2_with (first
    | (go_at_call 30; go_must (refine (HFA _ (Gr.refl _)).out.mono ?_); rintro e w1 ⟨rfl, g1⟩)
    | (go_at_call 31; go_must (refine (HSA w1 g1).out.mono ?_); rintro e w3 ⟨rfl, g3'⟩; have g3 := g1.trans g3'))
  go_region_held3 (fun w' => (Instr.slice 65 (.slice (some ⟨b, o, none⟩) n ca) (some (.int .i64 (k : Nat))) none none).run Tryd.prog w' = .ok (.slice (some ⟨b, o + k * 8, none⟩) (n - k) (ca - k)) w' ∧ (Instr.slice 65 (.slice (some ⟨b, o, none⟩) n ca) none (some (.int .i64 (k : Nat))) none).run Tryd.prog w' = .ok (.slice (some ⟨b, o, none⟩) k ca) w')
    (first | (with_reducible exact ⟨(HS1 _).out, (HS2 _).out⟩))
    ((first
      | (go_at_call 34; go_must (refine (HCO _ _ (RddR.two (heap_new_at _ _ (by first | rfl | simp)) (HC1 _ (by first | exact (g3.drew).alloc _ | exact (g3.alloc _).drew)).out (HC2 _ (by first | exact (g3.drew).alloc _ | exact (g3.alloc _).drew)).out HK1.out HK2.out)).out.mono ?_); rintro e w4 ⟨u4, rfl, ho4, hg4⟩; have g4 : Gr w w4 := (by first | exact ((g3.drew).alloc _).trans hg4 | exact ((g3.alloc _).drew).trans hg4))))
  obtain ⟨c4, hsp4, hc4, b4, rfl⟩ := (HMN _ _ _ g4 ho4).out
  have HSP4 := Lib.hid hsp4
  clear hsp4 ho4 HMN HTU
  go_wp2_with (first
    | (go_at_call 33; have _t := tok1; go_must (refine (HPA w4 g4).out.mono ?_); rintro e w5 ⟨u5, rfl, ho5, hg5⟩; have g5 := g4.trans hg5; have HO5 := Lib.hid ho5.rd; have HSP4 := Lib.hid (HSP4.out.gr hg5); clear tok1 _t ho5)
    | (go_at_call 15; have _t := tok2; go_must (refine (HQA w5 u5 HO5.out).out.mono ?_); rintro e w6 ⟨u6, rfl, ho6, hg6⟩; have g6 := g5.trans hg6; obtain ⟨p6, c6, rfl, hc61, hc6, _⟩ := id ho6.rd; have hc6 : c6 ≤ 9223372036854775807 := (by simp only [maxLen] at hc6; omega); have HO6 := Lib.hid ho6.rd; have HSP4 := Lib.hid (HSP4.out.gr hg6); rw [HNA.out] at HO6 hc61 ⊢; clear tok2 _t ho6)
    | (go_at_call 33; go_must (refine (HPM w6 _ HSP4.out).out.mono ?_); rintro e w7 ⟨u7, rfl, ho7, hg7⟩; have g7 := g6.trans hg7; have HO7 := Lib.hid ho7.rd; have HSP4 := Lib.hid (HSP4.out.gr hg7); have HO6 := Lib.hid (HO6.out.gr hg7); clear ho7)
    | (go_at_call 15; go_must (refine (HQM w7 u7 HO7.out).out.mono ?_); rintro e w8 ⟨u8, rfl, ho8, hg8⟩; have g8 := g7.trans hg8; obtain ⟨p8, c8, rfl, hc81, hc8, _⟩ := id ho8.rd; have hc8 : c8 ≤ 9223372036854775807 := (by simp only [maxLen] at hc8; omega); have HO8 := Lib.hid ho8.rd; have HSP4 := Lib.hid (HSP4.out.gr hg8); have HO6 := Lib.hid (HO6.out.gr hg8); rw [HNM.out] at HO8 hc81 ⊢; clear ho8)
    | (go_at_call 16; have _t := tok3; go_must (refine (HCLA w8 _ HO6.out).out.mono ?_); rintro e w9 ⟨u9, rfl, ho9, hg9⟩; have g9 := g8.trans hg9; have HO9 := Lib.hid ho9.rd; have HSP4 := Lib.hid (HSP4.out.gr hg9); have HO8 := Lib.hid (HO8.out.gr hg9); clear tok3 _t ho9)
    | (go_at_call 35; have _t := tok4; go_must (refine (HGA w9 g9).out.mono ?_); rintro e w10 ⟨u10, rfl, ho10, hg10⟩; have g10 := g9.trans hg10; have HO10 := Lib.hid ho10.rd; have HO9 := Lib.hid (HO9.out.gr hg10); have HSP4 := Lib.hid (HSP4.out.gr hg10); have HO8 := Lib.hid (HO8.out.gr hg10); clear tok4 _t ho10)
    | (go_at_call 13; have _t := tok5; go_must (refine (HXA w10 _ _ (HE.out.gr g10) HO9.out HO10.out).out.mono ?_); rintro e w11 ⟨gx, lx, leftx, rfl, hOx, hox, hlx, hg11⟩; obtain rfl := hlx _ rfl; have g11 := g10.trans hg11; have HGX := Lib.hid hOx.rdG; obtain ⟨plx, clx, rfl, _⟩ := id hox.rd; have HSP4 := Lib.hid (HSP4.out.gr hg11); have HO8 := Lib.hid (HO8.out.gr hg11); clear tok5 _t hOx hox hlx)
    | (go_at_call 16; go_must (refine (HCLM w11 _ HO8.out).out.mono ?_); rintro e w12 ⟨u12, rfl, ho12, hg12⟩; have g12 := g11.trans hg12; have HO12 := Lib.hid ho12.rd; have HSP4 := Lib.hid (HSP4.out.gr hg12); have HGX := Lib.hid (HGX.out.gr hg12); clear ho12)
    | (go_at_call 35; go_must (refine (HGM w12 _ HSP4.out).out.mono ?_); rintro e w13 ⟨u13, rfl, ho13, hg13⟩; have g13 := g12.trans hg13; have HO13 := Lib.hid ho13.rd; have HO12 := Lib.hid (HO12.out.gr hg13); have HGX := Lib.hid (HGX.out.gr hg13); clear ho13)
    | (go_at_call 13; go_must (refine (HXM w13 _ _ (HE.out.gr g13) HO12.out HO13.out).out.mono ?_); rintro e w14 ⟨gy, ly, lefty, rfl, hOy, hoy, hly, hg14⟩; obtain rfl := hly _ rfl; have g14 := g13.trans hg14; have HGY := Lib.hid hOy.rdG; obtain ⟨ply, cly, rfl, _⟩ := id hoy.rd; have HGX := Lib.hid (HGX.out.gr hg14); clear hOy hoy hly))
  obtain ⟨bx, ox, cx, qs, hvx, hcx1, hcx2, hrx⟩ := rdA_of_g HGX.out (by rw [HLA.out]; omega)
  rw [HLA.out] at hvx hcx1
  subst hvx
  have hcx3 : cx ≤ 9223372036854775807 := by simp only [maxLen] at hcx2; omega
  have HT1 := fun W => Lib.hid (run_cutR1 Tryd.underlying23 gotInfo bx ox n cx k hkn hcx1 W)
  have HT2 := fun W => Lib.hid (run_cutRH Tryd.underlying23 gotInfo bx ox n cx k hkn hcx1 W)
  have hgd : (GA.drop k).length = n - k := by rw [List.length_drop, HLA.out]
  have hgt : (GA.take k).length = k := by rw [List.length_take, HLA.out]; omega
  have HD1 := fun W (g : Gr w14 W) => Lib.hid (((hrx.gr g).drop k).src hgd (cx - k))
  have HD2 := fun W (g : Gr w14 W) => Lib.hid (((hrx.gr g).take k).src hgt cx)
  have HK3 := Lib.hid ((hrx.drop k).cells gT_cell)
  have HK4 := Lib.hid ((hrx.take k).cells gT_cell)
  have hgl : [List.zipWith gT.cs (GA.drop k) (qs.drop k), List.zipWith gT.cs (GA.take k) (qs.take k)].flatten.length ≤ 1000000 := by
    have h1 := (hrx.turn (Gr.refl w14) k)
    rw [h1.1, zip_len _ _ _ h1.2.1, List.length_append, hgd, hgt]
    omega
  have HCG := fun W u h => Lib.hid (concat_got u _ W h hgl)
  have HRG := fun W B u (g : Gr w14 W) (h : OwnR 31 5 B W u [List.zipWith gT.cs (GA.drop k) (qs.drop k), List.zipWith gT.cs (GA.take k) (qs.take k)].flatten) => (show Hid (RdG W u GM) from by
    obtain ⟨e1, e2, e3⟩ := hrx.turn g k
    rw [e1] at h
    have hln : (GA.drop k ++ GA.take k).length = n := by rw [List.length_append, hgd, hgt]; omega
    obtain ⟨b, c, rfl, h1, h2, h3⟩ := RdA.of_own (Y := gT) h e2 e3 (by omega)
    rw [← HMT.out]
    exact Lib.hid (g_of_rdA h3 h1 h2))
  have HGY2 := fun W (g : Gr w14 W) => Lib.hid (HGY.out.gr g)
  have HQE := fun W v u h1 h2 => Lib.hid (equalFunc v u GM W h1 h2)
  obtain ⟨py, cy, hvy, _⟩ := id HGY.out
  clear hgd hgt hgl hrx HGX HGY
  subst hvy
  have g14' := g14.drew
  go_region_held3 (fun w' => (Instr.slice 23 (.slice (some ⟨bx, ox, none⟩) n cx) (some (.int .i64 (k : Nat))) none none).run Tryd.prog w' = .ok (.slice (some ⟨bx, ox + k * 5, none⟩) (n - k) (cx - k)) w' ∧ (Instr.slice 23 (.slice (some ⟨bx, ox, none⟩) n cx) none (some (.int .i64 (k : Nat))) none).run Tryd.prog w' = .ok (.slice (some ⟨bx, ox, none⟩) k cx) w')
    (first | (with_reducible exact ⟨(HT1 _).out, (HT2 _).out⟩))
    ((first
      | (go_at_call 36; go_must (refine (HCG _ _ (RddR.two (heap_new_at _ _ (by first | rfl | simp)) (HD1 _ (by first | exact ((Gr.refl w14).drew).alloc _ | exact ((Gr.refl w14).alloc _).drew)).out (HD2 _ (by first | exact ((Gr.refl w14).drew).alloc _ | exact ((Gr.refl w14).alloc _).drew)).out HK3.out HK4.out)).out.mono ?_); rintro e w15 ⟨u15, rfl, ho15, hg15⟩; have g15 : Gr w14 w15 := (by first | exact (((Gr.refl w14).drew).alloc _).trans hg15 | exact (((Gr.refl w14).alloc _).drew).trans hg15); have HR15 := Lib.hid ((HRG _ _ _ g15 ho15).out))
      | (go_at_call 29; go_must (refine (HQE _ _ _ HR15.out (HGY2 _ g15).out).out.mono ?_); rintro e w16 ⟨rfl, hg16⟩)
      | (go_at_call 14; go_must (refine (HL _ (HE.out.gr (g14.trans (g15.trans hg16)))).out.mono ?_); rintro e w17 ⟨rfl, hg17⟩)))
  all_goals
    go_wp2_with fail
    go_ret
    exact ⟨rfl, (g14.trans (g15.trans hg16)).trans hg17⟩

theorem law_swapped_z (va : Value) (la : List Sp) (t : Int) (big : Bool) (ht : 0 ≤ t ∧ t < 256) (w : World) (ha : RdSp w va la) (hE : ∃ E, EndE w E) :
    Calls Tryd.prog 12 #[va, .int .u8 t, .bool big] w (RetT w) := by
  obtain ⟨E, hE⟩ := hE
  have := law_swapped va la t.toNat (by omega) big E w ha hE
  rwa [Int.toNat_of_nonneg ht.1] at this
end Go.Proofs.YtgkccbfepjgjoaaDoor
