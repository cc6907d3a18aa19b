/- FnSessionPutApart: the walk of the law. -/
import Derived.Test.YtgkccbfepjgjoaaDoorSeZk
namespace Go.Proofs.YtgkccbfepjgjoaaDoor
open Go Go.RowKit

theorem Rdd.two {W : World} {H : Nat} {a b : Value} {x y : List Int} {T : TypeId} {fr : Nat × Nat} (h : W.heap[H]? = some (.cells #[a, b] T fr)) (ha : Rd W a x) (hb : Rd W b y) : Rdd W (.slice (some ⟨H, 0, none⟩) 2 2) [x, y] := by
  refine ⟨_, 2, rfl, Nat.le_refl _, by simp [maxLen], fun _ => ⟨H, 0, rfl, fun i hi => ?_⟩⟩
  match i, hi with
  | 0, _ => exact ⟨a, (blk_cell h 0).trans rfl, ha⟩
  | 1, _ => exact ⟨b, (blk_cell h 1).trans rfl, hb⟩
theorem good_pts {l : List Sp} (h : Good l) : ∀ x ∈ l.map ptOf, x.d.length ≤ 10000 ∧ x.o.length ≤ 10000 := by
  intro x hx
  obtain ⟨y, hy, rfl⟩ := List.mem_map.1 hx
  have := (h y hy).2
  show y.d.length ≤ 10000 ∧ y.o.length ≤ 10000
  omega

set_option maxRecDepth 100000 in
set_option maxHeartbeats 4000000 in
theorem law_apart (va vb : Value) (la lb : List Sp) (big : Bool) (ch : Nat) (hch : ch < 256) (E : Value) (w : World) (ha : RdSp w va la) (hb : RdSp w vb lb) (hE : EndE w E) :
    Calls Tryd.prog 11 #[va, vb, .bool big, .int .u8 (ch : Nat)] w (RetT w) := by
  have HE := Lib.hid hE
  have HL := fun W h => Lib.hid (sessionLive E W h)
  have HFA := fun W (g : Gr w W) => Lib.hid (fits11 va la W (ha.gr g))
  have HFB := fun W (g : Gr w W) => Lib.hid (fits11 vb lb W (hb.gr g))
  have HSA := fun W (g : Gr w W) => Lib.hid (sessionFits va la W (ha.gr g))
  have HSB := fun W (g : Gr w W) => Lib.hid (sessionFits vb lb W (hb.gr g))
  have HCH := fun W => Lib.hid (sessionChunk ch hch W)
  obtain ⟨c, hc⟩ : ∃ c, ch % 252 + 1 = c := ⟨_, rfl⟩
  rw [hc] at HCH
  have hc1 : 1 ≤ c := by omega
  have hc2 : c ≤ 252 := by omega
  have hga := fun h => good_of ha h
  have hgb := fun h => good_of hb h
  have HA := Lib.hid ha
  have HB := Lib.hid hb
  obtain ⟨pa, ca, rfl, _⟩ := id ha
  obtain ⟨pb, cb, rfl, _⟩ := id hb
  generalize (decide (la.length ≤ 2147483647) && la.all Fit) = FA at HFA
  generalize (decide (lb.length ≤ 2147483647) && lb.all Fit) = FB at HFB
  generalize (decide (la.length ≤ 20) && !la.any Bad) = SA at HSA hga
  generalize (decide (lb.length ≤ 20) && !lb.any Bad) = SB at HSB hgb
  have tok1 : True := trivial
  have tok2 : True := trivial
  have tok3 : True := trivial
  have tok4 : True := trivial
  have tok5 : True := trivial
  have tok6 : True := trivial
  have tok7 : True := trivial
  clear ha hb hE hc hch
  cases FA
  · go_enter Tryd.func11, Tryd.ntmps11
    go_wp2_with (first
      | (go_at_call 30; go_must (refine (HFA _ (Gr.refl _)).out.mono ?_); rintro e w1 ⟨rfl, g1⟩))
    go_ret
    exact ⟨rfl, g1⟩
  cases FB
  · go_enter Tryd.func11, Tryd.ntmps11
    go_wp2_with (first
      | (go_at_call 30; have _t := tok1; go_must (refine (HFA _ (Gr.refl _)).out.mono ?_); rintro e w1 ⟨rfl, g1⟩; clear tok1 _t)
      | (go_at_call 30; go_must (refine (HFB w1 g1).out.mono ?_); rintro e w2 ⟨rfl, g2'⟩; have g2 := g1.trans g2'))
    go_ret
    exact ⟨rfl, g2⟩
  cases SA
  · go_enter Tryd.func11, Tryd.ntmps11
    go_wp2_with (first
      | (go_at_call 30; have _t := tok1; go_must (refine (HFA _ (Gr.refl _)).out.mono ?_); rintro e w1 ⟨rfl, g1⟩; clear tok1 _t)
      | (go_at_call 30; go_must (refine (HFB w1 g1).out.mono ?_); rintro e w2 ⟨rfl, g2'⟩; have g2 := g1.trans g2')
      | (go_at_call 31; go_must (refine (HSA w2 g2).out.mono ?_); rintro e w3 ⟨rfl, g3'⟩; have g3 := g2.trans g3')
      | (go_at_call 14; go_must (refine (HL _ (HE.out.gr g3)).out.mono ?_); rintro e w9 ⟨rfl, hg9⟩))
    go_ret
    exact ⟨rfl, g3.trans hg9⟩
  cases SB
  · go_enter Tryd.func11, Tryd.ntmps11
    go_wp2_with (first
      | (go_at_call 30; have _t := tok1; go_must (refine (HFA _ (Gr.refl _)).out.mono ?_); rintro e w1 ⟨rfl, g1⟩; clear tok1 _t)
      | (go_at_call 30; go_must (refine (HFB w1 g1).out.mono ?_); rintro e w2 ⟨rfl, g2'⟩; have g2 := g1.trans g2')
      | (go_at_call 31; have _t := tok2; go_must (refine (HSA w2 g2).out.mono ?_); rintro e w3 ⟨rfl, g3'⟩; have g3 := g2.trans g3'; clear tok2 _t)
      | (go_at_call 31; go_must (refine (HSB w3 g3).out.mono ?_); rintro e w4 ⟨rfl, g4'⟩; have g4 := g3.trans g4')
      | (go_at_call 14; go_must (refine (HL _ (HE.out.gr g4)).out.mono ?_); rintro e w9 ⟨rfl, hg9⟩))
    go_ret
    exact ⟨rfl, g4.trans hg9⟩
  obtain ⟨hla, hGA⟩ := hga rfl
  obtain ⟨hlb, hGB⟩ := hgb rfl
  have hoa := out_len big c hc1 la hGA
  have hob := out_len big c hc1 lb hGB
  have HPA := fun W (g : Gr w W) => Lib.hid (sessionPuts (.slice pa la.length ca) la W (HA.out.gr g) hla (fun x hx => (hGA x hx).2))
  have HPB := fun W (g : Gr w W) => Lib.hid (sessionPuts (.slice pb lb.length cb) lb W (HB.out.gr g) hlb (fun x hx => (hGB x hx).2))
  have HQA := fun W v h => Lib.hid (sessionPut v (la.map ptOf) big c (la.flatMap (outOf big c)) W h (by rw [List.length_map]; omega) (good_pts hGA) (put_all big c hc1 hc2 la hGA) (by omega))
  have HQB := fun W v h => Lib.hid (sessionPut v (lb.map ptOf) big c (lb.flatMap (outOf big c)) W h (by rw [List.length_map]; omega) (good_pts hGB) (put_all big c hc1 hc2 lb hGB) (by omega))
  have hGAB : Good (la ++ lb) := fun x hx => by
    rcases List.mem_append.1 hx with h | h
    · exact hGA x h
    · exact hGB x h
  have hpab := put_all big c hc1 hc2 (la ++ lb) hGAB
  have hgp := good_pts hGAB
  rw [List.map_append] at hpab hgp
  rw [List.flatMap_append] at hpab
  have HQ := fun W v h => Lib.hid (sessionPut v (la.map ptOf ++ lb.map ptOf) big c (la.flatMap (outOf big c) ++ lb.flatMap (outOf big c)) W h (by rw [List.length_append, List.length_map, List.length_map]; omega) hgp hpab (by rw [List.length_append]; omega))
  have HPL : (la.map ptOf).length + (lb.map ptOf).length ≤ 1000000 := by rw [List.length_map, List.length_map]; omega
  generalize la.map ptOf = PA at *
  generalize lb.map ptOf = PB at *
  generalize la.flatMap (outOf big c) = OA at *
  generalize lb.flatMap (outOf big c) = OB at *
  have HC := fun W u h => Lib.hid (concat u [OA, OB] W h (by simp only [List.flatten_cons, List.flatten_nil, List.append_nil, List.length_append]; omega))
  have hfl : [OA, OB].flatten = OA ++ OB := by simp
  rw [hfl] at HC
  clear hga hgb hGA hGB hGAB hpab hgp hfl hoa hob
  go_enter Tryd.func11, Tryd.ntmps11
  go_wp2_with (first
    | (go_at_call 30; have _t := tok1; go_must (refine (HFA _ (Gr.refl _)).out.mono ?_); rintro e w1 ⟨rfl, g1⟩; clear tok1 _t)
    | (go_at_call 30; go_must (refine (HFB w1 g1).out.mono ?_); rintro e w2 ⟨rfl, g2'⟩; have g2 := g1.trans g2')
    | (go_at_call 31; have _t := tok2; go_must (refine (HSA w2 g2).out.mono ?_); rintro e w3 ⟨rfl, g3'⟩; have g3 := g2.trans g3'; clear tok2 _t)
    | (go_at_call 31; go_must (refine (HSB w3 g3).out.mono ?_); rintro e w4 ⟨rfl, g4'⟩; have g4 := g3.trans g4')
    | (go_at_call 32; go_must (refine (HCH _).out.mono ?_); rintro e w5 ⟨rfl, rfl⟩)
    | (go_at_call 33; have _t := tok3; go_must (refine (HPA w4 g4).out.mono ?_); rintro e w5 ⟨u5, rfl, ho5, hg5⟩; have g5 := g4.trans hg5; have HO5 := Lib.hid ho5.rd; clear tok3 _t ho5)
    | (go_at_call 15; have _t := tok4; go_must (refine (HQA w5 u5 HO5.out).out.mono ?_); rintro e w6 ⟨u6, rfl, ho6, hg6⟩; have g6 := g5.trans hg6; obtain ⟨p6, c6, rfl, _⟩ := id ho6.rd; have HO6 := Lib.hid ho6.rd; clear tok4 _t ho6)
    | (go_at_call 33; have _t := tok5; go_must (refine (HPB w6 g6).out.mono ?_); rintro e w7 ⟨u7, rfl, ho7, hg7⟩; have g7 := g6.trans hg7; have HO7 := Lib.hid ho7.rd; clear tok5 _t ho7)
    | (go_at_call 15; have _t := tok6; go_must (refine (HQB w7 u7 HO7.out).out.mono ?_); rintro e w8 ⟨u8, rfl, ho8, hg8⟩; have g8 := g7.trans hg8; obtain ⟨p8, c8, rfl, _⟩ := id ho8.rd; have HO8 := Lib.hid ho8.rd; have HO6 := Lib.hid (HO6.out.gr (hg7.trans hg8)); clear tok6 _t ho8)
    | (go_at_call 33; have _t := tok7; go_must (refine (HPA w8 g8).out.mono ?_); rintro e w9 ⟨u9, rfl, ho9, hg9⟩; have g9 := g8.trans hg9; have HO9 := Lib.hid ho9; clear tok7 _t ho9)
    | (go_at_call 33; go_must (refine (HPB w9 g9).out.mono ?_); rintro e w10 ⟨u10, rfl, ho10, hg10⟩; have g10 := g9.trans hg10; have HO9 := Lib.hid (HO9.out.gr hg10); have HO10 := Lib.hid ho10; clear ho10)
    | (at_builtin; go_must (refine wpList_append_pts rfl _ _ rfl rfl HO9.out rfl HO10.out hg9.size HPL (Nat.le_trans hg9.size hg10.size) ?_); intro v11 w11 ho11 hg11; have g11 := Gr.trans2 g10 hg11 g8.size; have HG11 := Lib.hid (Gr.trans2 (hg9.trans hg10) hg11 (Nat.le_refl _)); have HO11 := Lib.hid ho11.rd; clear ho11)
    | (go_at_call 15; go_must (refine (HQ w11 v11 HO11.out).out.mono ?_); rintro e w12 ⟨u12, rfl, ho12, hg12⟩; have g12 := g11.trans hg12; have HO12 := Lib.hid ho12.rd; have HO6 := Lib.hid (HO6.out.gr (HG11.out.trans hg12)); have HO8 := Lib.hid (HO8.out.gr (HG11.out.trans hg12)); clear ho12)
    | (go_at_call 28; go_must (refine (HC _ _ (Rdd.two (heap_new_at _ _ (by first | rfl | simp)) (HO6.out.gr ((Gr.refl _).alloc _)) (HO8.out.gr ((Gr.refl _).alloc _)))).out.mono ?_); rintro e w13 ⟨u13, rfl, ho13, hg13⟩; have g13 := (g12.alloc _).trans hg13; have HO13 := Lib.hid ho13.rd; have HO12 := Lib.hid (HO12.out.gr (((Gr.refl _).alloc _).trans hg13)); clear ho13)
    | (go_at_call 17; go_must (refine (equal_same _ _ _ _ HO12.out HO13.out).mono ?_); rintro e w14 ⟨rfl, rfl⟩)
    | (go_at_call 14; go_must (refine (HL _ (HE.out.gr g13)).out.mono ?_); rintro e w15 ⟨rfl, hg15⟩))
  go_ret
  exact ⟨rfl, g13.trans hg15⟩

theorem law_apart_z (va vb : Value) (la lb : List Sp) (big : Bool) (ch : Int) (hch : 0 ≤ ch ∧ ch < 256) (w : World) (ha : RdSp w va la) (hb : RdSp w vb lb) (hE : ∃ E, EndE w E) :
    Calls Tryd.prog 11 #[va, vb, .bool big, .int .u8 ch] w (RetT w) := by
  obtain ⟨E, hE⟩ := hE
  have := law_apart va vb la lb big ch.toNat (by omega) E w ha hb hE
  rwa [Int.toNat_of_nonneg hch.1] at this
end Go.Proofs.YtgkccbfepjgjoaaDoor
