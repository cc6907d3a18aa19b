/- FnPacketAccept: the walk of the law. -/
import Derived.Test.YtoaajnhbcekglaaDoorPkAf
namespace Go.Proofs.YtoaajnhbcekglaaDoor
open Go Go.RowKit

theorem zfits10 (V0 TY FL O V8 V10 V16 A0 A1 S T : Int) (AD : ByteArray) (p : Option Addr) (n c : Nat) (w : World) :
    Calls Tryd.prog 22 #[accZ V0 TY FL O V8 V10 V16 A0 A1 S T AD (.slice p n c)] w fun e w' => e = .returned (.bool (decide (AD.size ≤ 2147483647 ∧ n ≤ 2147483647))) ∧ Gr w w' := by
  have hc : ∀ (x y : Nat), decide (x ≤ 2147483647 ∧ y ≤ 2147483647) = (!(decide ((2147483647 : Int) < (x : Int))) && !(decide ((2147483647 : Int) < (y : Int)))) := by
    intro x y
    by_cases h1 : x ≤ 2147483647 <;> by_cases h2 : y ≤ 2147483647 <;> simp [h1, h2] <;> omega
  rw [hc]
  unfold accZ
  go_enter Tryd.func22, Tryd.ntmps22
  go_wp2
  all_goals (go_ret; exact ⟨by simp_all, (Gr.refl w).alloc _⟩)

theorem capOf_min (S T : Int) : capOf S T = min S T := by unfold capOf; split <;> omega

set_option maxRecDepth 100000 in
set_option maxHeartbeats 4000000 in
theorem law_accept_unfit (V0 TY FL O V8 V10 V16 A0 A1 S T : Int) (AD : ByteArray) (p : Option Addr) (n c : Nat) (w : World) (hf : ¬ (AD.size ≤ 2147483647 ∧ n ≤ 2147483647)) :
    Calls Tryd.prog 8 #[accZ V0 TY FL O V8 V10 V16 A0 A1 S T AD (.slice p n c)] w fun e w' => e = .returned (.bool true) ∧ Gr w w' := by
  have HF := fun w => Lib.hid (zfits10 V0 TY FL O V8 V10 V16 A0 A1 S T AD p n c w)
  rw [decide_eq_false hf] at HF
  clear hf
  unfold accZ at HF ⊢
  go_enter Tryd.func8, Tryd.ntmps8
  go_wp2_with (first | (go_at_call 22; with_reducible refine (HF _).out.mono ?_; rintro e w2 ⟨rfl, hg2⟩))
  go_ret
  exact ⟨rfl, Gr.trans ((Gr.refl w).alloc _) hg2⟩

set_option maxRecDepth 100000 in
set_option maxHeartbeats 4000000 in
theorem law_accept_long (V0 TY FL O V8 V10 V16 A0 A1 S T : Int) (AD : ByteArray) (p : Option Addr) (n c : Nat) (w : World) (hf : AD.size ≤ 2147483647 ∧ n ≤ 2147483647) (h2 : 2000 < n) :
    Calls Tryd.prog 8 #[accZ V0 TY FL O V8 V10 V16 A0 A1 S T AD (.slice p n c)] w fun e w' => e = .returned (.bool true) ∧ Gr w w' := by
  have HF := fun w => Lib.hid (zfits10 V0 TY FL O V8 V10 V16 A0 A1 S T AD p n c w)
  rw [decide_eq_true hf] at HF
  clear hf
  unfold accZ at HF ⊢
  have hg20 : decide ((2000 : Int) < (n : Int)) = true := by simp; omega
  go_enter Tryd.func8, Tryd.ntmps8
  go_wp2_with (first
    | (go_at_call 22; with_reducible refine (HF _).out.mono ?_; rintro e w2 ⟨rfl, hg2⟩; have hz9 : w2.cell? ⟨w.heap.size, 12, none⟩ = some (.slice p n c) := hg2.cell ((blk_cell (heap_alloc_new w _) 12).trans rfl))
    | (go_at_call 10; refine (packetAwake _).mono ?_; rintro e w4 ⟨rfl, hg4⟩))
  go_ret
  exact ⟨rfl, (Gr.trans ((Gr.refl w).alloc _) hg2).trans hg4⟩

set_option maxRecDepth 100000 in
set_option maxHeartbeats 8000000 in
theorem law_accept_main (V0 TY FL O V8 V10 V16 A0 A1 S T V0' FL' S' T' : Int) (AD : ByteArray) (p : Option Addr) (n c : Nat) (ys : List Int) (w : World) (hd : Rd w (.slice p n c) ys) (hyn : ys.length = n) (hAD : AD.size ≤ 2147483647) (hn : n ≤ 2000)
    (h0 : 0 ≤ V0' ∧ V0' < 65536) (hfl : 0 ≤ FL' ∧ FL' < 256) (h8 : 0 ≤ V8 ∧ V8 < 65536) (h10 : 0 ≤ V10 ∧ V10 < 65536) (h16 : 0 ≤ V16 ∧ V16 < 65536) (ha0 : 0 ≤ A0 ∧ A0 < 256) (ha1 : 0 ≤ A1 ∧ A1 < 256)
    (hS : 0 ≤ S' ∧ S' < 4294967296) (hT : 0 ≤ T' ∧ T' < 4294967296) (hV0 : bits .and .u32 V0 65535 = V0') (hFL : bits .andNot .u8 FL 1 = FL') (hF1 : bits .and .u8 FL' 1 = 0)
    (hcase : (315 ≤ V8 ∧ S = S' ∧ T = T') ∨ (V8 < 315 ∧ bits .and .u32 S 65535 = S' ∧ bits .and .u32 T 65535 = T' ∧ S' < 65536 ∧ T' < 65536)) :
    Calls Tryd.prog 8 #[accZ V0 TY FL O V8 V10 V16 A0 A1 S T AD (.slice p n c)] w fun e w' => e = .returned (.bool true) ∧ Gr w w' := by
  have HF := fun w => Lib.hid (zfits10 V0 TY FL O V8 V10 V16 A0 A1 S T AD p n c w)
  rw [decide_eq_true ⟨hAD, by omega⟩] at HF
  have HY := Lib.hid hyn
  have HD := Lib.hid hd
  have hg20 : decide ((2000 : Int) < (n : Int)) = false := by simp; omega
  have HS := fun w h => Lib.hid (spec_PacketAccept V0' 2 FL' O V8 V10 V16 A0 A1 S' T' (bits .and .u32 S' 65535) (bits .and .u32 T' 65535) ⟨#[]⟩ (.slice p n c) ys w h (by omega) h0 (by omega) hfl h8 h10 h16 ha0 ha1 hS hT rfl rfl (by rw [and_u32 S' hS.1 hS.2]; omega) (by rw [and_u32 T' hT.1 hT.2]; omega))
  rw [hyn] at HS
  have hsees := acc_sees V0' 2 FL' V8 V10 V16 A0 A1 (bits .and .u32 S' 65535) (bits .and .u32 T' 65535) S' T' n ys hyn (by omega) h0 h8 h10 h16 hS hT (by rw [and_u32 S' hS.1 hS.2]; omega) (by rw [and_u32 T' hT.1 hT.2]; omega)
    (fun hv => by
      rcases hcase with ⟨h, _⟩ | ⟨_, _, _, h1, h2⟩
      · omega
      · rw [and_u32 S' hS.1 hS.2, and_u32 T' hT.1 hT.2]; omega)
  generalize accH V0' 2 FL' V8 V10 V16 A0 A1 (bits .and .u32 S' 65535) (bits .and .u32 T' 65535) S' T' n ++ ys = xs at HS hsees
  obtain ⟨s0, s1, s2, s3, s4, s5, s6, s7, s8, s9, s10, s11, s12, s13, s14⟩ := hsees xs rfl
  have HR := fun v w h => Lib.hid (impl_AcceptRead xs v w h (by omega) (by omega) s1 41 (by omega) s2 s3 (by rw [s6]; exact hF1))
  rw [s4, s5, s6, s12, s13, s7, s8, s9, s10, s11, s14] at HR
  have hmin := capOf_min S' T'
  generalize capOf S' T' = C at HR hmin
  have HMIN := Lib.hid hmin
  clear s0 s1 s2 s3 s4 s5 s6 s7 s8 s9 s10 s11 s12 s13 s14 hsees hyn hd hAD hn h0 hfl h8 h10 h16 ha0 ha1 hS hT hF1 hmin
  have hgw := heap_alloc_new w (.cells #[.int .u32 V0, .int .u8 TY, .int .u8 FL, .int .u16 O, .int .u16 V8, .int .u16 V10, .int .u16 V16, .int .u8 A0, .int .u8 A1, .int .u32 S, .int .u32 T, .string AD, .slice p n c] 48)
  have HG0 := Lib.hid ((Gr.refl w).alloc (.cells #[.int .u32 V0, .int .u8 TY, .int .u8 FL, .int .u16 O, .int .u16 V8, .int .u16 V10, .int .u16 V16, .int .u8 A0, .int .u8 A1, .int .u32 S, .int .u32 T, .string AD, .slice p n c] 48))
  obtain ⟨B, hB⟩ : ∃ B, w.heap.size = B := ⟨_, rfl⟩
  rw [hB] at hgw
  have HB := Lib.hid hB
  unfold accZ at HF HS ⊢
  go_enter Tryd.func8, Tryd.ntmps8
  go_upto_region 5 with (first
    | (go_at_call 22; with_reducible refine (HF _).out.mono ?_; rintro e w2 ⟨rfl, hg2⟩
       have hk := hg2.heap hgw
       have hG := HG0.out.trans hg2
       clear hg2 hgw
       have hz12 : w2.cell? ⟨B, 12, none⟩ = some (.slice p n c) := (blk_cell hk 12).trans rfl))
  clear hz12 hB
  have k0 : w2.cell? ⟨B, 0, none⟩ = some (.int .u32 V0) := (blk_cell hk 0).trans rfl
  have k2 : w2.cell? ⟨B, 2, none⟩ = some (.int .u8 FL) := (blk_cell hk 2).trans rfl
  have k1 : w2.cell? ⟨B, 1, none⟩ = some (.int .u8 TY) := (blk_cell hk 1).trans rfl
  have k4 : w2.cell? ⟨B, 4, none⟩ = some (.int .u16 V8) := (blk_cell hk 4).trans rfl
  have k9 : w2.cell? ⟨B, 9, none⟩ = some (.int .u32 S) := (blk_cell hk 9).trans rfl
  have k10 : w2.cell? ⟨B, 10, none⟩ = some (.int .u32 T) := (blk_cell hk 10).trans rfl
  have k11 : w2.cell? ⟨B, 11, none⟩ = some (.string AD) := (blk_cell hk 11).trans rfl
  have y0 := blk_free hk 0
  have y1 := blk_free hk 1
  have y2 := blk_free hk 2
  have y9 := blk_free hk 9
  have y10 := blk_free hk 10
  have y11 := blk_free hk 11
  have HK := Lib.hid hk
  clear hk
  rcases hcase with ⟨hv, rfl, rfl⟩ | ⟨hv, hs1, hs2, _, _⟩
  · go_upto_region 9 with fail
    have hk : ((((w2.setCell ⟨B, 1, none⟩ (.int .u8 2)).setCell ⟨B, 0, none⟩ (.int .u32 V0')).setCell ⟨B, 2, none⟩ (.int .u8 FL')).setCell ⟨B, 11, none⟩ (.string ⟨#[]⟩)).heap[B]? = some (.cells #[.int .u32 V0', .int .u8 2, .int .u8 FL', .int .u16 O, .int .u16 V8, .int .u16 V10, .int .u16 V16, .int .u8 A0, .int .u8 A1, .int .u32 S, .int .u32 T, .string ⟨#[]⟩, .slice p n c] 48 (0, 0)) := by
      have h := (blk_set (blk_set (blk_set (blk_set HK.out 1 (.int .u8 2)) 0 (.int .u32 V0')) 2 (.int .u8 FL')) 11 (.string ⟨#[]⟩))
      simpa using h
    have hBw : w.heap.size ≤ B := Nat.le_of_eq HB.out
    have hG := ((((hG.setCell (p := ⟨B, 1, none⟩) hBw (.int .u8 2)).setCell (p := ⟨B, 0, none⟩) hBw (.int .u32 V0')).setCell (p := ⟨B, 2, none⟩) hBw (.int .u8 FL')).setCell (p := ⟨B, 11, none⟩) hBw (.string ⟨#[]⟩))
    clear k0 k1 k2 k4 k9 k10 k11 y0 y1 y2 y9 y10 y11 HK
    generalize hcc : ((((w2.setCell ⟨B, 1, none⟩ (.int .u8 2)).setCell ⟨B, 0, none⟩ (.int .u32 V0')).setCell ⟨B, 2, none⟩ (.int .u8 FL')).setCell ⟨B, 11, none⟩ (.string ⟨#[]⟩)) = wq at *
    clear hcc

    have hbB := lt_of_some hk
    have HK := Lib.hid hk
    clear hk
    have x0 : wq.cell? ⟨B, 0, none⟩ = some (.int .u32 V0') := (blk_cell HK.out 0).trans rfl
    have x1 : wq.cell? ⟨B, 1, none⟩ = some (.int .u8 2) := (blk_cell HK.out 1).trans rfl
    have x2 : wq.cell? ⟨B, 2, none⟩ = some (.int .u8 FL') := (blk_cell HK.out 2).trans rfl
    have x3 : wq.cell? ⟨B, 3, none⟩ = some (.int .u16 O) := (blk_cell HK.out 3).trans rfl
    have x4 : wq.cell? ⟨B, 4, none⟩ = some (.int .u16 V8) := (blk_cell HK.out 4).trans rfl
    have x5 : wq.cell? ⟨B, 5, none⟩ = some (.int .u16 V10) := (blk_cell HK.out 5).trans rfl
    have x6 : wq.cell? ⟨B, 6, none⟩ = some (.int .u16 V16) := (blk_cell HK.out 6).trans rfl
    have x7 : wq.cell? ⟨B, 7, none⟩ = some (.int .u8 A0) := (blk_cell HK.out 7).trans rfl
    have x8 : wq.cell? ⟨B, 8, none⟩ = some (.int .u8 A1) := (blk_cell HK.out 8).trans rfl
    have x9 : wq.cell? ⟨B, 9, none⟩ = some (.int .u32 S) := (blk_cell HK.out 9).trans rfl
    have x10 : wq.cell? ⟨B, 10, none⟩ = some (.int .u32 T) := (blk_cell HK.out 10).trans rfl
    have x11 : wq.cell? ⟨B, 11, none⟩ = some (.string ⟨#[]⟩) := (blk_cell HK.out 11).trans rfl
    have x12 : wq.cell? ⟨B, 12, none⟩ = some (.slice p n c) := (blk_cell HK.out 12).trans rfl
    go_upto_region 10 with (first
      | (go_at_call 24; go_must (with_reducible refine (HS _ (HD.out.gr hG)).out.mono ?_); rintro e w3 ⟨u3, rfl, ho3, hg3⟩)
      | (go_at_call 23; go_must (with_reducible refine (HR u3 _ ho3.rd).out.mono ?_); rintro e w4 ⟨u5, rfl, ho5, hg4⟩
         obtain ⟨p5, n5, c5, hv5⟩ : ∃ p n c, u5 = .slice p n c := by obtain ⟨p, c, rfl, _⟩ := ho5.rd; exact ⟨_, _, _, rfl⟩
         subst hv5
         unfold accV
         have HO5 := Lib.hid ho5.rd
         have hg34 := hg3.trans hg4
         have hG4 := hG.trans hg34
         have HK4 := Lib.hid (hg34.heap HK.out)
         clear ho3 hg3 ho5 hg4 HK hG hg34 x0 x1 x2 x3 x4 x5 x6 x7 x8 x9 x10 x11 x12
         have hz0 := heap_alloc_new w4 (.cells acd0 48)
         obtain ⟨⟨z0, z1, z2, z3, z4, z5, z6, z7, z8, z9, z10, z11, z12⟩, ⟨y0, y1, y2, y3, y4, y5, y6, y7, y8, y9, y10, y11, y12⟩⟩ := acd_cells hz0))
    clear z0 y0 z1 y1 z2 y2 z3 y3 z4 y4 z5 y5 z6 y6 z7 y7 z8 y8 z9 y9 z10 y10 z11 y11 z12 y12
    have hgn := heap_alloc_new w4 (.cells #[.int .u32 V0', .int .u8 2, .int .u8 FL', .int .u16 41, .int .u16 V8, .int .u16 V10, .int .u16 V16, .int .u8 A0, .int .u8 A1, .int .u32 C, .int .u32 T, .string ⟨#[]⟩, .slice p5 n5 c5] 48)
    have hGA := (Gr.refl w4).alloc (.cells #[.int .u32 V0', .int .u8 2, .int .u8 FL', .int .u16 41, .int .u16 V8, .int .u16 V10, .int .u16 V16, .int .u8 A0, .int .u8 A1, .int .u32 C, .int .u32 T, .string ⟨#[]⟩, .slice p5 n5 c5] 48)
    have hkn := hGA.heap HK4.out
    have hG := hG4.trans hGA
    generalize hcc : w4.alloc (.cells #[.int .u32 V0', .int .u8 2, .int .u8 FL', .int .u16 41, .int .u16 V8, .int .u16 V10, .int .u16 V16, .int .u8 A0, .int .u8 A1, .int .u32 C, .int .u32 T, .string ⟨#[]⟩, .slice p5 n5 c5] 48) = wg at *
    clear hcc
    generalize w4.heap.size = G at *
    have hBl := lt_of_some hkn
    have hGl := lt_of_some hgn
    have x0 : wg.cell? ⟨B, 0, none⟩ = some (.int .u32 V0') := (blk_cell hkn 0).trans rfl
    have x2 : wg.cell? ⟨B, 2, none⟩ = some (.int .u8 FL') := (blk_cell hkn 2).trans rfl
    have x4 : wg.cell? ⟨B, 4, none⟩ = some (.int .u16 V8) := (blk_cell hkn 4).trans rfl
    have x5 : wg.cell? ⟨B, 5, none⟩ = some (.int .u16 V10) := (blk_cell hkn 5).trans rfl
    have x6 : wg.cell? ⟨B, 6, none⟩ = some (.int .u16 V16) := (blk_cell hkn 6).trans rfl
    have x7 : wg.cell? ⟨B, 7, none⟩ = some (.int .u8 A0) := (blk_cell hkn 7).trans rfl
    have x8 : wg.cell? ⟨B, 8, none⟩ = some (.int .u8 A1) := (blk_cell hkn 8).trans rfl
    have x9 : wg.cell? ⟨B, 9, none⟩ = some (.int .u32 S) := (blk_cell hkn 9).trans rfl
    have x10 : wg.cell? ⟨B, 10, none⟩ = some (.int .u32 T) := (blk_cell hkn 10).trans rfl
    have x12 : wg.cell? ⟨B, 12, none⟩ = some (.slice p n c) := (blk_cell hkn 12).trans rfl
    have g0 : wg.cell? ⟨G, 0, none⟩ = some (.int .u32 V0') := (blk_cell hgn 0).trans rfl
    have g1 : wg.cell? ⟨G, 1, none⟩ = some (.int .u8 2) := (blk_cell hgn 1).trans rfl
    have g2 : wg.cell? ⟨G, 2, none⟩ = some (.int .u8 FL') := (blk_cell hgn 2).trans rfl
    have g3 : wg.cell? ⟨G, 3, none⟩ = some (.int .u16 41) := (blk_cell hgn 3).trans rfl
    have g4 : wg.cell? ⟨G, 4, none⟩ = some (.int .u16 V8) := (blk_cell hgn 4).trans rfl
    have g5 : wg.cell? ⟨G, 5, none⟩ = some (.int .u16 V10) := (blk_cell hgn 5).trans rfl
    have g6 : wg.cell? ⟨G, 6, none⟩ = some (.int .u16 V16) := (blk_cell hgn 6).trans rfl
    have g7 : wg.cell? ⟨G, 7, none⟩ = some (.int .u8 A0) := (blk_cell hgn 7).trans rfl
    have g8 : wg.cell? ⟨G, 8, none⟩ = some (.int .u8 A1) := (blk_cell hgn 8).trans rfl
    have g9 : wg.cell? ⟨G, 9, none⟩ = some (.int .u32 C) := (blk_cell hgn 9).trans rfl
    have g10 : wg.cell? ⟨G, 10, none⟩ = some (.int .u32 T) := (blk_cell hgn 10).trans rfl
    have g11 : wg.cell? ⟨G, 11, none⟩ = some (.string ⟨#[]⟩) := (blk_cell hgn 11).trans rfl
    have g12 : wg.cell? ⟨G, 12, none⟩ = some (.slice p5 n5 c5) := (blk_cell hgn 12).trans rfl
    have HRA := Lib.hid (HO5.out.gr hGA)
    have HRB := Lib.hid (HD.out.gr hG)
    have hC := HMIN.out.symm
    have HGG := Lib.hid hG
    clear hgn hkn hG hGA HK4 hG4 HO5 HMIN
    go_wp2_with (first
      | (go_at_call 11; go_must (refine (equal _ _ ys ys _ HRA.out HRB.out).mono ?_); rintro e w5 ⟨rfl, hw⟩; obtain rfl := hw)
      | (go_at_call 10; refine (packetAwake _).mono ?_; rintro e w6 ⟨rfl, hg6⟩))
    go_ret
    exact ⟨by simp, HGG.out.trans hg6⟩
  · go_upto_region 9 with fail
    have hk : ((((((w2.setCell ⟨B, 1, none⟩ (.int .u8 2)).setCell ⟨B, 0, none⟩ (.int .u32 V0')).setCell ⟨B, 2, none⟩ (.int .u8 FL')).setCell ⟨B, 9, none⟩ (.int .u32 S')).setCell ⟨B, 10, none⟩ (.int .u32 T')).setCell ⟨B, 11, none⟩ (.string ⟨#[]⟩)).heap[B]? = some (.cells #[.int .u32 V0', .int .u8 2, .int .u8 FL', .int .u16 O, .int .u16 V8, .int .u16 V10, .int .u16 V16, .int .u8 A0, .int .u8 A1, .int .u32 S', .int .u32 T', .string ⟨#[]⟩, .slice p n c] 48 (0, 0)) := by
      have h := (blk_set (blk_set (blk_set (blk_set (blk_set (blk_set HK.out 1 (.int .u8 2)) 0 (.int .u32 V0')) 2 (.int .u8 FL')) 9 (.int .u32 S')) 10 (.int .u32 T')) 11 (.string ⟨#[]⟩))
      simpa using h
    have hBw : w.heap.size ≤ B := Nat.le_of_eq HB.out
    have hG := ((((((hG.setCell (p := ⟨B, 1, none⟩) hBw (.int .u8 2)).setCell (p := ⟨B, 0, none⟩) hBw (.int .u32 V0')).setCell (p := ⟨B, 2, none⟩) hBw (.int .u8 FL')).setCell (p := ⟨B, 9, none⟩) hBw (.int .u32 S')).setCell (p := ⟨B, 10, none⟩) hBw (.int .u32 T')).setCell (p := ⟨B, 11, none⟩) hBw (.string ⟨#[]⟩))
    clear k0 k1 k2 k4 k9 k10 k11 y0 y1 y2 y9 y10 y11 HK
    generalize hcc : ((((((w2.setCell ⟨B, 1, none⟩ (.int .u8 2)).setCell ⟨B, 0, none⟩ (.int .u32 V0')).setCell ⟨B, 2, none⟩ (.int .u8 FL')).setCell ⟨B, 9, none⟩ (.int .u32 S')).setCell ⟨B, 10, none⟩ (.int .u32 T')).setCell ⟨B, 11, none⟩ (.string ⟨#[]⟩)) = wq at *
    clear hcc

    have hbB := lt_of_some hk
    have HK := Lib.hid hk
    clear hk
    have x0 : wq.cell? ⟨B, 0, none⟩ = some (.int .u32 V0') := (blk_cell HK.out 0).trans rfl
    have x1 : wq.cell? ⟨B, 1, none⟩ = some (.int .u8 2) := (blk_cell HK.out 1).trans rfl
    have x2 : wq.cell? ⟨B, 2, none⟩ = some (.int .u8 FL') := (blk_cell HK.out 2).trans rfl
    have x3 : wq.cell? ⟨B, 3, none⟩ = some (.int .u16 O) := (blk_cell HK.out 3).trans rfl
    have x4 : wq.cell? ⟨B, 4, none⟩ = some (.int .u16 V8) := (blk_cell HK.out 4).trans rfl
    have x5 : wq.cell? ⟨B, 5, none⟩ = some (.int .u16 V10) := (blk_cell HK.out 5).trans rfl
    have x6 : wq.cell? ⟨B, 6, none⟩ = some (.int .u16 V16) := (blk_cell HK.out 6).trans rfl
    have x7 : wq.cell? ⟨B, 7, none⟩ = some (.int .u8 A0) := (blk_cell HK.out 7).trans rfl
    have x8 : wq.cell? ⟨B, 8, none⟩ = some (.int .u8 A1) := (blk_cell HK.out 8).trans rfl
    have x9 : wq.cell? ⟨B, 9, none⟩ = some (.int .u32 S') := (blk_cell HK.out 9).trans rfl
    have x10 : wq.cell? ⟨B, 10, none⟩ = some (.int .u32 T') := (blk_cell HK.out 10).trans rfl
    have x11 : wq.cell? ⟨B, 11, none⟩ = some (.string ⟨#[]⟩) := (blk_cell HK.out 11).trans rfl
    have x12 : wq.cell? ⟨B, 12, none⟩ = some (.slice p n c) := (blk_cell HK.out 12).trans rfl
    go_upto_region 10 with (first
      | (go_at_call 24; go_must (with_reducible refine (HS _ (HD.out.gr hG)).out.mono ?_); rintro e w3 ⟨u3, rfl, ho3, hg3⟩)
      | (go_at_call 23; go_must (with_reducible refine (HR u3 _ ho3.rd).out.mono ?_); rintro e w4 ⟨u5, rfl, ho5, hg4⟩
         obtain ⟨p5, n5, c5, hv5⟩ : ∃ p n c, u5 = .slice p n c := by obtain ⟨p, c, rfl, _⟩ := ho5.rd; exact ⟨_, _, _, rfl⟩
         subst hv5
         unfold accV
         have HO5 := Lib.hid ho5.rd
         have hg34 := hg3.trans hg4
         have hG4 := hG.trans hg34
         have HK4 := Lib.hid (hg34.heap HK.out)
         clear ho3 hg3 ho5 hg4 HK hG hg34 x0 x1 x2 x3 x4 x5 x6 x7 x8 x9 x10 x11 x12
         have hz0 := heap_alloc_new w4 (.cells acd0 48)
         obtain ⟨⟨z0, z1, z2, z3, z4, z5, z6, z7, z8, z9, z10, z11, z12⟩, ⟨y0, y1, y2, y3, y4, y5, y6, y7, y8, y9, y10, y11, y12⟩⟩ := acd_cells hz0))
    clear z0 y0 z1 y1 z2 y2 z3 y3 z4 y4 z5 y5 z6 y6 z7 y7 z8 y8 z9 y9 z10 y10 z11 y11 z12 y12
    have hgn := heap_alloc_new w4 (.cells #[.int .u32 V0', .int .u8 2, .int .u8 FL', .int .u16 41, .int .u16 V8, .int .u16 V10, .int .u16 V16, .int .u8 A0, .int .u8 A1, .int .u32 C, .int .u32 T', .string ⟨#[]⟩, .slice p5 n5 c5] 48)
    have hGA := (Gr.refl w4).alloc (.cells #[.int .u32 V0', .int .u8 2, .int .u8 FL', .int .u16 41, .int .u16 V8, .int .u16 V10, .int .u16 V16, .int .u8 A0, .int .u8 A1, .int .u32 C, .int .u32 T', .string ⟨#[]⟩, .slice p5 n5 c5] 48)
    have hkn := hGA.heap HK4.out
    have hG := hG4.trans hGA
    generalize hcc : w4.alloc (.cells #[.int .u32 V0', .int .u8 2, .int .u8 FL', .int .u16 41, .int .u16 V8, .int .u16 V10, .int .u16 V16, .int .u8 A0, .int .u8 A1, .int .u32 C, .int .u32 T', .string ⟨#[]⟩, .slice p5 n5 c5] 48) = wg at *
    clear hcc
    generalize w4.heap.size = G at *
    have hBl := lt_of_some hkn
    have hGl := lt_of_some hgn
    have x0 : wg.cell? ⟨B, 0, none⟩ = some (.int .u32 V0') := (blk_cell hkn 0).trans rfl
    have x2 : wg.cell? ⟨B, 2, none⟩ = some (.int .u8 FL') := (blk_cell hkn 2).trans rfl
    have x4 : wg.cell? ⟨B, 4, none⟩ = some (.int .u16 V8) := (blk_cell hkn 4).trans rfl
    have x5 : wg.cell? ⟨B, 5, none⟩ = some (.int .u16 V10) := (blk_cell hkn 5).trans rfl
    have x6 : wg.cell? ⟨B, 6, none⟩ = some (.int .u16 V16) := (blk_cell hkn 6).trans rfl
    have x7 : wg.cell? ⟨B, 7, none⟩ = some (.int .u8 A0) := (blk_cell hkn 7).trans rfl
    have x8 : wg.cell? ⟨B, 8, none⟩ = some (.int .u8 A1) := (blk_cell hkn 8).trans rfl
    have x9 : wg.cell? ⟨B, 9, none⟩ = some (.int .u32 S') := (blk_cell hkn 9).trans rfl
    have x10 : wg.cell? ⟨B, 10, none⟩ = some (.int .u32 T') := (blk_cell hkn 10).trans rfl
    have x12 : wg.cell? ⟨B, 12, none⟩ = some (.slice p n c) := (blk_cell hkn 12).trans rfl
    have g0 : wg.cell? ⟨G, 0, none⟩ = some (.int .u32 V0') := (blk_cell hgn 0).trans rfl
    have g1 : wg.cell? ⟨G, 1, none⟩ = some (.int .u8 2) := (blk_cell hgn 1).trans rfl
    have g2 : wg.cell? ⟨G, 2, none⟩ = some (.int .u8 FL') := (blk_cell hgn 2).trans rfl
    have g3 : wg.cell? ⟨G, 3, none⟩ = some (.int .u16 41) := (blk_cell hgn 3).trans rfl
    have g4 : wg.cell? ⟨G, 4, none⟩ = some (.int .u16 V8) := (blk_cell hgn 4).trans rfl
    have g5 : wg.cell? ⟨G, 5, none⟩ = some (.int .u16 V10) := (blk_cell hgn 5).trans rfl
    have g6 : wg.cell? ⟨G, 6, none⟩ = some (.int .u16 V16) := (blk_cell hgn 6).trans rfl
    have g7 : wg.cell? ⟨G, 7, none⟩ = some (.int .u8 A0) := (blk_cell hgn 7).trans rfl
    have g8 : wg.cell? ⟨G, 8, none⟩ = some (.int .u8 A1) := (blk_cell hgn 8).trans rfl
    have g9 : wg.cell? ⟨G, 9, none⟩ = some (.int .u32 C) := (blk_cell hgn 9).trans rfl
    have g10 : wg.cell? ⟨G, 10, none⟩ = some (.int .u32 T') := (blk_cell hgn 10).trans rfl
    have g11 : wg.cell? ⟨G, 11, none⟩ = some (.string ⟨#[]⟩) := (blk_cell hgn 11).trans rfl
    have g12 : wg.cell? ⟨G, 12, none⟩ = some (.slice p5 n5 c5) := (blk_cell hgn 12).trans rfl
    have HRA := Lib.hid (HO5.out.gr hGA)
    have HRB := Lib.hid (HD.out.gr hG)
    have hC := HMIN.out.symm
    have HGG := Lib.hid hG
    clear hgn hkn hG hGA HK4 hG4 HO5 HMIN
    go_wp2_with (first
      | (go_at_call 11; go_must (refine (equal _ _ ys ys _ HRA.out HRB.out).mono ?_); rintro e w5 ⟨rfl, hw⟩; obtain rfl := hw)
      | (go_at_call 10; refine (packetAwake _).mono ?_; rintro e w6 ⟨rfl, hg6⟩))
    go_ret
    exact ⟨by simp, HGG.out.trans hg6⟩
end Go.Proofs.YtoaajnhbcekglaaDoor
