/- The reference's reader: a step, by its kinds: keys with values, texts, fixed CLRs (gen_sr.py). -/
import Derived.Test.YtgkccbfepjgjoaaDoorSeRh
import Derived.Deep.RegionHeld3
namespace Go.Proofs.YtgkccbfepjgjoaaDoor
open Go Go.RowKit

set_option maxRecDepth 100000 in
set_option maxHeartbeats 2000000 in
theorem sr_kv (r : Nat) (big : Bool) (xs : List Int) (P : G → List Int → Bool → Bool → Prop) (L : List Int → List Int → Bool → Bool → Prop) (L2 : List Int → List Int → List Int → Bool → Bool → Prop) (L3 : List Int → List Int → Int → List Int → Bool → Bool → Prop) (sz : Int) (be co : Bool) (w : World) (h : Sx w r xs false false)
    (hC : ∀ W, Sx W r xs false false → Calls Tryd.prog 52 #[.pointer (some ⟨r, 0, none⟩), .bool big] W (RetD L W r))
    (hC2 : ∀ W l q t o, L l q t o → Sx W r q t o → Calls Tryd.prog 52 #[.pointer (some ⟨r, 0, none⟩), .bool big] W (RetD (L2 l) W r))
    (hC3 : ∀ W l l2 q t o, L2 l l2 q t o → Sx W r q t o → Calls Tryd.prog 53 #[.pointer (some ⟨r, 0, none⟩)] W (RetN (L3 l l2) .i64 W r))
    (hP : ∀ l l2 z q t o, L3 l l2 z q t o → P (if t = true then G.no else ⟨true, l, l2, z, ⟨#[]⟩⟩) q t o) :
    Calls Tryd.prog 25 #[.pointer (some ⟨r, 0, none⟩), .agg #[.int .i64 6, .int .i64 sz, .bool be, .bool co], .bool big] w (RetR P w r) := by
  have HC := Lib.hid hC
  have HPP := Lib.hid hP
  have HC2 := Lib.hid hC2
  have HC3 := Lib.hid hC3
  clear hC hP hC2 hC3
  have hsl := h.lt
  have HN := Lib.hid (GB.new w 6 sz be co)
  have HS := Lib.hid h
  clear h
  go_enter Tryd.func25, Tryd.ntmps25
  go_upto_block 0 with (fail)
  go_cut [] from 8 to 168 (fun wc => InvR P w r wc)
  case first =>
    go_wp2_with fail
    go_must (refine (HC.out _ (HS.out.gr (boxW_gr w 6 sz be co))).mono ?_)
    rintro e w1 ⟨u, l, q, t, o, rfl, hu, ho, hx, hf1, hs1, hL⟩
    have hM := (Mid.mk' HS.out (boxW_gr w 6 sz be co) (by rw [boxW_size]; omega) hf1 hs1 hu (Rd.nil w1) ho (offV_nil r) hx (fun s _ _ => offV_nil s)).set hsl _ (Or.inr rfl) 1 u
    have hb1 := HN.out.fx hf1.fx hsl
    have g0 := blk_cell hb1.g 0; have g1 := blk_cell hb1.g 1; have g2 := blk_cell hb1.g 2; have g3 := blk_cell hb1.g 3; have g4 := blk_cell hb1.g 4
    have y1 := blk_free hb1.g 1; have y2 := blk_free hb1.g 2; have y3 := blk_free hb1.g 3; have y4 := blk_free hb1.g 4
    simp [zeroCs] at g0 g1 g2 g3 g4
    have hz1 : w.heap.size + 1 + 1 < w1.heap.size := by have := hf1.size; rw [boxW_size] at this; omega
    obtain ⟨pu, cu, rfl, _⟩ := id hu
    have hgx : (w1.setCell ⟨w.heap.size + 1 + 1, 1, none⟩ (.slice pu l.length cu)).heap[w.heap.size + 1 + 1]? = some (.cells #[.bool false, .slice pu l.length cu, .slice none 0 0, .int .i64 0, .string ⟨#[]⟩] 31 (0, 0)) := by rw [blk_set hb1.g]; rfl
    have hrx : (w1.setCell ⟨w.heap.size + 1 + 1, 1, none⟩ (.slice pu l.length cu)).heap[w.heap.size + 1]? = _ := ((Fx.refl _ w1).set 1 _).heap hb1.r (by omega)
    have hzx : w.heap.size + 1 + 1 < (w1.setCell ⟨w.heap.size + 1 + 1, 1, none⟩ (.slice pu l.length cu)).heap.size := by simpa using hz1
    have HM := Lib.hid hM
    have HC2' := Lib.hid (HC2.out _ l q t o hL hM.sx)
    have HGX := Lib.hid hgx
    have HRX := Lib.hid hrx
    clear hb1 hs1 hf1 hM hL hu ho hx hgx hrx
    go_wp2_with fail
    clear g0 g1 g2 g3 g4 y1 y2 y3 y4
    generalize l.length = lu at *
    generalize w1.setCell ⟨w.heap.size + 1 + 1, 1, none⟩ (.slice pu lu cu) = X1 at *
    go_must (refine HC2'.out.mono ?_)
    rintro e w2 ⟨u2, l2, q2, t2, o2, rfl, hu2, ho2, hx2, hf2, hs2, hL2⟩
    have hM := ((HM.out.step hzx hf2 hs2 hu2 ho2 hx2)).set hsl _ (Or.inr rfl) 2 u2
    obtain ⟨pu2, cu2, rfl, _⟩ := id hu2
    have hg2 := hf2.fx.heap HGX.out (show w.heap.size + 1 + 1 ≠ r by omega)
    have g2 := blk_cell hg2 2; have y2 := blk_free hg2 2
    simp at g2
    have hgx : (w2.setCell ⟨w.heap.size + 1 + 1, 2, none⟩ (.slice pu2 l2.length cu2)).heap[w.heap.size + 1 + 1]? = some (.cells #[.bool false, .slice pu lu cu, .slice pu2 l2.length cu2, .int .i64 0, .string ⟨#[]⟩] 31 (0, 0)) := by rw [blk_set hg2]; rfl
    have hrx : (w2.setCell ⟨w.heap.size + 1 + 1, 2, none⟩ (.slice pu2 l2.length cu2)).heap[w.heap.size + 1]? = _ := ((Fx.refl _ w2).set 2 _).heap (hf2.fx.heap HRX.out (show w.heap.size + 1 ≠ r by omega)) (by omega)
    have HM2 := Lib.hid hM
    have HC3' := Lib.hid (HC3.out _ l l2 q2 t2 o2 hL2 hM.sx)
    have HGX2 := Lib.hid hgx
    have HRX2 := Lib.hid hrx
    clear hs2 hf2 hM hL2 hu2 ho2 hx2 hgx hrx hg2 HM HGX HRX HC2' hzx hz1
    go_wp2_with fail
    clear g2 y2
    generalize l2.length = lu2 at *
    generalize w2.setCell ⟨w.heap.size + 1 + 1, 2, none⟩ (.slice pu2 lu2 cu2) = X2 at *
    go_must (refine HC3'.out.mono ?_)
    rintro e w3 ⟨z, q3, t3, o3, rfl, hf3, hs3, hL3⟩
    have hM := (HM2.out.stepN hf3 hs3).set hsl _ (Or.inr rfl) 3 (.int .i64 z)
    have hg3 := hf3.fx.heap HGX2.out (show w.heap.size + 1 + 1 ≠ r by omega)
    have g3 := blk_cell hg3 3; have y3 := blk_free hg3 3
    simp at g3
    have HI := Lib.hid (show InvR P w r (w3.setCell ⟨w.heap.size + 1 + 1, 3, none⟩ (.int .i64 z)) from ⟨.slice pu lu cu, .slice pu2 lu2 cu2, l, l2, z, ⟨#[]⟩, q3, t3, o3, hM, by rw [blk_set hg3]; rfl, ((Fx.refl _ w3).set 3 _).heap (hf3.fx.heap HRX2.out (show w.heap.size + 1 ≠ r by omega)) (by omega), HPP.out _ _ _ _ _ _ hL3⟩)
    clear hs3 hf3 hM hL3 hg3 HM2 HGX2 HRX2 HC3'
    go_wp2_with fail
    go_meet
    exact HI.out
  case rest =>
    clear HN HS
    obtain ⟨dv, ov, l, ol, n, b, q, t, o, hM, hg, hr, hP⟩ := hcut
    have c1 := hM.sx.c1
    obtain ⟨pd, cd, rfl, _⟩ := id hM.d
    obtain ⟨po, co', rfl, _⟩ := id hM.e
    generalize l.length = nd at *
    generalize ol.length = no' at *
    have HM := Lib.hid hM
    have HP := Lib.hid hP
    have HR := Lib.hid hr
    clear hM hP hr
    cases t
    · simp only [Bool.false_eq_true, if_false] at HP
      have g0 := blk_cell hg 0; have y0 := blk_free hg 0
      simp at g0
      have HG := Lib.hid (blk_set hg 0 (.bool true))
      simp at HG
      have HM1 := Lib.hid (HM.out.set hsl _ (Or.inr rfl) 0 (.bool true))
      have HR1 := Lib.hid (((Fx.refl _ wc).set 0 (.bool true)).heap HR.out (show w.heap.size + 1 ≠ w.heap.size + 1 + 1 by omega))
      clear hg
      go_upto_region 44 with (fail)
      generalize wc.setCell ⟨w.heap.size + 1 + 1, 0, none⟩ (.bool true) = X at *
      clear g0 y0 c1
      have hX := HG.out
      have hY := HR1.out
      have g0 := blk_cell hX 0; have g1 := blk_cell hX 1; have g2 := blk_cell hX 2; have g3 := blk_cell hX 3; have g4 := blk_cell hX 4
      have n0 := blk_cell hY 0; have n1 := blk_cell hY 1; have n2 := blk_cell hY 2; have n3 := blk_cell hY 3; have n4 := blk_cell hY 4
      have m0 := blk_free hY 0; have m1 := blk_free hY 1; have m2 := blk_free hY 2; have m3 := blk_free hY 3; have m4 := blk_free hY 4
      simp [zeroCs] at g0 g1 g2 g3 g4 n0 n1 n2 n3 n4
      clear hX hY
      go_wp2_with fail
      refine bodyPost_ret (v := .agg #[.bool true, .slice pd nd cd, .slice po no' co', .int .i64 n, .string b]) ?_ rfl ?_
      · simp [results, Tryd.results25, go_sem, n0, n1, n2, n3, n4] <;> rfl
      · exact ((((((HM1.out).set hsl _ (Or.inl rfl) 0 _).set hsl _ (Or.inl rfl) 1 _).set hsl _ (Or.inl rfl) 2 _).set hsl _ (Or.inl rfl) 3 _).set hsl _ (Or.inl rfl) 4 _).ret n b HP.out
    · simp only [if_true] at HP
      have g0 := blk_cell hg 0; have y0 := blk_free hg 0
      have g1 := blk_cell hg 1; have y1 := blk_free hg 1
      have g2 := blk_cell hg 2; have y2 := blk_free hg 2
      have g3 := blk_cell hg 3; have y3 := blk_free hg 3
      have g4 := blk_cell hg 4; have y4 := blk_free hg 4
      simp at g0 g1 g2 g3 g4
      have HG := Lib.hid (blk_set (blk_set (blk_set (blk_set (blk_set (blk_set hg 0 (.bool false)) 0 (.bool false)) 1 (.slice none 0 0)) 2 (.slice none 0 0)) 3 (.int .i64 0)) 4 (.string ⟨#[]⟩))
      simp at HG
      have HM1 := Lib.hid ((((((HM.out.set hsl _ (Or.inr rfl) 0 (.bool false)).set hsl _ (Or.inr rfl) 0 (.bool false)).set hsl _ (Or.inr rfl) 1 (.slice none 0 0)).set hsl _ (Or.inr rfl) 2 (.slice none 0 0)).set hsl _ (Or.inr rfl) 3 (.int .i64 0)).set hsl _ (Or.inr rfl) 4 (.string ⟨#[]⟩))
      have HR1 := Lib.hid (((((((Fx.refl _ wc).set 0 (.bool false)).set 0 (.bool false)).set 1 (.slice none 0 0)).set 2 (.slice none 0 0)).set 3 (.int .i64 0)).set 4 (.string ⟨#[]⟩) |>.heap HR.out (show w.heap.size + 1 ≠ w.heap.size + 1 + 1 by omega))
      clear hg
      go_upto_region 44 with (fail)
      generalize (((((wc.setCell ⟨w.heap.size + 1 + 1, 0, none⟩ (.bool false)).setCell ⟨w.heap.size + 1 + 1, 0, none⟩ (.bool false)).setCell ⟨w.heap.size + 1 + 1, 1, none⟩ (.slice none 0 0)).setCell ⟨w.heap.size + 1 + 1, 2, none⟩ (.slice none 0 0)).setCell ⟨w.heap.size + 1 + 1, 3, none⟩ (.int .i64 0)).setCell ⟨w.heap.size + 1 + 1, 4, none⟩ (.string ⟨#[]⟩) = X at *
      clear g0 g1 g2 g3 g4 y0 y1 y2 y3 y4 c1
      have hX := HG.out
      have hY := HR1.out
      have g0 := blk_cell hX 0; have g1 := blk_cell hX 1; have g2 := blk_cell hX 2; have g3 := blk_cell hX 3; have g4 := blk_cell hX 4
      have n0 := blk_cell hY 0; have n1 := blk_cell hY 1; have n2 := blk_cell hY 2; have n3 := blk_cell hY 3; have n4 := blk_cell hY 4
      have m0 := blk_free hY 0; have m1 := blk_free hY 1; have m2 := blk_free hY 2; have m3 := blk_free hY 3; have m4 := blk_free hY 4
      simp [zeroCs] at g0 g1 g2 g3 g4 n0 n1 n2 n3 n4
      clear hX hY
      go_wp2_with fail
      refine bodyPost_ret (v := zeroG) ?_ rfl ?_
      · simp [zeroG, results, Tryd.results25, go_sem, n0, n1, n2, n3, n4] <;> rfl
      · exact ((((((HM1.out).set hsl _ (Or.inl rfl) 0 _).set hsl _ (Or.inl rfl) 1 _).set hsl _ (Or.inl rfl) 2 _).set hsl _ (Or.inl rfl) 3 _).set hsl _ (Or.inl rfl) 4 _).no HP.out

set_option maxRecDepth 100000 in
set_option maxHeartbeats 2000000 in
theorem sr_text_torn (r : Nat) (big : Bool) (xs : List Int) (P : G → List Int → Bool → Bool → Prop) (m : Nat) (be co : Bool) (w : World) (h : Sx w r xs false false)
    (hC : ∀ W, Sx W r xs false false → Calls Tryd.prog 50 #[.pointer (some ⟨r, 0, none⟩), .int .i64 m] W (RetTn W r (.slice none 0 0) false)) (hP : ∀ q, P G.no q true false) :
    Calls Tryd.prog 25 #[.pointer (some ⟨r, 0, none⟩), .agg #[.int .i64 7, .int .i64 m, .bool be, .bool co], .bool big] w (RetR P w r) := by
  have HC := Lib.hid hC
  have HPP := Lib.hid hP
  clear hC hP
  have hsl := h.lt
  have HN := Lib.hid (GB.new w 7 m be co)
  have HS := Lib.hid h
  clear h
  go_enter Tryd.func25, Tryd.ntmps25
  go_upto_block 0 with (fail)
  go_cut [] from 8 to 168 (fun wc => InvR P w r wc)
  case first =>
    go_wp2_with fail
    go_must (refine (HC.out _ (HS.out.gr (boxW_gr w 7 m be co))).mono ?_)
    rintro e w1 ⟨rfl, ⟨q, hs1⟩, hf1⟩
    have hu := Rd.nil w1
    have hM := (Mid.mk' HS.out (boxW_gr w 7 m be co) (by rw [boxW_size]; omega) hf1 hs1 (Rd.nil w1) (Rd.nil w1) (offV_nil r) (offV_nil r) (fun s _ _ => offV_nil s) (fun s _ _ => offV_nil s)).set hsl _ (Or.inr rfl) 4 (.string (tx []))
    have hb1 := HN.out.fx hf1.fx hsl
    have g0 := blk_cell hb1.g 0; have g1 := blk_cell hb1.g 1; have g2 := blk_cell hb1.g 2; have g3 := blk_cell hb1.g 3; have g4 := blk_cell hb1.g 4
    have y1 := blk_free hb1.g 1; have y2 := blk_free hb1.g 2; have y3 := blk_free hb1.g 3; have y4 := blk_free hb1.g 4
    simp [zeroCs] at g0 g1 g2 g3 g4
    have hcv := str_conv hu
    go_wp2_with fail
    go_must (refine (index_none (.slice none 0 0) [] w1 hu (by simp)).mono ?_)
    rintro e w2 ⟨rfl, rfl⟩
    have HI := Lib.hid (show InvR P w r (w1.setCell ⟨w.heap.size + 1 + 1, 4, none⟩ (.string (tx []))) from ⟨.slice none 0 0, .slice none 0 0, [], [], 0, tx [], q, true, false, hM, by rw [blk_set hb1.g]; rfl, ((Fx.refl _ w1).set 4 _).heap hb1.r (by omega), HPP.out q⟩)
    clear hb1 hs1 hf1 hM hu
    go_wp2_with fail
    go_meet
    exact HI.out
  case rest =>
    clear HN HS
    obtain ⟨dv, ov, l, ol, n, b, q, t, o, hM, hg, hr, hP⟩ := hcut
    have c1 := hM.sx.c1
    obtain ⟨pd, cd, rfl, _⟩ := id hM.d
    obtain ⟨po, co', rfl, _⟩ := id hM.e
    generalize l.length = nd at *
    generalize ol.length = no' at *
    have HM := Lib.hid hM
    have HP := Lib.hid hP
    have HR := Lib.hid hr
    clear hM hP hr
    cases t
    · simp only [Bool.false_eq_true, if_false] at HP
      have g0 := blk_cell hg 0; have y0 := blk_free hg 0
      simp at g0
      have HG := Lib.hid (blk_set hg 0 (.bool true))
      simp at HG
      have HM1 := Lib.hid (HM.out.set hsl _ (Or.inr rfl) 0 (.bool true))
      have HR1 := Lib.hid (((Fx.refl _ wc).set 0 (.bool true)).heap HR.out (show w.heap.size + 1 ≠ w.heap.size + 1 + 1 by omega))
      clear hg
      go_upto_region 44 with (fail)
      generalize wc.setCell ⟨w.heap.size + 1 + 1, 0, none⟩ (.bool true) = X at *
      clear g0 y0 c1
      have hX := HG.out
      have hY := HR1.out
      have g0 := blk_cell hX 0; have g1 := blk_cell hX 1; have g2 := blk_cell hX 2; have g3 := blk_cell hX 3; have g4 := blk_cell hX 4
      have n0 := blk_cell hY 0; have n1 := blk_cell hY 1; have n2 := blk_cell hY 2; have n3 := blk_cell hY 3; have n4 := blk_cell hY 4
      have m0 := blk_free hY 0; have m1 := blk_free hY 1; have m2 := blk_free hY 2; have m3 := blk_free hY 3; have m4 := blk_free hY 4
      simp [zeroCs] at g0 g1 g2 g3 g4 n0 n1 n2 n3 n4
      clear hX hY
      go_wp2_with fail
      refine bodyPost_ret (v := .agg #[.bool true, .slice pd nd cd, .slice po no' co', .int .i64 n, .string b]) ?_ rfl ?_
      · simp [results, Tryd.results25, go_sem, n0, n1, n2, n3, n4] <;> rfl
      · exact ((((((HM1.out).set hsl _ (Or.inl rfl) 0 _).set hsl _ (Or.inl rfl) 1 _).set hsl _ (Or.inl rfl) 2 _).set hsl _ (Or.inl rfl) 3 _).set hsl _ (Or.inl rfl) 4 _).ret n b HP.out
    · simp only [if_true] at HP
      have g0 := blk_cell hg 0; have y0 := blk_free hg 0
      have g1 := blk_cell hg 1; have y1 := blk_free hg 1
      have g2 := blk_cell hg 2; have y2 := blk_free hg 2
      have g3 := blk_cell hg 3; have y3 := blk_free hg 3
      have g4 := blk_cell hg 4; have y4 := blk_free hg 4
      simp at g0 g1 g2 g3 g4
      have HG := Lib.hid (blk_set (blk_set (blk_set (blk_set (blk_set (blk_set hg 0 (.bool false)) 0 (.bool false)) 1 (.slice none 0 0)) 2 (.slice none 0 0)) 3 (.int .i64 0)) 4 (.string ⟨#[]⟩))
      simp at HG
      have HM1 := Lib.hid ((((((HM.out.set hsl _ (Or.inr rfl) 0 (.bool false)).set hsl _ (Or.inr rfl) 0 (.bool false)).set hsl _ (Or.inr rfl) 1 (.slice none 0 0)).set hsl _ (Or.inr rfl) 2 (.slice none 0 0)).set hsl _ (Or.inr rfl) 3 (.int .i64 0)).set hsl _ (Or.inr rfl) 4 (.string ⟨#[]⟩))
      have HR1 := Lib.hid (((((((Fx.refl _ wc).set 0 (.bool false)).set 0 (.bool false)).set 1 (.slice none 0 0)).set 2 (.slice none 0 0)).set 3 (.int .i64 0)).set 4 (.string ⟨#[]⟩) |>.heap HR.out (show w.heap.size + 1 ≠ w.heap.size + 1 + 1 by omega))
      clear hg
      go_upto_region 44 with (fail)
      generalize (((((wc.setCell ⟨w.heap.size + 1 + 1, 0, none⟩ (.bool false)).setCell ⟨w.heap.size + 1 + 1, 0, none⟩ (.bool false)).setCell ⟨w.heap.size + 1 + 1, 1, none⟩ (.slice none 0 0)).setCell ⟨w.heap.size + 1 + 1, 2, none⟩ (.slice none 0 0)).setCell ⟨w.heap.size + 1 + 1, 3, none⟩ (.int .i64 0)).setCell ⟨w.heap.size + 1 + 1, 4, none⟩ (.string ⟨#[]⟩) = X at *
      clear g0 g1 g2 g3 g4 y0 y1 y2 y3 y4 c1
      have hX := HG.out
      have hY := HR1.out
      have g0 := blk_cell hX 0; have g1 := blk_cell hX 1; have g2 := blk_cell hX 2; have g3 := blk_cell hX 3; have g4 := blk_cell hX 4
      have n0 := blk_cell hY 0; have n1 := blk_cell hY 1; have n2 := blk_cell hY 2; have n3 := blk_cell hY 3; have n4 := blk_cell hY 4
      have m0 := blk_free hY 0; have m1 := blk_free hY 1; have m2 := blk_free hY 2; have m3 := blk_free hY 3; have m4 := blk_free hY 4
      simp [zeroCs] at g0 g1 g2 g3 g4 n0 n1 n2 n3 n4
      clear hX hY
      go_wp2_with fail
      refine bodyPost_ret (v := zeroG) ?_ rfl ?_
      · simp [zeroG, results, Tryd.results25, go_sem, n0, n1, n2, n3, n4] <;> rfl
      · exact ((((((HM1.out).set hsl _ (Or.inl rfl) 0 _).set hsl _ (Or.inl rfl) 1 _).set hsl _ (Or.inl rfl) 2 _).set hsl _ (Or.inl rfl) 3 _).set hsl _ (Or.inl rfl) 4 _).no HP.out

set_option maxRecDepth 100000 in
set_option maxHeartbeats 2000000 in
theorem sr_text_none (r : Nat) (big : Bool) (xs : List Int) (P : G → List Int → Bool → Bool → Prop) (m : Nat) (l q : List Int) (be co : Bool) (w : World) (h : Sx w r xs false false)
    (hC : ∀ W, Sx W r xs false false → Calls Tryd.prog 50 #[.pointer (some ⟨r, 0, none⟩), .int .i64 m] W (RetTk W r l q))
    (hnz : ∀ j, j < l.length → l.getD j 0 ≠ 0) (hP : P ⟨true, [], [], 0, tx l⟩ q false false) :
    Calls Tryd.prog 25 #[.pointer (some ⟨r, 0, none⟩), .agg #[.int .i64 7, .int .i64 m, .bool be, .bool co], .bool big] w (RetR P w r) := by
  have HC := Lib.hid hC
  have HPP := Lib.hid hP
  clear hC hP
  have HNZ := Lib.hid hnz
  clear hnz
  have hsl := h.lt
  have HN := Lib.hid (GB.new w 7 m be co)
  have HS := Lib.hid h
  clear h
  go_enter Tryd.func25, Tryd.ntmps25
  go_upto_block 0 with (fail)
  go_cut [] from 8 to 168 (fun wc => InvR P w r wc)
  case first =>
    go_wp2_with fail
    go_must (refine (HC.out _ (HS.out.gr (boxW_gr w 7 m be co))).mono ?_)
    rintro e w1 ⟨u, rfl, hu, ho, hlo, hx, hs1, hf1⟩
    have hM0 := Mid.mk' HS.out (boxW_gr w 7 m be co) (by rw [boxW_size]; omega) hf1 hs1 (Rd.nil w1) (Rd.nil w1) (offV_nil r) (offV_nil r) (fun s _ _ => offV_nil s) (fun s _ _ => offV_nil s)
    have hb1 := HN.out.fx hf1.fx hsl
    have g0 := blk_cell hb1.g 0; have g1 := blk_cell hb1.g 1; have g2 := blk_cell hb1.g 2; have g3 := blk_cell hb1.g 3; have g4 := blk_cell hb1.g 4
    have y1 := blk_free hb1.g 1; have y2 := blk_free hb1.g 2; have y3 := blk_free hb1.g 3; have y4 := blk_free hb1.g 4
    simp [zeroCs] at g0 g1 g2 g3 g4
    have HU := Lib.hid hu
    have hcv := str_conv hu
    obtain ⟨pu, cu, rfl, _⟩ := id hu
    go_wp2_with fail
    go_must (refine (index_none _ l w1 HU.out HNZ.out).mono ?_)
    rintro e w2 ⟨rfl, rfl⟩
    have hM := hM0.set hsl _ (Or.inr rfl) 4 (.string (tx l))
    have HI := Lib.hid (show InvR P w r (w1.setCell ⟨w.heap.size + 1 + 1, 4, none⟩ (.string (tx l))) from ⟨.slice none 0 0, .slice none 0 0, [], [], 0, tx l, q, false, false, hM, by rw [blk_set hb1.g]; rfl, ((Fx.refl _ w1).set 4 _).heap hb1.r (by omega), HPP.out⟩)
    clear hb1 hs1 hf1 hM hM0 hu ho hlo hx
    generalize l.length = lu at *
    go_wp2_with fail
    go_meet
    exact HI.out
  case rest =>
    clear HN HS
    obtain ⟨dv, ov, l, ol, n, b, q, t, o, hM, hg, hr, hP⟩ := hcut
    have c1 := hM.sx.c1
    obtain ⟨pd, cd, rfl, _⟩ := id hM.d
    obtain ⟨po, co', rfl, _⟩ := id hM.e
    generalize l.length = nd at *
    generalize ol.length = no' at *
    have HM := Lib.hid hM
    have HP := Lib.hid hP
    have HR := Lib.hid hr
    clear hM hP hr
    cases t
    · simp only [Bool.false_eq_true, if_false] at HP
      have g0 := blk_cell hg 0; have y0 := blk_free hg 0
      simp at g0
      have HG := Lib.hid (blk_set hg 0 (.bool true))
      simp at HG
      have HM1 := Lib.hid (HM.out.set hsl _ (Or.inr rfl) 0 (.bool true))
      have HR1 := Lib.hid (((Fx.refl _ wc).set 0 (.bool true)).heap HR.out (show w.heap.size + 1 ≠ w.heap.size + 1 + 1 by omega))
      clear hg
      go_upto_region 44 with (fail)
      generalize wc.setCell ⟨w.heap.size + 1 + 1, 0, none⟩ (.bool true) = X at *
      clear g0 y0 c1
      have hX := HG.out
      have hY := HR1.out
      have g0 := blk_cell hX 0; have g1 := blk_cell hX 1; have g2 := blk_cell hX 2; have g3 := blk_cell hX 3; have g4 := blk_cell hX 4
      have n0 := blk_cell hY 0; have n1 := blk_cell hY 1; have n2 := blk_cell hY 2; have n3 := blk_cell hY 3; have n4 := blk_cell hY 4
      have m0 := blk_free hY 0; have m1 := blk_free hY 1; have m2 := blk_free hY 2; have m3 := blk_free hY 3; have m4 := blk_free hY 4
      simp [zeroCs] at g0 g1 g2 g3 g4 n0 n1 n2 n3 n4
      clear hX hY
      go_wp2_with fail
      refine bodyPost_ret (v := .agg #[.bool true, .slice pd nd cd, .slice po no' co', .int .i64 n, .string b]) ?_ rfl ?_
      · simp [results, Tryd.results25, go_sem, n0, n1, n2, n3, n4] <;> rfl
      · exact ((((((HM1.out).set hsl _ (Or.inl rfl) 0 _).set hsl _ (Or.inl rfl) 1 _).set hsl _ (Or.inl rfl) 2 _).set hsl _ (Or.inl rfl) 3 _).set hsl _ (Or.inl rfl) 4 _).ret n b HP.out
    · simp only [if_true] at HP
      have g0 := blk_cell hg 0; have y0 := blk_free hg 0
      have g1 := blk_cell hg 1; have y1 := blk_free hg 1
      have g2 := blk_cell hg 2; have y2 := blk_free hg 2
      have g3 := blk_cell hg 3; have y3 := blk_free hg 3
      have g4 := blk_cell hg 4; have y4 := blk_free hg 4
      simp at g0 g1 g2 g3 g4
      have HG := Lib.hid (blk_set (blk_set (blk_set (blk_set (blk_set (blk_set hg 0 (.bool false)) 0 (.bool false)) 1 (.slice none 0 0)) 2 (.slice none 0 0)) 3 (.int .i64 0)) 4 (.string ⟨#[]⟩))
      simp at HG
      have HM1 := Lib.hid ((((((HM.out.set hsl _ (Or.inr rfl) 0 (.bool false)).set hsl _ (Or.inr rfl) 0 (.bool false)).set hsl _ (Or.inr rfl) 1 (.slice none 0 0)).set hsl _ (Or.inr rfl) 2 (.slice none 0 0)).set hsl _ (Or.inr rfl) 3 (.int .i64 0)).set hsl _ (Or.inr rfl) 4 (.string ⟨#[]⟩))
      have HR1 := Lib.hid (((((((Fx.refl _ wc).set 0 (.bool false)).set 0 (.bool false)).set 1 (.slice none 0 0)).set 2 (.slice none 0 0)).set 3 (.int .i64 0)).set 4 (.string ⟨#[]⟩) |>.heap HR.out (show w.heap.size + 1 ≠ w.heap.size + 1 + 1 by omega))
      clear hg
      go_upto_region 44 with (fail)
      generalize (((((wc.setCell ⟨w.heap.size + 1 + 1, 0, none⟩ (.bool false)).setCell ⟨w.heap.size + 1 + 1, 0, none⟩ (.bool false)).setCell ⟨w.heap.size + 1 + 1, 1, none⟩ (.slice none 0 0)).setCell ⟨w.heap.size + 1 + 1, 2, none⟩ (.slice none 0 0)).setCell ⟨w.heap.size + 1 + 1, 3, none⟩ (.int .i64 0)).setCell ⟨w.heap.size + 1 + 1, 4, none⟩ (.string ⟨#[]⟩) = X at *
      clear g0 g1 g2 g3 g4 y0 y1 y2 y3 y4 c1
      have hX := HG.out
      have hY := HR1.out
      have g0 := blk_cell hX 0; have g1 := blk_cell hX 1; have g2 := blk_cell hX 2; have g3 := blk_cell hX 3; have g4 := blk_cell hX 4
      have n0 := blk_cell hY 0; have n1 := blk_cell hY 1; have n2 := blk_cell hY 2; have n3 := blk_cell hY 3; have n4 := blk_cell hY 4
      have m0 := blk_free hY 0; have m1 := blk_free hY 1; have m2 := blk_free hY 2; have m3 := blk_free hY 3; have m4 := blk_free hY 4
      simp [zeroCs] at g0 g1 g2 g3 g4 n0 n1 n2 n3 n4
      clear hX hY
      go_wp2_with fail
      refine bodyPost_ret (v := zeroG) ?_ rfl ?_
      · simp [zeroG, results, Tryd.results25, go_sem, n0, n1, n2, n3, n4] <;> rfl
      · exact ((((((HM1.out).set hsl _ (Or.inl rfl) 0 _).set hsl _ (Or.inl rfl) 1 _).set hsl _ (Or.inl rfl) 2 _).set hsl _ (Or.inl rfl) 3 _).set hsl _ (Or.inl rfl) 4 _).no HP.out

set_option maxRecDepth 100000 in
set_option maxHeartbeats 2000000 in
theorem sr_text_open (r : Nat) (big : Bool) (xs : List Int) (P : G → List Int → Bool → Bool → Prop) (m : Nat) (l q : List Int) (be co : Bool) (w : World) (h : Sx w r xs false false)
    (hC : ∀ W, Sx W r xs false false → Calls Tryd.prog 50 #[.pointer (some ⟨r, 0, none⟩), .int .i64 m] W (RetTk W r l q))
    (hnz : ZAt l 0) (hP : ∀ g q t, P g q t true) :
    Calls Tryd.prog 25 #[.pointer (some ⟨r, 0, none⟩), .agg #[.int .i64 7, .int .i64 m, .bool be, .bool co], .bool big] w (RetR P w r) := by
  have HC := Lib.hid hC
  have HPP := Lib.hid hP
  clear hC hP
  have HNZ := Lib.hid hnz
  clear hnz
  have hsl := h.lt
  have HN := Lib.hid (GB.new w 7 m be co)
  have HS := Lib.hid h
  clear h
  go_enter Tryd.func25, Tryd.ntmps25
  go_upto_block 0 with (fail)
  go_cut [] from 8 to 168 (fun wc => InvR P w r wc)
  case first =>
    go_wp2_with fail
    go_must (refine (HC.out _ (HS.out.gr (boxW_gr w 7 m be co))).mono ?_)
    rintro e w1 ⟨u, rfl, hu, ho, hlo, hx, hs1, hf1⟩
    have hM0 := Mid.mk' HS.out (boxW_gr w 7 m be co) (by rw [boxW_size]; omega) hf1 hs1 (Rd.nil w1) (Rd.nil w1) (offV_nil r) (offV_nil r) (fun s _ _ => offV_nil s) (fun s _ _ => offV_nil s)
    have hb1 := HN.out.fx hf1.fx hsl
    have g0 := blk_cell hb1.g 0; have g1 := blk_cell hb1.g 1; have g2 := blk_cell hb1.g 2; have g3 := blk_cell hb1.g 3; have g4 := blk_cell hb1.g 4
    have y1 := blk_free hb1.g 1; have y2 := blk_free hb1.g 2; have y3 := blk_free hb1.g 3; have y4 := blk_free hb1.g 4
    simp [zeroCs] at g0 g1 g2 g3 g4
    have HU := Lib.hid hu
    have hcv := str_conv hu
    obtain ⟨pu, cu, rfl, _⟩ := id hu
    go_wp2_with fail
    go_must (refine (index_found _ l 0 w1 HU.out HNZ.out).mono ?_)
    rintro e w2 ⟨rfl, rfl⟩
    have hM := hM0.open'.set hsl _ (Or.inr rfl) 4 (.string (tx l))
    have c2 := hs1.c2
    have f2 := hs1.f2
    have hfo := (Fx.refl r w1).set 2 (.bool true)
    have hcv2 := str_conv (hu.fx hfo ho)
    have HI := Lib.hid (show InvR P w r ((w1.setCell ⟨r, 2, none⟩ (.bool true)).setCell ⟨w.heap.size + 1 + 1, 4, none⟩ (.string (tx l))) from ⟨.slice none 0 0, .slice none 0 0, [], [], 0, tx l, q, false, true, hM, by rw [blk_set (hfo.heap hb1.g (by omega))]; rfl, ((Fx.refl _ _).set 4 _).heap (hfo.heap hb1.r (by omega)) (by omega), HPP.out _ _ _⟩)
    clear hb1 hs1 hf1 hM hM0 hu ho hlo hx hfo
    generalize l.length = lu at *
    go_wp2_with fail
    go_meet
    exact HI.out
  case rest =>
    clear HN HS
    obtain ⟨dv, ov, l, ol, n, b, q, t, o, hM, hg, hr, hP⟩ := hcut
    have c1 := hM.sx.c1
    obtain ⟨pd, cd, rfl, _⟩ := id hM.d
    obtain ⟨po, co', rfl, _⟩ := id hM.e
    generalize l.length = nd at *
    generalize ol.length = no' at *
    have HM := Lib.hid hM
    have HP := Lib.hid hP
    have HR := Lib.hid hr
    clear hM hP hr
    cases t
    · simp only [Bool.false_eq_true, if_false] at HP
      have g0 := blk_cell hg 0; have y0 := blk_free hg 0
      simp at g0
      have HG := Lib.hid (blk_set hg 0 (.bool true))
      simp at HG
      have HM1 := Lib.hid (HM.out.set hsl _ (Or.inr rfl) 0 (.bool true))
      have HR1 := Lib.hid (((Fx.refl _ wc).set 0 (.bool true)).heap HR.out (show w.heap.size + 1 ≠ w.heap.size + 1 + 1 by omega))
      clear hg
      go_upto_region 44 with (fail)
      generalize wc.setCell ⟨w.heap.size + 1 + 1, 0, none⟩ (.bool true) = X at *
      clear g0 y0 c1
      have hX := HG.out
      have hY := HR1.out
      have g0 := blk_cell hX 0; have g1 := blk_cell hX 1; have g2 := blk_cell hX 2; have g3 := blk_cell hX 3; have g4 := blk_cell hX 4
      have n0 := blk_cell hY 0; have n1 := blk_cell hY 1; have n2 := blk_cell hY 2; have n3 := blk_cell hY 3; have n4 := blk_cell hY 4
      have m0 := blk_free hY 0; have m1 := blk_free hY 1; have m2 := blk_free hY 2; have m3 := blk_free hY 3; have m4 := blk_free hY 4
      simp [zeroCs] at g0 g1 g2 g3 g4 n0 n1 n2 n3 n4
      clear hX hY
      go_wp2_with fail
      refine bodyPost_ret (v := .agg #[.bool true, .slice pd nd cd, .slice po no' co', .int .i64 n, .string b]) ?_ rfl ?_
      · simp [results, Tryd.results25, go_sem, n0, n1, n2, n3, n4] <;> rfl
      · exact ((((((HM1.out).set hsl _ (Or.inl rfl) 0 _).set hsl _ (Or.inl rfl) 1 _).set hsl _ (Or.inl rfl) 2 _).set hsl _ (Or.inl rfl) 3 _).set hsl _ (Or.inl rfl) 4 _).ret n b HP.out
    · simp only [if_true] at HP
      have g0 := blk_cell hg 0; have y0 := blk_free hg 0
      have g1 := blk_cell hg 1; have y1 := blk_free hg 1
      have g2 := blk_cell hg 2; have y2 := blk_free hg 2
      have g3 := blk_cell hg 3; have y3 := blk_free hg 3
      have g4 := blk_cell hg 4; have y4 := blk_free hg 4
      simp at g0 g1 g2 g3 g4
      have HG := Lib.hid (blk_set (blk_set (blk_set (blk_set (blk_set (blk_set hg 0 (.bool false)) 0 (.bool false)) 1 (.slice none 0 0)) 2 (.slice none 0 0)) 3 (.int .i64 0)) 4 (.string ⟨#[]⟩))
      simp at HG
      have HM1 := Lib.hid ((((((HM.out.set hsl _ (Or.inr rfl) 0 (.bool false)).set hsl _ (Or.inr rfl) 0 (.bool false)).set hsl _ (Or.inr rfl) 1 (.slice none 0 0)).set hsl _ (Or.inr rfl) 2 (.slice none 0 0)).set hsl _ (Or.inr rfl) 3 (.int .i64 0)).set hsl _ (Or.inr rfl) 4 (.string ⟨#[]⟩))
      have HR1 := Lib.hid (((((((Fx.refl _ wc).set 0 (.bool false)).set 0 (.bool false)).set 1 (.slice none 0 0)).set 2 (.slice none 0 0)).set 3 (.int .i64 0)).set 4 (.string ⟨#[]⟩) |>.heap HR.out (show w.heap.size + 1 ≠ w.heap.size + 1 + 1 by omega))
      clear hg
      go_upto_region 44 with (fail)
      generalize (((((wc.setCell ⟨w.heap.size + 1 + 1, 0, none⟩ (.bool false)).setCell ⟨w.heap.size + 1 + 1, 0, none⟩ (.bool false)).setCell ⟨w.heap.size + 1 + 1, 1, none⟩ (.slice none 0 0)).setCell ⟨w.heap.size + 1 + 1, 2, none⟩ (.slice none 0 0)).setCell ⟨w.heap.size + 1 + 1, 3, none⟩ (.int .i64 0)).setCell ⟨w.heap.size + 1 + 1, 4, none⟩ (.string ⟨#[]⟩) = X at *
      clear g0 g1 g2 g3 g4 y0 y1 y2 y3 y4 c1
      have hX := HG.out
      have hY := HR1.out
      have g0 := blk_cell hX 0; have g1 := blk_cell hX 1; have g2 := blk_cell hX 2; have g3 := blk_cell hX 3; have g4 := blk_cell hX 4
      have n0 := blk_cell hY 0; have n1 := blk_cell hY 1; have n2 := blk_cell hY 2; have n3 := blk_cell hY 3; have n4 := blk_cell hY 4
      have m0 := blk_free hY 0; have m1 := blk_free hY 1; have m2 := blk_free hY 2; have m3 := blk_free hY 3; have m4 := blk_free hY 4
      simp [zeroCs] at g0 g1 g2 g3 g4 n0 n1 n2 n3 n4
      clear hX hY
      go_wp2_with fail
      refine bodyPost_ret (v := zeroG) ?_ rfl ?_
      · simp [zeroG, results, Tryd.results25, go_sem, n0, n1, n2, n3, n4] <;> rfl
      · exact ((((((HM1.out).set hsl _ (Or.inl rfl) 0 _).set hsl _ (Or.inl rfl) 1 _).set hsl _ (Or.inl rfl) 2 _).set hsl _ (Or.inl rfl) 3 _).set hsl _ (Or.inl rfl) 4 _).no HP.out

set_option maxRecDepth 100000 in
set_option maxHeartbeats 2000000 in
theorem sr_text_found (r : Nat) (big : Bool) (xs : List Int) (P : G → List Int → Bool → Bool → Prop) (m k : Nat) (l q : List Int) (be co : Bool) (w : World) (h : Sx w r xs false false)
    (hC : ∀ W, Sx W r xs false false → Calls Tryd.prog 50 #[.pointer (some ⟨r, 0, none⟩), .int .i64 m] W (RetTk W r l q))
    (hlq : l.length + q.length ≤ 2147483647) (hk : 0 < k) (hnz : ZAt l k) (hP : P ⟨true, [], [], 0, tx (l.take k)⟩ (l.drop (k + 1) ++ q) false false) :
    Calls Tryd.prog 25 #[.pointer (some ⟨r, 0, none⟩), .agg #[.int .i64 7, .int .i64 m, .bool be, .bool co], .bool big] w (RetR P w r) := by
  have HC := Lib.hid hC
  have HPP := Lib.hid hP
  clear hC hP
  have HNZ := Lib.hid hnz
  clear hnz
  have hsl := h.lt
  have HN := Lib.hid (GB.new w 7 m be co)
  have HS := Lib.hid h
  clear h
  go_enter Tryd.func25, Tryd.ntmps25
  go_upto_block 0 with (fail)
  go_cut [] from 8 to 168 (fun wc => InvR P w r wc)
  case first =>
    go_wp2_with fail
    go_must (refine (HC.out _ (HS.out.gr (boxW_gr w 7 m be co))).mono ?_)
    rintro e w1 ⟨u, rfl, hu, ho, hlo, hx, hs1, hf1⟩
    have hM0 := Mid.mk' HS.out (boxW_gr w 7 m be co) (by rw [boxW_size]; omega) hf1 hs1 (Rd.nil w1) (Rd.nil w1) (offV_nil r) (offV_nil r) (fun s _ _ => offV_nil s) (fun s _ _ => offV_nil s)
    have hb1 := HN.out.fx hf1.fx hsl
    have g0 := blk_cell hb1.g 0; have g1 := blk_cell hb1.g 1; have g2 := blk_cell hb1.g 2; have g3 := blk_cell hb1.g 3; have g4 := blk_cell hb1.g 4
    have y1 := blk_free hb1.g 1; have y2 := blk_free hb1.g 2; have y3 := blk_free hb1.g 3; have y4 := blk_free hb1.g 4
    simp [zeroCs] at g0 g1 g2 g3 g4
    have hz1 : w.heap.size + 1 + 1 < w1.heap.size := by have := hf1.size; rw [boxW_size] at this; omega
    have hkl := HNZ.out.1
    have HU := Lib.hid hu
    obtain ⟨u2, hu2, huo2, hcut2⟩ := cut1o hu (k + 1) (by omega)
    obtain ⟨ub, hub, huob, hcutb⟩ := cutH hu k (by omega)
    obtain ⟨vq, h1, h2, _⟩ := id hs1
    obtain ⟨pq, cq, rfl, _⟩ := id h2
    have z0 : w1.cell? ⟨r, 0, none⟩ = some (.slice pq q.length cq) := (blk_cell h1 0).trans rfl
    have z0d : w1.drew.cell? ⟨r, 0, none⟩ = some (.slice pq q.length cq) := z0
    have HB := Lib.hid h1
    have HQ := Lib.hid h2
    have HU2 := Lib.hid hu2
    have HUB := Lib.hid hub
    have HOB := Lib.hid (huob (· ≠ r) ho)
    have hld : (l.drop (k + 1)).length = l.length - (k + 1) := List.length_drop
    have hlb : (l.take k).length = k := by rw [List.length_take]; omega
    obtain ⟨p2, c2, rfl, _⟩ := id hu2
    obtain ⟨pb, cb, rfl, _⟩ := id hub
    obtain ⟨pu, cu, rfl, _⟩ := id hu
    rw [hld] at hcut2 HU2
    rw [hlb] at hcutb HUB HOB
    rw [show ((k + 1 : Nat) : Int) = (k : Int) + 1 by omega] at hcut2
    have HM0 := Lib.hid hM0
    have hw1 : IntKind.i64.wrap ((k : Int) + 1) = (k : Int) + 1 := IntWalk.i64_in _ (by omega)
    have hk0 : (0 : Int) < (k : Int) := by omega
    have hk1 : (0 : Int) ≤ (k : Int) + 1 := by omega
    have hkb : ((k : Int) == 0) = false := beq_eq_false_iff_ne.2 (by omega)
    have HLQ := Lib.hid (show (l.drop (k + 1)).length + q.length ≤ 2147483647 by rw [hld]; omega)
    have HSL := fun W => Lib.hid (hcut2 W)
    have HG := Lib.hid hb1.g
    have HR := Lib.hid hb1.r
    have hlu : l.length ≤ 2147483647 := by omega
    clear hb1 h1 h2 hs1 hf1 hM0 hu ho hlo hx hu2 huo2 hcut2 hub huob hld hlb
    go_wp2_with fail
    go_must (refine (index_found _ l k w1 HU.out HNZ.out).mono ?_)
    rintro e w2 ⟨rfl, rfl⟩
    clear g0 g1 g2 g3 g4 y1 y2 y3 y4
    generalize l.length = lu at *
    generalize hql : q.length = lq at *
    have HQL := Lib.hid hql
    clear hql
    go_wp2_with fail
    refine wp_region_held_drew (S := fun w' => (Instr.slice 24 (.slice pu lu cu) (some (.int .i64 ((k : Int) + 1))) none none).run Tryd.prog w' = .ok (.slice p2 (lu - (k + 1)) c2) w') (by kernel_rfl) (HSL _).out (fun hHeld => ?_)
    refine wpAnyH_take (i := 0) (oi := { dst := some 90, op := Op.move (Operand.tmp 0), type := 54, pos := "sessions.go:221", after := #[], guard := none }) (v := ?_) rfl (by kernel_rfl) (by kernel_rfl) (by kernel_rfl) (fun _ _ _ h => h) (Or.inl ⟨by rfl, ?_⟩) (by assumption) ?_
    rotate_left
    · (intro w hSw; (try dsimp only at hSw); go_simp; try with_reducible rfl)
    try simp only [Act.put, List.setIfInBounds_toArray, List.set_cons_zero, List.set_cons_succ]
    refine wpAnyH_take (i := 1) (oi := { dst := some 91, op := Op.move (Operand.tmp 9), type := 24, pos := "sessions.go:221", after := #[], guard := none }) (v := ?_) rfl (by kernel_rfl) (by kernel_rfl) (by kernel_rfl) (fun _ _ _ h => h) (Or.inl ⟨by rfl, ?_⟩) (by assumption) ?_
    rotate_left
    · (intro w hSw; (try dsimp only at hSw); go_simp; try with_reducible rfl)
    try simp only [Act.put, List.setIfInBounds_toArray, List.set_cons_zero, List.set_cons_succ]
    refine wpAnyH_take (i := 2) (oi := { dst := some 92, op := Op.move (Operand.tmp 10), type := 3, pos := "sessions.go:221", after := #[], guard := none }) (v := ?_) rfl (by kernel_rfl) (by kernel_rfl) (by kernel_rfl) (fun _ _ _ h => h) (Or.inl ⟨by rfl, ?_⟩) (by assumption) ?_
    rotate_left
    · (intro w hSw; (try dsimp only at hSw); go_simp; try with_reducible rfl)
    try simp only [Act.put, List.setIfInBounds_toArray, List.set_cons_zero, List.set_cons_succ]
    refine wpAnyH_take (i := 3) (oi := { dst := some 93, op := Op.binOp BinOp.add 3 (Operand.tmp 92) (Operand.const (Value.int IntKind.i64 1)) 3, type := 3, pos := "sessions.go:221", after := #[{ on := 2, ground := Ground.data }], guard := none }) (v := ?_) rfl (by kernel_rfl) (by kernel_rfl) (by kernel_rfl) (fun _ _ _ h => h) (Or.inl ⟨by rfl, ?_⟩) (by assumption) ?_
    rotate_left
    · (intro w hSw; (try dsimp only at hSw); go_simp; try with_reducible rfl)
    try simp only [Act.put, List.setIfInBounds_toArray, List.set_cons_zero, List.set_cons_succ]
    refine wpAnyH_take (i := 4) (oi := { dst := some 94, op := Op.slice 24 (Operand.tmp 91) (some (Operand.tmp 93)) none none, type := 24, pos := "sessions.go:221", after := #[{ on := 1, ground := Ground.data }, { on := 3, ground := Ground.data }], guard := none }) (v := ?_) rfl (by kernel_rfl) (by kernel_rfl) (by kernel_rfl) (fun _ _ _ h => h) (Or.inl ⟨by rfl, ?_⟩) (by assumption) ?_
    rotate_left
    · (intro w hSw; (try dsimp only at hSw); go_simp; try with_reducible rfl)
    try simp only [Act.put, List.setIfInBounds_toArray, List.set_cons_zero, List.set_cons_succ]
    refine wpAnyH_take (i := 6) (oi := { dst := some 96, op := Op.move (Operand.tmp 0), type := 54, pos := "sessions.go:221", after := #[], guard := none }) (v := ?_) rfl (by kernel_rfl) (by kernel_rfl) (by kernel_rfl) (fun _ _ _ h => h) (Or.inl ⟨by rfl, ?_⟩) (by assumption) ?_
    rotate_left
    · (intro w hSw; (try dsimp only at hSw); go_simp; try with_reducible rfl)
    try simp only [Act.put, List.setIfInBounds_toArray, List.set_cons_zero, List.set_cons_succ]
    refine wpAnyH_take (i := 7) (oi := { dst := some 97, op := Op.nilCheck (Operand.tmp 96), type := 0, pos := "sessions.go:221", after := #[{ on := 6, ground := Ground.data }], guard := none }) (v := ?_) rfl (by kernel_rfl) (by kernel_rfl) (by kernel_rfl) (fun _ _ _ h => h) (Or.inl ⟨by rfl, ?_⟩) (by assumption) ?_
    rotate_left
    · (intro w hSw; (try dsimp only at hSw); go_simp; try with_reducible rfl)
    try simp only [Act.put, List.setIfInBounds_toArray, List.set_cons_zero, List.set_cons_succ]
    refine wpAnyH_take (i := 8) (oi := { dst := some 98, op := Op.fieldAddr 56 (Operand.tmp 97) 0, type := 0, pos := "sessions.go:221", after := #[{ on := 7, ground := Ground.data }], guard := none }) (v := ?_) rfl (by kernel_rfl) (by kernel_rfl) (by kernel_rfl) (fun _ _ _ h => h) (Or.inl ⟨by rfl, ?_⟩) (by assumption) ?_
    rotate_left
    · (intro w hSw; (try dsimp only at hSw); go_simp; try with_reducible rfl)
    try simp only [Act.put, List.setIfInBounds_toArray, List.set_cons_zero, List.set_cons_succ]
    refine wpAnyH_ready (rs := [5, 9]) (by kernel_rfl) (by simp) ?_
    refine AllReadyH.cons (o := { dst := some 95, op := Op.call { callee := Callee.value (Operand.func 56), args := #[Operand.tmp 94], argTypes := #[24] }, type := 24, pos := "sessions.go:221", after := #[{ on := 4, ground := Ground.data }], guard := none }) rfl (fun K hK => ?_) ?_
    ·
      go_simp
      go_at_call 56; go_must (refine (slicesClone _ (l.drop (k + 1)) _ (HU2.out.gr (Gr.refl w1).drew) (by have := HLQ.out; omega)).mono ?_); rintro e w3 ⟨u3, rfl, ho3, hg3⟩
      have hG3 : Gr w1 w3 := Gr.trans (Gr.refl w1).drew hg3
      have z3 := hG3.cell z0
      obtain ⟨p3, n3, c3, rfl⟩ : ∃ p n c, u3 = Value.slice p n c := by obtain ⟨_, _, e, _⟩ := ho3.rd; exact ⟨_, _, _, e⟩
      go_wp2_with fail
      refine hK.out _ _ (HSL _).out (fun hHeld => ?_)
      clear hK K
      try simp only [Act.put, List.setIfInBounds_toArray, List.set_cons_zero, List.set_cons_succ]
      refine wpAnyH_ready (rs := [9]) (by kernel_rfl) (by simp) ?_
      refine AllReadyH.cons (o := { dst := some 99, op := Op.load 24 (Operand.tmp 98), type := 24, pos := "sessions.go:221", after := #[{ on := 8, ground := Ground.data }], guard := none }) rfl (fun K hK => ?_) ?_
      ·
        go_simp
        refine hK.out _ _ (HSL _).out (fun hHeld => ?_)
        clear hK K
        try simp only [Act.put, List.setIfInBounds_toArray, List.set_cons_zero, List.set_cons_succ]
        refine wpAnyH_ready (rs := [10]) (by kernel_rfl) (by simp) ?_
        refine AllReadyH.cons (o := { dst := some 100, op := Op.call { callee := Callee.builtin Builtin.append, args := #[Operand.tmp 95, Operand.tmp 99], argTypes := #[24, 24] }, type := 24, pos := "sessions.go:221", after := #[{ on := 5, ground := Ground.data }, { on := 9, ground := Ground.data }, { on := 5, ground := Ground.chain }], guard := none }) rfl (fun K hK => ?_) ?_
        ·
          refine wp_append_bytes Go.Proofs.YtgkccbfepjgjoaaDoor.u8 _ _ (by rfl) (by rfl) (ho3.mono (Nat.le_refl _)) (by rfl) (HQ.out.gr hG3) (by have := HLQ.out; have := HQL.out; omega) hG3.size ?_
          intro v5 w5 ho5 hg5 _
          have hG5 : Gr w1 w5 := hG3.grown hg5 ho3.row
          obtain ⟨p5, n5, c5, rfl⟩ : ∃ p n c, v5 = Value.slice p n c := by obtain ⟨_, _, e, _⟩ := ho5.rd; exact ⟨_, _, _, e⟩
          have z5 := hG5.cell z0
          have f5 := blk_free (hG5.heap HB.out) 0
          refine hK.out _ _ (HSL _).out (fun hHeld => ?_)
          clear hK K
          try simp only [Act.put, List.setIfInBounds_toArray, List.set_cons_zero, List.set_cons_succ]
          refine wpAnyH_take (i := 11) (oi := { dst := some 101, op := Op.nilCheck (Operand.tmp 90), type := 0, pos := "sessions.go:221", after := #[{ on := 0, ground := Ground.data }, { on := 0, ground := Ground.phase }, { on := 1, ground := Ground.phase }, { on := 2, ground := Ground.phase }, { on := 3, ground := Ground.phase }, { on := 4, ground := Ground.phase }, { on := 5, ground := Ground.phase }, { on := 6, ground := Ground.phase }, { on := 7, ground := Ground.phase }, { on := 8, ground := Ground.phase }, { on := 9, ground := Ground.phase }, { on := 10, ground := Ground.phase }], guard := none }) (v := ?_) rfl (by kernel_rfl) (by kernel_rfl) (by kernel_rfl) (fun _ _ _ h => h) (Or.inl ⟨by rfl, ?_⟩) (by assumption) ?_
          rotate_left
          · (intro w hSw; (try dsimp only at hSw); go_simp; try with_reducible rfl)
          try simp only [Act.put, List.setIfInBounds_toArray, List.set_cons_zero, List.set_cons_succ]
          refine wpAnyH_take (i := 12) (oi := { dst := some 102, op := Op.fieldAddr 56 (Operand.tmp 101) 0, type := 0, pos := "sessions.go:221", after := #[{ on := 11, ground := Ground.data }, { on := 0, ground := Ground.phase }, { on := 1, ground := Ground.phase }, { on := 2, ground := Ground.phase }, { on := 3, ground := Ground.phase }, { on := 4, ground := Ground.phase }, { on := 5, ground := Ground.phase }, { on := 6, ground := Ground.phase }, { on := 7, ground := Ground.phase }, { on := 8, ground := Ground.phase }, { on := 9, ground := Ground.phase }, { on := 10, ground := Ground.phase }], guard := none }) (v := ?_) rfl (by kernel_rfl) (by kernel_rfl) (by kernel_rfl) (fun _ _ _ h => h) (Or.inl ⟨by rfl, ?_⟩) (by assumption) ?_
          rotate_left
          · (intro w hSw; (try dsimp only at hSw); go_simp; try with_reducible rfl)
          try simp only [Act.put, List.setIfInBounds_toArray, List.set_cons_zero, List.set_cons_succ]
          refine wpAnyH_ready (rs := [13]) (by kernel_rfl) (by simp) ?_
          refine AllReadyH.cons (o := { dst := none, op := Op.store 24 (Operand.tmp 102) (Operand.tmp 100), type := 0, pos := "sessions.go:221", after := #[{ on := 12, ground := Ground.data }, { on := 10, ground := Ground.data }, { on := 10, ground := Ground.chain }, { on := 0, ground := Ground.phase }, { on := 1, ground := Ground.phase }, { on := 2, ground := Ground.phase }, { on := 3, ground := Ground.phase }, { on := 4, ground := Ground.phase }, { on := 5, ground := Ground.phase }, { on := 6, ground := Ground.phase }, { on := 7, ground := Ground.phase }, { on := 8, ground := Ground.phase }, { on := 9, ground := Ground.phase }, { on := 10, ground := Ground.phase }], guard := none }) rfl (fun K hK => ?_) ?_
          ·
            go_simp
            refine hK.out _ _ (HSL _).out (fun hHeld => ?_)
            clear hK K
            try simp only [Act.put, List.setIfInBounds_toArray, List.set_cons_zero, List.set_cons_succ]
            refine wpAnyH_done (by kernel_rfl) ?_ _
            have hf5 : Fx r w1 (w5.setCell ⟨r, 0, none⟩ (.slice p5 n5 c5)) := (Fx.of_gr hG5).set 0 _
            have hcv2 := str_conv (HUB.out.fx hf5 HOB.out)
            have hM := (HM0.out.move hz1 hG5 ho5 (by rw [List.length_append, HQL.out]; exact HLQ.out)).set hsl _ (Or.inr rfl) 4 (.string (tx (l.take k)))
            have hg5 := hf5.heap HG.out (show w.heap.size + 1 + 1 ≠ r by omega)
            have hr5 := hf5.heap HR.out (show w.heap.size + 1 ≠ r by omega)
            have HI := Lib.hid (show InvR P w r ((w5.setCell ⟨r, 0, none⟩ (.slice p5 n5 c5)).setCell ⟨w.heap.size + 1 + 1, 4, none⟩ (.string (tx (l.take k)))) from ⟨.slice none 0 0, .slice none 0 0, [], [], 0, tx (l.take k), _, false, false, hM, by rw [blk_set hg5]; rfl, ((Fx.refl _ _).set 4 _).heap hr5 (by omega), HPP.out⟩)
            have g4 := blk_cell hg5 4; have y4 := blk_free hg5 4
            simp [zeroCs] at g4
            clear hM hg5 hr5 hf5 ho5
            generalize w5.setCell ⟨r, 0, none⟩ (.slice p5 n5 c5) = X5 at *
            go_wp2_with fail
            go_meet
            exact HI.out
          exact AllReadyH.nil
        exact AllReadyH.nil
      exact AllReadyH.nil
    refine AllReadyH.cons (o := { dst := some 99, op := Op.load 24 (Operand.tmp 98), type := 24, pos := "sessions.go:221", after := #[{ on := 8, ground := Ground.data }], guard := none }) rfl (fun K hK => ?_) ?_
    ·
      go_simp
      refine hK.out _ _ (HSL _).out (fun hHeld => ?_)
      clear hK K
      try simp only [Act.put, List.setIfInBounds_toArray, List.set_cons_zero, List.set_cons_succ]
      refine wpAnyH_ready (rs := [5]) (by kernel_rfl) (by simp) ?_
      refine AllReadyH.cons (o := { dst := some 95, op := Op.call { callee := Callee.value (Operand.func 56), args := #[Operand.tmp 94], argTypes := #[24] }, type := 24, pos := "sessions.go:221", after := #[{ on := 4, ground := Ground.data }], guard := none }) rfl (fun K hK => ?_) ?_
      ·
        go_simp
        go_at_call 56; go_must (refine (slicesClone _ (l.drop (k + 1)) _ (HU2.out.gr (Gr.refl w1).drew) (by have := HLQ.out; omega)).mono ?_); rintro e w3 ⟨u3, rfl, ho3, hg3⟩
        have hG3 : Gr w1 w3 := Gr.trans (Gr.refl w1).drew hg3
        have z3 := hG3.cell z0
        obtain ⟨p3, n3, c3, rfl⟩ : ∃ p n c, u3 = Value.slice p n c := by obtain ⟨_, _, e, _⟩ := ho3.rd; exact ⟨_, _, _, e⟩
        go_wp2_with fail
        refine hK.out _ _ (HSL _).out (fun hHeld => ?_)
        clear hK K
        try simp only [Act.put, List.setIfInBounds_toArray, List.set_cons_zero, List.set_cons_succ]
        refine wpAnyH_ready (rs := [10]) (by kernel_rfl) (by simp) ?_
        refine AllReadyH.cons (o := { dst := some 100, op := Op.call { callee := Callee.builtin Builtin.append, args := #[Operand.tmp 95, Operand.tmp 99], argTypes := #[24, 24] }, type := 24, pos := "sessions.go:221", after := #[{ on := 5, ground := Ground.data }, { on := 9, ground := Ground.data }, { on := 5, ground := Ground.chain }], guard := none }) rfl (fun K hK => ?_) ?_
        ·
          refine wp_append_bytes Go.Proofs.YtgkccbfepjgjoaaDoor.u8 _ _ (by rfl) (by rfl) (ho3.mono (Nat.le_refl _)) (by rfl) (HQ.out.gr hG3) (by have := HLQ.out; have := HQL.out; omega) hG3.size ?_
          intro v5 w5 ho5 hg5 _
          have hG5 : Gr w1 w5 := hG3.grown hg5 ho3.row
          obtain ⟨p5, n5, c5, rfl⟩ : ∃ p n c, v5 = Value.slice p n c := by obtain ⟨_, _, e, _⟩ := ho5.rd; exact ⟨_, _, _, e⟩
          have z5 := hG5.cell z0
          have f5 := blk_free (hG5.heap HB.out) 0
          refine hK.out _ _ (HSL _).out (fun hHeld => ?_)
          clear hK K
          try simp only [Act.put, List.setIfInBounds_toArray, List.set_cons_zero, List.set_cons_succ]
          refine wpAnyH_take (i := 11) (oi := { dst := some 101, op := Op.nilCheck (Operand.tmp 90), type := 0, pos := "sessions.go:221", after := #[{ on := 0, ground := Ground.data }, { on := 0, ground := Ground.phase }, { on := 1, ground := Ground.phase }, { on := 2, ground := Ground.phase }, { on := 3, ground := Ground.phase }, { on := 4, ground := Ground.phase }, { on := 5, ground := Ground.phase }, { on := 6, ground := Ground.phase }, { on := 7, ground := Ground.phase }, { on := 8, ground := Ground.phase }, { on := 9, ground := Ground.phase }, { on := 10, ground := Ground.phase }], guard := none }) (v := ?_) rfl (by kernel_rfl) (by kernel_rfl) (by kernel_rfl) (fun _ _ _ h => h) (Or.inl ⟨by rfl, ?_⟩) (by assumption) ?_
          rotate_left
          · (intro w hSw; (try dsimp only at hSw); go_simp; try with_reducible rfl)
          try simp only [Act.put, List.setIfInBounds_toArray, List.set_cons_zero, List.set_cons_succ]
          refine wpAnyH_take (i := 12) (oi := { dst := some 102, op := Op.fieldAddr 56 (Operand.tmp 101) 0, type := 0, pos := "sessions.go:221", after := #[{ on := 11, ground := Ground.data }, { on := 0, ground := Ground.phase }, { on := 1, ground := Ground.phase }, { on := 2, ground := Ground.phase }, { on := 3, ground := Ground.phase }, { on := 4, ground := Ground.phase }, { on := 5, ground := Ground.phase }, { on := 6, ground := Ground.phase }, { on := 7, ground := Ground.phase }, { on := 8, ground := Ground.phase }, { on := 9, ground := Ground.phase }, { on := 10, ground := Ground.phase }], guard := none }) (v := ?_) rfl (by kernel_rfl) (by kernel_rfl) (by kernel_rfl) (fun _ _ _ h => h) (Or.inl ⟨by rfl, ?_⟩) (by assumption) ?_
          rotate_left
          · (intro w hSw; (try dsimp only at hSw); go_simp; try with_reducible rfl)
          try simp only [Act.put, List.setIfInBounds_toArray, List.set_cons_zero, List.set_cons_succ]
          refine wpAnyH_ready (rs := [13]) (by kernel_rfl) (by simp) ?_
          refine AllReadyH.cons (o := { dst := none, op := Op.store 24 (Operand.tmp 102) (Operand.tmp 100), type := 0, pos := "sessions.go:221", after := #[{ on := 12, ground := Ground.data }, { on := 10, ground := Ground.data }, { on := 10, ground := Ground.chain }, { on := 0, ground := Ground.phase }, { on := 1, ground := Ground.phase }, { on := 2, ground := Ground.phase }, { on := 3, ground := Ground.phase }, { on := 4, ground := Ground.phase }, { on := 5, ground := Ground.phase }, { on := 6, ground := Ground.phase }, { on := 7, ground := Ground.phase }, { on := 8, ground := Ground.phase }, { on := 9, ground := Ground.phase }, { on := 10, ground := Ground.phase }], guard := none }) rfl (fun K hK => ?_) ?_
          ·
            go_simp
            refine hK.out _ _ (HSL _).out (fun hHeld => ?_)
            clear hK K
            try simp only [Act.put, List.setIfInBounds_toArray, List.set_cons_zero, List.set_cons_succ]
            refine wpAnyH_done (by kernel_rfl) ?_ _
            have hf5 : Fx r w1 (w5.setCell ⟨r, 0, none⟩ (.slice p5 n5 c5)) := (Fx.of_gr hG5).set 0 _
            have hcv2 := str_conv (HUB.out.fx hf5 HOB.out)
            have hM := (HM0.out.move hz1 hG5 ho5 (by rw [List.length_append, HQL.out]; exact HLQ.out)).set hsl _ (Or.inr rfl) 4 (.string (tx (l.take k)))
            have hg5 := hf5.heap HG.out (show w.heap.size + 1 + 1 ≠ r by omega)
            have hr5 := hf5.heap HR.out (show w.heap.size + 1 ≠ r by omega)
            have HI := Lib.hid (show InvR P w r ((w5.setCell ⟨r, 0, none⟩ (.slice p5 n5 c5)).setCell ⟨w.heap.size + 1 + 1, 4, none⟩ (.string (tx (l.take k)))) from ⟨.slice none 0 0, .slice none 0 0, [], [], 0, tx (l.take k), _, false, false, hM, by rw [blk_set hg5]; rfl, ((Fx.refl _ _).set 4 _).heap hr5 (by omega), HPP.out⟩)
            have g4 := blk_cell hg5 4; have y4 := blk_free hg5 4
            simp [zeroCs] at g4
            clear hM hg5 hr5 hf5 ho5
            generalize w5.setCell ⟨r, 0, none⟩ (.slice p5 n5 c5) = X5 at *
            go_wp2_with fail
            go_meet
            exact HI.out
          exact AllReadyH.nil
        exact AllReadyH.nil
      exact AllReadyH.nil
    exact AllReadyH.nil
  case rest =>
    clear HN HS
    obtain ⟨dv, ov, l, ol, n, b, q, t, o, hM, hg, hr, hP⟩ := hcut
    have c1 := hM.sx.c1
    obtain ⟨pd, cd, rfl, _⟩ := id hM.d
    obtain ⟨po, co', rfl, _⟩ := id hM.e
    generalize l.length = nd at *
    generalize ol.length = no' at *
    have HM := Lib.hid hM
    have HP := Lib.hid hP
    have HR := Lib.hid hr
    clear hM hP hr
    cases t
    · simp only [Bool.false_eq_true, if_false] at HP
      have g0 := blk_cell hg 0; have y0 := blk_free hg 0
      simp at g0
      have HG := Lib.hid (blk_set hg 0 (.bool true))
      simp at HG
      have HM1 := Lib.hid (HM.out.set hsl _ (Or.inr rfl) 0 (.bool true))
      have HR1 := Lib.hid (((Fx.refl _ wc).set 0 (.bool true)).heap HR.out (show w.heap.size + 1 ≠ w.heap.size + 1 + 1 by omega))
      clear hg
      go_upto_region 44 with (fail)
      generalize wc.setCell ⟨w.heap.size + 1 + 1, 0, none⟩ (.bool true) = X at *
      clear g0 y0 c1
      have hX := HG.out
      have hY := HR1.out
      have g0 := blk_cell hX 0; have g1 := blk_cell hX 1; have g2 := blk_cell hX 2; have g3 := blk_cell hX 3; have g4 := blk_cell hX 4
      have n0 := blk_cell hY 0; have n1 := blk_cell hY 1; have n2 := blk_cell hY 2; have n3 := blk_cell hY 3; have n4 := blk_cell hY 4
      have m0 := blk_free hY 0; have m1 := blk_free hY 1; have m2 := blk_free hY 2; have m3 := blk_free hY 3; have m4 := blk_free hY 4
      simp [zeroCs] at g0 g1 g2 g3 g4 n0 n1 n2 n3 n4
      clear hX hY
      go_wp2_with fail
      refine bodyPost_ret (v := .agg #[.bool true, .slice pd nd cd, .slice po no' co', .int .i64 n, .string b]) ?_ rfl ?_
      · simp [results, Tryd.results25, go_sem, n0, n1, n2, n3, n4] <;> rfl
      · exact ((((((HM1.out).set hsl _ (Or.inl rfl) 0 _).set hsl _ (Or.inl rfl) 1 _).set hsl _ (Or.inl rfl) 2 _).set hsl _ (Or.inl rfl) 3 _).set hsl _ (Or.inl rfl) 4 _).ret n b HP.out
    · simp only [if_true] at HP
      have g0 := blk_cell hg 0; have y0 := blk_free hg 0
      have g1 := blk_cell hg 1; have y1 := blk_free hg 1
      have g2 := blk_cell hg 2; have y2 := blk_free hg 2
      have g3 := blk_cell hg 3; have y3 := blk_free hg 3
      have g4 := blk_cell hg 4; have y4 := blk_free hg 4
      simp at g0 g1 g2 g3 g4
      have HG := Lib.hid (blk_set (blk_set (blk_set (blk_set (blk_set (blk_set hg 0 (.bool false)) 0 (.bool false)) 1 (.slice none 0 0)) 2 (.slice none 0 0)) 3 (.int .i64 0)) 4 (.string ⟨#[]⟩))
      simp at HG
      have HM1 := Lib.hid ((((((HM.out.set hsl _ (Or.inr rfl) 0 (.bool false)).set hsl _ (Or.inr rfl) 0 (.bool false)).set hsl _ (Or.inr rfl) 1 (.slice none 0 0)).set hsl _ (Or.inr rfl) 2 (.slice none 0 0)).set hsl _ (Or.inr rfl) 3 (.int .i64 0)).set hsl _ (Or.inr rfl) 4 (.string ⟨#[]⟩))
      have HR1 := Lib.hid (((((((Fx.refl _ wc).set 0 (.bool false)).set 0 (.bool false)).set 1 (.slice none 0 0)).set 2 (.slice none 0 0)).set 3 (.int .i64 0)).set 4 (.string ⟨#[]⟩) |>.heap HR.out (show w.heap.size + 1 ≠ w.heap.size + 1 + 1 by omega))
      clear hg
      go_upto_region 44 with (fail)
      generalize (((((wc.setCell ⟨w.heap.size + 1 + 1, 0, none⟩ (.bool false)).setCell ⟨w.heap.size + 1 + 1, 0, none⟩ (.bool false)).setCell ⟨w.heap.size + 1 + 1, 1, none⟩ (.slice none 0 0)).setCell ⟨w.heap.size + 1 + 1, 2, none⟩ (.slice none 0 0)).setCell ⟨w.heap.size + 1 + 1, 3, none⟩ (.int .i64 0)).setCell ⟨w.heap.size + 1 + 1, 4, none⟩ (.string ⟨#[]⟩) = X at *
      clear g0 g1 g2 g3 g4 y0 y1 y2 y3 y4 c1
      have hX := HG.out
      have hY := HR1.out
      have g0 := blk_cell hX 0; have g1 := blk_cell hX 1; have g2 := blk_cell hX 2; have g3 := blk_cell hX 3; have g4 := blk_cell hX 4
      have n0 := blk_cell hY 0; have n1 := blk_cell hY 1; have n2 := blk_cell hY 2; have n3 := blk_cell hY 3; have n4 := blk_cell hY 4
      have m0 := blk_free hY 0; have m1 := blk_free hY 1; have m2 := blk_free hY 2; have m3 := blk_free hY 3; have m4 := blk_free hY 4
      simp [zeroCs] at g0 g1 g2 g3 g4 n0 n1 n2 n3 n4
      clear hX hY
      go_wp2_with fail
      refine bodyPost_ret (v := zeroG) ?_ rfl ?_
      · simp [zeroG, results, Tryd.results25, go_sem, n0, n1, n2, n3, n4] <;> rfl
      · exact ((((((HM1.out).set hsl _ (Or.inl rfl) 0 _).set hsl _ (Or.inl rfl) 1 _).set hsl _ (Or.inl rfl) 2 _).set hsl _ (Or.inl rfl) 3 _).set hsl _ (Or.inl rfl) 4 _).no HP.out

set_option maxRecDepth 100000 in
set_option maxHeartbeats 2000000 in
theorem sr_fix_torn (r : Nat) (big : Bool) (xs : List Int) (P : G → List Int → Bool → Bool → Prop) (sz : Int) (be co : Bool) (w : World) (h : Sx w r xs false false)
    (hC : ∀ W, Sx W r xs false false → Calls Tryd.prog 50 #[.pointer (some ⟨r, 0, none⟩), .int .i64 1] W (RetTn W r (.slice none 0 0) false)) (hP : ∀ q, P G.no q true false) :
    Calls Tryd.prog 25 #[.pointer (some ⟨r, 0, none⟩), .agg #[.int .i64 8, .int .i64 sz, .bool be, .bool co], .bool big] w (RetR P w r) := by
  have HC := Lib.hid hC
  have HPP := Lib.hid hP
  clear hC hP
  have hsl := h.lt
  have HN := Lib.hid (GB.new w 8 sz be co)
  have HS := Lib.hid h
  clear h
  go_enter Tryd.func25, Tryd.ntmps25
  go_upto_block 0 with (fail)
  go_cut [] from 8 to 168 (fun wc => InvR P w r wc)
  case first =>
    go_wp2_with fail
    go_must (refine (HC.out _ (HS.out.gr (boxW_gr w 8 sz be co))).mono ?_)
    rintro e w1 ⟨rfl, ⟨q, hs1⟩, hf1⟩
    have hM := Mid.mk' HS.out (boxW_gr w 8 sz be co) (by rw [boxW_size]; omega) hf1 hs1 (Rd.nil w1) (Rd.nil w1) (offV_nil r) (offV_nil r) (fun s _ _ => offV_nil s) (fun s _ _ => offV_nil s)
    have hb1 := HN.out.fx hf1.fx hsl
    have g0 := blk_cell hb1.g 0; have g1 := blk_cell hb1.g 1; have g2 := blk_cell hb1.g 2; have g3 := blk_cell hb1.g 3; have g4 := blk_cell hb1.g 4
    have y1 := blk_free hb1.g 1; have y2 := blk_free hb1.g 2; have y3 := blk_free hb1.g 3; have y4 := blk_free hb1.g 4
    simp [zeroCs] at g0 g1 g2 g3 g4
    have HI := Lib.hid (show InvR P w r (w1) from ⟨.slice none 0 0, .slice none 0 0, [], [], 0, ⟨#[]⟩, q, true, false, hM, hb1.g, hb1.r, HPP.out q⟩)
    clear hb1 hs1 hf1 hM
    go_wp2_with fail
    go_meet
    exact HI.out
  case rest =>
    clear HN HS
    obtain ⟨dv, ov, l, ol, n, b, q, t, o, hM, hg, hr, hP⟩ := hcut
    have c1 := hM.sx.c1
    obtain ⟨pd, cd, rfl, _⟩ := id hM.d
    obtain ⟨po, co', rfl, _⟩ := id hM.e
    generalize l.length = nd at *
    generalize ol.length = no' at *
    have HM := Lib.hid hM
    have HP := Lib.hid hP
    have HR := Lib.hid hr
    clear hM hP hr
    cases t
    · simp only [Bool.false_eq_true, if_false] at HP
      have g0 := blk_cell hg 0; have y0 := blk_free hg 0
      simp at g0
      have HG := Lib.hid (blk_set hg 0 (.bool true))
      simp at HG
      have HM1 := Lib.hid (HM.out.set hsl _ (Or.inr rfl) 0 (.bool true))
      have HR1 := Lib.hid (((Fx.refl _ wc).set 0 (.bool true)).heap HR.out (show w.heap.size + 1 ≠ w.heap.size + 1 + 1 by omega))
      clear hg
      go_upto_region 44 with (fail)
      generalize wc.setCell ⟨w.heap.size + 1 + 1, 0, none⟩ (.bool true) = X at *
      clear g0 y0 c1
      have hX := HG.out
      have hY := HR1.out
      have g0 := blk_cell hX 0; have g1 := blk_cell hX 1; have g2 := blk_cell hX 2; have g3 := blk_cell hX 3; have g4 := blk_cell hX 4
      have n0 := blk_cell hY 0; have n1 := blk_cell hY 1; have n2 := blk_cell hY 2; have n3 := blk_cell hY 3; have n4 := blk_cell hY 4
      have m0 := blk_free hY 0; have m1 := blk_free hY 1; have m2 := blk_free hY 2; have m3 := blk_free hY 3; have m4 := blk_free hY 4
      simp [zeroCs] at g0 g1 g2 g3 g4 n0 n1 n2 n3 n4
      clear hX hY
      go_wp2_with fail
      refine bodyPost_ret (v := .agg #[.bool true, .slice pd nd cd, .slice po no' co', .int .i64 n, .string b]) ?_ rfl ?_
      · simp [results, Tryd.results25, go_sem, n0, n1, n2, n3, n4] <;> rfl
      · exact ((((((HM1.out).set hsl _ (Or.inl rfl) 0 _).set hsl _ (Or.inl rfl) 1 _).set hsl _ (Or.inl rfl) 2 _).set hsl _ (Or.inl rfl) 3 _).set hsl _ (Or.inl rfl) 4 _).ret n b HP.out
    · simp only [if_true] at HP
      have g0 := blk_cell hg 0; have y0 := blk_free hg 0
      have g1 := blk_cell hg 1; have y1 := blk_free hg 1
      have g2 := blk_cell hg 2; have y2 := blk_free hg 2
      have g3 := blk_cell hg 3; have y3 := blk_free hg 3
      have g4 := blk_cell hg 4; have y4 := blk_free hg 4
      simp at g0 g1 g2 g3 g4
      have HG := Lib.hid (blk_set (blk_set (blk_set (blk_set (blk_set (blk_set hg 0 (.bool false)) 0 (.bool false)) 1 (.slice none 0 0)) 2 (.slice none 0 0)) 3 (.int .i64 0)) 4 (.string ⟨#[]⟩))
      simp at HG
      have HM1 := Lib.hid ((((((HM.out.set hsl _ (Or.inr rfl) 0 (.bool false)).set hsl _ (Or.inr rfl) 0 (.bool false)).set hsl _ (Or.inr rfl) 1 (.slice none 0 0)).set hsl _ (Or.inr rfl) 2 (.slice none 0 0)).set hsl _ (Or.inr rfl) 3 (.int .i64 0)).set hsl _ (Or.inr rfl) 4 (.string ⟨#[]⟩))
      have HR1 := Lib.hid (((((((Fx.refl _ wc).set 0 (.bool false)).set 0 (.bool false)).set 1 (.slice none 0 0)).set 2 (.slice none 0 0)).set 3 (.int .i64 0)).set 4 (.string ⟨#[]⟩) |>.heap HR.out (show w.heap.size + 1 ≠ w.heap.size + 1 + 1 by omega))
      clear hg
      go_upto_region 44 with (fail)
      generalize (((((wc.setCell ⟨w.heap.size + 1 + 1, 0, none⟩ (.bool false)).setCell ⟨w.heap.size + 1 + 1, 0, none⟩ (.bool false)).setCell ⟨w.heap.size + 1 + 1, 1, none⟩ (.slice none 0 0)).setCell ⟨w.heap.size + 1 + 1, 2, none⟩ (.slice none 0 0)).setCell ⟨w.heap.size + 1 + 1, 3, none⟩ (.int .i64 0)).setCell ⟨w.heap.size + 1 + 1, 4, none⟩ (.string ⟨#[]⟩) = X at *
      clear g0 g1 g2 g3 g4 y0 y1 y2 y3 y4 c1
      have hX := HG.out
      have hY := HR1.out
      have g0 := blk_cell hX 0; have g1 := blk_cell hX 1; have g2 := blk_cell hX 2; have g3 := blk_cell hX 3; have g4 := blk_cell hX 4
      have n0 := blk_cell hY 0; have n1 := blk_cell hY 1; have n2 := blk_cell hY 2; have n3 := blk_cell hY 3; have n4 := blk_cell hY 4
      have m0 := blk_free hY 0; have m1 := blk_free hY 1; have m2 := blk_free hY 2; have m3 := blk_free hY 3; have m4 := blk_free hY 4
      simp [zeroCs] at g0 g1 g2 g3 g4 n0 n1 n2 n3 n4
      clear hX hY
      go_wp2_with fail
      refine bodyPost_ret (v := zeroG) ?_ rfl ?_
      · simp [zeroG, results, Tryd.results25, go_sem, n0, n1, n2, n3, n4] <;> rfl
      · exact ((((((HM1.out).set hsl _ (Or.inl rfl) 0 _).set hsl _ (Or.inl rfl) 1 _).set hsl _ (Or.inl rfl) 2 _).set hsl _ (Or.inl rfl) 3 _).set hsl _ (Or.inl rfl) 4 _).no HP.out

set_option maxRecDepth 100000 in
set_option maxHeartbeats 2000000 in
theorem sr_fix_null (r : Nat) (big : Bool) (xs : List Int) (P : G → List Int → Bool → Bool → Prop) (b : Int) (tl : List Int) (sz : Int) (be co : Bool) (w : World) (h : Sx w r xs false false)
    (hC : ∀ W, Sx W r xs false false → Calls Tryd.prog 50 #[.pointer (some ⟨r, 0, none⟩), .int .i64 1] W (RetTk W r [b] tl)) (hb : b = 0 ∨ b = 255 ∨ b = 253) (hP : P ⟨true, [], [], 0, ⟨#[]⟩⟩ tl false false) :
    Calls Tryd.prog 25 #[.pointer (some ⟨r, 0, none⟩), .agg #[.int .i64 8, .int .i64 sz, .bool be, .bool co], .bool big] w (RetR P w r) := by
  have HC := Lib.hid hC
  have HPP := Lib.hid hP
  clear hC hP
  have hsl := h.lt
  have HN := Lib.hid (GB.new w 8 sz be co)
  have HS := Lib.hid h
  clear h
  go_enter Tryd.func25, Tryd.ntmps25
  go_upto_block 0 with (fail)
  go_cut [] from 8 to 168 (fun wc => InvR P w r wc)
  case first =>
    go_wp2_with fail
    go_must (refine (HC.out _ (HS.out.gr (boxW_gr w 8 sz be co))).mono ?_)
    rintro e w1 ⟨u1, rfl, hu, _, _, _, hs1, hf1⟩
    obtain ⟨a, o, c, rfl, hc, hcm, k0⟩ := rd_one hu
    have hM := Mid.mk' HS.out (boxW_gr w 8 sz be co) (by rw [boxW_size]; omega) hf1 hs1 (Rd.nil w1) (Rd.nil w1) (offV_nil r) (offV_nil r) (fun s _ _ => offV_nil s) (fun s _ _ => offV_nil s)
    have hb1 := HN.out.fx hf1.fx hsl
    have g0 := blk_cell hb1.g 0; have g1 := blk_cell hb1.g 1; have g2 := blk_cell hb1.g 2; have g3 := blk_cell hb1.g 3; have g4 := blk_cell hb1.g 4
    have y1 := blk_free hb1.g 1; have y2 := blk_free hb1.g 2; have y3 := blk_free hb1.g 3; have y4 := blk_free hb1.g 4
    simp [zeroCs] at g0 g1 g2 g3 g4
    have HI := Lib.hid (show InvR P w r (w1) from ⟨.slice none 0 0, .slice none 0 0, [], [], 0, ⟨#[]⟩, tl, false, false, hM, hb1.g, hb1.r, HPP.out⟩)
    clear hb1 hs1 hf1 hM hu
    rcases hb with rfl | rfl | rfl
    all_goals
      go_wp2_with fail
      go_meet
      exact HI.out
  case rest =>
    clear HN HS
    obtain ⟨dv, ov, l, ol, n, b, q, t, o, hM, hg, hr, hP⟩ := hcut
    have c1 := hM.sx.c1
    obtain ⟨pd, cd, rfl, _⟩ := id hM.d
    obtain ⟨po, co', rfl, _⟩ := id hM.e
    generalize l.length = nd at *
    generalize ol.length = no' at *
    have HM := Lib.hid hM
    have HP := Lib.hid hP
    have HR := Lib.hid hr
    clear hM hP hr
    cases t
    · simp only [Bool.false_eq_true, if_false] at HP
      have g0 := blk_cell hg 0; have y0 := blk_free hg 0
      simp at g0
      have HG := Lib.hid (blk_set hg 0 (.bool true))
      simp at HG
      have HM1 := Lib.hid (HM.out.set hsl _ (Or.inr rfl) 0 (.bool true))
      have HR1 := Lib.hid (((Fx.refl _ wc).set 0 (.bool true)).heap HR.out (show w.heap.size + 1 ≠ w.heap.size + 1 + 1 by omega))
      clear hg
      go_upto_region 44 with (fail)
      generalize wc.setCell ⟨w.heap.size + 1 + 1, 0, none⟩ (.bool true) = X at *
      clear g0 y0 c1
      have hX := HG.out
      have hY := HR1.out
      have g0 := blk_cell hX 0; have g1 := blk_cell hX 1; have g2 := blk_cell hX 2; have g3 := blk_cell hX 3; have g4 := blk_cell hX 4
      have n0 := blk_cell hY 0; have n1 := blk_cell hY 1; have n2 := blk_cell hY 2; have n3 := blk_cell hY 3; have n4 := blk_cell hY 4
      have m0 := blk_free hY 0; have m1 := blk_free hY 1; have m2 := blk_free hY 2; have m3 := blk_free hY 3; have m4 := blk_free hY 4
      simp [zeroCs] at g0 g1 g2 g3 g4 n0 n1 n2 n3 n4
      clear hX hY
      go_wp2_with fail
      refine bodyPost_ret (v := .agg #[.bool true, .slice pd nd cd, .slice po no' co', .int .i64 n, .string b]) ?_ rfl ?_
      · simp [results, Tryd.results25, go_sem, n0, n1, n2, n3, n4] <;> rfl
      · exact ((((((HM1.out).set hsl _ (Or.inl rfl) 0 _).set hsl _ (Or.inl rfl) 1 _).set hsl _ (Or.inl rfl) 2 _).set hsl _ (Or.inl rfl) 3 _).set hsl _ (Or.inl rfl) 4 _).ret n b HP.out
    · simp only [if_true] at HP
      have g0 := blk_cell hg 0; have y0 := blk_free hg 0
      have g1 := blk_cell hg 1; have y1 := blk_free hg 1
      have g2 := blk_cell hg 2; have y2 := blk_free hg 2
      have g3 := blk_cell hg 3; have y3 := blk_free hg 3
      have g4 := blk_cell hg 4; have y4 := blk_free hg 4
      simp at g0 g1 g2 g3 g4
      have HG := Lib.hid (blk_set (blk_set (blk_set (blk_set (blk_set (blk_set hg 0 (.bool false)) 0 (.bool false)) 1 (.slice none 0 0)) 2 (.slice none 0 0)) 3 (.int .i64 0)) 4 (.string ⟨#[]⟩))
      simp at HG
      have HM1 := Lib.hid ((((((HM.out.set hsl _ (Or.inr rfl) 0 (.bool false)).set hsl _ (Or.inr rfl) 0 (.bool false)).set hsl _ (Or.inr rfl) 1 (.slice none 0 0)).set hsl _ (Or.inr rfl) 2 (.slice none 0 0)).set hsl _ (Or.inr rfl) 3 (.int .i64 0)).set hsl _ (Or.inr rfl) 4 (.string ⟨#[]⟩))
      have HR1 := Lib.hid (((((((Fx.refl _ wc).set 0 (.bool false)).set 0 (.bool false)).set 1 (.slice none 0 0)).set 2 (.slice none 0 0)).set 3 (.int .i64 0)).set 4 (.string ⟨#[]⟩) |>.heap HR.out (show w.heap.size + 1 ≠ w.heap.size + 1 + 1 by omega))
      clear hg
      go_upto_region 44 with (fail)
      generalize (((((wc.setCell ⟨w.heap.size + 1 + 1, 0, none⟩ (.bool false)).setCell ⟨w.heap.size + 1 + 1, 0, none⟩ (.bool false)).setCell ⟨w.heap.size + 1 + 1, 1, none⟩ (.slice none 0 0)).setCell ⟨w.heap.size + 1 + 1, 2, none⟩ (.slice none 0 0)).setCell ⟨w.heap.size + 1 + 1, 3, none⟩ (.int .i64 0)).setCell ⟨w.heap.size + 1 + 1, 4, none⟩ (.string ⟨#[]⟩) = X at *
      clear g0 g1 g2 g3 g4 y0 y1 y2 y3 y4 c1
      have hX := HG.out
      have hY := HR1.out
      have g0 := blk_cell hX 0; have g1 := blk_cell hX 1; have g2 := blk_cell hX 2; have g3 := blk_cell hX 3; have g4 := blk_cell hX 4
      have n0 := blk_cell hY 0; have n1 := blk_cell hY 1; have n2 := blk_cell hY 2; have n3 := blk_cell hY 3; have n4 := blk_cell hY 4
      have m0 := blk_free hY 0; have m1 := blk_free hY 1; have m2 := blk_free hY 2; have m3 := blk_free hY 3; have m4 := blk_free hY 4
      simp [zeroCs] at g0 g1 g2 g3 g4 n0 n1 n2 n3 n4
      clear hX hY
      go_wp2_with fail
      refine bodyPost_ret (v := zeroG) ?_ rfl ?_
      · simp [zeroG, results, Tryd.results25, go_sem, n0, n1, n2, n3, n4] <;> rfl
      · exact ((((((HM1.out).set hsl _ (Or.inl rfl) 0 _).set hsl _ (Or.inl rfl) 1 _).set hsl _ (Or.inl rfl) 2 _).set hsl _ (Or.inl rfl) 3 _).set hsl _ (Or.inl rfl) 4 _).no HP.out

set_option maxRecDepth 100000 in
set_option maxHeartbeats 2000000 in
theorem sr_fix_one (r : Nat) (big : Bool) (xs : List Int) (P : G → List Int → Bool → Bool → Prop) (L : List Int → List Int → Bool → Bool → Prop) (n : Nat) (tl : List Int) (sz : Int) (be co : Bool) (w : World) (h : Sx w r xs false false)
    (hC : ∀ W, Sx W r xs false false → Calls Tryd.prog 50 #[.pointer (some ⟨r, 0, none⟩), .int .i64 1] W (RetTk W r [(n : Int)] tl))
    (hn : 1 ≤ n ∧ n ≤ 252) (hC2 : ∀ W, Sx W r tl false false → Calls Tryd.prog 50 #[.pointer (some ⟨r, 0, none⟩), .int .i64 n] W (RetD L W r))
    (hP : ∀ l q t o, L l q t o → P (if t = true then G.no else ⟨true, l, [], 0, ⟨#[]⟩⟩) q t o) :
    Calls Tryd.prog 25 #[.pointer (some ⟨r, 0, none⟩), .agg #[.int .i64 8, .int .i64 sz, .bool be, .bool co], .bool big] w (RetR P w r) := by
  have HC := Lib.hid hC
  have HPP := Lib.hid hP
  have HC2 := Lib.hid hC2
  clear hC hP hC2
  have hsl := h.lt
  have HN := Lib.hid (GB.new w 8 sz be co)
  have HS := Lib.hid h
  clear h
  go_enter Tryd.func25, Tryd.ntmps25
  go_upto_block 0 with (fail)
  go_cut [] from 8 to 168 (fun wc => InvR P w r wc)
  case first =>
    go_wp2_with fail
    go_must (refine (HC.out _ (HS.out.gr (boxW_gr w 8 sz be co))).mono ?_)
    rintro e w0 ⟨u1, rfl, hu1, _, _, _, hs0, hf0⟩
    obtain ⟨a, o, c, rfl, hc, hcm, k0⟩ := rd_one hu1
    have i1 : ((n : Int) == 0) = false := beq_eq_false_iff_ne.2 (by omega)
    have i2 : ((n : Int) == 253) = false := beq_eq_false_iff_ne.2 (by omega)
    have i3 : ((n : Int) == 255) = false := beq_eq_false_iff_ne.2 (by omega)
    have i4 : ((n : Int) == 254) = false := beq_eq_false_iff_ne.2 (by omega)
    have hw : IntKind.i64.wrap (n : Int) = n := IntWalk.i64_in _ (by omega)
    have HC2' := Lib.hid (HC2.out _ hs0)
    clear hu1
    go_wp2_with fail
    go_must (refine (HC2'.out).mono ?_)
    rintro e w1 ⟨u, l, q, t, o, rfl, hu, ho, hx, hf1', hs1, hL⟩
    have hf1 := hf0.trans hf1'
    have hx0 : ∀ s, s < (boxW w 8 sz be co).heap.size → OffX (boxW w 8 sz be co) r s → OffV s u := fun s hs h => hx s (Nat.lt_of_lt_of_le hs hf0.size) (hf0.off s h)
    have hM := (Mid.mk' HS.out (boxW_gr w 8 sz be co) (by rw [boxW_size]; omega) hf1 hs1 hu (Rd.nil w1) ho (offV_nil r) hx0 (fun s _ _ => offV_nil s)).set hsl _ (Or.inr rfl) 1 u
    have hb1 := HN.out.fx hf1.fx hsl
    have g0 := blk_cell hb1.g 0; have g1 := blk_cell hb1.g 1; have g2 := blk_cell hb1.g 2; have g3 := blk_cell hb1.g 3; have g4 := blk_cell hb1.g 4
    have y1 := blk_free hb1.g 1; have y2 := blk_free hb1.g 2; have y3 := blk_free hb1.g 3; have y4 := blk_free hb1.g 4
    simp [zeroCs] at g0 g1 g2 g3 g4
    obtain ⟨pu, cu, rfl, _⟩ := id hu
    have HI := Lib.hid (show InvR P w r (w1.setCell ⟨w.heap.size + 1 + 1, 1, none⟩ (.slice pu l.length cu)) from ⟨.slice pu l.length cu, .slice none 0 0, l, [], 0, ⟨#[]⟩, q, t, o, hM, by rw [blk_set hb1.g]; rfl, ((Fx.refl _ w1).set 1 _).heap hb1.r (by omega), HPP.out _ _ _ _ hL⟩)
    clear hb1 hs1 hu hx hx0 hf1 hf1' hf0 hs0 hL ho hM
    go_wp2_with fail
    go_meet
    exact HI.out
  case rest =>
    clear HN HS
    obtain ⟨dv, ov, l, ol, n, b, q, t, o, hM, hg, hr, hP⟩ := hcut
    have c1 := hM.sx.c1
    obtain ⟨pd, cd, rfl, _⟩ := id hM.d
    obtain ⟨po, co', rfl, _⟩ := id hM.e
    generalize l.length = nd at *
    generalize ol.length = no' at *
    have HM := Lib.hid hM
    have HP := Lib.hid hP
    have HR := Lib.hid hr
    clear hM hP hr
    cases t
    · simp only [Bool.false_eq_true, if_false] at HP
      have g0 := blk_cell hg 0; have y0 := blk_free hg 0
      simp at g0
      have HG := Lib.hid (blk_set hg 0 (.bool true))
      simp at HG
      have HM1 := Lib.hid (HM.out.set hsl _ (Or.inr rfl) 0 (.bool true))
      have HR1 := Lib.hid (((Fx.refl _ wc).set 0 (.bool true)).heap HR.out (show w.heap.size + 1 ≠ w.heap.size + 1 + 1 by omega))
      clear hg
      go_upto_region 44 with (fail)
      generalize wc.setCell ⟨w.heap.size + 1 + 1, 0, none⟩ (.bool true) = X at *
      clear g0 y0 c1
      have hX := HG.out
      have hY := HR1.out
      have g0 := blk_cell hX 0; have g1 := blk_cell hX 1; have g2 := blk_cell hX 2; have g3 := blk_cell hX 3; have g4 := blk_cell hX 4
      have n0 := blk_cell hY 0; have n1 := blk_cell hY 1; have n2 := blk_cell hY 2; have n3 := blk_cell hY 3; have n4 := blk_cell hY 4
      have m0 := blk_free hY 0; have m1 := blk_free hY 1; have m2 := blk_free hY 2; have m3 := blk_free hY 3; have m4 := blk_free hY 4
      simp [zeroCs] at g0 g1 g2 g3 g4 n0 n1 n2 n3 n4
      clear hX hY
      go_wp2_with fail
      refine bodyPost_ret (v := .agg #[.bool true, .slice pd nd cd, .slice po no' co', .int .i64 n, .string b]) ?_ rfl ?_
      · simp [results, Tryd.results25, go_sem, n0, n1, n2, n3, n4] <;> rfl
      · exact ((((((HM1.out).set hsl _ (Or.inl rfl) 0 _).set hsl _ (Or.inl rfl) 1 _).set hsl _ (Or.inl rfl) 2 _).set hsl _ (Or.inl rfl) 3 _).set hsl _ (Or.inl rfl) 4 _).ret n b HP.out
    · simp only [if_true] at HP
      have g0 := blk_cell hg 0; have y0 := blk_free hg 0
      have g1 := blk_cell hg 1; have y1 := blk_free hg 1
      have g2 := blk_cell hg 2; have y2 := blk_free hg 2
      have g3 := blk_cell hg 3; have y3 := blk_free hg 3
      have g4 := blk_cell hg 4; have y4 := blk_free hg 4
      simp at g0 g1 g2 g3 g4
      have HG := Lib.hid (blk_set (blk_set (blk_set (blk_set (blk_set (blk_set hg 0 (.bool false)) 0 (.bool false)) 1 (.slice none 0 0)) 2 (.slice none 0 0)) 3 (.int .i64 0)) 4 (.string ⟨#[]⟩))
      simp at HG
      have HM1 := Lib.hid ((((((HM.out.set hsl _ (Or.inr rfl) 0 (.bool false)).set hsl _ (Or.inr rfl) 0 (.bool false)).set hsl _ (Or.inr rfl) 1 (.slice none 0 0)).set hsl _ (Or.inr rfl) 2 (.slice none 0 0)).set hsl _ (Or.inr rfl) 3 (.int .i64 0)).set hsl _ (Or.inr rfl) 4 (.string ⟨#[]⟩))
      have HR1 := Lib.hid (((((((Fx.refl _ wc).set 0 (.bool false)).set 0 (.bool false)).set 1 (.slice none 0 0)).set 2 (.slice none 0 0)).set 3 (.int .i64 0)).set 4 (.string ⟨#[]⟩) |>.heap HR.out (show w.heap.size + 1 ≠ w.heap.size + 1 + 1 by omega))
      clear hg
      go_upto_region 44 with (fail)
      generalize (((((wc.setCell ⟨w.heap.size + 1 + 1, 0, none⟩ (.bool false)).setCell ⟨w.heap.size + 1 + 1, 0, none⟩ (.bool false)).setCell ⟨w.heap.size + 1 + 1, 1, none⟩ (.slice none 0 0)).setCell ⟨w.heap.size + 1 + 1, 2, none⟩ (.slice none 0 0)).setCell ⟨w.heap.size + 1 + 1, 3, none⟩ (.int .i64 0)).setCell ⟨w.heap.size + 1 + 1, 4, none⟩ (.string ⟨#[]⟩) = X at *
      clear g0 g1 g2 g3 g4 y0 y1 y2 y3 y4 c1
      have hX := HG.out
      have hY := HR1.out
      have g0 := blk_cell hX 0; have g1 := blk_cell hX 1; have g2 := blk_cell hX 2; have g3 := blk_cell hX 3; have g4 := blk_cell hX 4
      have n0 := blk_cell hY 0; have n1 := blk_cell hY 1; have n2 := blk_cell hY 2; have n3 := blk_cell hY 3; have n4 := blk_cell hY 4
      have m0 := blk_free hY 0; have m1 := blk_free hY 1; have m2 := blk_free hY 2; have m3 := blk_free hY 3; have m4 := blk_free hY 4
      simp [zeroCs] at g0 g1 g2 g3 g4 n0 n1 n2 n3 n4
      clear hX hY
      go_wp2_with fail
      refine bodyPost_ret (v := zeroG) ?_ rfl ?_
      · simp [zeroG, results, Tryd.results25, go_sem, n0, n1, n2, n3, n4] <;> rfl
      · exact ((((((HM1.out).set hsl _ (Or.inl rfl) 0 _).set hsl _ (Or.inl rfl) 1 _).set hsl _ (Or.inl rfl) 2 _).set hsl _ (Or.inl rfl) 3 _).set hsl _ (Or.inl rfl) 4 _).no HP.out

set_option maxRecDepth 100000 in
set_option maxHeartbeats 2000000 in
theorem sr_fix_long (r : Nat) (big : Bool) (xs : List Int) (P : G → List Int → Bool → Bool → Prop) (L : List Int → List Int → Bool → Bool → Prop) (L0 : Nat → List Int → Bool → Bool → Prop) (tl : List Int) (sz : Int) (be co : Bool) (w : World) (h : Sx w r xs false false)
    (hC : ∀ W, Sx W r xs false false → Calls Tryd.prog 50 #[.pointer (some ⟨r, 0, none⟩), .int .i64 1] W (RetTk W r [254] tl))
    (hC2 : ∀ W, Sx W r tl false false → Calls Tryd.prog 54 #[.pointer (some ⟨r, 0, none⟩), .int .i64 4, .bool true] W (fun e w' => ∃ (n : Nat) (q : List Int) (t o : Bool), e = .returned (.int .u64 n) ∧ n ≤ 4294967295 ∧ Fk r W w' ∧ Sx w' r q t o ∧ L0 n q t o))
    (hC3 : ∀ W n q t o, L0 n q t o → Sx W r q t o → Calls Tryd.prog 50 #[.pointer (some ⟨r, 0, none⟩), .int .i64 n] W (RetD L W r))
    (hP : ∀ l q t o, L l q t o → P (if t = true then G.no else ⟨true, l, [], 0, ⟨#[]⟩⟩) q t o) :
    Calls Tryd.prog 25 #[.pointer (some ⟨r, 0, none⟩), .agg #[.int .i64 8, .int .i64 sz, .bool be, .bool co], .bool big] w (RetR P w r) := by
  have HC := Lib.hid hC
  have HPP := Lib.hid hP
  have HC2 := Lib.hid hC2
  have HC3 := Lib.hid hC3
  clear hC hP hC2 hC3
  have hsl := h.lt
  have HN := Lib.hid (GB.new w 8 sz be co)
  have HS := Lib.hid h
  clear h
  go_enter Tryd.func25, Tryd.ntmps25
  go_upto_block 0 with (fail)
  go_cut [] from 8 to 168 (fun wc => InvR P w r wc)
  case first =>
    go_wp2_with fail
    go_must (refine (HC.out _ (HS.out.gr (boxW_gr w 8 sz be co))).mono ?_)
    rintro e w0 ⟨u1, rfl, hu1, _, _, _, hs0, hf0⟩
    obtain ⟨a, o, c, rfl, hc, hcm, k0⟩ := rd_one hu1
    have HC2' := Lib.hid (HC2.out _ hs0)
    clear hu1
    go_wp2_with fail
    go_must (refine (HC2'.out).mono ?_)
    rintro e w00 ⟨n, q0, t0, o0, rfl, hn, hf00, hs00, hL0⟩
    have hw : IntKind.i64.wrap (n : Int) = n := IntWalk.i64_in _ (by omega)
    have hw2 : wrap64 (n : Int) = n := by have h := hw; rw [IntKind.wrap_i64] at h; unfold wrap64; exact h
    have HC3' := Lib.hid (HC3.out _ n q0 t0 o0 hL0 hs00)
    have HW2 := Lib.hid hw2
    clear hw2
    go_wp2_with fail
    try rw [HW2.out]
    go_must (refine HC3'.out.mono ?_)
    rintro e w1 ⟨u, l, q, t, o, rfl, hu, ho, hx, hf1', hs1, hL⟩
    have hfa := hf0.trans hf00
    have hf1 := hfa.trans hf1'
    have hx0 : ∀ s, s < (boxW w 8 sz be co).heap.size → OffX (boxW w 8 sz be co) r s → OffV s u := fun s hs h => hx s (Nat.lt_of_lt_of_le hs hfa.size) (hfa.off s h)
    have hM := (Mid.mk' HS.out (boxW_gr w 8 sz be co) (by rw [boxW_size]; omega) hf1 hs1 hu (Rd.nil w1) ho (offV_nil r) hx0 (fun s _ _ => offV_nil s)).set hsl _ (Or.inr rfl) 1 u
    have hb1 := HN.out.fx hf1.fx hsl
    have g0 := blk_cell hb1.g 0; have g1 := blk_cell hb1.g 1; have g2 := blk_cell hb1.g 2; have g3 := blk_cell hb1.g 3; have g4 := blk_cell hb1.g 4
    have y1 := blk_free hb1.g 1; have y2 := blk_free hb1.g 2; have y3 := blk_free hb1.g 3; have y4 := blk_free hb1.g 4
    simp [zeroCs] at g0 g1 g2 g3 g4
    obtain ⟨pu, cu, rfl, _⟩ := id hu
    have HI := Lib.hid (show InvR P w r (w1.setCell ⟨w.heap.size + 1 + 1, 1, none⟩ (.slice pu l.length cu)) from ⟨.slice pu l.length cu, .slice none 0 0, l, [], 0, ⟨#[]⟩, q, t, o, hM, by rw [blk_set hb1.g]; rfl, ((Fx.refl _ w1).set 1 _).heap hb1.r (by omega), HPP.out _ _ _ _ hL⟩)
    clear hb1 hs1 hu hx hx0 hf1 hf1' hf0 hfa hf00 hs0 hs00 hL hL0 ho hM
    go_wp2_with fail
    go_meet
    exact HI.out
  case rest =>
    clear HN HS
    obtain ⟨dv, ov, l, ol, n, b, q, t, o, hM, hg, hr, hP⟩ := hcut
    have c1 := hM.sx.c1
    obtain ⟨pd, cd, rfl, _⟩ := id hM.d
    obtain ⟨po, co', rfl, _⟩ := id hM.e
    generalize l.length = nd at *
    generalize ol.length = no' at *
    have HM := Lib.hid hM
    have HP := Lib.hid hP
    have HR := Lib.hid hr
    clear hM hP hr
    cases t
    · simp only [Bool.false_eq_true, if_false] at HP
      have g0 := blk_cell hg 0; have y0 := blk_free hg 0
      simp at g0
      have HG := Lib.hid (blk_set hg 0 (.bool true))
      simp at HG
      have HM1 := Lib.hid (HM.out.set hsl _ (Or.inr rfl) 0 (.bool true))
      have HR1 := Lib.hid (((Fx.refl _ wc).set 0 (.bool true)).heap HR.out (show w.heap.size + 1 ≠ w.heap.size + 1 + 1 by omega))
      clear hg
      go_upto_region 44 with (fail)
      generalize wc.setCell ⟨w.heap.size + 1 + 1, 0, none⟩ (.bool true) = X at *
      clear g0 y0 c1
      have hX := HG.out
      have hY := HR1.out
      have g0 := blk_cell hX 0; have g1 := blk_cell hX 1; have g2 := blk_cell hX 2; have g3 := blk_cell hX 3; have g4 := blk_cell hX 4
      have n0 := blk_cell hY 0; have n1 := blk_cell hY 1; have n2 := blk_cell hY 2; have n3 := blk_cell hY 3; have n4 := blk_cell hY 4
      have m0 := blk_free hY 0; have m1 := blk_free hY 1; have m2 := blk_free hY 2; have m3 := blk_free hY 3; have m4 := blk_free hY 4
      simp [zeroCs] at g0 g1 g2 g3 g4 n0 n1 n2 n3 n4
      clear hX hY
      go_wp2_with fail
      refine bodyPost_ret (v := .agg #[.bool true, .slice pd nd cd, .slice po no' co', .int .i64 n, .string b]) ?_ rfl ?_
      · simp [results, Tryd.results25, go_sem, n0, n1, n2, n3, n4] <;> rfl
      · exact ((((((HM1.out).set hsl _ (Or.inl rfl) 0 _).set hsl _ (Or.inl rfl) 1 _).set hsl _ (Or.inl rfl) 2 _).set hsl _ (Or.inl rfl) 3 _).set hsl _ (Or.inl rfl) 4 _).ret n b HP.out
    · simp only [if_true] at HP
      have g0 := blk_cell hg 0; have y0 := blk_free hg 0
      have g1 := blk_cell hg 1; have y1 := blk_free hg 1
      have g2 := blk_cell hg 2; have y2 := blk_free hg 2
      have g3 := blk_cell hg 3; have y3 := blk_free hg 3
      have g4 := blk_cell hg 4; have y4 := blk_free hg 4
      simp at g0 g1 g2 g3 g4
      have HG := Lib.hid (blk_set (blk_set (blk_set (blk_set (blk_set (blk_set hg 0 (.bool false)) 0 (.bool false)) 1 (.slice none 0 0)) 2 (.slice none 0 0)) 3 (.int .i64 0)) 4 (.string ⟨#[]⟩))
      simp at HG
      have HM1 := Lib.hid ((((((HM.out.set hsl _ (Or.inr rfl) 0 (.bool false)).set hsl _ (Or.inr rfl) 0 (.bool false)).set hsl _ (Or.inr rfl) 1 (.slice none 0 0)).set hsl _ (Or.inr rfl) 2 (.slice none 0 0)).set hsl _ (Or.inr rfl) 3 (.int .i64 0)).set hsl _ (Or.inr rfl) 4 (.string ⟨#[]⟩))
      have HR1 := Lib.hid (((((((Fx.refl _ wc).set 0 (.bool false)).set 0 (.bool false)).set 1 (.slice none 0 0)).set 2 (.slice none 0 0)).set 3 (.int .i64 0)).set 4 (.string ⟨#[]⟩) |>.heap HR.out (show w.heap.size + 1 ≠ w.heap.size + 1 + 1 by omega))
      clear hg
      go_upto_region 44 with (fail)
      generalize (((((wc.setCell ⟨w.heap.size + 1 + 1, 0, none⟩ (.bool false)).setCell ⟨w.heap.size + 1 + 1, 0, none⟩ (.bool false)).setCell ⟨w.heap.size + 1 + 1, 1, none⟩ (.slice none 0 0)).setCell ⟨w.heap.size + 1 + 1, 2, none⟩ (.slice none 0 0)).setCell ⟨w.heap.size + 1 + 1, 3, none⟩ (.int .i64 0)).setCell ⟨w.heap.size + 1 + 1, 4, none⟩ (.string ⟨#[]⟩) = X at *
      clear g0 g1 g2 g3 g4 y0 y1 y2 y3 y4 c1
      have hX := HG.out
      have hY := HR1.out
      have g0 := blk_cell hX 0; have g1 := blk_cell hX 1; have g2 := blk_cell hX 2; have g3 := blk_cell hX 3; have g4 := blk_cell hX 4
      have n0 := blk_cell hY 0; have n1 := blk_cell hY 1; have n2 := blk_cell hY 2; have n3 := blk_cell hY 3; have n4 := blk_cell hY 4
      have m0 := blk_free hY 0; have m1 := blk_free hY 1; have m2 := blk_free hY 2; have m3 := blk_free hY 3; have m4 := blk_free hY 4
      simp [zeroCs] at g0 g1 g2 g3 g4 n0 n1 n2 n3 n4
      clear hX hY
      go_wp2_with fail
      refine bodyPost_ret (v := zeroG) ?_ rfl ?_
      · simp [zeroG, results, Tryd.results25, go_sem, n0, n1, n2, n3, n4] <;> rfl
      · exact ((((((HM1.out).set hsl _ (Or.inl rfl) 0 _).set hsl _ (Or.inl rfl) 1 _).set hsl _ (Or.inl rfl) 2 _).set hsl _ (Or.inl rfl) 3 _).set hsl _ (Or.inl rfl) 4 _).no HP.out
end Go.Proofs.YtgkccbfepjgjoaaDoor
