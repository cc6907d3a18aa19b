/- The reference's reader: a step, by its kinds (gen_sr.py). -/
import Derived.Test.YtgkccbfepjgjoaaDoorSeRg
import Derived.Deep.DeepCutAuto
import Derived.Deep.CutBlock
namespace Go.Proofs.YtgkccbfepjgjoaaDoor
open Go Go.RowKit

/-- Behind the switch of a step. -/
def InvR (P : G → List Int → Bool → Bool → Prop) (w : World) (r : Nat) (X : World) : Prop :=
  ∃ dv ov l ol n b q t o, Mid w X r q t o dv ov l ol ∧ X.heap[w.heap.size + 1 + 1]? = some (.cells #[.bool false, dv, ov, .int .i64 n, .string b] 31 (0, 0)) ∧
    X.heap[w.heap.size + 1]? = some (.cells zeroCs 31 (0, 0)) ∧ P (if t = true then G.no else ⟨true, l, ol, n, b⟩) q t o

set_option maxRecDepth 100000 in
set_option maxHeartbeats 2000000 in
theorem sr_bytes (r : Nat) (big : Bool) (xs : List Int) (P : G → List Int → Bool → Bool → Prop) (L : List Int → List Int → Bool → Bool → Prop) (m : Nat) (be co : Bool) (w : World) (h : Sx w r xs false false)
    (hC : ∀ W, Sx W r xs false false → Calls Tryd.prog 50 #[.pointer (some ⟨r, 0, none⟩), .int .i64 m] W (RetD L W r))
    (hP : ∀ l q t o, L l q t o → P (if t = true then G.no else ⟨true, l, [], 0, ⟨#[]⟩⟩) q t o) :
    Calls Tryd.prog 25 #[.pointer (some ⟨r, 0, none⟩), .agg #[.int .i64 1, .int .i64 m, .bool be, .bool co], .bool big] w (RetR P w r) := by
  have HC := Lib.hid hC
  have HPP := Lib.hid hP
  clear hC hP
  have hsl := h.lt
  have HN := Lib.hid (GB.new w 1 m be co)
  have HS := Lib.hid h
  clear h
  go_enter Tryd.func25, Tryd.ntmps25
  go_upto_block 0 with (fail)
  go_cut [] from 8 to 168 (fun wc => InvR P w r wc)
  case first =>
    go_wp2_with fail
    go_must (refine (HC.out _ (HS.out.gr (boxW_gr w 1 m be co))).mono ?_)
    rintro e w1 ⟨u, l, q, t, o, rfl, hu, ho, hx, hf1, hs1, hL⟩
    have hM := (Mid.mk' HS.out (boxW_gr w 1 m be co) (by rw [boxW_size]; omega) hf1 hs1 hu (Rd.nil w1) ho (offV_nil r) hx (fun s _ _ => offV_nil s)).set hsl _ (Or.inr rfl) 1 u
    have hb1 := HN.out.fx hf1.fx hsl
    have g0 := blk_cell hb1.g 0; have g1 := blk_cell hb1.g 1; have g2 := blk_cell hb1.g 2; have g3 := blk_cell hb1.g 3; have g4 := blk_cell hb1.g 4
    have y1 := blk_free hb1.g 1; have y2 := blk_free hb1.g 2; have y3 := blk_free hb1.g 3; have y4 := blk_free hb1.g 4
    simp [zeroCs] at g0 g1 g2 g3 g4
    obtain ⟨pu, cu, rfl, _⟩ := id hu
    have HI := Lib.hid (show InvR P w r (w1.setCell ⟨w.heap.size + 1 + 1, 1, none⟩ (.slice pu l.length cu)) from ⟨_, _, l, [], 0, ⟨#[]⟩, q, t, o, hM, by rw [blk_set hb1.g]; rfl, ((Fx.refl _ w1).set 1 _).heap hb1.r (by omega), HPP.out _ _ _ _ hL⟩)
    clear hb1 hs1 hu hx hf1 hL ho hM
    go_wp2_with fail
    go_meet
    exact HI.out
  case rest =>
    clear HN HS
    obtain ⟨dv, ov, l, ol, n, b, q, t, o, hM, hg, hr, hP⟩ := hcut
    have c1 := hM.sx.c1
    obtain ⟨pd, cd, rfl, _⟩ := id hM.d
    obtain ⟨po, co', rfl, _⟩ := id hM.e
    generalize l.length = nd at *
    generalize ol.length = no' at *
    have HM := Lib.hid hM
    have HP := Lib.hid hP
    have HR := Lib.hid hr
    clear hM hP hr
    cases t
    · simp only [Bool.false_eq_true, if_false] at HP
      have g0 := blk_cell hg 0; have y0 := blk_free hg 0
      simp at g0
      have HG := Lib.hid (blk_set hg 0 (.bool true))
      simp at HG
      have HM1 := Lib.hid (HM.out.set hsl _ (Or.inr rfl) 0 (.bool true))
      have HR1 := Lib.hid (((Fx.refl _ wc).set 0 (.bool true)).heap HR.out (show w.heap.size + 1 ≠ w.heap.size + 1 + 1 by omega))
      clear hg
      go_upto_region 44 with (fail)
      generalize wc.setCell ⟨w.heap.size + 1 + 1, 0, none⟩ (.bool true) = X at *
      clear g0 y0 c1
      have hX := HG.out
      have hY := HR1.out
      have g0 := blk_cell hX 0; have g1 := blk_cell hX 1; have g2 := blk_cell hX 2; have g3 := blk_cell hX 3; have g4 := blk_cell hX 4
      have n0 := blk_cell hY 0; have n1 := blk_cell hY 1; have n2 := blk_cell hY 2; have n3 := blk_cell hY 3; have n4 := blk_cell hY 4
      have m0 := blk_free hY 0; have m1 := blk_free hY 1; have m2 := blk_free hY 2; have m3 := blk_free hY 3; have m4 := blk_free hY 4
      simp [zeroCs] at g0 g1 g2 g3 g4 n0 n1 n2 n3 n4
      clear hX hY
      go_wp2_with fail
      refine bodyPost_ret (v := .agg #[.bool true, .slice pd nd cd, .slice po no' co', .int .i64 n, .string b]) ?_ rfl ?_
      · simp [results, Tryd.results25, go_sem, n0, n1, n2, n3, n4] <;> rfl
      · exact ((((((HM1.out).set hsl _ (Or.inl rfl) 0 _).set hsl _ (Or.inl rfl) 1 _).set hsl _ (Or.inl rfl) 2 _).set hsl _ (Or.inl rfl) 3 _).set hsl _ (Or.inl rfl) 4 _).ret n b HP.out
    · simp only [if_true] at HP
      have g0 := blk_cell hg 0; have y0 := blk_free hg 0
      have g1 := blk_cell hg 1; have y1 := blk_free hg 1
      have g2 := blk_cell hg 2; have y2 := blk_free hg 2
      have g3 := blk_cell hg 3; have y3 := blk_free hg 3
      have g4 := blk_cell hg 4; have y4 := blk_free hg 4
      simp at g0 g1 g2 g3 g4
      have HG := Lib.hid (blk_set (blk_set (blk_set (blk_set (blk_set (blk_set hg 0 (.bool false)) 0 (.bool false)) 1 (.slice none 0 0)) 2 (.slice none 0 0)) 3 (.int .i64 0)) 4 (.string ⟨#[]⟩))
      simp at HG
      have HM1 := Lib.hid ((((((HM.out.set hsl _ (Or.inr rfl) 0 (.bool false)).set hsl _ (Or.inr rfl) 0 (.bool false)).set hsl _ (Or.inr rfl) 1 (.slice none 0 0)).set hsl _ (Or.inr rfl) 2 (.slice none 0 0)).set hsl _ (Or.inr rfl) 3 (.int .i64 0)).set hsl _ (Or.inr rfl) 4 (.string ⟨#[]⟩))
      have HR1 := Lib.hid (((((((Fx.refl _ wc).set 0 (.bool false)).set 0 (.bool false)).set 1 (.slice none 0 0)).set 2 (.slice none 0 0)).set 3 (.int .i64 0)).set 4 (.string ⟨#[]⟩) |>.heap HR.out (show w.heap.size + 1 ≠ w.heap.size + 1 + 1 by omega))
      clear hg
      go_upto_region 44 with (fail)
      generalize (((((wc.setCell ⟨w.heap.size + 1 + 1, 0, none⟩ (.bool false)).setCell ⟨w.heap.size + 1 + 1, 0, none⟩ (.bool false)).setCell ⟨w.heap.size + 1 + 1, 1, none⟩ (.slice none 0 0)).setCell ⟨w.heap.size + 1 + 1, 2, none⟩ (.slice none 0 0)).setCell ⟨w.heap.size + 1 + 1, 3, none⟩ (.int .i64 0)).setCell ⟨w.heap.size + 1 + 1, 4, none⟩ (.string ⟨#[]⟩) = X at *
      clear g0 g1 g2 g3 g4 y0 y1 y2 y3 y4 c1
      have hX := HG.out
      have hY := HR1.out
      have g0 := blk_cell hX 0; have g1 := blk_cell hX 1; have g2 := blk_cell hX 2; have g3 := blk_cell hX 3; have g4 := blk_cell hX 4
      have n0 := blk_cell hY 0; have n1 := blk_cell hY 1; have n2 := blk_cell hY 2; have n3 := blk_cell hY 3; have n4 := blk_cell hY 4
      have m0 := blk_free hY 0; have m1 := blk_free hY 1; have m2 := blk_free hY 2; have m3 := blk_free hY 3; have m4 := blk_free hY 4
      simp [zeroCs] at g0 g1 g2 g3 g4 n0 n1 n2 n3 n4
      clear hX hY
      go_wp2_with fail
      refine bodyPost_ret (v := zeroG) ?_ rfl ?_
      · simp [zeroG, results, Tryd.results25, go_sem, n0, n1, n2, n3, n4] <;> rfl
      · exact ((((((HM1.out).set hsl _ (Or.inl rfl) 0 _).set hsl _ (Or.inl rfl) 1 _).set hsl _ (Or.inl rfl) 2 _).set hsl _ (Or.inl rfl) 3 _).set hsl _ (Or.inl rfl) 4 _).no HP.out

set_option maxRecDepth 100000 in
set_option maxHeartbeats 2000000 in
theorem sr_clr (r : Nat) (big : Bool) (xs : List Int) (P : G → List Int → Bool → Bool → Prop) (L : List Int → List Int → Bool → Bool → Prop) (sz : Int) (be co : Bool) (w : World) (h : Sx w r xs false false)
    (hC : ∀ W, Sx W r xs false false → Calls Tryd.prog 51 #[.pointer (some ⟨r, 0, none⟩), .bool big] W (RetD L W r))
    (hP : ∀ l q t o, L l q t o → P (if t = true then G.no else ⟨true, l, [], 0, ⟨#[]⟩⟩) q t o) :
    Calls Tryd.prog 25 #[.pointer (some ⟨r, 0, none⟩), .agg #[.int .i64 2, .int .i64 sz, .bool be, .bool co], .bool big] w (RetR P w r) := by
  have HC := Lib.hid hC
  have HPP := Lib.hid hP
  clear hC hP
  have hsl := h.lt
  have HN := Lib.hid (GB.new w 2 sz be co)
  have HS := Lib.hid h
  clear h
  go_enter Tryd.func25, Tryd.ntmps25
  go_upto_block 0 with (fail)
  go_cut [] from 8 to 168 (fun wc => InvR P w r wc)
  case first =>
    go_wp2_with fail
    go_must (refine (HC.out _ (HS.out.gr (boxW_gr w 2 sz be co))).mono ?_)
    rintro e w1 ⟨u, l, q, t, o, rfl, hu, ho, hx, hf1, hs1, hL⟩
    have hM := (Mid.mk' HS.out (boxW_gr w 2 sz be co) (by rw [boxW_size]; omega) hf1 hs1 hu (Rd.nil w1) ho (offV_nil r) hx (fun s _ _ => offV_nil s)).set hsl _ (Or.inr rfl) 1 u
    have hb1 := HN.out.fx hf1.fx hsl
    have g0 := blk_cell hb1.g 0; have g1 := blk_cell hb1.g 1; have g2 := blk_cell hb1.g 2; have g3 := blk_cell hb1.g 3; have g4 := blk_cell hb1.g 4
    have y1 := blk_free hb1.g 1; have y2 := blk_free hb1.g 2; have y3 := blk_free hb1.g 3; have y4 := blk_free hb1.g 4
    simp [zeroCs] at g0 g1 g2 g3 g4
    obtain ⟨pu, cu, rfl, _⟩ := id hu
    have HI := Lib.hid (show InvR P w r (w1.setCell ⟨w.heap.size + 1 + 1, 1, none⟩ (.slice pu l.length cu)) from ⟨_, _, l, [], 0, ⟨#[]⟩, q, t, o, hM, by rw [blk_set hb1.g]; rfl, ((Fx.refl _ w1).set 1 _).heap hb1.r (by omega), HPP.out _ _ _ _ hL⟩)
    clear hb1 hs1 hu hx hf1 hL ho hM
    go_wp2_with fail
    go_meet
    exact HI.out
  case rest =>
    clear HN HS
    obtain ⟨dv, ov, l, ol, n, b, q, t, o, hM, hg, hr, hP⟩ := hcut
    have c1 := hM.sx.c1
    obtain ⟨pd, cd, rfl, _⟩ := id hM.d
    obtain ⟨po, co', rfl, _⟩ := id hM.e
    generalize l.length = nd at *
    generalize ol.length = no' at *
    have HM := Lib.hid hM
    have HP := Lib.hid hP
    have HR := Lib.hid hr
    clear hM hP hr
    cases t
    · simp only [Bool.false_eq_true, if_false] at HP
      have g0 := blk_cell hg 0; have y0 := blk_free hg 0
      simp at g0
      have HG := Lib.hid (blk_set hg 0 (.bool true))
      simp at HG
      have HM1 := Lib.hid (HM.out.set hsl _ (Or.inr rfl) 0 (.bool true))
      have HR1 := Lib.hid (((Fx.refl _ wc).set 0 (.bool true)).heap HR.out (show w.heap.size + 1 ≠ w.heap.size + 1 + 1 by omega))
      clear hg
      go_upto_region 44 with (fail)
      generalize wc.setCell ⟨w.heap.size + 1 + 1, 0, none⟩ (.bool true) = X at *
      clear g0 y0 c1
      have hX := HG.out
      have hY := HR1.out
      have g0 := blk_cell hX 0; have g1 := blk_cell hX 1; have g2 := blk_cell hX 2; have g3 := blk_cell hX 3; have g4 := blk_cell hX 4
      have n0 := blk_cell hY 0; have n1 := blk_cell hY 1; have n2 := blk_cell hY 2; have n3 := blk_cell hY 3; have n4 := blk_cell hY 4
      have m0 := blk_free hY 0; have m1 := blk_free hY 1; have m2 := blk_free hY 2; have m3 := blk_free hY 3; have m4 := blk_free hY 4
      simp [zeroCs] at g0 g1 g2 g3 g4 n0 n1 n2 n3 n4
      clear hX hY
      go_wp2_with fail
      refine bodyPost_ret (v := .agg #[.bool true, .slice pd nd cd, .slice po no' co', .int .i64 n, .string b]) ?_ rfl ?_
      · simp [results, Tryd.results25, go_sem, n0, n1, n2, n3, n4] <;> rfl
      · exact ((((((HM1.out).set hsl _ (Or.inl rfl) 0 _).set hsl _ (Or.inl rfl) 1 _).set hsl _ (Or.inl rfl) 2 _).set hsl _ (Or.inl rfl) 3 _).set hsl _ (Or.inl rfl) 4 _).ret n b HP.out
    · simp only [if_true] at HP
      have g0 := blk_cell hg 0; have y0 := blk_free hg 0
      have g1 := blk_cell hg 1; have y1 := blk_free hg 1
      have g2 := blk_cell hg 2; have y2 := blk_free hg 2
      have g3 := blk_cell hg 3; have y3 := blk_free hg 3
      have g4 := blk_cell hg 4; have y4 := blk_free hg 4
      simp at g0 g1 g2 g3 g4
      have HG := Lib.hid (blk_set (blk_set (blk_set (blk_set (blk_set (blk_set hg 0 (.bool false)) 0 (.bool false)) 1 (.slice none 0 0)) 2 (.slice none 0 0)) 3 (.int .i64 0)) 4 (.string ⟨#[]⟩))
      simp at HG
      have HM1 := Lib.hid ((((((HM.out.set hsl _ (Or.inr rfl) 0 (.bool false)).set hsl _ (Or.inr rfl) 0 (.bool false)).set hsl _ (Or.inr rfl) 1 (.slice none 0 0)).set hsl _ (Or.inr rfl) 2 (.slice none 0 0)).set hsl _ (Or.inr rfl) 3 (.int .i64 0)).set hsl _ (Or.inr rfl) 4 (.string ⟨#[]⟩))
      have HR1 := Lib.hid (((((((Fx.refl _ wc).set 0 (.bool false)).set 0 (.bool false)).set 1 (.slice none 0 0)).set 2 (.slice none 0 0)).set 3 (.int .i64 0)).set 4 (.string ⟨#[]⟩) |>.heap HR.out (show w.heap.size + 1 ≠ w.heap.size + 1 + 1 by omega))
      clear hg
      go_upto_region 44 with (fail)
      generalize (((((wc.setCell ⟨w.heap.size + 1 + 1, 0, none⟩ (.bool false)).setCell ⟨w.heap.size + 1 + 1, 0, none⟩ (.bool false)).setCell ⟨w.heap.size + 1 + 1, 1, none⟩ (.slice none 0 0)).setCell ⟨w.heap.size + 1 + 1, 2, none⟩ (.slice none 0 0)).setCell ⟨w.heap.size + 1 + 1, 3, none⟩ (.int .i64 0)).setCell ⟨w.heap.size + 1 + 1, 4, none⟩ (.string ⟨#[]⟩) = X at *
      clear g0 g1 g2 g3 g4 y0 y1 y2 y3 y4 c1
      have hX := HG.out
      have hY := HR1.out
      have g0 := blk_cell hX 0; have g1 := blk_cell hX 1; have g2 := blk_cell hX 2; have g3 := blk_cell hX 3; have g4 := blk_cell hX 4
      have n0 := blk_cell hY 0; have n1 := blk_cell hY 1; have n2 := blk_cell hY 2; have n3 := blk_cell hY 3; have n4 := blk_cell hY 4
      have m0 := blk_free hY 0; have m1 := blk_free hY 1; have m2 := blk_free hY 2; have m3 := blk_free hY 3; have m4 := blk_free hY 4
      simp [zeroCs] at g0 g1 g2 g3 g4 n0 n1 n2 n3 n4
      clear hX hY
      go_wp2_with fail
      refine bodyPost_ret (v := zeroG) ?_ rfl ?_
      · simp [zeroG, results, Tryd.results25, go_sem, n0, n1, n2, n3, n4] <;> rfl
      · exact ((((((HM1.out).set hsl _ (Or.inl rfl) 0 _).set hsl _ (Or.inl rfl) 1 _).set hsl _ (Or.inl rfl) 2 _).set hsl _ (Or.inl rfl) 3 _).set hsl _ (Or.inl rfl) 4 _).no HP.out

set_option maxRecDepth 100000 in
set_option maxHeartbeats 2000000 in
theorem sr_dlc (r : Nat) (big : Bool) (xs : List Int) (P : G → List Int → Bool → Bool → Prop) (L : List Int → List Int → Bool → Bool → Prop) (sz : Int) (be co : Bool) (w : World) (h : Sx w r xs false false)
    (hC : ∀ W, Sx W r xs false false → Calls Tryd.prog 52 #[.pointer (some ⟨r, 0, none⟩), .bool big] W (RetD L W r))
    (hP : ∀ l q t o, L l q t o → P (if t = true then G.no else ⟨true, l, [], 0, ⟨#[]⟩⟩) q t o) :
    Calls Tryd.prog 25 #[.pointer (some ⟨r, 0, none⟩), .agg #[.int .i64 3, .int .i64 sz, .bool be, .bool co], .bool big] w (RetR P w r) := by
  have HC := Lib.hid hC
  have HPP := Lib.hid hP
  clear hC hP
  have hsl := h.lt
  have HN := Lib.hid (GB.new w 3 sz be co)
  have HS := Lib.hid h
  clear h
  go_enter Tryd.func25, Tryd.ntmps25
  go_upto_block 0 with (fail)
  go_cut [] from 8 to 168 (fun wc => InvR P w r wc)
  case first =>
    go_wp2_with fail
    go_must (refine (HC.out _ (HS.out.gr (boxW_gr w 3 sz be co))).mono ?_)
    rintro e w1 ⟨u, l, q, t, o, rfl, hu, ho, hx, hf1, hs1, hL⟩
    have hM := (Mid.mk' HS.out (boxW_gr w 3 sz be co) (by rw [boxW_size]; omega) hf1 hs1 hu (Rd.nil w1) ho (offV_nil r) hx (fun s _ _ => offV_nil s)).set hsl _ (Or.inr rfl) 1 u
    have hb1 := HN.out.fx hf1.fx hsl
    have g0 := blk_cell hb1.g 0; have g1 := blk_cell hb1.g 1; have g2 := blk_cell hb1.g 2; have g3 := blk_cell hb1.g 3; have g4 := blk_cell hb1.g 4
    have y1 := blk_free hb1.g 1; have y2 := blk_free hb1.g 2; have y3 := blk_free hb1.g 3; have y4 := blk_free hb1.g 4
    simp [zeroCs] at g0 g1 g2 g3 g4
    obtain ⟨pu, cu, rfl, _⟩ := id hu
    have HI := Lib.hid (show InvR P w r (w1.setCell ⟨w.heap.size + 1 + 1, 1, none⟩ (.slice pu l.length cu)) from ⟨_, _, l, [], 0, ⟨#[]⟩, q, t, o, hM, by rw [blk_set hb1.g]; rfl, ((Fx.refl _ w1).set 1 _).heap hb1.r (by omega), HPP.out _ _ _ _ hL⟩)
    clear hb1 hs1 hu hx hf1 hL ho hM
    go_wp2_with fail
    go_meet
    exact HI.out
  case rest =>
    clear HN HS
    obtain ⟨dv, ov, l, ol, n, b, q, t, o, hM, hg, hr, hP⟩ := hcut
    have c1 := hM.sx.c1
    obtain ⟨pd, cd, rfl, _⟩ := id hM.d
    obtain ⟨po, co', rfl, _⟩ := id hM.e
    generalize l.length = nd at *
    generalize ol.length = no' at *
    have HM := Lib.hid hM
    have HP := Lib.hid hP
    have HR := Lib.hid hr
    clear hM hP hr
    cases t
    · simp only [Bool.false_eq_true, if_false] at HP
      have g0 := blk_cell hg 0; have y0 := blk_free hg 0
      simp at g0
      have HG := Lib.hid (blk_set hg 0 (.bool true))
      simp at HG
      have HM1 := Lib.hid (HM.out.set hsl _ (Or.inr rfl) 0 (.bool true))
      have HR1 := Lib.hid (((Fx.refl _ wc).set 0 (.bool true)).heap HR.out (show w.heap.size + 1 ≠ w.heap.size + 1 + 1 by omega))
      clear hg
      go_upto_region 44 with (fail)
      generalize wc.setCell ⟨w.heap.size + 1 + 1, 0, none⟩ (.bool true) = X at *
      clear g0 y0 c1
      have hX := HG.out
      have hY := HR1.out
      have g0 := blk_cell hX 0; have g1 := blk_cell hX 1; have g2 := blk_cell hX 2; have g3 := blk_cell hX 3; have g4 := blk_cell hX 4
      have n0 := blk_cell hY 0; have n1 := blk_cell hY 1; have n2 := blk_cell hY 2; have n3 := blk_cell hY 3; have n4 := blk_cell hY 4
      have m0 := blk_free hY 0; have m1 := blk_free hY 1; have m2 := blk_free hY 2; have m3 := blk_free hY 3; have m4 := blk_free hY 4
      simp [zeroCs] at g0 g1 g2 g3 g4 n0 n1 n2 n3 n4
      clear hX hY
      go_wp2_with fail
      refine bodyPost_ret (v := .agg #[.bool true, .slice pd nd cd, .slice po no' co', .int .i64 n, .string b]) ?_ rfl ?_
      · simp [results, Tryd.results25, go_sem, n0, n1, n2, n3, n4] <;> rfl
      · exact ((((((HM1.out).set hsl _ (Or.inl rfl) 0 _).set hsl _ (Or.inl rfl) 1 _).set hsl _ (Or.inl rfl) 2 _).set hsl _ (Or.inl rfl) 3 _).set hsl _ (Or.inl rfl) 4 _).ret n b HP.out
    · simp only [if_true] at HP
      have g0 := blk_cell hg 0; have y0 := blk_free hg 0
      have g1 := blk_cell hg 1; have y1 := blk_free hg 1
      have g2 := blk_cell hg 2; have y2 := blk_free hg 2
      have g3 := blk_cell hg 3; have y3 := blk_free hg 3
      have g4 := blk_cell hg 4; have y4 := blk_free hg 4
      simp at g0 g1 g2 g3 g4
      have HG := Lib.hid (blk_set (blk_set (blk_set (blk_set (blk_set (blk_set hg 0 (.bool false)) 0 (.bool false)) 1 (.slice none 0 0)) 2 (.slice none 0 0)) 3 (.int .i64 0)) 4 (.string ⟨#[]⟩))
      simp at HG
      have HM1 := Lib.hid ((((((HM.out.set hsl _ (Or.inr rfl) 0 (.bool false)).set hsl _ (Or.inr rfl) 0 (.bool false)).set hsl _ (Or.inr rfl) 1 (.slice none 0 0)).set hsl _ (Or.inr rfl) 2 (.slice none 0 0)).set hsl _ (Or.inr rfl) 3 (.int .i64 0)).set hsl _ (Or.inr rfl) 4 (.string ⟨#[]⟩))
      have HR1 := Lib.hid (((((((Fx.refl _ wc).set 0 (.bool false)).set 0 (.bool false)).set 1 (.slice none 0 0)).set 2 (.slice none 0 0)).set 3 (.int .i64 0)).set 4 (.string ⟨#[]⟩) |>.heap HR.out (show w.heap.size + 1 ≠ w.heap.size + 1 + 1 by omega))
      clear hg
      go_upto_region 44 with (fail)
      generalize (((((wc.setCell ⟨w.heap.size + 1 + 1, 0, none⟩ (.bool false)).setCell ⟨w.heap.size + 1 + 1, 0, none⟩ (.bool false)).setCell ⟨w.heap.size + 1 + 1, 1, none⟩ (.slice none 0 0)).setCell ⟨w.heap.size + 1 + 1, 2, none⟩ (.slice none 0 0)).setCell ⟨w.heap.size + 1 + 1, 3, none⟩ (.int .i64 0)).setCell ⟨w.heap.size + 1 + 1, 4, none⟩ (.string ⟨#[]⟩) = X at *
      clear g0 g1 g2 g3 g4 y0 y1 y2 y3 y4 c1
      have hX := HG.out
      have hY := HR1.out
      have g0 := blk_cell hX 0; have g1 := blk_cell hX 1; have g2 := blk_cell hX 2; have g3 := blk_cell hX 3; have g4 := blk_cell hX 4
      have n0 := blk_cell hY 0; have n1 := blk_cell hY 1; have n2 := blk_cell hY 2; have n3 := blk_cell hY 3; have n4 := blk_cell hY 4
      have m0 := blk_free hY 0; have m1 := blk_free hY 1; have m2 := blk_free hY 2; have m3 := blk_free hY 3; have m4 := blk_free hY 4
      simp [zeroCs] at g0 g1 g2 g3 g4 n0 n1 n2 n3 n4
      clear hX hY
      go_wp2_with fail
      refine bodyPost_ret (v := zeroG) ?_ rfl ?_
      · simp [zeroG, results, Tryd.results25, go_sem, n0, n1, n2, n3, n4] <;> rfl
      · exact ((((((HM1.out).set hsl _ (Or.inl rfl) 0 _).set hsl _ (Or.inl rfl) 1 _).set hsl _ (Or.inl rfl) 2 _).set hsl _ (Or.inl rfl) 3 _).set hsl _ (Or.inl rfl) 4 _).no HP.out

set_option maxRecDepth 100000 in
set_option maxHeartbeats 2000000 in
theorem sr_byte_no (r : Nat) (big : Bool) (xs : List Int) (P : G → List Int → Bool → Bool → Prop) (sz : Int) (be co : Bool) (w : World) (h : Sx w r xs false false)
    (hC : ∀ W, Sx W r xs false false → Calls Tryd.prog 50 #[.pointer (some ⟨r, 0, none⟩), .int .i64 1] W (RetTn W r (.slice none 0 0) false)) (hP : ∀ q, P G.no q true false) :
    Calls Tryd.prog 25 #[.pointer (some ⟨r, 0, none⟩), .agg #[.int .i64 0, .int .i64 sz, .bool be, .bool co], .bool big] w (RetR P w r) := by
  have HC := Lib.hid hC
  have HPP := Lib.hid hP
  clear hC hP
  have hsl := h.lt
  have HN := Lib.hid (GB.new w 0 sz be co)
  have HS := Lib.hid h
  clear h
  go_enter Tryd.func25, Tryd.ntmps25
  go_upto_block 0 with (fail)
  go_cut [] from 8 to 168 (fun wc => InvR P w r wc)
  case first =>
    go_wp2_with fail
    go_must (refine (HC.out _ (HS.out.gr (boxW_gr w 0 sz be co))).mono ?_)
    rintro e w1 ⟨rfl, ⟨q, hs1⟩, hf1⟩
    have hM := Mid.mk' HS.out (boxW_gr w 0 sz be co) (by rw [boxW_size]; omega) hf1 hs1 (Rd.nil w1) (Rd.nil w1) (offV_nil r) (offV_nil r) (fun s _ _ => offV_nil s) (fun s _ _ => offV_nil s)
    have hb1 := HN.out.fx hf1.fx hsl
    have g0 := blk_cell hb1.g 0; have g1 := blk_cell hb1.g 1; have g2 := blk_cell hb1.g 2; have g3 := blk_cell hb1.g 3; have g4 := blk_cell hb1.g 4
    have y1 := blk_free hb1.g 1; have y2 := blk_free hb1.g 2; have y3 := blk_free hb1.g 3; have y4 := blk_free hb1.g 4
    simp [zeroCs] at g0 g1 g2 g3 g4
    have HI := Lib.hid (show InvR P w r (w1) from ⟨.slice none 0 0, .slice none 0 0, [], [], 0, ⟨#[]⟩, q, true, false, hM, hb1.g, hb1.r, HPP.out q⟩)
    clear hb1 hs1 hf1 hM
    go_wp2_with fail
    go_meet
    exact HI.out
  case rest =>
    clear HN HS
    obtain ⟨dv, ov, l, ol, n, b, q, t, o, hM, hg, hr, hP⟩ := hcut
    have c1 := hM.sx.c1
    obtain ⟨pd, cd, rfl, _⟩ := id hM.d
    obtain ⟨po, co', rfl, _⟩ := id hM.e
    generalize l.length = nd at *
    generalize ol.length = no' at *
    have HM := Lib.hid hM
    have HP := Lib.hid hP
    have HR := Lib.hid hr
    clear hM hP hr
    cases t
    · simp only [Bool.false_eq_true, if_false] at HP
      have g0 := blk_cell hg 0; have y0 := blk_free hg 0
      simp at g0
      have HG := Lib.hid (blk_set hg 0 (.bool true))
      simp at HG
      have HM1 := Lib.hid (HM.out.set hsl _ (Or.inr rfl) 0 (.bool true))
      have HR1 := Lib.hid (((Fx.refl _ wc).set 0 (.bool true)).heap HR.out (show w.heap.size + 1 ≠ w.heap.size + 1 + 1 by omega))
      clear hg
      go_upto_region 44 with (fail)
      generalize wc.setCell ⟨w.heap.size + 1 + 1, 0, none⟩ (.bool true) = X at *
      clear g0 y0 c1
      have hX := HG.out
      have hY := HR1.out
      have g0 := blk_cell hX 0; have g1 := blk_cell hX 1; have g2 := blk_cell hX 2; have g3 := blk_cell hX 3; have g4 := blk_cell hX 4
      have n0 := blk_cell hY 0; have n1 := blk_cell hY 1; have n2 := blk_cell hY 2; have n3 := blk_cell hY 3; have n4 := blk_cell hY 4
      have m0 := blk_free hY 0; have m1 := blk_free hY 1; have m2 := blk_free hY 2; have m3 := blk_free hY 3; have m4 := blk_free hY 4
      simp [zeroCs] at g0 g1 g2 g3 g4 n0 n1 n2 n3 n4
      clear hX hY
      go_wp2_with fail
      refine bodyPost_ret (v := .agg #[.bool true, .slice pd nd cd, .slice po no' co', .int .i64 n, .string b]) ?_ rfl ?_
      · simp [results, Tryd.results25, go_sem, n0, n1, n2, n3, n4] <;> rfl
      · exact ((((((HM1.out).set hsl _ (Or.inl rfl) 0 _).set hsl _ (Or.inl rfl) 1 _).set hsl _ (Or.inl rfl) 2 _).set hsl _ (Or.inl rfl) 3 _).set hsl _ (Or.inl rfl) 4 _).ret n b HP.out
    · simp only [if_true] at HP
      have g0 := blk_cell hg 0; have y0 := blk_free hg 0
      have g1 := blk_cell hg 1; have y1 := blk_free hg 1
      have g2 := blk_cell hg 2; have y2 := blk_free hg 2
      have g3 := blk_cell hg 3; have y3 := blk_free hg 3
      have g4 := blk_cell hg 4; have y4 := blk_free hg 4
      simp at g0 g1 g2 g3 g4
      have HG := Lib.hid (blk_set (blk_set (blk_set (blk_set (blk_set (blk_set hg 0 (.bool false)) 0 (.bool false)) 1 (.slice none 0 0)) 2 (.slice none 0 0)) 3 (.int .i64 0)) 4 (.string ⟨#[]⟩))
      simp at HG
      have HM1 := Lib.hid ((((((HM.out.set hsl _ (Or.inr rfl) 0 (.bool false)).set hsl _ (Or.inr rfl) 0 (.bool false)).set hsl _ (Or.inr rfl) 1 (.slice none 0 0)).set hsl _ (Or.inr rfl) 2 (.slice none 0 0)).set hsl _ (Or.inr rfl) 3 (.int .i64 0)).set hsl _ (Or.inr rfl) 4 (.string ⟨#[]⟩))
      have HR1 := Lib.hid (((((((Fx.refl _ wc).set 0 (.bool false)).set 0 (.bool false)).set 1 (.slice none 0 0)).set 2 (.slice none 0 0)).set 3 (.int .i64 0)).set 4 (.string ⟨#[]⟩) |>.heap HR.out (show w.heap.size + 1 ≠ w.heap.size + 1 + 1 by omega))
      clear hg
      go_upto_region 44 with (fail)
      generalize (((((wc.setCell ⟨w.heap.size + 1 + 1, 0, none⟩ (.bool false)).setCell ⟨w.heap.size + 1 + 1, 0, none⟩ (.bool false)).setCell ⟨w.heap.size + 1 + 1, 1, none⟩ (.slice none 0 0)).setCell ⟨w.heap.size + 1 + 1, 2, none⟩ (.slice none 0 0)).setCell ⟨w.heap.size + 1 + 1, 3, none⟩ (.int .i64 0)).setCell ⟨w.heap.size + 1 + 1, 4, none⟩ (.string ⟨#[]⟩) = X at *
      clear g0 g1 g2 g3 g4 y0 y1 y2 y3 y4 c1
      have hX := HG.out
      have hY := HR1.out
      have g0 := blk_cell hX 0; have g1 := blk_cell hX 1; have g2 := blk_cell hX 2; have g3 := blk_cell hX 3; have g4 := blk_cell hX 4
      have n0 := blk_cell hY 0; have n1 := blk_cell hY 1; have n2 := blk_cell hY 2; have n3 := blk_cell hY 3; have n4 := blk_cell hY 4
      have m0 := blk_free hY 0; have m1 := blk_free hY 1; have m2 := blk_free hY 2; have m3 := blk_free hY 3; have m4 := blk_free hY 4
      simp [zeroCs] at g0 g1 g2 g3 g4 n0 n1 n2 n3 n4
      clear hX hY
      go_wp2_with fail
      refine bodyPost_ret (v := zeroG) ?_ rfl ?_
      · simp [zeroG, results, Tryd.results25, go_sem, n0, n1, n2, n3, n4] <;> rfl
      · exact ((((((HM1.out).set hsl _ (Or.inl rfl) 0 _).set hsl _ (Or.inl rfl) 1 _).set hsl _ (Or.inl rfl) 2 _).set hsl _ (Or.inl rfl) 3 _).set hsl _ (Or.inl rfl) 4 _).no HP.out

set_option maxRecDepth 100000 in
set_option maxHeartbeats 2000000 in
theorem sr_byte_ok (r : Nat) (big : Bool) (xs : List Int) (P : G → List Int → Bool → Bool → Prop) (sz : Int) (be co : Bool) (w : World) (h : Sx w r xs false false)
    (b : Int) (tl : List Int) (hb : 0 ≤ b ∧ b < 256) (hC : ∀ W, Sx W r xs false false → Calls Tryd.prog 50 #[.pointer (some ⟨r, 0, none⟩), .int .i64 1] W (RetTk W r [b] tl)) (hP : P ⟨true, [], [], b, ⟨#[]⟩⟩ tl false false) :
    Calls Tryd.prog 25 #[.pointer (some ⟨r, 0, none⟩), .agg #[.int .i64 0, .int .i64 sz, .bool be, .bool co], .bool big] w (RetR P w r) := by
  have HC := Lib.hid hC
  have HPP := Lib.hid hP
  clear hC hP
  have hsl := h.lt
  have HN := Lib.hid (GB.new w 0 sz be co)
  have HS := Lib.hid h
  clear h
  go_enter Tryd.func25, Tryd.ntmps25
  go_upto_block 0 with (fail)
  go_cut [] from 8 to 168 (fun wc => InvR P w r wc)
  case first =>
    go_wp2_with fail
    go_must (refine (HC.out _ (HS.out.gr (boxW_gr w 0 sz be co))).mono ?_)
    rintro e w1 ⟨u1, rfl, hu, _, _, _, hs1, hf1⟩
    obtain ⟨a, o, c, rfl, hc, hcm, k0⟩ := rd_one hu
    have hw : IntKind.i64.wrap b = b := IntWalk.i64_in _ (by omega)
    have hM := (Mid.mk' HS.out (boxW_gr w 0 sz be co) (by rw [boxW_size]; omega) hf1 hs1 (Rd.nil w1) (Rd.nil w1) (offV_nil r) (offV_nil r) (fun s _ _ => offV_nil s) (fun s _ _ => offV_nil s)).set hsl _ (Or.inr rfl) 3 (.int .i64 b)
    have hb1 := HN.out.fx hf1.fx hsl
    have g0 := blk_cell hb1.g 0; have g1 := blk_cell hb1.g 1; have g2 := blk_cell hb1.g 2; have g3 := blk_cell hb1.g 3; have g4 := blk_cell hb1.g 4
    have y1 := blk_free hb1.g 1; have y2 := blk_free hb1.g 2; have y3 := blk_free hb1.g 3; have y4 := blk_free hb1.g 4
    simp [zeroCs] at g0 g1 g2 g3 g4
    have HI := Lib.hid (show InvR P w r (w1.setCell ⟨w.heap.size + 1 + 1, 3, none⟩ (.int .i64 b)) from ⟨.slice none 0 0, .slice none 0 0, [], [], b, ⟨#[]⟩, tl, false, false, hM, by rw [blk_set hb1.g]; rfl, ((Fx.refl _ w1).set 3 _).heap hb1.r (by omega), HPP.out⟩)
    clear hb1 hs1 hf1 hM hu hb
    go_wp2_with fail
    go_meet
    exact HI.out
  case rest =>
    clear HN HS
    obtain ⟨dv, ov, l, ol, n, b, q, t, o, hM, hg, hr, hP⟩ := hcut
    have c1 := hM.sx.c1
    obtain ⟨pd, cd, rfl, _⟩ := id hM.d
    obtain ⟨po, co', rfl, _⟩ := id hM.e
    generalize l.length = nd at *
    generalize ol.length = no' at *
    have HM := Lib.hid hM
    have HP := Lib.hid hP
    have HR := Lib.hid hr
    clear hM hP hr
    cases t
    · simp only [Bool.false_eq_true, if_false] at HP
      have g0 := blk_cell hg 0; have y0 := blk_free hg 0
      simp at g0
      have HG := Lib.hid (blk_set hg 0 (.bool true))
      simp at HG
      have HM1 := Lib.hid (HM.out.set hsl _ (Or.inr rfl) 0 (.bool true))
      have HR1 := Lib.hid (((Fx.refl _ wc).set 0 (.bool true)).heap HR.out (show w.heap.size + 1 ≠ w.heap.size + 1 + 1 by omega))
      clear hg
      go_upto_region 44 with (fail)
      generalize wc.setCell ⟨w.heap.size + 1 + 1, 0, none⟩ (.bool true) = X at *
      clear g0 y0 c1
      have hX := HG.out
      have hY := HR1.out
      have g0 := blk_cell hX 0; have g1 := blk_cell hX 1; have g2 := blk_cell hX 2; have g3 := blk_cell hX 3; have g4 := blk_cell hX 4
      have n0 := blk_cell hY 0; have n1 := blk_cell hY 1; have n2 := blk_cell hY 2; have n3 := blk_cell hY 3; have n4 := blk_cell hY 4
      have m0 := blk_free hY 0; have m1 := blk_free hY 1; have m2 := blk_free hY 2; have m3 := blk_free hY 3; have m4 := blk_free hY 4
      simp [zeroCs] at g0 g1 g2 g3 g4 n0 n1 n2 n3 n4
      clear hX hY
      go_wp2_with fail
      refine bodyPost_ret (v := .agg #[.bool true, .slice pd nd cd, .slice po no' co', .int .i64 n, .string b]) ?_ rfl ?_
      · simp [results, Tryd.results25, go_sem, n0, n1, n2, n3, n4] <;> rfl
      · exact ((((((HM1.out).set hsl _ (Or.inl rfl) 0 _).set hsl _ (Or.inl rfl) 1 _).set hsl _ (Or.inl rfl) 2 _).set hsl _ (Or.inl rfl) 3 _).set hsl _ (Or.inl rfl) 4 _).ret n b HP.out
    · simp only [if_true] at HP
      have g0 := blk_cell hg 0; have y0 := blk_free hg 0
      have g1 := blk_cell hg 1; have y1 := blk_free hg 1
      have g2 := blk_cell hg 2; have y2 := blk_free hg 2
      have g3 := blk_cell hg 3; have y3 := blk_free hg 3
      have g4 := blk_cell hg 4; have y4 := blk_free hg 4
      simp at g0 g1 g2 g3 g4
      have HG := Lib.hid (blk_set (blk_set (blk_set (blk_set (blk_set (blk_set hg 0 (.bool false)) 0 (.bool false)) 1 (.slice none 0 0)) 2 (.slice none 0 0)) 3 (.int .i64 0)) 4 (.string ⟨#[]⟩))
      simp at HG
      have HM1 := Lib.hid ((((((HM.out.set hsl _ (Or.inr rfl) 0 (.bool false)).set hsl _ (Or.inr rfl) 0 (.bool false)).set hsl _ (Or.inr rfl) 1 (.slice none 0 0)).set hsl _ (Or.inr rfl) 2 (.slice none 0 0)).set hsl _ (Or.inr rfl) 3 (.int .i64 0)).set hsl _ (Or.inr rfl) 4 (.string ⟨#[]⟩))
      have HR1 := Lib.hid (((((((Fx.refl _ wc).set 0 (.bool false)).set 0 (.bool false)).set 1 (.slice none 0 0)).set 2 (.slice none 0 0)).set 3 (.int .i64 0)).set 4 (.string ⟨#[]⟩) |>.heap HR.out (show w.heap.size + 1 ≠ w.heap.size + 1 + 1 by omega))
      clear hg
      go_upto_region 44 with (fail)
      generalize (((((wc.setCell ⟨w.heap.size + 1 + 1, 0, none⟩ (.bool false)).setCell ⟨w.heap.size + 1 + 1, 0, none⟩ (.bool false)).setCell ⟨w.heap.size + 1 + 1, 1, none⟩ (.slice none 0 0)).setCell ⟨w.heap.size + 1 + 1, 2, none⟩ (.slice none 0 0)).setCell ⟨w.heap.size + 1 + 1, 3, none⟩ (.int .i64 0)).setCell ⟨w.heap.size + 1 + 1, 4, none⟩ (.string ⟨#[]⟩) = X at *
      clear g0 g1 g2 g3 g4 y0 y1 y2 y3 y4 c1
      have hX := HG.out
      have hY := HR1.out
      have g0 := blk_cell hX 0; have g1 := blk_cell hX 1; have g2 := blk_cell hX 2; have g3 := blk_cell hX 3; have g4 := blk_cell hX 4
      have n0 := blk_cell hY 0; have n1 := blk_cell hY 1; have n2 := blk_cell hY 2; have n3 := blk_cell hY 3; have n4 := blk_cell hY 4
      have m0 := blk_free hY 0; have m1 := blk_free hY 1; have m2 := blk_free hY 2; have m3 := blk_free hY 3; have m4 := blk_free hY 4
      simp [zeroCs] at g0 g1 g2 g3 g4 n0 n1 n2 n3 n4
      clear hX hY
      go_wp2_with fail
      refine bodyPost_ret (v := zeroG) ?_ rfl ?_
      · simp [zeroG, results, Tryd.results25, go_sem, n0, n1, n2, n3, n4] <;> rfl
      · exact ((((((HM1.out).set hsl _ (Or.inl rfl) 0 _).set hsl _ (Or.inl rfl) 1 _).set hsl _ (Or.inl rfl) 2 _).set hsl _ (Or.inl rfl) 3 _).set hsl _ (Or.inl rfl) 4 _).no HP.out

set_option maxRecDepth 100000 in
set_option maxHeartbeats 2000000 in
theorem sr_pk4 (r : Nat) (big : Bool) (xs : List Int) (P : G → List Int → Bool → Bool → Prop) (L : Int → List Int → Bool → Bool → Prop) (sz : Int) (be : Bool) (w : World) (h : Sx w r xs false false)
    (hC : ∀ W, Sx W r xs false false → Calls Tryd.prog 53 #[.pointer (some ⟨r, 0, none⟩)] W (RetN L .i64 W r))
    (hP : ∀ z q t o, L z q t o → P (if t = true then G.no else ⟨true, [], [], z, ⟨#[]⟩⟩) q t o) :
    Calls Tryd.prog 25 #[.pointer (some ⟨r, 0, none⟩), .agg #[.int .i64 4, .int .i64 sz, .bool be, .bool true], .bool big] w (RetR P w r) := by
  have HC := Lib.hid hC
  have HPP := Lib.hid hP
  clear hC hP
  have hsl := h.lt
  have HN := Lib.hid (GB.new w 4 sz be true)
  have HS := Lib.hid h
  clear h
  go_enter Tryd.func25, Tryd.ntmps25
  go_upto_block 0 with (fail)
  go_cut [] from 8 to 168 (fun wc => InvR P w r wc)
  case first =>
    go_wp2_with fail
    go_must (refine (HC.out _ (HS.out.gr (boxW_gr w 4 sz be true))).mono ?_)
    rintro e w1 ⟨z, q, t, o, rfl, hf1, hs1, hL⟩
    have hM := (Mid.mk' HS.out (boxW_gr w 4 sz be true) (by rw [boxW_size]; omega) hf1 hs1 (Rd.nil w1) (Rd.nil w1) (offV_nil r) (offV_nil r) (fun s _ _ => offV_nil s) (fun s _ _ => offV_nil s)).set hsl _ (Or.inr rfl) 3 (.int .i64 z)
    have hb1 := HN.out.fx hf1.fx hsl
    have g0 := blk_cell hb1.g 0; have g1 := blk_cell hb1.g 1; have g2 := blk_cell hb1.g 2; have g3 := blk_cell hb1.g 3; have g4 := blk_cell hb1.g 4
    have y1 := blk_free hb1.g 1; have y2 := blk_free hb1.g 2; have y3 := blk_free hb1.g 3; have y4 := blk_free hb1.g 4
    simp [zeroCs] at g0 g1 g2 g3 g4
    have HI := Lib.hid (show InvR P w r (w1.setCell ⟨w.heap.size + 1 + 1, 3, none⟩ (.int .i64 z)) from ⟨.slice none 0 0, .slice none 0 0, [], [], z, ⟨#[]⟩, q, t, o, hM, by rw [blk_set hb1.g]; rfl, ((Fx.refl _ w1).set 3 _).heap hb1.r (by omega), HPP.out _ _ _ _ hL⟩)
    clear hb1 hs1 hf1 hM hL
    go_wp2_with fail
    go_meet
    exact HI.out
  case rest =>
    clear HN HS
    obtain ⟨dv, ov, l, ol, n, b, q, t, o, hM, hg, hr, hP⟩ := hcut
    have c1 := hM.sx.c1
    obtain ⟨pd, cd, rfl, _⟩ := id hM.d
    obtain ⟨po, co', rfl, _⟩ := id hM.e
    generalize l.length = nd at *
    generalize ol.length = no' at *
    have HM := Lib.hid hM
    have HP := Lib.hid hP
    have HR := Lib.hid hr
    clear hM hP hr
    cases t
    · simp only [Bool.false_eq_true, if_false] at HP
      have g0 := blk_cell hg 0; have y0 := blk_free hg 0
      simp at g0
      have HG := Lib.hid (blk_set hg 0 (.bool true))
      simp at HG
      have HM1 := Lib.hid (HM.out.set hsl _ (Or.inr rfl) 0 (.bool true))
      have HR1 := Lib.hid (((Fx.refl _ wc).set 0 (.bool true)).heap HR.out (show w.heap.size + 1 ≠ w.heap.size + 1 + 1 by omega))
      clear hg
      go_upto_region 44 with (fail)
      generalize wc.setCell ⟨w.heap.size + 1 + 1, 0, none⟩ (.bool true) = X at *
      clear g0 y0 c1
      have hX := HG.out
      have hY := HR1.out
      have g0 := blk_cell hX 0; have g1 := blk_cell hX 1; have g2 := blk_cell hX 2; have g3 := blk_cell hX 3; have g4 := blk_cell hX 4
      have n0 := blk_cell hY 0; have n1 := blk_cell hY 1; have n2 := blk_cell hY 2; have n3 := blk_cell hY 3; have n4 := blk_cell hY 4
      have m0 := blk_free hY 0; have m1 := blk_free hY 1; have m2 := blk_free hY 2; have m3 := blk_free hY 3; have m4 := blk_free hY 4
      simp [zeroCs] at g0 g1 g2 g3 g4 n0 n1 n2 n3 n4
      clear hX hY
      go_wp2_with fail
      refine bodyPost_ret (v := .agg #[.bool true, .slice pd nd cd, .slice po no' co', .int .i64 n, .string b]) ?_ rfl ?_
      · simp [results, Tryd.results25, go_sem, n0, n1, n2, n3, n4] <;> rfl
      · exact ((((((HM1.out).set hsl _ (Or.inl rfl) 0 _).set hsl _ (Or.inl rfl) 1 _).set hsl _ (Or.inl rfl) 2 _).set hsl _ (Or.inl rfl) 3 _).set hsl _ (Or.inl rfl) 4 _).ret n b HP.out
    · simp only [if_true] at HP
      have g0 := blk_cell hg 0; have y0 := blk_free hg 0
      have g1 := blk_cell hg 1; have y1 := blk_free hg 1
      have g2 := blk_cell hg 2; have y2 := blk_free hg 2
      have g3 := blk_cell hg 3; have y3 := blk_free hg 3
      have g4 := blk_cell hg 4; have y4 := blk_free hg 4
      simp at g0 g1 g2 g3 g4
      have HG := Lib.hid (blk_set (blk_set (blk_set (blk_set (blk_set (blk_set hg 0 (.bool false)) 0 (.bool false)) 1 (.slice none 0 0)) 2 (.slice none 0 0)) 3 (.int .i64 0)) 4 (.string ⟨#[]⟩))
      simp at HG
      have HM1 := Lib.hid ((((((HM.out.set hsl _ (Or.inr rfl) 0 (.bool false)).set hsl _ (Or.inr rfl) 0 (.bool false)).set hsl _ (Or.inr rfl) 1 (.slice none 0 0)).set hsl _ (Or.inr rfl) 2 (.slice none 0 0)).set hsl _ (Or.inr rfl) 3 (.int .i64 0)).set hsl _ (Or.inr rfl) 4 (.string ⟨#[]⟩))
      have HR1 := Lib.hid (((((((Fx.refl _ wc).set 0 (.bool false)).set 0 (.bool false)).set 1 (.slice none 0 0)).set 2 (.slice none 0 0)).set 3 (.int .i64 0)).set 4 (.string ⟨#[]⟩) |>.heap HR.out (show w.heap.size + 1 ≠ w.heap.size + 1 + 1 by omega))
      clear hg
      go_upto_region 44 with (fail)
      generalize (((((wc.setCell ⟨w.heap.size + 1 + 1, 0, none⟩ (.bool false)).setCell ⟨w.heap.size + 1 + 1, 0, none⟩ (.bool false)).setCell ⟨w.heap.size + 1 + 1, 1, none⟩ (.slice none 0 0)).setCell ⟨w.heap.size + 1 + 1, 2, none⟩ (.slice none 0 0)).setCell ⟨w.heap.size + 1 + 1, 3, none⟩ (.int .i64 0)).setCell ⟨w.heap.size + 1 + 1, 4, none⟩ (.string ⟨#[]⟩) = X at *
      clear g0 g1 g2 g3 g4 y0 y1 y2 y3 y4 c1
      have hX := HG.out
      have hY := HR1.out
      have g0 := blk_cell hX 0; have g1 := blk_cell hX 1; have g2 := blk_cell hX 2; have g3 := blk_cell hX 3; have g4 := blk_cell hX 4
      have n0 := blk_cell hY 0; have n1 := blk_cell hY 1; have n2 := blk_cell hY 2; have n3 := blk_cell hY 3; have n4 := blk_cell hY 4
      have m0 := blk_free hY 0; have m1 := blk_free hY 1; have m2 := blk_free hY 2; have m3 := blk_free hY 3; have m4 := blk_free hY 4
      simp [zeroCs] at g0 g1 g2 g3 g4 n0 n1 n2 n3 n4
      clear hX hY
      go_wp2_with fail
      refine bodyPost_ret (v := zeroG) ?_ rfl ?_
      · simp [zeroG, results, Tryd.results25, go_sem, n0, n1, n2, n3, n4] <;> rfl
      · exact ((((((HM1.out).set hsl _ (Or.inl rfl) 0 _).set hsl _ (Or.inl rfl) 1 _).set hsl _ (Or.inl rfl) 2 _).set hsl _ (Or.inl rfl) 3 _).set hsl _ (Or.inl rfl) 4 _).no HP.out

set_option maxRecDepth 100000 in
set_option maxHeartbeats 2000000 in
theorem sr_num4 (r : Nat) (big : Bool) (xs : List Int) (P : G → List Int → Bool → Bool → Prop) (L : Int → List Int → Bool → Bool → Prop) (m : Nat) (be : Bool) (w : World) (h : Sx w r xs false false)
    (hC : ∀ W, Sx W r xs false false → Calls Tryd.prog 54 #[.pointer (some ⟨r, 0, none⟩), .int .i64 m, .bool be] W (RetN L .u64 W r))
    (hP : ∀ z q t o, L z q t o → P (if t = true then G.no else ⟨true, [], [], wrap64 z, ⟨#[]⟩⟩) q t o) :
    Calls Tryd.prog 25 #[.pointer (some ⟨r, 0, none⟩), .agg #[.int .i64 4, .int .i64 m, .bool be, .bool false], .bool big] w (RetR P w r) := by
  have HC := Lib.hid hC
  have HPP := Lib.hid hP
  clear hC hP
  have hsl := h.lt
  have HN := Lib.hid (GB.new w 4 m be false)
  have HS := Lib.hid h
  clear h
  go_enter Tryd.func25, Tryd.ntmps25
  go_upto_block 0 with (fail)
  go_cut [] from 8 to 168 (fun wc => InvR P w r wc)
  case first =>
    go_wp2_with fail
    go_must (refine (HC.out _ (HS.out.gr (boxW_gr w 4 m be false))).mono ?_)
    rintro e w1 ⟨z, q, t, o, rfl, hf1, hs1, hL⟩
    have hM := (Mid.mk' HS.out (boxW_gr w 4 m be false) (by rw [boxW_size]; omega) hf1 hs1 (Rd.nil w1) (Rd.nil w1) (offV_nil r) (offV_nil r) (fun s _ _ => offV_nil s) (fun s _ _ => offV_nil s)).set hsl _ (Or.inr rfl) 3 (.int .i64 (wrap64 z))
    have hb1 := HN.out.fx hf1.fx hsl
    have g0 := blk_cell hb1.g 0; have g1 := blk_cell hb1.g 1; have g2 := blk_cell hb1.g 2; have g3 := blk_cell hb1.g 3; have g4 := blk_cell hb1.g 4
    have y1 := blk_free hb1.g 1; have y2 := blk_free hb1.g 2; have y3 := blk_free hb1.g 3; have y4 := blk_free hb1.g 4
    simp [zeroCs] at g0 g1 g2 g3 g4
    have HI := Lib.hid (show InvR P w r (w1.setCell ⟨w.heap.size + 1 + 1, 3, none⟩ (.int .i64 (wrap64 z))) from ⟨.slice none 0 0, .slice none 0 0, [], [], (wrap64 z), ⟨#[]⟩, q, t, o, hM, by rw [blk_set hb1.g]; rfl, ((Fx.refl _ w1).set 3 _).heap hb1.r (by omega), HPP.out _ _ _ _ hL⟩)
    clear hb1 hs1 hf1 hM hL
    go_wp2_with fail
    go_meet
    exact HI.out
  case rest =>
    clear HN HS
    obtain ⟨dv, ov, l, ol, n, b, q, t, o, hM, hg, hr, hP⟩ := hcut
    have c1 := hM.sx.c1
    obtain ⟨pd, cd, rfl, _⟩ := id hM.d
    obtain ⟨po, co', rfl, _⟩ := id hM.e
    generalize l.length = nd at *
    generalize ol.length = no' at *
    have HM := Lib.hid hM
    have HP := Lib.hid hP
    have HR := Lib.hid hr
    clear hM hP hr
    cases t
    · simp only [Bool.false_eq_true, if_false] at HP
      have g0 := blk_cell hg 0; have y0 := blk_free hg 0
      simp at g0
      have HG := Lib.hid (blk_set hg 0 (.bool true))
      simp at HG
      have HM1 := Lib.hid (HM.out.set hsl _ (Or.inr rfl) 0 (.bool true))
      have HR1 := Lib.hid (((Fx.refl _ wc).set 0 (.bool true)).heap HR.out (show w.heap.size + 1 ≠ w.heap.size + 1 + 1 by omega))
      clear hg
      go_upto_region 44 with (fail)
      generalize wc.setCell ⟨w.heap.size + 1 + 1, 0, none⟩ (.bool true) = X at *
      clear g0 y0 c1
      have hX := HG.out
      have hY := HR1.out
      have g0 := blk_cell hX 0; have g1 := blk_cell hX 1; have g2 := blk_cell hX 2; have g3 := blk_cell hX 3; have g4 := blk_cell hX 4
      have n0 := blk_cell hY 0; have n1 := blk_cell hY 1; have n2 := blk_cell hY 2; have n3 := blk_cell hY 3; have n4 := blk_cell hY 4
      have m0 := blk_free hY 0; have m1 := blk_free hY 1; have m2 := blk_free hY 2; have m3 := blk_free hY 3; have m4 := blk_free hY 4
      simp [zeroCs] at g0 g1 g2 g3 g4 n0 n1 n2 n3 n4
      clear hX hY
      go_wp2_with fail
      refine bodyPost_ret (v := .agg #[.bool true, .slice pd nd cd, .slice po no' co', .int .i64 n, .string b]) ?_ rfl ?_
      · simp [results, Tryd.results25, go_sem, n0, n1, n2, n3, n4] <;> rfl
      · exact ((((((HM1.out).set hsl _ (Or.inl rfl) 0 _).set hsl _ (Or.inl rfl) 1 _).set hsl _ (Or.inl rfl) 2 _).set hsl _ (Or.inl rfl) 3 _).set hsl _ (Or.inl rfl) 4 _).ret n b HP.out
    · simp only [if_true] at HP
      have g0 := blk_cell hg 0; have y0 := blk_free hg 0
      have g1 := blk_cell hg 1; have y1 := blk_free hg 1
      have g2 := blk_cell hg 2; have y2 := blk_free hg 2
      have g3 := blk_cell hg 3; have y3 := blk_free hg 3
      have g4 := blk_cell hg 4; have y4 := blk_free hg 4
      simp at g0 g1 g2 g3 g4
      have HG := Lib.hid (blk_set (blk_set (blk_set (blk_set (blk_set (blk_set hg 0 (.bool false)) 0 (.bool false)) 1 (.slice none 0 0)) 2 (.slice none 0 0)) 3 (.int .i64 0)) 4 (.string ⟨#[]⟩))
      simp at HG
      have HM1 := Lib.hid ((((((HM.out.set hsl _ (Or.inr rfl) 0 (.bool false)).set hsl _ (Or.inr rfl) 0 (.bool false)).set hsl _ (Or.inr rfl) 1 (.slice none 0 0)).set hsl _ (Or.inr rfl) 2 (.slice none 0 0)).set hsl _ (Or.inr rfl) 3 (.int .i64 0)).set hsl _ (Or.inr rfl) 4 (.string ⟨#[]⟩))
      have HR1 := Lib.hid (((((((Fx.refl _ wc).set 0 (.bool false)).set 0 (.bool false)).set 1 (.slice none 0 0)).set 2 (.slice none 0 0)).set 3 (.int .i64 0)).set 4 (.string ⟨#[]⟩) |>.heap HR.out (show w.heap.size + 1 ≠ w.heap.size + 1 + 1 by omega))
      clear hg
      go_upto_region 44 with (fail)
      generalize (((((wc.setCell ⟨w.heap.size + 1 + 1, 0, none⟩ (.bool false)).setCell ⟨w.heap.size + 1 + 1, 0, none⟩ (.bool false)).setCell ⟨w.heap.size + 1 + 1, 1, none⟩ (.slice none 0 0)).setCell ⟨w.heap.size + 1 + 1, 2, none⟩ (.slice none 0 0)).setCell ⟨w.heap.size + 1 + 1, 3, none⟩ (.int .i64 0)).setCell ⟨w.heap.size + 1 + 1, 4, none⟩ (.string ⟨#[]⟩) = X at *
      clear g0 g1 g2 g3 g4 y0 y1 y2 y3 y4 c1
      have hX := HG.out
      have hY := HR1.out
      have g0 := blk_cell hX 0; have g1 := blk_cell hX 1; have g2 := blk_cell hX 2; have g3 := blk_cell hX 3; have g4 := blk_cell hX 4
      have n0 := blk_cell hY 0; have n1 := blk_cell hY 1; have n2 := blk_cell hY 2; have n3 := blk_cell hY 3; have n4 := blk_cell hY 4
      have m0 := blk_free hY 0; have m1 := blk_free hY 1; have m2 := blk_free hY 2; have m3 := blk_free hY 3; have m4 := blk_free hY 4
      simp [zeroCs] at g0 g1 g2 g3 g4 n0 n1 n2 n3 n4
      clear hX hY
      go_wp2_with fail
      refine bodyPost_ret (v := zeroG) ?_ rfl ?_
      · simp [zeroG, results, Tryd.results25, go_sem, n0, n1, n2, n3, n4] <;> rfl
      · exact ((((((HM1.out).set hsl _ (Or.inl rfl) 0 _).set hsl _ (Or.inl rfl) 1 _).set hsl _ (Or.inl rfl) 2 _).set hsl _ (Or.inl rfl) 3 _).set hsl _ (Or.inl rfl) 4 _).no HP.out

set_option maxRecDepth 100000 in
set_option maxHeartbeats 2000000 in
theorem sr_pk5 (r : Nat) (big : Bool) (xs : List Int) (P : G → List Int → Bool → Bool → Prop) (L : Int → List Int → Bool → Bool → Prop) (sz : Int) (be : Bool) (w : World) (h : Sx w r xs false false)
    (hC : ∀ W, Sx W r xs false false → Calls Tryd.prog 53 #[.pointer (some ⟨r, 0, none⟩)] W (RetN L .i64 W r))
    (hP : ∀ z q t o, L z q t o → P (if t = true then G.no else ⟨true, [], [], z, ⟨#[]⟩⟩) q t o) :
    Calls Tryd.prog 25 #[.pointer (some ⟨r, 0, none⟩), .agg #[.int .i64 5, .int .i64 sz, .bool be, .bool true], .bool big] w (RetR P w r) := by
  have HC := Lib.hid hC
  have HPP := Lib.hid hP
  clear hC hP
  have hsl := h.lt
  have HN := Lib.hid (GB.new w 5 sz be true)
  have HS := Lib.hid h
  clear h
  go_enter Tryd.func25, Tryd.ntmps25
  go_upto_block 0 with (fail)
  go_cut [] from 8 to 168 (fun wc => InvR P w r wc)
  case first =>
    go_wp2_with fail
    go_must (refine (HC.out _ (HS.out.gr (boxW_gr w 5 sz be true))).mono ?_)
    rintro e w1 ⟨z, q, t, o, rfl, hf1, hs1, hL⟩
    have hM := (Mid.mk' HS.out (boxW_gr w 5 sz be true) (by rw [boxW_size]; omega) hf1 hs1 (Rd.nil w1) (Rd.nil w1) (offV_nil r) (offV_nil r) (fun s _ _ => offV_nil s) (fun s _ _ => offV_nil s)).set hsl _ (Or.inr rfl) 3 (.int .i64 z)
    have hb1 := HN.out.fx hf1.fx hsl
    have g0 := blk_cell hb1.g 0; have g1 := blk_cell hb1.g 1; have g2 := blk_cell hb1.g 2; have g3 := blk_cell hb1.g 3; have g4 := blk_cell hb1.g 4
    have y1 := blk_free hb1.g 1; have y2 := blk_free hb1.g 2; have y3 := blk_free hb1.g 3; have y4 := blk_free hb1.g 4
    simp [zeroCs] at g0 g1 g2 g3 g4
    have HI := Lib.hid (show InvR P w r (w1.setCell ⟨w.heap.size + 1 + 1, 3, none⟩ (.int .i64 z)) from ⟨.slice none 0 0, .slice none 0 0, [], [], z, ⟨#[]⟩, q, t, o, hM, by rw [blk_set hb1.g]; rfl, ((Fx.refl _ w1).set 3 _).heap hb1.r (by omega), HPP.out _ _ _ _ hL⟩)
    clear hb1 hs1 hf1 hM hL
    go_wp2_with fail
    go_meet
    exact HI.out
  case rest =>
    clear HN HS
    obtain ⟨dv, ov, l, ol, n, b, q, t, o, hM, hg, hr, hP⟩ := hcut
    have c1 := hM.sx.c1
    obtain ⟨pd, cd, rfl, _⟩ := id hM.d
    obtain ⟨po, co', rfl, _⟩ := id hM.e
    generalize l.length = nd at *
    generalize ol.length = no' at *
    have HM := Lib.hid hM
    have HP := Lib.hid hP
    have HR := Lib.hid hr
    clear hM hP hr
    cases t
    · simp only [Bool.false_eq_true, if_false] at HP
      have g0 := blk_cell hg 0; have y0 := blk_free hg 0
      simp at g0
      have HG := Lib.hid (blk_set hg 0 (.bool true))
      simp at HG
      have HM1 := Lib.hid (HM.out.set hsl _ (Or.inr rfl) 0 (.bool true))
      have HR1 := Lib.hid (((Fx.refl _ wc).set 0 (.bool true)).heap HR.out (show w.heap.size + 1 ≠ w.heap.size + 1 + 1 by omega))
      clear hg
      go_upto_region 44 with (fail)
      generalize wc.setCell ⟨w.heap.size + 1 + 1, 0, none⟩ (.bool true) = X at *
      clear g0 y0 c1
      have hX := HG.out
      have hY := HR1.out
      have g0 := blk_cell hX 0; have g1 := blk_cell hX 1; have g2 := blk_cell hX 2; have g3 := blk_cell hX 3; have g4 := blk_cell hX 4
      have n0 := blk_cell hY 0; have n1 := blk_cell hY 1; have n2 := blk_cell hY 2; have n3 := blk_cell hY 3; have n4 := blk_cell hY 4
      have m0 := blk_free hY 0; have m1 := blk_free hY 1; have m2 := blk_free hY 2; have m3 := blk_free hY 3; have m4 := blk_free hY 4
      simp [zeroCs] at g0 g1 g2 g3 g4 n0 n1 n2 n3 n4
      clear hX hY
      go_wp2_with fail
      refine bodyPost_ret (v := .agg #[.bool true, .slice pd nd cd, .slice po no' co', .int .i64 n, .string b]) ?_ rfl ?_
      · simp [results, Tryd.results25, go_sem, n0, n1, n2, n3, n4] <;> rfl
      · exact ((((((HM1.out).set hsl _ (Or.inl rfl) 0 _).set hsl _ (Or.inl rfl) 1 _).set hsl _ (Or.inl rfl) 2 _).set hsl _ (Or.inl rfl) 3 _).set hsl _ (Or.inl rfl) 4 _).ret n b HP.out
    · simp only [if_true] at HP
      have g0 := blk_cell hg 0; have y0 := blk_free hg 0
      have g1 := blk_cell hg 1; have y1 := blk_free hg 1
      have g2 := blk_cell hg 2; have y2 := blk_free hg 2
      have g3 := blk_cell hg 3; have y3 := blk_free hg 3
      have g4 := blk_cell hg 4; have y4 := blk_free hg 4
      simp at g0 g1 g2 g3 g4
      have HG := Lib.hid (blk_set (blk_set (blk_set (blk_set (blk_set (blk_set hg 0 (.bool false)) 0 (.bool false)) 1 (.slice none 0 0)) 2 (.slice none 0 0)) 3 (.int .i64 0)) 4 (.string ⟨#[]⟩))
      simp at HG
      have HM1 := Lib.hid ((((((HM.out.set hsl _ (Or.inr rfl) 0 (.bool false)).set hsl _ (Or.inr rfl) 0 (.bool false)).set hsl _ (Or.inr rfl) 1 (.slice none 0 0)).set hsl _ (Or.inr rfl) 2 (.slice none 0 0)).set hsl _ (Or.inr rfl) 3 (.int .i64 0)).set hsl _ (Or.inr rfl) 4 (.string ⟨#[]⟩))
      have HR1 := Lib.hid (((((((Fx.refl _ wc).set 0 (.bool false)).set 0 (.bool false)).set 1 (.slice none 0 0)).set 2 (.slice none 0 0)).set 3 (.int .i64 0)).set 4 (.string ⟨#[]⟩) |>.heap HR.out (show w.heap.size + 1 ≠ w.heap.size + 1 + 1 by omega))
      clear hg
      go_upto_region 44 with (fail)
      generalize (((((wc.setCell ⟨w.heap.size + 1 + 1, 0, none⟩ (.bool false)).setCell ⟨w.heap.size + 1 + 1, 0, none⟩ (.bool false)).setCell ⟨w.heap.size + 1 + 1, 1, none⟩ (.slice none 0 0)).setCell ⟨w.heap.size + 1 + 1, 2, none⟩ (.slice none 0 0)).setCell ⟨w.heap.size + 1 + 1, 3, none⟩ (.int .i64 0)).setCell ⟨w.heap.size + 1 + 1, 4, none⟩ (.string ⟨#[]⟩) = X at *
      clear g0 g1 g2 g3 g4 y0 y1 y2 y3 y4 c1
      have hX := HG.out
      have hY := HR1.out
      have g0 := blk_cell hX 0; have g1 := blk_cell hX 1; have g2 := blk_cell hX 2; have g3 := blk_cell hX 3; have g4 := blk_cell hX 4
      have n0 := blk_cell hY 0; have n1 := blk_cell hY 1; have n2 := blk_cell hY 2; have n3 := blk_cell hY 3; have n4 := blk_cell hY 4
      have m0 := blk_free hY 0; have m1 := blk_free hY 1; have m2 := blk_free hY 2; have m3 := blk_free hY 3; have m4 := blk_free hY 4
      simp [zeroCs] at g0 g1 g2 g3 g4 n0 n1 n2 n3 n4
      clear hX hY
      go_wp2_with fail
      refine bodyPost_ret (v := zeroG) ?_ rfl ?_
      · simp [zeroG, results, Tryd.results25, go_sem, n0, n1, n2, n3, n4] <;> rfl
      · exact ((((((HM1.out).set hsl _ (Or.inl rfl) 0 _).set hsl _ (Or.inl rfl) 1 _).set hsl _ (Or.inl rfl) 2 _).set hsl _ (Or.inl rfl) 3 _).set hsl _ (Or.inl rfl) 4 _).no HP.out

set_option maxRecDepth 100000 in
set_option maxHeartbeats 2000000 in
theorem sr_num5 (r : Nat) (big : Bool) (xs : List Int) (P : G → List Int → Bool → Bool → Prop) (L : Int → List Int → Bool → Bool → Prop) (m : Nat) (be : Bool) (w : World) (h : Sx w r xs false false)
    (hC : ∀ W, Sx W r xs false false → Calls Tryd.prog 54 #[.pointer (some ⟨r, 0, none⟩), .int .i64 m, .bool be] W (RetN L .u64 W r))
    (hP : ∀ z q t o, L z q t o → P (if t = true then G.no else ⟨true, [], [], wrap64 z, ⟨#[]⟩⟩) q t o) :
    Calls Tryd.prog 25 #[.pointer (some ⟨r, 0, none⟩), .agg #[.int .i64 5, .int .i64 m, .bool be, .bool false], .bool big] w (RetR P w r) := by
  have HC := Lib.hid hC
  have HPP := Lib.hid hP
  clear hC hP
  have hsl := h.lt
  have HN := Lib.hid (GB.new w 5 m be false)
  have HS := Lib.hid h
  clear h
  go_enter Tryd.func25, Tryd.ntmps25
  go_upto_block 0 with (fail)
  go_cut [] from 8 to 168 (fun wc => InvR P w r wc)
  case first =>
    go_wp2_with fail
    go_must (refine (HC.out _ (HS.out.gr (boxW_gr w 5 m be false))).mono ?_)
    rintro e w1 ⟨z, q, t, o, rfl, hf1, hs1, hL⟩
    have hM := (Mid.mk' HS.out (boxW_gr w 5 m be false) (by rw [boxW_size]; omega) hf1 hs1 (Rd.nil w1) (Rd.nil w1) (offV_nil r) (offV_nil r) (fun s _ _ => offV_nil s) (fun s _ _ => offV_nil s)).set hsl _ (Or.inr rfl) 3 (.int .i64 (wrap64 z))
    have hb1 := HN.out.fx hf1.fx hsl
    have g0 := blk_cell hb1.g 0; have g1 := blk_cell hb1.g 1; have g2 := blk_cell hb1.g 2; have g3 := blk_cell hb1.g 3; have g4 := blk_cell hb1.g 4
    have y1 := blk_free hb1.g 1; have y2 := blk_free hb1.g 2; have y3 := blk_free hb1.g 3; have y4 := blk_free hb1.g 4
    simp [zeroCs] at g0 g1 g2 g3 g4
    have HI := Lib.hid (show InvR P w r (w1.setCell ⟨w.heap.size + 1 + 1, 3, none⟩ (.int .i64 (wrap64 z))) from ⟨.slice none 0 0, .slice none 0 0, [], [], (wrap64 z), ⟨#[]⟩, q, t, o, hM, by rw [blk_set hb1.g]; rfl, ((Fx.refl _ w1).set 3 _).heap hb1.r (by omega), HPP.out _ _ _ _ hL⟩)
    clear hb1 hs1 hf1 hM hL
    go_wp2_with fail
    go_meet
    exact HI.out
  case rest =>
    clear HN HS
    obtain ⟨dv, ov, l, ol, n, b, q, t, o, hM, hg, hr, hP⟩ := hcut
    have c1 := hM.sx.c1
    obtain ⟨pd, cd, rfl, _⟩ := id hM.d
    obtain ⟨po, co', rfl, _⟩ := id hM.e
    generalize l.length = nd at *
    generalize ol.length = no' at *
    have HM := Lib.hid hM
    have HP := Lib.hid hP
    have HR := Lib.hid hr
    clear hM hP hr
    cases t
    · simp only [Bool.false_eq_true, if_false] at HP
      have g0 := blk_cell hg 0; have y0 := blk_free hg 0
      simp at g0
      have HG := Lib.hid (blk_set hg 0 (.bool true))
      simp at HG
      have HM1 := Lib.hid (HM.out.set hsl _ (Or.inr rfl) 0 (.bool true))
      have HR1 := Lib.hid (((Fx.refl _ wc).set 0 (.bool true)).heap HR.out (show w.heap.size + 1 ≠ w.heap.size + 1 + 1 by omega))
      clear hg
      go_upto_region 44 with (fail)
      generalize wc.setCell ⟨w.heap.size + 1 + 1, 0, none⟩ (.bool true) = X at *
      clear g0 y0 c1
      have hX := HG.out
      have hY := HR1.out
      have g0 := blk_cell hX 0; have g1 := blk_cell hX 1; have g2 := blk_cell hX 2; have g3 := blk_cell hX 3; have g4 := blk_cell hX 4
      have n0 := blk_cell hY 0; have n1 := blk_cell hY 1; have n2 := blk_cell hY 2; have n3 := blk_cell hY 3; have n4 := blk_cell hY 4
      have m0 := blk_free hY 0; have m1 := blk_free hY 1; have m2 := blk_free hY 2; have m3 := blk_free hY 3; have m4 := blk_free hY 4
      simp [zeroCs] at g0 g1 g2 g3 g4 n0 n1 n2 n3 n4
      clear hX hY
      go_wp2_with fail
      refine bodyPost_ret (v := .agg #[.bool true, .slice pd nd cd, .slice po no' co', .int .i64 n, .string b]) ?_ rfl ?_
      · simp [results, Tryd.results25, go_sem, n0, n1, n2, n3, n4] <;> rfl
      · exact ((((((HM1.out).set hsl _ (Or.inl rfl) 0 _).set hsl _ (Or.inl rfl) 1 _).set hsl _ (Or.inl rfl) 2 _).set hsl _ (Or.inl rfl) 3 _).set hsl _ (Or.inl rfl) 4 _).ret n b HP.out
    · simp only [if_true] at HP
      have g0 := blk_cell hg 0; have y0 := blk_free hg 0
      have g1 := blk_cell hg 1; have y1 := blk_free hg 1
      have g2 := blk_cell hg 2; have y2 := blk_free hg 2
      have g3 := blk_cell hg 3; have y3 := blk_free hg 3
      have g4 := blk_cell hg 4; have y4 := blk_free hg 4
      simp at g0 g1 g2 g3 g4
      have HG := Lib.hid (blk_set (blk_set (blk_set (blk_set (blk_set (blk_set hg 0 (.bool false)) 0 (.bool false)) 1 (.slice none 0 0)) 2 (.slice none 0 0)) 3 (.int .i64 0)) 4 (.string ⟨#[]⟩))
      simp at HG
      have HM1 := Lib.hid ((((((HM.out.set hsl _ (Or.inr rfl) 0 (.bool false)).set hsl _ (Or.inr rfl) 0 (.bool false)).set hsl _ (Or.inr rfl) 1 (.slice none 0 0)).set hsl _ (Or.inr rfl) 2 (.slice none 0 0)).set hsl _ (Or.inr rfl) 3 (.int .i64 0)).set hsl _ (Or.inr rfl) 4 (.string ⟨#[]⟩))
      have HR1 := Lib.hid (((((((Fx.refl _ wc).set 0 (.bool false)).set 0 (.bool false)).set 1 (.slice none 0 0)).set 2 (.slice none 0 0)).set 3 (.int .i64 0)).set 4 (.string ⟨#[]⟩) |>.heap HR.out (show w.heap.size + 1 ≠ w.heap.size + 1 + 1 by omega))
      clear hg
      go_upto_region 44 with (fail)
      generalize (((((wc.setCell ⟨w.heap.size + 1 + 1, 0, none⟩ (.bool false)).setCell ⟨w.heap.size + 1 + 1, 0, none⟩ (.bool false)).setCell ⟨w.heap.size + 1 + 1, 1, none⟩ (.slice none 0 0)).setCell ⟨w.heap.size + 1 + 1, 2, none⟩ (.slice none 0 0)).setCell ⟨w.heap.size + 1 + 1, 3, none⟩ (.int .i64 0)).setCell ⟨w.heap.size + 1 + 1, 4, none⟩ (.string ⟨#[]⟩) = X at *
      clear g0 g1 g2 g3 g4 y0 y1 y2 y3 y4 c1
      have hX := HG.out
      have hY := HR1.out
      have g0 := blk_cell hX 0; have g1 := blk_cell hX 1; have g2 := blk_cell hX 2; have g3 := blk_cell hX 3; have g4 := blk_cell hX 4
      have n0 := blk_cell hY 0; have n1 := blk_cell hY 1; have n2 := blk_cell hY 2; have n3 := blk_cell hY 3; have n4 := blk_cell hY 4
      have m0 := blk_free hY 0; have m1 := blk_free hY 1; have m2 := blk_free hY 2; have m3 := blk_free hY 3; have m4 := blk_free hY 4
      simp [zeroCs] at g0 g1 g2 g3 g4 n0 n1 n2 n3 n4
      clear hX hY
      go_wp2_with fail
      refine bodyPost_ret (v := zeroG) ?_ rfl ?_
      · simp [zeroG, results, Tryd.results25, go_sem, n0, n1, n2, n3, n4] <;> rfl
      · exact ((((((HM1.out).set hsl _ (Or.inl rfl) 0 _).set hsl _ (Or.inl rfl) 1 _).set hsl _ (Or.inl rfl) 2 _).set hsl _ (Or.inl rfl) 3 _).set hsl _ (Or.inl rfl) 4 _).no HP.out

set_option maxRecDepth 100000 in
set_option maxHeartbeats 2000000 in
theorem sr_peek_ok (r : Nat) (big : Bool) (xs : List Int) (P : G → List Int → Bool → Bool → Prop) (m : Nat) (be co : Bool) (w : World) (h : Sx w r xs false false)
    (hC : ∀ W, Sx W r xs false false → Calls Tryd.prog 50 #[.pointer (some ⟨r, 0, none⟩), .int .i64 m] W (RetTk W r (xs.take m) (xs.drop m))) (hP : P ⟨true, xs.take m, [], 0, ⟨#[]⟩⟩ xs false false) :
    Calls Tryd.prog 25 #[.pointer (some ⟨r, 0, none⟩), .agg #[.int .i64 9, .int .i64 m, .bool be, .bool co], .bool big] w (RetR P w r) := by
  have HC := Lib.hid hC
  have HPP := Lib.hid hP
  clear hC hP
  have hsl := h.lt
  have HN := Lib.hid (GB.new w 9 m be co)
  have HS := Lib.hid h
  clear h
  go_enter Tryd.func25, Tryd.ntmps25
  go_upto_block 0 with (fail)
  go_cut [] from 8 to 168 (fun wc => InvR P w r wc)
  case first =>
    obtain ⟨v, h1, h2, _⟩ := id HS.out
    obtain ⟨pv, cv, rfl, _⟩ := id h2
    have hv : w.cell? ⟨r, 0, none⟩ = some (.slice pv xs.length cv) := (blk_cell h1 0).trans rfl
    clear h1 h2
    generalize xs.length = nv at hv
    have HV := Lib.hid hv
    have hl1 : r < w.heap.size + 1 := by omega
    have hl2 : r < w.heap.size + 1 + 1 := by omega
    go_wp2_with fail
    go_must (refine (HC.out _ (HS.out.gr (boxW_gr w 9 m be co))).mono ?_)
    rintro e w1 ⟨u, rfl, hu, ho, _, hx, hs1, hf1⟩
    have hM := ((Mid.mk' HS.out (boxW_gr w 9 m be co) (by rw [boxW_size]; omega) hf1 hs1 hu (Rd.nil w1) ho (offV_nil r) (fun s _ h => hx s h) (fun s _ _ => offV_nil s)).set hsl _ (Or.inr rfl) 1 u).back HS.out HV.out
    have hb1 := HN.out.fx hf1.fx hsl
    have g0 := blk_cell hb1.g 0; have g1 := blk_cell hb1.g 1; have g2 := blk_cell hb1.g 2; have g3 := blk_cell hb1.g 3; have g4 := blk_cell hb1.g 4
    have y1 := blk_free hb1.g 1; have y2 := blk_free hb1.g 2; have y3 := blk_free hb1.g 3; have y4 := blk_free hb1.g 4
    simp [zeroCs] at g0 g1 g2 g3 g4
    obtain ⟨pu, cu, rfl, _⟩ := id hu
    generalize hlen : (xs.take m).length = lu at *
    obtain ⟨v3, h3, _⟩ := id hs1
    have z0 : w1.cell? ⟨r, 0, none⟩ = some v3 := (blk_cell h3 0).trans rfl
    have f0 := blk_free h3 0
    clear h3
    have HI := Lib.hid (show InvR P w r ((w1.setCell ⟨w.heap.size + 1 + 1, 1, none⟩ (.slice pu lu cu)).setCell ⟨r, 0, none⟩ (.slice pv nv cv)) from ⟨.slice pu lu cu, .slice none 0 0, (xs.take m), [], 0, ⟨#[]⟩, xs, false, false, hM, ((Fx.refl r _).set 0 _).heap (by rw [blk_set hb1.g]; rfl) (by omega), ((Fx.refl r _).set 0 _).heap (((Fx.refl _ w1).set 1 _).heap hb1.r (by omega)) (by omega), HPP.out⟩)
    clear hb1 hs1 hf1 hM hv hu ho hx hlen
    go_wp2_with fail
    go_meet
    exact HI.out
  case rest =>
    clear HN HS
    obtain ⟨dv, ov, l, ol, n, b, q, t, o, hM, hg, hr, hP⟩ := hcut
    have c1 := hM.sx.c1
    obtain ⟨pd, cd, rfl, _⟩ := id hM.d
    obtain ⟨po, co', rfl, _⟩ := id hM.e
    generalize l.length = nd at *
    generalize ol.length = no' at *
    have HM := Lib.hid hM
    have HP := Lib.hid hP
    have HR := Lib.hid hr
    clear hM hP hr
    cases t
    · simp only [Bool.false_eq_true, if_false] at HP
      have g0 := blk_cell hg 0; have y0 := blk_free hg 0
      simp at g0
      have HG := Lib.hid (blk_set hg 0 (.bool true))
      simp at HG
      have HM1 := Lib.hid (HM.out.set hsl _ (Or.inr rfl) 0 (.bool true))
      have HR1 := Lib.hid (((Fx.refl _ wc).set 0 (.bool true)).heap HR.out (show w.heap.size + 1 ≠ w.heap.size + 1 + 1 by omega))
      clear hg
      go_upto_region 44 with (fail)
      generalize wc.setCell ⟨w.heap.size + 1 + 1, 0, none⟩ (.bool true) = X at *
      clear g0 y0 c1
      have hX := HG.out
      have hY := HR1.out
      have g0 := blk_cell hX 0; have g1 := blk_cell hX 1; have g2 := blk_cell hX 2; have g3 := blk_cell hX 3; have g4 := blk_cell hX 4
      have n0 := blk_cell hY 0; have n1 := blk_cell hY 1; have n2 := blk_cell hY 2; have n3 := blk_cell hY 3; have n4 := blk_cell hY 4
      have m0 := blk_free hY 0; have m1 := blk_free hY 1; have m2 := blk_free hY 2; have m3 := blk_free hY 3; have m4 := blk_free hY 4
      simp [zeroCs] at g0 g1 g2 g3 g4 n0 n1 n2 n3 n4
      clear hX hY
      go_wp2_with fail
      refine bodyPost_ret (v := .agg #[.bool true, .slice pd nd cd, .slice po no' co', .int .i64 n, .string b]) ?_ rfl ?_
      · simp [results, Tryd.results25, go_sem, n0, n1, n2, n3, n4] <;> rfl
      · exact ((((((HM1.out).set hsl _ (Or.inl rfl) 0 _).set hsl _ (Or.inl rfl) 1 _).set hsl _ (Or.inl rfl) 2 _).set hsl _ (Or.inl rfl) 3 _).set hsl _ (Or.inl rfl) 4 _).ret n b HP.out
    · simp only [if_true] at HP
      have g0 := blk_cell hg 0; have y0 := blk_free hg 0
      have g1 := blk_cell hg 1; have y1 := blk_free hg 1
      have g2 := blk_cell hg 2; have y2 := blk_free hg 2
      have g3 := blk_cell hg 3; have y3 := blk_free hg 3
      have g4 := blk_cell hg 4; have y4 := blk_free hg 4
      simp at g0 g1 g2 g3 g4
      have HG := Lib.hid (blk_set (blk_set (blk_set (blk_set (blk_set (blk_set hg 0 (.bool false)) 0 (.bool false)) 1 (.slice none 0 0)) 2 (.slice none 0 0)) 3 (.int .i64 0)) 4 (.string ⟨#[]⟩))
      simp at HG
      have HM1 := Lib.hid ((((((HM.out.set hsl _ (Or.inr rfl) 0 (.bool false)).set hsl _ (Or.inr rfl) 0 (.bool false)).set hsl _ (Or.inr rfl) 1 (.slice none 0 0)).set hsl _ (Or.inr rfl) 2 (.slice none 0 0)).set hsl _ (Or.inr rfl) 3 (.int .i64 0)).set hsl _ (Or.inr rfl) 4 (.string ⟨#[]⟩))
      have HR1 := Lib.hid (((((((Fx.refl _ wc).set 0 (.bool false)).set 0 (.bool false)).set 1 (.slice none 0 0)).set 2 (.slice none 0 0)).set 3 (.int .i64 0)).set 4 (.string ⟨#[]⟩) |>.heap HR.out (show w.heap.size + 1 ≠ w.heap.size + 1 + 1 by omega))
      clear hg
      go_upto_region 44 with (fail)
      generalize (((((wc.setCell ⟨w.heap.size + 1 + 1, 0, none⟩ (.bool false)).setCell ⟨w.heap.size + 1 + 1, 0, none⟩ (.bool false)).setCell ⟨w.heap.size + 1 + 1, 1, none⟩ (.slice none 0 0)).setCell ⟨w.heap.size + 1 + 1, 2, none⟩ (.slice none 0 0)).setCell ⟨w.heap.size + 1 + 1, 3, none⟩ (.int .i64 0)).setCell ⟨w.heap.size + 1 + 1, 4, none⟩ (.string ⟨#[]⟩) = X at *
      clear g0 g1 g2 g3 g4 y0 y1 y2 y3 y4 c1
      have hX := HG.out
      have hY := HR1.out
      have g0 := blk_cell hX 0; have g1 := blk_cell hX 1; have g2 := blk_cell hX 2; have g3 := blk_cell hX 3; have g4 := blk_cell hX 4
      have n0 := blk_cell hY 0; have n1 := blk_cell hY 1; have n2 := blk_cell hY 2; have n3 := blk_cell hY 3; have n4 := blk_cell hY 4
      have m0 := blk_free hY 0; have m1 := blk_free hY 1; have m2 := blk_free hY 2; have m3 := blk_free hY 3; have m4 := blk_free hY 4
      simp [zeroCs] at g0 g1 g2 g3 g4 n0 n1 n2 n3 n4
      clear hX hY
      go_wp2_with fail
      refine bodyPost_ret (v := zeroG) ?_ rfl ?_
      · simp [zeroG, results, Tryd.results25, go_sem, n0, n1, n2, n3, n4] <;> rfl
      · exact ((((((HM1.out).set hsl _ (Or.inl rfl) 0 _).set hsl _ (Or.inl rfl) 1 _).set hsl _ (Or.inl rfl) 2 _).set hsl _ (Or.inl rfl) 3 _).set hsl _ (Or.inl rfl) 4 _).no HP.out

set_option maxRecDepth 100000 in
set_option maxHeartbeats 2000000 in
theorem sr_peek_no (r : Nat) (big : Bool) (xs : List Int) (P : G → List Int → Bool → Bool → Prop) (m : Nat) (be co : Bool) (w : World) (h : Sx w r xs false false)
    (hC : ∀ W, Sx W r xs false false → Calls Tryd.prog 50 #[.pointer (some ⟨r, 0, none⟩), .int .i64 m] W (RetTn W r (.slice none 0 0) false)) (hP : P G.no xs true false) :
    Calls Tryd.prog 25 #[.pointer (some ⟨r, 0, none⟩), .agg #[.int .i64 9, .int .i64 m, .bool be, .bool co], .bool big] w (RetR P w r) := by
  have HC := Lib.hid hC
  have HPP := Lib.hid hP
  clear hC hP
  have hsl := h.lt
  have HN := Lib.hid (GB.new w 9 m be co)
  have HS := Lib.hid h
  clear h
  go_enter Tryd.func25, Tryd.ntmps25
  go_upto_block 0 with (fail)
  go_cut [] from 8 to 168 (fun wc => InvR P w r wc)
  case first =>
    obtain ⟨v, h1, h2, _⟩ := id HS.out
    obtain ⟨pv, cv, rfl, _⟩ := id h2
    have hv : w.cell? ⟨r, 0, none⟩ = some (.slice pv xs.length cv) := (blk_cell h1 0).trans rfl
    clear h1 h2
    generalize xs.length = nv at hv
    have HV := Lib.hid hv
    have hl1 : r < w.heap.size + 1 := by omega
    have hl2 : r < w.heap.size + 1 + 1 := by omega
    go_wp2_with fail
    go_must (refine (HC.out _ (HS.out.gr (boxW_gr w 9 m be co))).mono ?_)
    rintro e w1 ⟨rfl, ⟨q, hs1⟩, hf1⟩
    have hM := ((Mid.mk' HS.out (boxW_gr w 9 m be co) (by rw [boxW_size]; omega) hf1 hs1 (Rd.nil w1) (Rd.nil w1) (offV_nil r) (offV_nil r) (fun s _ _ => offV_nil s) (fun s _ _ => offV_nil s)).set hsl _ (Or.inr rfl) 1 (.slice none 0 0)).back HS.out HV.out
    have hb1 := HN.out.fx hf1.fx hsl
    have g0 := blk_cell hb1.g 0; have g1 := blk_cell hb1.g 1; have g2 := blk_cell hb1.g 2; have g3 := blk_cell hb1.g 3; have g4 := blk_cell hb1.g 4
    have y1 := blk_free hb1.g 1; have y2 := blk_free hb1.g 2; have y3 := blk_free hb1.g 3; have y4 := blk_free hb1.g 4
    simp [zeroCs] at g0 g1 g2 g3 g4
    obtain ⟨v3, h3, _⟩ := id hs1
    have z0 : w1.cell? ⟨r, 0, none⟩ = some v3 := (blk_cell h3 0).trans rfl
    have f0 := blk_free h3 0
    clear h3
    have HI := Lib.hid (show InvR P w r ((w1.setCell ⟨w.heap.size + 1 + 1, 1, none⟩ (.slice none 0 0)).setCell ⟨r, 0, none⟩ (.slice pv nv cv)) from ⟨.slice none 0 0, .slice none 0 0, [], [], 0, ⟨#[]⟩, xs, true, false, hM, ((Fx.refl r _).set 0 _).heap (by rw [blk_set hb1.g]; rfl) (by omega), ((Fx.refl r _).set 0 _).heap (((Fx.refl _ w1).set 1 _).heap hb1.r (by omega)) (by omega), HPP.out⟩)
    clear hb1 hs1 hf1 hM hv
    go_wp2_with fail
    go_meet
    exact HI.out
  case rest =>
    clear HN HS
    obtain ⟨dv, ov, l, ol, n, b, q, t, o, hM, hg, hr, hP⟩ := hcut
    have c1 := hM.sx.c1
    obtain ⟨pd, cd, rfl, _⟩ := id hM.d
    obtain ⟨po, co', rfl, _⟩ := id hM.e
    generalize l.length = nd at *
    generalize ol.length = no' at *
    have HM := Lib.hid hM
    have HP := Lib.hid hP
    have HR := Lib.hid hr
    clear hM hP hr
    cases t
    · simp only [Bool.false_eq_true, if_false] at HP
      have g0 := blk_cell hg 0; have y0 := blk_free hg 0
      simp at g0
      have HG := Lib.hid (blk_set hg 0 (.bool true))
      simp at HG
      have HM1 := Lib.hid (HM.out.set hsl _ (Or.inr rfl) 0 (.bool true))
      have HR1 := Lib.hid (((Fx.refl _ wc).set 0 (.bool true)).heap HR.out (show w.heap.size + 1 ≠ w.heap.size + 1 + 1 by omega))
      clear hg
      go_upto_region 44 with (fail)
      generalize wc.setCell ⟨w.heap.size + 1 + 1, 0, none⟩ (.bool true) = X at *
      clear g0 y0 c1
      have hX := HG.out
      have hY := HR1.out
      have g0 := blk_cell hX 0; have g1 := blk_cell hX 1; have g2 := blk_cell hX 2; have g3 := blk_cell hX 3; have g4 := blk_cell hX 4
      have n0 := blk_cell hY 0; have n1 := blk_cell hY 1; have n2 := blk_cell hY 2; have n3 := blk_cell hY 3; have n4 := blk_cell hY 4
      have m0 := blk_free hY 0; have m1 := blk_free hY 1; have m2 := blk_free hY 2; have m3 := blk_free hY 3; have m4 := blk_free hY 4
      simp [zeroCs] at g0 g1 g2 g3 g4 n0 n1 n2 n3 n4
      clear hX hY
      go_wp2_with fail
      refine bodyPost_ret (v := .agg #[.bool true, .slice pd nd cd, .slice po no' co', .int .i64 n, .string b]) ?_ rfl ?_
      · simp [results, Tryd.results25, go_sem, n0, n1, n2, n3, n4] <;> rfl
      · exact ((((((HM1.out).set hsl _ (Or.inl rfl) 0 _).set hsl _ (Or.inl rfl) 1 _).set hsl _ (Or.inl rfl) 2 _).set hsl _ (Or.inl rfl) 3 _).set hsl _ (Or.inl rfl) 4 _).ret n b HP.out
    · simp only [if_true] at HP
      have g0 := blk_cell hg 0; have y0 := blk_free hg 0
      have g1 := blk_cell hg 1; have y1 := blk_free hg 1
      have g2 := blk_cell hg 2; have y2 := blk_free hg 2
      have g3 := blk_cell hg 3; have y3 := blk_free hg 3
      have g4 := blk_cell hg 4; have y4 := blk_free hg 4
      simp at g0 g1 g2 g3 g4
      have HG := Lib.hid (blk_set (blk_set (blk_set (blk_set (blk_set (blk_set hg 0 (.bool false)) 0 (.bool false)) 1 (.slice none 0 0)) 2 (.slice none 0 0)) 3 (.int .i64 0)) 4 (.string ⟨#[]⟩))
      simp at HG
      have HM1 := Lib.hid ((((((HM.out.set hsl _ (Or.inr rfl) 0 (.bool false)).set hsl _ (Or.inr rfl) 0 (.bool false)).set hsl _ (Or.inr rfl) 1 (.slice none 0 0)).set hsl _ (Or.inr rfl) 2 (.slice none 0 0)).set hsl _ (Or.inr rfl) 3 (.int .i64 0)).set hsl _ (Or.inr rfl) 4 (.string ⟨#[]⟩))
      have HR1 := Lib.hid (((((((Fx.refl _ wc).set 0 (.bool false)).set 0 (.bool false)).set 1 (.slice none 0 0)).set 2 (.slice none 0 0)).set 3 (.int .i64 0)).set 4 (.string ⟨#[]⟩) |>.heap HR.out (show w.heap.size + 1 ≠ w.heap.size + 1 + 1 by omega))
      clear hg
      go_upto_region 44 with (fail)
      generalize (((((wc.setCell ⟨w.heap.size + 1 + 1, 0, none⟩ (.bool false)).setCell ⟨w.heap.size + 1 + 1, 0, none⟩ (.bool false)).setCell ⟨w.heap.size + 1 + 1, 1, none⟩ (.slice none 0 0)).setCell ⟨w.heap.size + 1 + 1, 2, none⟩ (.slice none 0 0)).setCell ⟨w.heap.size + 1 + 1, 3, none⟩ (.int .i64 0)).setCell ⟨w.heap.size + 1 + 1, 4, none⟩ (.string ⟨#[]⟩) = X at *
      clear g0 g1 g2 g3 g4 y0 y1 y2 y3 y4 c1
      have hX := HG.out
      have hY := HR1.out
      have g0 := blk_cell hX 0; have g1 := blk_cell hX 1; have g2 := blk_cell hX 2; have g3 := blk_cell hX 3; have g4 := blk_cell hX 4
      have n0 := blk_cell hY 0; have n1 := blk_cell hY 1; have n2 := blk_cell hY 2; have n3 := blk_cell hY 3; have n4 := blk_cell hY 4
      have m0 := blk_free hY 0; have m1 := blk_free hY 1; have m2 := blk_free hY 2; have m3 := blk_free hY 3; have m4 := blk_free hY 4
      simp [zeroCs] at g0 g1 g2 g3 g4 n0 n1 n2 n3 n4
      clear hX hY
      go_wp2_with fail
      refine bodyPost_ret (v := zeroG) ?_ rfl ?_
      · simp [zeroG, results, Tryd.results25, go_sem, n0, n1, n2, n3, n4] <;> rfl
      · exact ((((((HM1.out).set hsl _ (Or.inl rfl) 0 _).set hsl _ (Or.inl rfl) 1 _).set hsl _ (Or.inl rfl) 2 _).set hsl _ (Or.inl rfl) 3 _).set hsl _ (Or.inl rfl) 4 _).no HP.out
end Go.Proofs.YtgkccbfepjgjoaaDoor
