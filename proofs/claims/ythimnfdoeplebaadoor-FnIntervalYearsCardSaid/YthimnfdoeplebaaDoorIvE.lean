/- The law FnIntervalYears: its own walk. -/
import Derived.Test.YthimnfdoeplebaaDoorIvD
namespace Go.Proofs.YthimnfdoeplebaaDoor
open Go Go.RowKit

def IvCells (w : World) (b : Nat) (y m : Int) : Prop := w.cell? ⟨b, 0, none⟩ = some (.bool false) ∧ w.cell? ⟨b, 1, none⟩ = some (.int .i64 0) ∧ w.cell? ⟨b, 2, none⟩ = some (.int .i64 0) ∧ w.cell? ⟨b, 3, none⟩ = some (.int .i64 0) ∧ w.cell? ⟨b, 4, none⟩ = some (.int .i64 0) ∧ w.cell? ⟨b, 5, none⟩ = some (.int .i64 0) ∧ w.cell? ⟨b, 6, none⟩ = some (.int .i64 y) ∧ w.cell? ⟨b, 7, none⟩ = some (.int .i64 m)
theorem IvCells.gr {w w' : World} {b : Nat} {y m : Int} (h : IvCells w b y m) (g : Gr w w') : IvCells w' b y m := by
  obtain ⟨h0, h1, h2, h3, h4, h5, h6, h7⟩ := h
  exact ⟨g.cell h0, g.cell h1, g.cell h2, g.cell h3, g.cell h4, g.cell h5, g.cell h6, g.cell h7⟩

theorem IvCells.all {w : World} {b : Nat} {y m : Int} (h : IvCells w b y m) : w.cell? ⟨b, 0, none⟩ = some (.bool false) ∧ w.cell? ⟨b, 1, none⟩ = some (.int .i64 0) ∧ w.cell? ⟨b, 2, none⟩ = some (.int .i64 0) ∧ w.cell? ⟨b, 3, none⟩ = some (.int .i64 0) ∧ w.cell? ⟨b, 4, none⟩ = some (.int .i64 0) ∧ w.cell? ⟨b, 5, none⟩ = some (.int .i64 0) ∧ w.cell? ⟨b, 6, none⟩ = some (.int .i64 y) ∧ w.cell? ⟨b, 7, none⟩ = some (.int .i64 m) := h

set_option maxRecDepth 100000 in
set_option maxHeartbeats 1000000 in
theorem law_years (p q : Int) (hp : 0 ≤ p ∧ p < 4294967296) (hq : 0 ≤ q ∧ q < 256) (w : World) (ht : Tab10 w) :
    Calls Tryd.prog 3 #[.int .u32 p, .int .u8 q] w fun e w' => e = .returned (.bool true) ∧ Gr w w' := by
  obtain ⟨y, hy⟩ : ∃ y : Nat, p % 1000000000 = (y : Int) := ⟨(p % 1000000000).toNat, by omega⟩
  obtain ⟨m, hm⟩ : ∃ m : Nat, q % 12 = (m : Int) := ⟨(q % 12).toNat, by omega⟩
  have hy1 : y < 1000000000 := by omega
  have hm1 : m < 12 := by omega
  have hy2 : IntKind.i64.wrap (y : Int) = y := by rw [IntKind.wrap_i64]; omega
  have hm2 : IntKind.i64.wrap (m : Int) = m := by rw [IntKind.wrap_i64]; omega
  obtain ⟨hp0, hp1⟩ := hp
  obtain ⟨hq0, hq1⟩ := hq
  have HB := fun w => Lib.hid (yearBytes y m hy1 hm1 w)
  have HT := fun w => Lib.hid (yearText y m hy1 hm1 w)
  have HI := fun v w h ht => Lib.hid (implYears y m hy1 hm1 v w h ht)
  have hyt : bs (43 :: (pad 2 (Lib.decDigits y) ++ 45 :: pad 2 (Lib.decDigits m))) = bs (yt y m) := rfl
  rw [hyt] at HT
  generalize bs (yt y m) = T at HT HI
  clear hyt hy1 hm1
  have HY := Lib.hid hy
  have HM := Lib.hid hm
  clear hy hm
  go_enter Tryd.func3, Tryd.ntmps3
  go_wp2
  rw [HY.out, HM.out]
  obtain ⟨W, hW⟩ : ∃ W, w.alloc (.cells #[.bool false, .int .i64 0, .int .i64 0, .int .i64 0, .int .i64 0, .int .i64 0, .int .i64 y, .int .i64 m] 24) = W := ⟨_, rfl⟩
  have hgW : Gr w W := by rw [← hW]; exact (Gr.refl w).alloc _
  have hC : IvCells W w.heap.size y m := by
    rw [← hW]
    have hb := heap_alloc_new w (.cells #[.bool false, .int .i64 0, .int .i64 0, .int .i64 0, .int .i64 0, .int .i64 0, .int .i64 y, .int .i64 m] 24)
    exact ⟨(blk_cell hb 0).trans rfl, (blk_cell hb 1).trans rfl, (blk_cell hb 2).trans rfl, (blk_cell hb 3).trans rfl, (blk_cell hb 4).trans rfl, (blk_cell hb 5).trans rfl, (blk_cell hb 6).trans rfl, (blk_cell hb 7).trans rfl⟩
  rw [hW]
  clear hW HY HM
  have htW := ht.gr hgW
  have hC2 := hC.all
  generalize hb : w.heap.size = b at hC hC2 ⊢
  go_region_held3 (fun w' => w'.cell? ⟨b, 0, none⟩ = some (.bool false) ∧ w'.cell? ⟨b, 1, none⟩ = some (.int .i64 0) ∧ w'.cell? ⟨b, 2, none⟩ = some (.int .i64 0) ∧ w'.cell? ⟨b, 3, none⟩ = some (.int .i64 0) ∧ w'.cell? ⟨b, 4, none⟩ = some (.int .i64 0) ∧ w'.cell? ⟨b, 5, none⟩ = some (.int .i64 0) ∧ w'.cell? ⟨b, 6, none⟩ = some (.int .i64 y) ∧ w'.cell? ⟨b, 7, none⟩ = some (.int .i64 m)) (first | go_keep | (with_reducible exact (hC.gr hG).all) | (with_reducible exact hC.all) | (with_reducible exact (hC.gr (Gr.refl W).drew).all))
    ((first
      | (go_at_call 15; refine (HB _).out.mono ?_; rintro e w1 ⟨u1, rfl, ho1, hg1⟩; have hG : Gr W w1 := Gr.trans (by with_reducible first | exact Gr.refl _ | exact (Gr.refl _).drew) hg1)
      | (go_at_call 14; refine (HI u1 _ ho1.rd (htW.gr hG)).out.mono ?_; rintro e w2 ⟨rfl, hg2⟩; have hG := hG.trans hg2)
      | (go_at_call 16; refine (HT _).out.mono ?_; rintro e w3 ⟨rfl, hg3⟩; have hG := hG.trans hg3)
      | (go_at_call 17; refine (live _ (htW.gr hG)).mono ?_; rintro e w4 ⟨rfl, hg4⟩; have hG := hG.trans hg4)))
  all_goals
    go_wp2_with fail
    go_ret
    exact ⟨rfl, hgW.trans hG⟩
end Go.Proofs.YthimnfdoeplebaaDoor
