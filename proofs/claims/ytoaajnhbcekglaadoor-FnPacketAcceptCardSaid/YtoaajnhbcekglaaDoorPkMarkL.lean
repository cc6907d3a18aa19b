/- FnPacketMarked: the walk of the law. -/
import Derived.Test.YtoaajnhbcekglaaDoorPkMark
namespace Go.Proofs.YtoaajnhbcekglaaDoor
open Go Go.RowKit

/-- A head that lies in a variable. -/
def HeadAt (w : World) (b : Nat) (u0 u1 u2 u3 : Value) : Prop := w.cell? ⟨b, 0, none⟩ = some u0 ∧ w.cell? ⟨b, 1, none⟩ = some u1 ∧ w.cell? ⟨b, 2, none⟩ = some u2 ∧ w.cell? ⟨b, 3, none⟩ = some u3
theorem HeadAt.gr {a w : World} {b : Nat} {u0 u1 u2 u3 : Value} (h : HeadAt a b u0 u1 u2 u3) (g : Gr a w) : HeadAt w b u0 u1 u2 u3 := ⟨g.cell h.1, g.cell h.2.1, g.cell h.2.2.1, g.cell h.2.2.2⟩
theorem HeadAt.st4 {w : World} {a : Nat} {z0 z1 z2 z3 : Value} {T : TypeId} {fr : Nat × Nat} (h : w.heap[a]? = some (.cells #[z0, z1, z2, z3] T fr)) (u0 u1 u2 u3 : Value) :
    HeadAt ((((w.setCell ⟨a, 0, none⟩ u0).setCell ⟨a, 1, none⟩ u1).setCell ⟨a, 2, none⟩ u2).setCell ⟨a, 3, none⟩ u3) a u0 u1 u2 u3 := by
  have h4 := blk_set (blk_set (blk_set (blk_set h 0 u0) 1 u1) 2 u2) 3 u3
  exact ⟨(blk_cell h4 0).trans rfl, (blk_cell h4 1).trans rfl, (blk_cell h4 2).trans rfl, (blk_cell h4 3).trans rfl⟩
theorem HeadAt.new (w : World) (u0 u1 u2 u3 : Value) (T : TypeId) (fr : Nat × Nat) : HeadAt (w.alloc (.cells #[u0, u1, u2, u3] T fr)) w.heap.size u0 u1 u2 u3 := by
  have h4 := heap_alloc_new w (.cells #[u0, u1, u2, u3] T fr)
  exact ⟨(blk_cell h4 0).trans rfl, (blk_cell h4 1).trans rfl, (blk_cell h4 2).trans rfl, (blk_cell h4 3).trans rfl⟩

set_option maxHeartbeats 1000000 in
theorem law_marked_yes (c : Ctx) (v : Value) (xs : List Int) (w : World) (h : Rd w v xs) (h11 : xs.length = 11) (h4 : xs.getD 4 0 = 12) :
    Calls Tryd.prog 7 #[c.val, v] w fun e w' => e = .returned (.bool true) ∧ Gr w w' := by
  have HM := fun v w => Lib.hid (impl_MarkerRead_some c xs v w)
  have HL := fun w => Lib.hid (specLong c w)
  unfold Ctx.val at HM HL ⊢
  have H := Lib.hid h
  obtain ⟨b, o, cp, rfl, hc, hm, hr⟩ := h.at' (by omega)
  rw [h11] at hc
  have HO := fun w (h : RdAt w b o xs) => Lib.hid (specHeadOf (c.done && decide (315 ≤ c.ver)) 0 b o 11 cp xs w h h11 (by omega) hc)
  have hlen : (if (c.done && decide (315 ≤ c.ver)) = true then nat4 xs else nat2 xs) = lenOf c xs := rfl
  rw [hlen] at HO
  generalize hlong : (c.done && decide (315 ≤ c.ver)) = long at HL HO
  have k4 := hr.cell 4 (by omega)
  have k10 := hr.cell 10 (by omega)
  rw [h4] at k4 HO
  have HM := fun v w h => (HM v w).out h h11 h4
  have HM := fun v w h => Lib.hid (HM v w h)
  generalize xs.getD 5 0 = fl at HM HO
  generalize xs.getD 10 0 = kk at HM k10
  generalize lenOf c xs = len at HM HO
  have i4 : (4 : Int) < (11 : Nat) := by omega
  have i10 : (10 : Int) < (11 : Nat) := by omega
  rw [h11] at H ⊢
  have HX := Lib.hid h11
  clear hlong hlen h h11 h4 hm
  go_enter Tryd.func7, Tryd.ntmps7
  go_wp2_with fail
  obtain ⟨W0, hW0⟩ : ∃ W0, w.alloc (.cells #[.int .u16 c.ver, .int .u16 c.lo, .int .u16 c.opt, .int .u16 c.our, .int .u16 c.his, .int .u8 c.a0, .int .u8 c.a1, .int .u32 c.sdu, .int .u32 c.tdu, .bool c.done] 25) = W0 := ⟨_, rfl⟩
  rw [hW0]
  have hcx : CtxIn W0 w.heap.size c := by rw [← hW0]; exact heap_alloc_new w _
  have hgw0 : Gr w W0 := by rw [← hW0]; exact (Gr.refl w).alloc _
  clear hW0
  have k4 := hgw0.cell k4
  have k10 := hgw0.cell k10
  have hxl := hcx.lt
  have hbl := World.block_lt_of_cell? W0 _ k4
  have HR := Lib.hid (hr.gr hgw0)
  have HHH := Lib.hid (H.out.gr hgw0)
  obtain ⟨x0, x1, x2, x3, x4, x5, x6, x7, x8, x9, xb⟩ := hcx.cells
  go_cut [5, 6, 7] from 15 to 23 (fun p k ok wc => (∃ B, p = .pointer (some ⟨B, 0, none⟩) ∧ HeadAt wc B (.int .u32 len) (.int .u8 12) (.int .u8 fl) (.int .u16 0)) ∧ k = .int .u8 kk ∧ ok = .bool true ∧ Gr W0 wc)
  case first =>
    go_region_held3 (fun w' => w'.cell? ⟨w.heap.size, 0, none⟩ = some (.int .u16 c.ver) ∧ w'.cell? ⟨w.heap.size, 1, none⟩ = some (.int .u16 c.lo) ∧ w'.cell? ⟨w.heap.size, 2, none⟩ = some (.int .u16 c.opt) ∧ w'.cell? ⟨w.heap.size, 3, none⟩ = some (.int .u16 c.our) ∧ w'.cell? ⟨w.heap.size, 4, none⟩ = some (.int .u16 c.his) ∧ w'.cell? ⟨w.heap.size, 5, none⟩ = some (.int .u8 c.a0) ∧ w'.cell? ⟨w.heap.size, 6, none⟩ = some (.int .u8 c.a1) ∧ w'.cell? ⟨w.heap.size, 7, none⟩ = some (.int .u32 c.sdu) ∧ w'.cell? ⟨w.heap.size, 8, none⟩ = some (.int .u32 c.tdu) ∧ w'.cell? ⟨w.heap.size, 9, none⟩ = some (.bool c.done))
      (first | (with_reducible exact (hcx.gr hG).ten) | (with_reducible exact ((hcx.gr hG).gr ((Gr.refl _).alloc _)).ten) | (with_reducible exact (hcx.gr (Gr.refl W0).drew).ten) | (with_reducible exact (hcx.gr ((Gr.refl W0).alloc _).drew).ten) | (with_reducible exact ((hcx.gr hG).st4 (Nat.ne_of_lt hcx.lt) _ _ _ _).ten) | (with_reducible exact ((hcx.gr hG).st4 (Nat.ne_of_lt (hcx.gr hGa).lt) _ _ _ _).ten))
      ((first
        | (go_at_call 16; go_must (refine (clone _ xs _ (HHH.out.gr (by with_reducible first | exact Gr.refl _ | exact (Gr.refl _).alloc _ | exact (Gr.refl _).drew | exact ((Gr.refl _).alloc _).drew)) (by rw [HX.out]; omega)).mono ?_); rintro e w2 ⟨u2, rfl, ho2, hg2⟩; have hG : Gr W0 w2 := Gr.trans (by with_reducible first | exact Gr.refl _ | exact (Gr.refl _).alloc _ | exact (Gr.refl _).drew | exact ((Gr.refl _).alloc _).drew) hg2; try (have hz := hg2.heap (show ((W0.alloc _).drew).heap[W0.heap.size]? = some _ from heap_alloc_new W0 _)))
        | (go_at_call 19; go_must (refine ((HM _ _ (ho2.rd.gr (by with_reducible first | exact Gr.refl _ | exact (Gr.refl _).alloc _ | exact (Gr.refl _).drew | exact ((Gr.refl _).alloc _).drew))).out).mono ?_); rintro e w3 ⟨rfl, hg3⟩; have hGa := hG; have hG : Gr W0 w3 := hG.trans (Gr.trans (by with_reducible first | exact Gr.refl _ | exact (Gr.refl _).alloc _ | exact (Gr.refl _).drew | exact ((Gr.refl _).alloc _).drew) hg3); try (first | (have hz := hg3.heap hz) | (have hz := hg3.heap (heap_alloc_new w2 _))); try (have z0 := blk_cell hz 0; have z1 := blk_cell hz 1; have z2 := blk_cell hz 2; have z3 := blk_cell hz 3; have y0 := blk_free hz 0; have y1 := blk_free hz 1; have y2 := blk_free hz 2; have y3 := blk_free hz 3))))
    all_goals
      have s2 := hg2.size
      have s3 := hg3.size
      have sa : W0.heap.size ≤ w2.heap.size := hGa.size
      go_wp2_with fail
      go_meet
      case rel =>
        first
          | (with_reducible exact ⟨⟨_, rfl, HeadAt.st4 hz _ _ _ _⟩, rfl, rfl, hG.st4 (Nat.le_refl _) _ _ _ _⟩)
          | (with_reducible exact ⟨⟨_, rfl, HeadAt.st4 hz _ _ _ _⟩, rfl, rfl, hG.st4 sa _ _ _ _⟩)
          | (with_reducible exact ⟨⟨_, rfl, HeadAt.new _ _ _ _ _ _ _⟩, rfl, rfl, hG.alloc _⟩)
  case rest =>
    obtain ⟨⟨B, rfl, hHd⟩, rfl, rfl, hgc⟩ := hcut
    have hcx := hcx.gr hgc
    have k4 := hgc.cell k4
    have k10 := hgc.cell k10
    obtain ⟨hh0, hh1, hh2, hh3⟩ := id hHd
    obtain ⟨x0, x1, x2, x3, x4, x5, x6, x7, x8, x9, xb⟩ := hcx.cells
    go_wp2_with fail
    have hkeep : ∀ w', Gr wc w' → ((w'.cell? ⟨w.heap.size, 0, none⟩ = some (.int .u16 c.ver) ∧ w'.cell? ⟨w.heap.size, 1, none⟩ = some (.int .u16 c.lo) ∧ w'.cell? ⟨w.heap.size, 2, none⟩ = some (.int .u16 c.opt) ∧ w'.cell? ⟨w.heap.size, 3, none⟩ = some (.int .u16 c.our) ∧ w'.cell? ⟨w.heap.size, 4, none⟩ = some (.int .u16 c.his) ∧ w'.cell? ⟨w.heap.size, 5, none⟩ = some (.int .u8 c.a0) ∧ w'.cell? ⟨w.heap.size, 6, none⟩ = some (.int .u8 c.a1) ∧ w'.cell? ⟨w.heap.size, 7, none⟩ = some (.int .u32 c.sdu) ∧ w'.cell? ⟨w.heap.size, 8, none⟩ = some (.int .u32 c.tdu) ∧ w'.cell? ⟨w.heap.size, 9, none⟩ = some (.bool c.done)) ∧ (w'.cell? ⟨B, 0, none⟩ = some (.int .u32 len) ∧ w'.cell? ⟨B, 1, none⟩ = some (.int .u8 12) ∧ w'.cell? ⟨B, 2, none⟩ = some (.int .u8 fl) ∧ w'.cell? ⟨B, 3, none⟩ = some (.int .u16 0)) ∧ w'.cell? ⟨b, o + 10, none⟩ = some (.int .u8 kk)) := fun w' g => ⟨(hcx.gr g).ten, hHd.gr g, g.cell k10⟩
    clear x0 x1 x2 x3 x4 x5 x6 x7 x8 x9 hh0 hh1 hh2 hh3
    go_region_held3 (fun w' => (w'.cell? ⟨w.heap.size, 0, none⟩ = some (.int .u16 c.ver) ∧ w'.cell? ⟨w.heap.size, 1, none⟩ = some (.int .u16 c.lo) ∧ w'.cell? ⟨w.heap.size, 2, none⟩ = some (.int .u16 c.opt) ∧ w'.cell? ⟨w.heap.size, 3, none⟩ = some (.int .u16 c.our) ∧ w'.cell? ⟨w.heap.size, 4, none⟩ = some (.int .u16 c.his) ∧ w'.cell? ⟨w.heap.size, 5, none⟩ = some (.int .u8 c.a0) ∧ w'.cell? ⟨w.heap.size, 6, none⟩ = some (.int .u8 c.a1) ∧ w'.cell? ⟨w.heap.size, 7, none⟩ = some (.int .u32 c.sdu) ∧ w'.cell? ⟨w.heap.size, 8, none⟩ = some (.int .u32 c.tdu) ∧ w'.cell? ⟨w.heap.size, 9, none⟩ = some (.bool c.done)) ∧ (w'.cell? ⟨B, 0, none⟩ = some (.int .u32 len) ∧ w'.cell? ⟨B, 1, none⟩ = some (.int .u8 12) ∧ w'.cell? ⟨B, 2, none⟩ = some (.int .u8 fl) ∧ w'.cell? ⟨B, 3, none⟩ = some (.int .u16 0)) ∧ w'.cell? ⟨b, o + 10, none⟩ = some (.int .u8 kk)) (first | (with_reducible exact hkeep _ hG) | (with_reducible exact hkeep _ (Gr.refl wc).drew) | (with_reducible exact hkeep _ (Gr.refl wc)))
      ((first
        | (go_at_call 21; go_must (refine (HL _).out.mono ?_); rintro e w2 ⟨rfl, hg2⟩; have hG : Gr wc w2 := Gr.trans (by with_reducible first | exact Gr.refl _ | exact (Gr.refl _).drew) hg2)
        | (go_at_call 20; go_must (refine ((HO _ (HR.out.gr (hgc.trans hG)))).out.mono ?_); rintro e w3 ⟨rfl, hg3⟩; have hG := hG.trans hg3)
        | (go_at_call 10; go_must (refine (packetAwake _).mono ?_); rintro e w4 ⟨rfl, hg4⟩; have hG := hG.trans hg4)))
    all_goals
      go_wp2_with fail
      go_ret
      exact ⟨rfl, (hgw0.trans hgc).trans hG⟩

set_option maxHeartbeats 1000000 in
theorem law_marked_no (c : Ctx) (v : Value) (xs : List Int) (w : World) (h : Rd w v xs) (hl : xs.length ≤ 1000) (hno : xs.length ≠ 11 ∨ (xs.length = 11 ∧ xs.getD 4 0 ≠ 12)) :
    Calls Tryd.prog 7 #[c.val, v] w fun e w' => e = .returned (.bool true) ∧ Gr w w' := by
  have HM := fun v w h => Lib.hid (impl_MarkerRead_nil c xs v w h (by omega) (by rcases hno with h | h; exact .inl h; exact .inr h.2))
  unfold Ctx.val at HM ⊢
  have H := Lib.hid h
  have hadr : 0 < xs.length → ∃ b o cp, v = .slice (some ⟨b, o, none⟩) xs.length cp ∧ xs.length ≤ cp ∧ cp ≤ maxLen ∧ RdAt w b o xs := fun hn => h.at' hn
  obtain ⟨p, cp, rfl, _⟩ := h
  have i4 : xs.length = 11 → (4 : Int) < (11 : Nat) := fun _ => by omega
  obtain ⟨n, hn⟩ : ∃ n, xs.length = n := ⟨_, rfl⟩
  have HX := Lib.hid hn
  rw [hn] at H hl hno ⊢
  have hf : n ≠ 11 ∨ (n = 11 ∧ ∃ b o t, p = some ⟨b, o, none⟩ ∧ w.cell? ⟨b, o + 4, none⟩ = some (.int .u8 t) ∧ t ≠ 12) := by
    rcases hno with h1 | ⟨h1, h2⟩
    · exact .inl h1
    · obtain ⟨b, o, cp', e, _, _, hr⟩ := hadr (by omega)
      injection e with e1 _ _
      exact .inr ⟨h1, b, o, _, e1, hr.cell 4 (by omega), h2⟩
  clear hno hadr hn i4
  go_enter Tryd.func7, Tryd.ntmps7
  go_wp2_with fail
  obtain ⟨W0, hW0⟩ : ∃ W0, w.alloc (.cells #[.int .u16 c.ver, .int .u16 c.lo, .int .u16 c.opt, .int .u16 c.our, .int .u16 c.his, .int .u8 c.a0, .int .u8 c.a1, .int .u32 c.sdu, .int .u32 c.tdu, .bool c.done] 25) = W0 := ⟨_, rfl⟩
  rw [hW0]
  have hcx : CtxIn W0 w.heap.size c := by rw [← hW0]; exact heap_alloc_new w _
  have hgw0 : Gr w W0 := by rw [← hW0]; exact (Gr.refl w).alloc _
  clear hW0
  have hxl := hcx.lt
  have HHH := Lib.hid (H.out.gr hgw0)
  obtain ⟨x0, x1, x2, x3, x4, x5, x6, x7, x8, x9, xb⟩ := hcx.cells
  go_cut [5, 6, 7] from 15 to 23 (fun _ _ ok wc => ok = .bool false ∧ Gr W0 wc)
  case first =>
    go_region_held3 (fun w' => w'.cell? ⟨w.heap.size, 0, none⟩ = some (.int .u16 c.ver) ∧ w'.cell? ⟨w.heap.size, 1, none⟩ = some (.int .u16 c.lo) ∧ w'.cell? ⟨w.heap.size, 2, none⟩ = some (.int .u16 c.opt) ∧ w'.cell? ⟨w.heap.size, 3, none⟩ = some (.int .u16 c.our) ∧ w'.cell? ⟨w.heap.size, 4, none⟩ = some (.int .u16 c.his) ∧ w'.cell? ⟨w.heap.size, 5, none⟩ = some (.int .u8 c.a0) ∧ w'.cell? ⟨w.heap.size, 6, none⟩ = some (.int .u8 c.a1) ∧ w'.cell? ⟨w.heap.size, 7, none⟩ = some (.int .u32 c.sdu) ∧ w'.cell? ⟨w.heap.size, 8, none⟩ = some (.int .u32 c.tdu) ∧ w'.cell? ⟨w.heap.size, 9, none⟩ = some (.bool c.done))
      (first | (with_reducible exact (hcx.gr hG).ten) | (with_reducible exact ((hcx.gr hG).gr ((Gr.refl _).alloc _)).ten) | (with_reducible exact (hcx.gr (Gr.refl W0).drew).ten) | (with_reducible exact (hcx.gr ((Gr.refl W0).alloc _).drew).ten) | (with_reducible exact ((hcx.gr hG).st4 (Nat.ne_of_lt hcx.lt) _ _ _ _).ten) | (with_reducible exact ((hcx.gr hG).st4 (Nat.ne_of_lt (hcx.gr hGa).lt) _ _ _ _).ten))
      ((first
        | (go_at_call 16; go_must (refine (clone _ xs _ (HHH.out.gr (by with_reducible first | exact Gr.refl _ | exact (Gr.refl _).alloc _ | exact (Gr.refl _).drew | exact ((Gr.refl _).alloc _).drew)) (by rw [HX.out]; omega)).mono ?_); rintro e w2 ⟨u2, rfl, ho2, hg2⟩; have hG : Gr W0 w2 := Gr.trans (by with_reducible first | exact Gr.refl _ | exact (Gr.refl _).alloc _ | exact (Gr.refl _).drew | exact ((Gr.refl _).alloc _).drew) hg2; try (have hz := hg2.heap (show ((W0.alloc _).drew).heap[W0.heap.size]? = some _ from heap_alloc_new W0 _)))
        | (go_at_call 19; go_must (refine ((HM _ _ (ho2.rd.gr (by with_reducible first | exact Gr.refl _ | exact (Gr.refl _).alloc _ | exact (Gr.refl _).drew | exact ((Gr.refl _).alloc _).drew))).out).mono ?_); rintro e w3 ⟨rfl, hg3⟩; have hGa := hG; have hG : Gr W0 w3 := hG.trans (Gr.trans (by with_reducible first | exact Gr.refl _ | exact (Gr.refl _).alloc _ | exact (Gr.refl _).drew | exact ((Gr.refl _).alloc _).drew) hg3); try (first | (have hz := hg3.heap hz) | (have hz := hg3.heap (heap_alloc_new w2 _))); try (have z0 := blk_cell hz 0; have z1 := blk_cell hz 1; have z2 := blk_cell hz 2; have z3 := blk_cell hz 3; have y0 := blk_free hz 0; have y1 := blk_free hz 1; have y2 := blk_free hz 2; have y3 := blk_free hz 3))))
    all_goals
      have s2 := hg2.size
      have s3 := hg3.size
      have sa : W0.heap.size ≤ w2.heap.size := hGa.size
      go_wp2_with fail
      go_meet
      case rel =>
        first
          | (with_reducible exact ⟨rfl, hG.st4 (Nat.le_refl _) _ _ _ _⟩)
          | (with_reducible exact ⟨rfl, hG.st4 sa _ _ _ _⟩)
          | (with_reducible exact ⟨rfl, hG.alloc _⟩)
  case rest =>
    obtain ⟨rfl, hgc⟩ := hcut
    clear x0 x1 x2 x3 x4 x5 x6 x7 x8 x9
    rcases hf with hf | ⟨rfl, b, o, t, rfl, k4, ht⟩
    · go_wp2_with (first | (go_at_call 10; go_must (refine (packetAwake _).mono ?_); rintro e w4 ⟨rfl, hg4⟩))
      go_ret
      exact ⟨rfl, (hgw0.trans hgc).trans hg4⟩
    · have k4 := (hgw0.trans hgc).cell k4
      have i4 : (4 : Int) < (11 : Nat) := by omega
      go_wp2_with (first | (go_at_call 10; go_must (refine (packetAwake _).mono ?_); rintro e w4 ⟨rfl, hg4⟩))
      go_ret
      exact ⟨rfl, (hgw0.trans hgc).trans hg4⟩

theorem law_marked (c : Ctx) (v : Value) (xs : List Int) (w : World) (h : Rd w v xs) :
    Calls Tryd.prog 7 #[c.val, v] w fun e w' => e = .returned (.bool true) ∧ Gr w w' := by
  by_cases h1 : xs.length ≤ 1000
  · by_cases h11 : xs.length = 11
    · by_cases h4 : xs.getD 4 0 = 12
      · exact law_marked_yes c v xs w h h11 h4
      · exact law_marked_no c v xs w h h1 (.inr ⟨h11, h4⟩)
    · exact law_marked_no c v xs w h h1 (.inl h11)
  · obtain ⟨p, cp, rfl, _⟩ := h
    unfold Ctx.val
    by_cases h2 : 2147483647 < xs.length
    · go_enter Tryd.func7, Tryd.ntmps7
      go_wp2_with fail
      go_ret
      exact ⟨rfl, (Gr.refl w).alloc _⟩
    · go_enter Tryd.func7, Tryd.ntmps7
      go_wp2_with (first | (go_at_call 10; refine (packetAwake _).mono ?_; rintro e w4 ⟨rfl, hg4⟩))
      go_ret
      exact ⟨rfl, Gr.trans ((Gr.refl w).alloc _) hg4⟩
end Go.Proofs.YtoaajnhbcekglaaDoor
