/- FnPacketParts: the walk. -/
import Derived.Test.YtoaajnhbcekglaaDoorPkNest
import Derived.Deep.AppendLies
import Derived.Deep.CutRange
namespace Go.Proofs.YtoaajnhbcekglaaDoor
open Go Go.RowKit

theorem CtxIn.lt {w : World} {b : Nat} {c : Ctx} (h : CtxIn w b c) : b < w.heap.size := lt_of_some h
theorem CtxIn.set {w : World} {b : Nat} {c : Ctx} (h : CtxIn w b c) {p : Addr} (hp : b ≠ p.block) (u : Value) : CtxIn (w.setCell p u) b c := (Below.heap_setCell w p u b hp).trans h
theorem CtxIn.st4 {w : World} {b : Nat} {c : Ctx} (h : CtxIn w b c) {a : Nat} (hp : b ≠ a) (u0 u1 u2 u3 : Value) : CtxIn ((((w.setCell ⟨a, 0, none⟩ u0).setCell ⟨a, 1, none⟩ u1).setCell ⟨a, 2, none⟩ u2).setCell ⟨a, 3, none⟩ u3) b c :=
  (((h.set hp u0).set hp u1).set hp u2).set hp u3
theorem CtxIn.ten {w : World} {b : Nat} {c : Ctx} (h : CtxIn w b c) : w.cell? ⟨b, 0, none⟩ = some (.int .u16 c.ver) ∧ w.cell? ⟨b, 1, none⟩ = some (.int .u16 c.lo) ∧ w.cell? ⟨b, 2, none⟩ = some (.int .u16 c.opt) ∧ w.cell? ⟨b, 3, none⟩ = some (.int .u16 c.our) ∧ w.cell? ⟨b, 4, none⟩ = some (.int .u16 c.his) ∧ w.cell? ⟨b, 5, none⟩ = some (.int .u8 c.a0) ∧ w.cell? ⟨b, 6, none⟩ = some (.int .u8 c.a1) ∧ w.cell? ⟨b, 7, none⟩ = some (.int .u32 c.sdu) ∧ w.cell? ⟨b, 8, none⟩ = some (.int .u32 c.tdu) ∧ w.cell? ⟨b, 9, none⟩ = some (.bool c.done) := by
  obtain ⟨x0, x1, x2, x3, x4, x5, x6, x7, x8, x9, _⟩ := h.cells
  exact ⟨x0, x1, x2, x3, x4, x5, x6, x7, x8, x9⟩

theorem Own.st4 {B : Nat} {w : World} {v : Value} {xs : List Int} (h : Own B w v xs) {a : Nat} (ha : a < B) (u0 u1 u2 u3 : Value) : Own B ((((w.setCell ⟨a, 0, none⟩ u0).setCell ⟨a, 1, none⟩ u1).setCell ⟨a, 2, none⟩ u2).setCell ⟨a, 3, none⟩ u3) v xs :=
  (((h.store_far ha u0).store_far ha u1).store_far ha u2).store_far ha u3
theorem Gr.st4 {w0 w : World} (h : Gr w0 w) {a : Nat} (ha : w0.heap.size ≤ a) (u0 u1 u2 u3 : Value) : Gr w0 ((((w.setCell ⟨a, 0, none⟩ u0).setCell ⟨a, 1, none⟩ u1).setCell ⟨a, 2, none⟩ u2).setCell ⟨a, 3, none⟩ u3) :=
  (((h.setCell ha u0).setCell ha u1).setCell ha u2).setCell ha u3

/-- A slice's length: for a loop's measure. -/
def lenV : Value → Nat | .slice _ n _ => n | _ => 0

/-- append of bytes, as a step of a region that draws its order. -/
theorem step_append_gr {P : Program} {w0 w : World} {ops : Array Oper} {o : Oper} {a : Act} {K : Act → World → Prop} {Q : Exit → Act → World → Prop} {E : Prop} {t : TypeId} (L : U8 P t) (hgd : o.guard = none) (s x : Operand)
    (ho : o.op = .call { callee := .builtin .append, args := #[s, x], argTypes := #[t, t] }) (hw : Gr w0 w) {v : Value} {xs : List Int} (hs : a.eval s = v) (hown : Own w0.heap.size w v xs)
    {u : Value} {ys : List Int} (hx : a.eval x = u) (hr : Rd w u ys) (hlim : xs.length + ys.length ≤ 140737488355328)
    (h : ∀ v' w', Own w0.heap.size w' v' (xs ++ ys) → Gr w0 w' → K (a.put o.dst v') w') :
    if Region.wanted o (yielded ops a.tmps) = true then Oper.wp P o a w K Q else E := by
  have hwd : Region.wanted o (yielded ops a.tmps) = true := by simp [Region.wanted, hgd]
  rw [if_pos hwd]
  exact wp_append_bytes L s x ho hs hown hx hr hlim hw.size fun v' w' h2 h3 _ => h v' w' h2 (hw.grown h3 hown.row)

set_option maxHeartbeats 1000000 in
theorem law_parts_main (c : Ctx) (v : Value) (xs : List Int) (unit : Int) (w : World) (h : Rd w v xs) (hl : xs.length ≤ 2000) (hd : 0 ≤ unit ∧ unit < 256) :
    Calls Tryd.prog 6 #[c.val, v, .int .u8 unit] w fun e w' => e = .returned (.bool true) ∧ Gr w w' := by
  obtain ⟨K, hK⟩ : ∃ K : Nat, 1 + unit = (K : Int) := ⟨(1 + unit).toNat, by omega⟩
  have hK1 : 1 ≤ K := by omega
  have hK2 : K ≤ 256 := by omega
  have HK := Lib.hid hK
  have HB := fun v xs w => Lib.hid (impl_DataBytes c v xs w)
  have HR := fun v xs w => Lib.hid (impl_DataRead c xs v w)
  unfold Ctx.val at HB HR ⊢
  generalize hlong : (c.done && decide (315 ≤ c.ver)) = long at HB
  have H := Lib.hid h
  have hrest0 : Rd w v (xs.drop 0) := h
  obtain ⟨p, cp, rfl, _⟩ := h
  have HR0 := Lib.hid hrest0
  clear hK hlong hrest0
  have hd1 := hd.1
  have hd2 := hd.2
  clear hd
  go_enter Tryd.func6, Tryd.ntmps6
  go_wp2_with fail
  rw [HK.out]
  obtain ⟨W0, hW0⟩ : ∃ W0, w.alloc (.cells #[.int .u16 c.ver, .int .u16 c.lo, .int .u16 c.opt, .int .u16 c.our, .int .u16 c.his, .int .u8 c.a0, .int .u8 c.a1, .int .u32 c.sdu, .int .u32 c.tdu, .bool c.done] 25) = W0 := ⟨_, rfl⟩
  rw [hW0]
  have hc0 : CtxIn W0 w.heap.size c := by rw [← hW0]; exact heap_alloc_new w _
  have hgw0 : Gr w W0 := by rw [← hW0]; exact (Gr.refl w).alloc _
  clear hW0
  have HC0 := Lib.hid hc0
  have HGW := Lib.hid hgw0
  clear hc0 hgw0
  go_loopw [8, 9] (fun g r wr => ∃ m : Nat, m ≤ xs.length ∧ Own W0.heap.size wr g (xs.take m) ∧ Rd W0 r (xs.drop m) ∧ Gr W0 wr) (fun _ r _ => lenV r)
  case atStart => exact ⟨0, Nat.zero_le _, Own.nil _ _, HR0.out.gr HGW.out, Gr.refl _⟩
  case round =>
    obtain ⟨m, hm, hown, hrest, hgr⟩ := hrel
    have hcx := HC0.out.gr hgr
    obtain ⟨x0, x1, x2, x3, x4, x5, x6, x7, x8, x9, xb⟩ := hcx.cells
    by_cases hlt : m < xs.length
    · obtain ⟨b, o, c9, rfl, hc9, hm9, hat⟩ := hrest.at' (by rw [List.length_drop]; omega)
      obtain ⟨L, hL⟩ : ∃ L, (xs.drop m).length = L := ⟨_, rfl⟩
      obtain ⟨n, hn⟩ : ∃ n : Nat, min (K : Int) (L : Int) = (n : Int) := ⟨min K L, by omega⟩
      rw [hL] at hc9 ⊢
      have hL0 : 0 < L := by rw [← hL, List.length_drop]; omega
      have hn1 : 1 ≤ n := by omega
      have hn2 : n ≤ L := by omega
      have hcm : c9 ≤ 9223372036854775807 := by simp only [maxLen] at hm9; omega
      have HLm := Lib.hid hL
      clear hL
      have htk : Rd wr (.slice (some ⟨b, o, none⟩) n c9) ((xs.drop m).take n) := ((hat.take n).gr hgr).rd (by rw [List.length_take, HLm.out]; omega) (by omega) hm9
      have hlt2 : ((xs.drop m).take n).length ≤ 2000 := by rw [List.length_take, List.length_drop]; omega
      have i0 : (0 : Int) ≤ (n : Nat) := by omega
      have i1 : ((n : Nat) : Int) ≤ (c9 : Nat) := by omega
      go_wp2_with fail
      clear x0 x1 x2 x3 x4 x5 x6 x7 x8 x9
      go_cut [11, 12, 13, 14] from 26 to 53 (fun _ _ u ok wc => Rd wc u ((xs.drop m).take n) ∧ ok = .bool true ∧ Gr wr wc)
      case first =>
        go_region_held3 (fun w' => w'.cell? ⟨w.heap.size, 0, none⟩ = some (.int .u16 c.ver) ∧ w'.cell? ⟨w.heap.size, 1, none⟩ = some (.int .u16 c.lo) ∧ w'.cell? ⟨w.heap.size, 2, none⟩ = some (.int .u16 c.opt) ∧ w'.cell? ⟨w.heap.size, 3, none⟩ = some (.int .u16 c.our) ∧ w'.cell? ⟨w.heap.size, 4, none⟩ = some (.int .u16 c.his) ∧ w'.cell? ⟨w.heap.size, 5, none⟩ = some (.int .u8 c.a0) ∧ w'.cell? ⟨w.heap.size, 6, none⟩ = some (.int .u8 c.a1) ∧ w'.cell? ⟨w.heap.size, 7, none⟩ = some (.int .u32 c.sdu) ∧ w'.cell? ⟨w.heap.size, 8, none⟩ = some (.int .u32 c.tdu) ∧ w'.cell? ⟨w.heap.size, 9, none⟩ = some (.bool c.done)) (first | (with_reducible exact (hcx.gr hG).ten) | (with_reducible exact ((hcx.gr hG).gr ((Gr.refl _).alloc _)).ten) | (with_reducible exact (hcx.gr (Gr.refl wr).drew).ten) | (with_reducible exact (hcx.gr ((Gr.refl wr).alloc _).drew).ten) | (with_reducible exact ((hcx.gr hG).st4 (Nat.ne_of_lt hcx.lt) _ _ _ _).ten) | (with_reducible exact ((hcx.gr hG).st4 (Nat.ne_of_lt (hcx.gr hGa).lt) _ _ _ _).ten) | (with_reducible exact ((hcx.gr hG).st4 (Nat.ne_of_lt (hcx.gr hGb).lt) _ _ _ _).ten))
          ((first
            | (go_at_call 16; go_must (refine (clone _ ((xs.drop m).take n) _ (htk.gr (by first | exact Gr.refl _ | exact (Gr.refl _).alloc _ | exact (Gr.refl _).drew | exact ((Gr.refl _).alloc _).drew)) (by omega)).mono ?_); rintro e w2 ⟨u2, rfl, ho2, hg2⟩; have hG : Gr wr w2 := Gr.trans (by first | exact Gr.refl _ | exact (Gr.refl _).alloc _ | exact (Gr.refl _).drew | exact ((Gr.refl _).alloc _).drew) hg2; try (have hz := hg2.heap (show ((wr.alloc _).drew).heap[wr.heap.size]? = some _ from heap_alloc_new wr _)))
            | (go_at_call 17; go_must (refine ((HB _ _ _).out (ho2.rd.gr (by first | exact Gr.refl _ | exact (Gr.refl _).alloc _ | exact (Gr.refl _).drew | exact ((Gr.refl _).alloc _).drew)) (by omega)).mono ?_); rintro e w3 ⟨u3, rfl, ho3, hg3⟩; have hGa := hG; have hG : Gr wr w3 := hG.trans (Gr.trans (by first | exact Gr.refl _ | exact (Gr.refl _).alloc _ | exact (Gr.refl _).drew | exact ((Gr.refl _).alloc _).drew) hg3); try (first | (have hz := hg3.heap hz) | (have hz := hg3.heap (heap_alloc_new w2 _))))
            | (go_at_call 18; go_must (refine ((HR _ _ _).out (ho3.rd.gr (by first | exact Gr.refl _ | exact (Gr.refl _).alloc _ | exact (Gr.refl _).drew | exact ((Gr.refl _).alloc _).drew)) (by rw [dataL_length]; omega) (by rw [dataL_length]; omega) (dataL_type _ _ _ _ _ _)).mono ?_); rintro e w4 ⟨u4, rfl, ho4, hg4⟩; have hGb := hG; have hG : Gr wr w4 := hG.trans (Gr.trans (by first | exact Gr.refl _ | exact (Gr.refl _).alloc _ | exact (Gr.refl _).drew | exact ((Gr.refl _).alloc _).drew) hg4); try (first | (have hz := hg4.heap hz) | (have hz := hg4.heap (heap_alloc_new w3 _))); try (have z0 := blk_cell hz 0; have z1 := blk_cell hz 1; have z2 := blk_cell hz 2; have z3 := blk_cell hz 3; have y0 := blk_free hz 0; have y1 := blk_free hz 1; have y2 := blk_free hz 2; have y3 := blk_free hz 3))))
        all_goals
          have hds : (dataL long (((xs.drop m).take n).length + 10) 6 0 0 ((xs.drop m).take n)).drop 10 = (xs.drop m).take n := dataL_drop _ _ _ _ _ _
          rw [hds] at ho4
          have s2 := hg2.size
          have s3 := hg3.size
          have s4 := hg4.size
          have sa : wr.heap.size ≤ w2.heap.size := hGa.size
          have sb : wr.heap.size ≤ w3.heap.size := hGb.size
          simp at s2 s3 s4
          go_wp2_with fail
          go_meet
          case rel =>
            first
              | (with_reducible exact ⟨(ho4.st4 (a := wr.heap.size) (by first | omega | (simp; omega) | simp) _ _ _ _).rd, rfl, hG.st4 (Nat.le_refl _) _ _ _ _⟩)
              | (with_reducible exact ⟨(ho4.st4 (a := w2.heap.size) (by first | omega | (simp; omega) | simp) _ _ _ _).rd, rfl, hG.st4 sa _ _ _ _⟩)
              | (with_reducible exact ⟨(ho4.st4 (a := w3.heap.size) (by first | omega | (simp; omega) | simp) _ _ _ _).rd, rfl, hG.st4 sb _ _ _ _⟩)
              | (with_reducible exact ⟨ho4.rd.gr ((Gr.refl _).alloc _), rfl, hG.alloc _⟩)
      case rest =>
        obtain ⟨hu, rfl, hgc⟩ := hcut
        have hsl := run_cutAt (P := Tryd.prog) Go.Proofs.YtoaajnhbcekglaaDoor.u8 b o L c9 n (n : Int) rfl hn2
        have hxl : ((xs.take m).length : Nat) ≤ 2000 := by rw [List.length_take]; omega
        have HU := Lib.hid hu
        have HW := Lib.hid (hown.gr hgc)
        clear hu hown
        go_wp2_with fail
        go_region_law ((refine step_append_gr Go.Proofs.YtoaajnhbcekglaaDoor.u8 (by rfl) _ _ (by rfl) ((hgr.trans hgc).drew) (by rfl) (HW.out.gr (Gr.refl wc).drew) (by rfl) (HU.out.gr (Gr.refl wc).drew) (by omega) ?_; intro v5 w5 ho5 hg5))
        go_wp2
        go_roundw
        case rel =>
          have hR : ∃ m' : Nat, m' ≤ xs.length ∧ Own W0.heap.size w5 v5 (xs.take m') ∧ Rd W0 (.slice (some ⟨b, cutOff o c9 n, none⟩) (L - n) (c9 - n)) (xs.drop m') ∧ Gr W0 w5 :=
            ⟨m + n, by have := HLm.out; rw [List.length_drop] at this; omega, by rw [List.take_add]; exact ho5, by rw [← List.drop_drop]; exact rd_cutAt hat HLm.out hc9 hm9 n hn2, hg5⟩
          first | exact hR | ((repeat apply Exists.intro); exact ⟨hR, rfl⟩)
        case measure =>
          show L - n < L
          omega
    · obtain rfl : m = xs.length := by omega
      rw [List.drop_length] at hrest
      rw [List.take_length] at hown
      obtain ⟨p9, c9, rfl, _⟩ := hrest
      clear x0 x1 x2 x3 x4 x5 x6 x7 x8 x9
      go_wp2_with (first
        | (go_at_call 11; go_must (refine (equal _ _ xs xs _ hown.rd (H.out.gr (HGW.out.trans hgr))).mono ?_); rintro e w3 ⟨rfl, rfl⟩)
        | (go_at_call 10; refine (packetAwake _).mono ?_; rintro e w4 ⟨rfl, hg4⟩))
      go_ret
      exact ⟨rfl, (HGW.out.trans hgr).trans hg4⟩

theorem law_parts (c : Ctx) (v : Value) (xs : List Int) (unit : Int) (w : World) (h : Rd w v xs) (hd : 0 ≤ unit ∧ unit < 256) :
    Calls Tryd.prog 6 #[c.val, v, .int .u8 unit] w fun e w' => e = .returned (.bool true) ∧ Gr w w' := by
  by_cases h1 : xs.length ≤ 2000
  · exact law_parts_main c v xs unit w h h1 hd
  · obtain ⟨p, cp, rfl, _⟩ := h
    unfold Ctx.val
    by_cases h2 : 2147483647 < xs.length
    · go_enter Tryd.func6, Tryd.ntmps6
      go_wp2_with fail
      go_ret
      exact ⟨rfl, (Gr.refl w).alloc _⟩
    · go_enter Tryd.func6, Tryd.ntmps6
      go_wp2_with (first | (go_at_call 10; refine (packetAwake _).mono ?_; rintro e w4 ⟨rfl, hg4⟩))
      go_ret
      exact ⟨rfl, Gr.trans ((Gr.refl w).alloc _) hg4⟩
end Go.Proofs.YtoaajnhbcekglaaDoor
