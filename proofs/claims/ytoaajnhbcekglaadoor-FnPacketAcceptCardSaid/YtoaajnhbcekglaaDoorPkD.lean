/- impl.HeadBytes: the bytes of a head. -/
import Derived.Test.YtoaajnhbcekglaaDoorPkC
import Derived.Deep.RegionHeld3
import Derived.BigRegion
namespace Go.Proofs.YtoaajnhbcekglaaDoor
open Go Go.RowKit

theorem PkCells.of_blocks {w : World} {b q : Nat} {c : Ctx} {data : ByteArray} {off len ty fl : Int} {T T' : TypeId} {cs : Array Value} {fr fr' : Nat × Nat} (hb : w.heap[b]? = some (.cells cs T fr))
    (h0 : cs[0]? = some (.int .u16 off)) (h1 : cs[1]? = some (.int .u32 len)) (h2 : cs[2]? = some (.int .u8 ty)) (h3 : cs[3]? = some (.int .u8 fl)) (h4 : cs[4]? = some (.pointer (some ⟨q, 0, none⟩)))
    (hq : w.heap[q]? = some (.cells (c.cells data) T' fr')) : PkCells w b q off len ty fl c.ver c.done :=
  ⟨(blk_cell hb 0).trans h0, (blk_cell hb 1).trans h1, (blk_cell hb 2).trans h2, (blk_cell hb 3).trans h3, (blk_cell hb 4).trans h4, (blk_cell hq 2).trans rfl, (blk_cell hq 9).trans rfl⟩

/-- HeadBytes of the package. -/
theorem net_HeadBytes (c : Ctx) (q : Nat) (data : ByteArray) (off len ty fl : Int) (w : World) (hoff : 0 ≤ off ∧ off ≤ 65535) (hlen : 0 ≤ len ∧ len < 4294967296) (hty : 0 ≤ ty ∧ ty < 256) (hfl : 0 ≤ fl ∧ fl < 256)
    (hq : w.heap[q]? = some (.cells (c.cells data) 93 (0, 0))) :
    Calls Tryd.prog 27 #[.pointer (some ⟨q, 0, none⟩), .int .u32 len, .int .u8 ty, .int .u8 fl, .int .u16 off] w (RetB w (headL (c.done && decide (315 ≤ c.ver)) len ty fl off.toNat)) := by
  go_enter Tryd.func27, Tryd.ntmps27
  go_wp2_with (go_at_call 41; refine (pkt_bytes _ q off len ty fl c.ver c.done _ hoff hlen hty hfl (PkCells.of_blocks (heap_alloc_new w _) rfl rfl rfl rfl rfl (((Gr.refl w).alloc _).heap hq))).mono ?_; rintro e w1 ⟨v, rfl, ho1, hg1⟩)
  go_ret
  exact ⟨_, rfl, ho1.mono (by simp), ((Gr.refl w).alloc _).trans hg1⟩

theorem keep14 {W w1 : World} (g : Gr W w1) {n : Nat} {c : Ctx} {len ty fl off : Int} (h : W.cell? ⟨n, 0, none⟩ = some (.int .u16 c.ver) ∧ W.cell? ⟨n, 1, none⟩ = some (.int .u16 c.lo) ∧ W.cell? ⟨n, 2, none⟩ = some (.int .u16 c.opt) ∧ W.cell? ⟨n, 3, none⟩ = some (.int .u16 c.our) ∧ W.cell? ⟨n, 4, none⟩ = some (.int .u16 c.his) ∧ W.cell? ⟨n, 5, none⟩ = some (.int .u8 c.a0) ∧ W.cell? ⟨n, 6, none⟩ = some (.int .u8 c.a1) ∧ W.cell? ⟨n, 7, none⟩ = some (.int .u32 c.sdu) ∧ W.cell? ⟨n, 8, none⟩ = some (.int .u32 c.tdu) ∧ W.cell? ⟨n, 9, none⟩ = some (.bool c.done) ∧ W.cell? ⟨n + 1, 0, none⟩ = some (.int .u32 len) ∧ W.cell? ⟨n + 1, 1, none⟩ = some (.int .u8 ty) ∧ W.cell? ⟨n + 1, 2, none⟩ = some (.int .u8 fl) ∧ W.cell? ⟨n + 1, 3, none⟩ = some (.int .u16 off)) : w1.cell? ⟨n, 0, none⟩ = some (.int .u16 c.ver) ∧ w1.cell? ⟨n, 1, none⟩ = some (.int .u16 c.lo) ∧ w1.cell? ⟨n, 2, none⟩ = some (.int .u16 c.opt) ∧ w1.cell? ⟨n, 3, none⟩ = some (.int .u16 c.our) ∧ w1.cell? ⟨n, 4, none⟩ = some (.int .u16 c.his) ∧ w1.cell? ⟨n, 5, none⟩ = some (.int .u8 c.a0) ∧ w1.cell? ⟨n, 6, none⟩ = some (.int .u8 c.a1) ∧ w1.cell? ⟨n, 7, none⟩ = some (.int .u32 c.sdu) ∧ w1.cell? ⟨n, 8, none⟩ = some (.int .u32 c.tdu) ∧ w1.cell? ⟨n, 9, none⟩ = some (.bool c.done) ∧ w1.cell? ⟨n + 1, 0, none⟩ = some (.int .u32 len) ∧ w1.cell? ⟨n + 1, 1, none⟩ = some (.int .u8 ty) ∧ w1.cell? ⟨n + 1, 2, none⟩ = some (.int .u8 fl) ∧ w1.cell? ⟨n + 1, 3, none⟩ = some (.int .u16 off) := by
  obtain ⟨h0, h1, h2, h3, h4, h5, h6, h7, h8, h9, k0, k1, k2, k3⟩ := h
  exact ⟨g.cell h0, g.cell h1, g.cell h2, g.cell h3, g.cell h4, g.cell h5, g.cell h6, g.cell h7, g.cell h8, g.cell h9, g.cell k0, g.cell k1, g.cell k2, g.cell k3⟩

theorem impl_HeadBytes (c : Ctx) (off len ty fl : Int) (w : World) (hoff : 0 ≤ off ∧ off ≤ 65535) (hlen : 0 ≤ len ∧ len < 4294967296) (hty : 0 ≤ ty ∧ ty < 256) (hfl : 0 ≤ fl ∧ fl < 256) :
    Calls Tryd.prog 12 #[c.val, .agg #[.int .u32 len, .int .u8 ty, .int .u8 fl, .int .u16 off]] w (RetB w (headL (c.done && decide (315 ≤ c.ver)) len ty fl off.toNat)) := by
  unfold Ctx.val
  go_enter Tryd.func12, Tryd.ntmps12
  go_wp2
  go_region_held3 (fun w' => w'.cell? ⟨w.heap.size, 0, none⟩ = some (.int .u16 c.ver) ∧ w'.cell? ⟨w.heap.size, 1, none⟩ = some (.int .u16 c.lo) ∧ w'.cell? ⟨w.heap.size, 2, none⟩ = some (.int .u16 c.opt) ∧ w'.cell? ⟨w.heap.size, 3, none⟩ = some (.int .u16 c.our) ∧ w'.cell? ⟨w.heap.size, 4, none⟩ = some (.int .u16 c.his) ∧ w'.cell? ⟨w.heap.size, 5, none⟩ = some (.int .u8 c.a0) ∧ w'.cell? ⟨w.heap.size, 6, none⟩ = some (.int .u8 c.a1) ∧ w'.cell? ⟨w.heap.size, 7, none⟩ = some (.int .u32 c.sdu) ∧ w'.cell? ⟨w.heap.size, 8, none⟩ = some (.int .u32 c.tdu) ∧ w'.cell? ⟨w.heap.size, 9, none⟩ = some (.bool c.done) ∧ w'.cell? ⟨w.heap.size + 1, 0, none⟩ = some (.int .u32 len) ∧ w'.cell? ⟨w.heap.size + 1, 1, none⟩ = some (.int .u8 ty) ∧ w'.cell? ⟨w.heap.size + 1, 2, none⟩ = some (.int .u8 fl) ∧ w'.cell? ⟨w.heap.size + 1, 3, none⟩ = some (.int .u16 off)) (first | go_keep | (exact keep14 hg3 (by simp)) | (exact keep14 hg1 (by simp)))
    ((first
      | (go_at_call 28; refine (contextOf c _).mono ?_; rintro e w1 ⟨q, rfl, hq1, hq, hg1⟩)
      | (go_at_call 27; refine (net_HeadBytes c q _ off len ty fl _ hoff hlen hty hfl hq).mono ?_; rintro e w2 ⟨v, rfl, ho2, hg2⟩; have hg3 := hg1.trans hg2)))
  go_wp2
  go_ret
  exact ⟨_, rfl, ho2.mono (by have := hg1.size; simp at this; omega), Gr.trans ((((Gr.refl w).alloc _).alloc _).drew) hg3⟩
end Go.Proofs.YtoaajnhbcekglaaDoor
