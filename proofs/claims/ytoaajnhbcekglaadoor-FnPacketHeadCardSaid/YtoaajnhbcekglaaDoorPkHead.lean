/- FnPacketHead: the walk. -/
import Derived.Test.YtoaajnhbcekglaaDoorPkI
namespace Go.Proofs.YtoaajnhbcekglaaDoor
open Go Go.RowKit

theorem law_head (c : Ctx) (off len ty fl : Int) (w : World) (hoff : 0 ≤ off ∧ off ≤ 65535) (hlen : 0 ≤ len ∧ len < 4294967296) (hty : 0 ≤ ty ∧ ty < 256) (hfl : 0 ≤ fl ∧ fl < 256) :
    Calls Tryd.prog 3 #[c.val, .agg #[.int .u32 len, .int .u8 ty, .int .u8 fl, .int .u16 off]] w fun e w' => e = .returned (.bool true) ∧ Gr w w' := by
  have h1 := impl_HeadBytes c off len ty fl
  have h2 := spec_PacketHead c off len ty fl
  unfold Ctx.val at h1 h2 ⊢
  have H1 := Lib.hid h1
  have H2 := Lib.hid h2
  clear h1 h2
  by_cases hb : 2000 < off
  · go_enter Tryd.func3, Tryd.ntmps3
    go_wp2_with (go_at_call 10; refine (packetAwake _).mono ?_; rintro e w1 ⟨rfl, hg1⟩)
    go_ret
    exact ⟨rfl, Gr.trans (((Gr.refl w).alloc _).alloc _) hg1⟩
  · go_enter Tryd.func3, Tryd.ntmps3
    go_wp2
    go_region_held3 (fun w' => w'.cell? ⟨w.heap.size, 0, none⟩ = some (.int .u16 c.ver) ∧ w'.cell? ⟨w.heap.size, 1, none⟩ = some (.int .u16 c.lo) ∧ w'.cell? ⟨w.heap.size, 2, none⟩ = some (.int .u16 c.opt) ∧ w'.cell? ⟨w.heap.size, 3, none⟩ = some (.int .u16 c.our) ∧ w'.cell? ⟨w.heap.size, 4, none⟩ = some (.int .u16 c.his) ∧ w'.cell? ⟨w.heap.size, 5, none⟩ = some (.int .u8 c.a0) ∧ w'.cell? ⟨w.heap.size, 6, none⟩ = some (.int .u8 c.a1) ∧ w'.cell? ⟨w.heap.size, 7, none⟩ = some (.int .u32 c.sdu) ∧ w'.cell? ⟨w.heap.size, 8, none⟩ = some (.int .u32 c.tdu) ∧ w'.cell? ⟨w.heap.size, 9, none⟩ = some (.bool c.done) ∧ w'.cell? ⟨w.heap.size + 1, 0, none⟩ = some (.int .u32 len) ∧ w'.cell? ⟨w.heap.size + 1, 1, none⟩ = some (.int .u8 ty) ∧ w'.cell? ⟨w.heap.size + 1, 2, none⟩ = some (.int .u8 fl) ∧ w'.cell? ⟨w.heap.size + 1, 3, none⟩ = some (.int .u16 off)) (first | go_keep | (exact keep14 ((hg1.trans hg2).trans hg3) (by simp)) | (exact keep14 ((hg2.trans hg1).trans hg3) (by simp)) | (exact keep14 (hg1.trans hg2) (by simp)) | (exact keep14 (hg2.trans hg1) (by simp)) | (exact keep14 hg1 (by simp)) | (exact keep14 hg2 (by simp)))
      ((first
        | (go_at_call 12; refine (H1.out _ hoff hlen hty hfl).mono ?_; rintro e w1 ⟨v1, rfl, ho1, hg1⟩)
        | (go_at_call 13; refine (H2.out _ hoff hlen hty hfl).mono ?_; rintro e w2 ⟨v2, rfl, ho2, hg2⟩)
        | (go_at_call 11; refine (equal _ _ _ _ _ (ho1.rd.gr hg2) ho2.rd).mono ?_; rintro e w3 ⟨rfl, rfl⟩)
        | (go_at_call 11; refine (equal _ _ _ _ _ ho1.rd (ho2.rd.gr hg1)).mono ?_; rintro e w3 ⟨rfl, rfl⟩)
        | (go_at_call 10; refine (packetAwake _).mono ?_; rintro e w4 ⟨rfl, hg3⟩)))
    go_wp2
    go_ret
    exact ⟨rfl, Gr.trans ((((Gr.refl w).alloc _).alloc _).drew) ((hg1.trans hg2).trans hg3)⟩
end Go.Proofs.YtoaajnhbcekglaaDoor
