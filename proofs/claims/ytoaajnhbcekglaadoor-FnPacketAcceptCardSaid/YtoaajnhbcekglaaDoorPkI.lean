/- The reference's head, and a fixed example. -/
import Derived.Test.YtoaajnhbcekglaaDoorPkG
import Derived.Test.YtoaajnhbcekglaaDoorPkH
import Derived.Deep.RegionHeld3
import Derived.BigRegion
import Derived.Lib.SlBytesConst
namespace Go.Proofs.YtoaajnhbcekglaaDoor
open Go Go.RowKit

theorem spec_head_eq (long : Bool) (len ty fl : Int) (off n : Nat) (hn : n = 8 + (off - 8)) (hlen : 0 ≤ len ∧ len < 4294967296) : ((putAt (List.replicate n 0) 0 (lenL long len)).set 4 ty).set 5 fl = headL long len ty fl off := by
  subst hn
  rw [show List.replicate (8 + (off - 8)) (0 : Int) = List.replicate 8 0 ++ List.replicate (off - 8) 0 by rw [List.replicate_append_replicate]]
  cases long <;> rfl

set_option maxRecDepth 100000 in
theorem spec_PacketHead (c : Ctx) (off len ty fl : Int) (w : World) (hoff : 0 ≤ off ∧ off ≤ 65535) (hlen : 0 ≤ len ∧ len < 4294967296) (hty : 0 ≤ ty ∧ ty < 256) (hfl : 0 ≤ fl ∧ fl < 256) :
    Calls Tryd.prog 13 #[c.val, .agg #[.int .u32 len, .int .u8 ty, .int .u8 fl, .int .u16 off]] w (RetB w (headL (c.done && decide (315 ≤ c.ver)) len ty fl off.toNat)) := by
  obtain ⟨n, hn⟩ : ∃ n : Nat, max 8 off = (n : Int) := ⟨(max 8 off).toNat, by omega⟩
  have h8 : 8 ≤ n := by omega
  have hlim : n ≤ 65535 := by omega
  have HN := Lib.hid hn
  clear hn
  have hc := packetLength c
  unfold Ctx.val at hc ⊢
  have HC := Lib.hid hc
  clear hc
  go_enter Tryd.func13, Tryd.ntmps13
  go_wp2_with (first
    | (at_make; go_must (refine wpList_make_gr u8 rfl _ _ rfl (((Gr.refl w).alloc _).alloc _) .i64 .i64 (max 8 off) (max 8 off) n rfl rfl HN.out HN.out (by omega) (w.heap.size + 2) (by simp) ?_); intro w1 ho1 hg1 hg1' hb1; have k0 : w1.cell? ⟨w.heap.size + 1, 0, none⟩ = some (.int .u32 len) := hg1.cell (by simp); have k1 : w1.cell? ⟨w.heap.size + 1, 1, none⟩ = some (.int .u8 ty) := hg1.cell (by simp); have k2 : w1.cell? ⟨w.heap.size + 1, 2, none⟩ = some (.int .u8 fl) := hg1.cell (by simp); have x0 : w1.cell? ⟨w.heap.size, 0, none⟩ = some (.int .u16 c.ver) := hg1.cell (by simp); have x1 : w1.cell? ⟨w.heap.size, 1, none⟩ = some (.int .u16 c.lo) := hg1.cell (by simp); have x2 : w1.cell? ⟨w.heap.size, 2, none⟩ = some (.int .u16 c.opt) := hg1.cell (by simp); have x3 : w1.cell? ⟨w.heap.size, 3, none⟩ = some (.int .u16 c.our) := hg1.cell (by simp); have x4 : w1.cell? ⟨w.heap.size, 4, none⟩ = some (.int .u16 c.his) := hg1.cell (by simp); have x5 : w1.cell? ⟨w.heap.size, 5, none⟩ = some (.int .u8 c.a0) := hg1.cell (by simp); have x6 : w1.cell? ⟨w.heap.size, 6, none⟩ = some (.int .u8 c.a1) := hg1.cell (by simp); have x7 : w1.cell? ⟨w.heap.size, 7, none⟩ = some (.int .u32 c.sdu) := hg1.cell (by simp); have x8 : w1.cell? ⟨w.heap.size, 8, none⟩ = some (.int .u32 c.tdu) := hg1.cell (by simp); have x9 : w1.cell? ⟨w.heap.size, 9, none⟩ = some (.bool c.done) := hg1.cell (by simp))
    | (go_at_call 29; go_must (refine (HC.out _ n (List.replicate n 0) n len _ ho1 (by omega) (by simp) (by omega)).mono ?_); rintro e w2 ⟨rfl, ho2, hf2⟩; have hg2 := hf2 _ hg1' hb1; have hG := hf2 _ hg1 (by simp); have k1 : w2.cell? ⟨w.heap.size + 1, 1, none⟩ = some (.int .u8 ty) := hG.cell (by simp); have k2 : w2.cell? ⟨w.heap.size + 1, 2, none⟩ = some (.int .u8 fl) := hG.cell (by simp); have k4 := ho2.cell 4 (by simp [putAt_length]; omega); have k5 := ho2.cell 5 (by simp [putAt_length]; omega); have f4 := ho2.free 4; have f5 := ho2.free 5))
  go_region
  go_wp2
  go_ret
  have hn8 : n = 8 + (off.toNat - 8) := by have := HN.out; omega
  exact ret_head _ _ (by rw [headL_length]; exact hn8.symm) (spec_head_eq _ len ty fl off.toNat n hn8 hlen) ((ho2.drew.setCell 4 (by simp [putAt_length]; omega) ty hty).setCell 5 (by simp [putAt_length]; omega) fl hfl) hb1 ((hg2.drew.setCell hb1 _).setCell hb1 _)

set_option maxRecDepth 100000 in
theorem packetAwake (w : World) : Calls Tryd.prog 10 #[] w fun e w' => e = .returned (.bool true) ∧ Gr w w' := by
  have kc := fun (w : World) (C : Array Value) (n c : Nat) => Lib.run_convert_bytes_const (P := Tryd.prog) w 30 5 C n c Tryd.underlying30 Tryd.underlying5
  go_enter Tryd.func10, Tryd.ntmps10
  go_wp2_with (first
    | (go_at_call 17; go_must (refine (impl_DataBytes ⟨0, 0, 0, 0, 0, 0, 0, 0, 0, false⟩ _ [97, 98] _ (Rd.lit w [97, 98] _ 2 (by intro x hx; simp at hx; omega) rfl rfl (by simp [maxLen]) rfl) (by simp)).mono ?_); rintro e w1 ⟨v1, rfl, ho1, hg1⟩)
    | (go_at_call 11; go_must (refine (equal v1 _ _ [0, 12, 0, 0, 6, 0, 0, 0, 0, 0, 97, 98] _ (ho1.rd.gr ((Gr.refl _).alloc _)) (Rd.lit w1 [0, 12, 0, 0, 6, 0, 0, 0, 0, 0, 97, 98] _ 12 (by intro x hx; simp at hx; omega) rfl rfl (by simp [maxLen]) rfl)).mono ?_); rintro e w2 ⟨rfl, rfl⟩))
  go_ret
  exact ⟨by simp [dataL, headL, be2], Gr.trans ((Gr.refl w).alloc _) (hg1.alloc _)⟩
end Go.Proofs.YtoaajnhbcekglaaDoor
