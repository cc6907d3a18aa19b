/- FnPacketNested: the walk. -/
import Derived.Test.YtoaajnhbcekglaaDoorPkT
import Derived.Test.YtoaajnhbcekglaaDoorPkI
import Derived.LoopTactic
namespace Go.Proofs.YtoaajnhbcekglaaDoor
open Go Go.RowKit

theorem dataL_drop (long : Bool) (len ty fl flag : Int) (data : List Int) : (dataL long len ty fl flag data).drop 10 = data := by
  cases long <;> simp [dataL, headL, be2, be4]
theorem dataL_type (long : Bool) (len ty fl flag : Int) (data : List Int) : (dataL long len ty fl flag data).getD 4 0 = ty := by
  cases long <;> simp [dataL, headL, be2, be4]

theorem Rd.of_eq {w : World} {v : Value} {xs ys : List Int} (h : Rd w v xs) (e : xs = ys) : Rd w v ys := e ▸ h

/-- Data in j packets, one within the other. -/
def nest (long : Bool) (data : List Int) : Nat → List Int
  | 0 => data
  | j + 1 => dataL long ((nest long data j).length + 10) 6 0 0 (nest long data j)
theorem nest_length (long : Bool) (data : List Int) (j : Nat) : (nest long data j).length = data.length + 10 * j := by
  induction j with
  | zero => rfl
  | succ j ih => rw [nest, dataL_length, ih]; omega

/-- The cells of a context that lies in a variable. -/
def CtxIn (w : World) (b : Nat) (c : Ctx) : Prop := w.heap[b]? = some (.cells #[.int .u16 c.ver, .int .u16 c.lo, .int .u16 c.opt, .int .u16 c.our, .int .u16 c.his, .int .u8 c.a0, .int .u8 c.a1, .int .u32 c.sdu, .int .u32 c.tdu, .bool c.done] 25 (0, 0))
theorem CtxIn.gr {a w : World} {b : Nat} {c : Ctx} (h : CtxIn a b c) (g : Gr a w) : CtxIn w b c := g.heap h
theorem CtxIn.cells {w : World} {b : Nat} {c : Ctx} (h : CtxIn w b c) :
    w.cell? ⟨b, 0, none⟩ = some (.int .u16 c.ver) ∧ w.cell? ⟨b, 1, none⟩ = some (.int .u16 c.lo) ∧ w.cell? ⟨b, 2, none⟩ = some (.int .u16 c.opt) ∧ w.cell? ⟨b, 3, none⟩ = some (.int .u16 c.our) ∧ w.cell? ⟨b, 4, none⟩ = some (.int .u16 c.his) ∧
    w.cell? ⟨b, 5, none⟩ = some (.int .u8 c.a0) ∧ w.cell? ⟨b, 6, none⟩ = some (.int .u8 c.a1) ∧ w.cell? ⟨b, 7, none⟩ = some (.int .u32 c.sdu) ∧ w.cell? ⟨b, 8, none⟩ = some (.int .u32 c.tdu) ∧ w.cell? ⟨b, 9, none⟩ = some (.bool c.done) ∧ b < w.heap.size :=
  ⟨(blk_cell h 0).trans rfl, (blk_cell h 1).trans rfl, (blk_cell h 2).trans rfl, (blk_cell h 3).trans rfl, (blk_cell h 4).trans rfl, (blk_cell h 5).trans rfl, (blk_cell h 6).trans rfl, (blk_cell h 7).trans rfl, (blk_cell h 8).trans rfl, (blk_cell h 9).trans rfl, lt_of_some h⟩

theorem ret_true {w w' : World} (h : Gr w w') : (Ending.returned (.bool true) = .returned (.bool true)) ∧ Gr w w' := ⟨rfl, h⟩

set_option maxHeartbeats 1000000 in
theorem law_nested_main (c : Ctx) (v : Value) (xs : List Int) (deep : Int) (w : World) (h : Rd w v xs) (hl : xs.length ≤ 1000) (hd : 0 ≤ deep ∧ deep < 256) :
    Calls Tryd.prog 5 #[c.val, v, .int .u8 deep] w fun e w' => e = .returned (.bool true) ∧ Gr w w' := by
  obtain ⟨n, hn⟩ : ∃ n : Nat, deep % 20 = (n : Int) := ⟨(deep % 20).toNat, by omega⟩
  have hn20 : n < 20 := by omega
  have HN := Lib.hid hn
  have HB := fun v xs w => Lib.hid (impl_DataBytes c v xs w)
  have HR := fun v xs w => Lib.hid (impl_DataRead c xs v w)
  unfold Ctx.val at HB HR ⊢
  generalize hlong : (c.done && decide (315 ≤ c.ver)) = long at HB
  have H := Lib.hid h
  obtain ⟨p, cp, rfl, _⟩ := h
  clear hn hlong
  have hd1 := hd.1
  have hd2 := hd.2
  clear hd
  go_enter Tryd.func5, Tryd.ntmps5
  go_wp2_with (first | (go_at_call 16; refine (clone _ xs _ (H.out.gr ((Gr.refl w).alloc _)) (by omega)).mono ?_; rintro e w1 ⟨u1, rfl, ho1, hg1⟩))
  rw [HN.out]
  have hc0 : CtxIn w1 w.heap.size c := hg1.heap (heap_alloc_new w _)
  have hgw1 := Gr.trans ((Gr.refl w).alloc _) hg1
  have ho1' : Own w.heap.size w1 u1 (nest long xs 0) := ho1.mono (by simp)
  have HC0 := Lib.hid hc0
  have HX := Lib.hid hgw1
  clear hc0 hgw1 ho1 hg1
  go_loopw [7, 26] (fun b i wr => ∃ j : Nat, j ≤ n ∧ i = .int .i64 j ∧ Own w.heap.size wr b (nest long xs j) ∧ CtxIn wr w.heap.size c ∧ Gr w wr) (fun _ i _ => n - (intOf i).toNat)
  case atStart => exact ⟨0, Nat.zero_le _, rfl, ho1', HC0.out, HX.out⟩
  case round =>
    obtain ⟨j, hj, rfl, hown, hcx, hgr⟩ := hrel
    obtain ⟨x0, x1, x2, x3, x4, x5, x6, x7, x8, x9, xb⟩ := hcx.cells
    by_cases hlt : j < n
    · go_wp2_with (first | (go_at_call 17; go_must (refine ((HB _ _ _).out hown.rd (by rw [nest_length]; omega)).mono ?_); rintro e w2 ⟨u2, rfl, ho2, hg2⟩))
      go_roundw
      case rel => exact ⟨j + 1, hlt, by go_num, ho2.mono hgr.size, hcx.gr hg2, hgr.trans hg2⟩
      case measure => simp [intOf]; omega
    · obtain rfl : j = n := by omega
      go_wp2
      have HO := Lib.hid hown
      have HG := Lib.hid hgr
      have HCX := Lib.hid hcx
      clear hown hgr hcx x0 x1 x2 x3 x4 x5 x6 x7 x8 x9 xb
      go_loopw [7, 33] (fun b i ws => ∃ k : Nat, k ≤ j ∧ i = .int .i64 k ∧ Own w.heap.size ws b (nest long xs (j - k)) ∧ CtxIn ws w.heap.size c ∧ Gr w ws) (fun _ i _ => j - (intOf i).toNat)
      case atStart => exact ⟨0, Nat.zero_le _, rfl, HO.out, HCX.out, HG.out⟩
      case round =>
        obtain ⟨k, hk, rfl, hown, hcx, hgr⟩ := hrel
        obtain ⟨x0, x1, x2, x3, x4, x5, x6, x7, x8, x9, xb⟩ := hcx.cells
        by_cases hlt : k < j
        · obtain ⟨m, hm⟩ : ∃ m, j - k = m + 1 := ⟨j - k - 1, by omega⟩
          rw [hm] at hown
          have hm2 : j - (k + 1) = m := by omega
          have HM := Lib.hid hm2
          have hmj : m < 20 := by omega
          clear hm hm2
          have hlen := nest_length long xs (m + 1)
          have hlen2 := nest_length long xs m
          have HL := Lib.hid (And.intro hlen hlen2)
          clear hlen hlen2
          go_wp2_with (first
            | (go_at_call 18; go_must (refine ((HR _ (nest long xs (m + 1)) _).out hown.rd (by rw [HL.out.1]; omega) (by rw [HL.out.1]; omega) (dataL_type _ _ _ _ _ _)).mono ?_); rintro e w2 ⟨u2, rfl, ho2, hg2⟩)
            | (go_at_call 16; go_must (refine (clone u2 (nest long xs m) _ ((ho2.rd.gr ((Gr.refl w2).alloc _)).of_eq (dataL_drop _ _ _ _ _ _)) (by rw [HL.out.2]; omega)).mono ?_); rintro e w3 ⟨u3, rfl, ho3, hg3⟩))
          have hgs := (hgr.trans hg2).trans (Gr.trans ((Gr.refl w2).alloc _) hg3)
          go_roundw
          case rel => exact ⟨k + 1, hlt, by go_num, by rw [HM.out]; exact ho3.mono (by have := (hgr.trans hg2).size; simp; omega), (hcx.gr hg2).gr (Gr.trans ((Gr.refl w2).alloc _) hg3), hgs⟩
          case measure => simp [intOf]; omega
        · obtain rfl : k = j := by omega
          rw [Nat.sub_self] at hown
          go_wp2_with (first
            | (go_at_call 11; go_must (refine (equal _ _ xs xs _ hown.rd (H.out.gr hgr)).mono ?_); rintro e w3 ⟨rfl, rfl⟩)
            | (go_at_call 10; refine (packetAwake _).mono ?_; rintro e w4 ⟨rfl, hg4⟩))
          go_ret
          exact ⟨rfl, hgr.trans hg4⟩

theorem law_nested (c : Ctx) (v : Value) (xs : List Int) (deep : Int) (w : World) (h : Rd w v xs) (hd : 0 ≤ deep ∧ deep < 256) :
    Calls Tryd.prog 5 #[c.val, v, .int .u8 deep] w fun e w' => e = .returned (.bool true) ∧ Gr w w' := by
  by_cases h1 : xs.length ≤ 1000
  · exact law_nested_main c v xs deep w h h1 hd
  · obtain ⟨p, cp, rfl, _⟩ := h
    unfold Ctx.val
    by_cases h2 : 2147483647 < xs.length
    · go_enter Tryd.func5, Tryd.ntmps5
      go_wp2_with fail
      go_ret
      exact ⟨rfl, (Gr.refl w).alloc _⟩
    · go_enter Tryd.func5, Tryd.ntmps5
      go_wp2_with (first | (go_at_call 10; refine (packetAwake _).mono ?_; rintro e w4 ⟨rfl, hg4⟩))
      go_ret
      exact ⟨rfl, Gr.trans ((Gr.refl w).alloc _) hg4⟩
end Go.Proofs.YtoaajnhbcekglaaDoor
