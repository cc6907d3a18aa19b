/- FnPacketMarked: the thin package's reader, and the reference's head. -/
import Derived.Test.YtoaajnhbcekglaaDoorPkM
import Derived.Test.YtoaajnhbcekglaaDoorPkParts
namespace Go.Proofs.YtoaajnhbcekglaaDoor
open Go Go.RowKit

theorem markRead_nil (cx : Ctx) (xs : List Int) (hno : xs.length ≠ 11 ∨ xs.getD 4 0 ≠ 12) (q : Nat) (u : Value) (w : World) (h : Rd w u xs)
    (hq : w.heap[q]? = some (.cells (cx.cells ByteArray.empty) 93 (0, 0))) :
    Calls Tryd.prog 35 #[.pointer (some ⟨q, 0, none⟩), u] w fun e w' => e = .returned (.tuple #[.pointer none, .int .u8 0]) ∧ Gr w w' := by
  refine net_MarkerRead_nil q u w ?_
  by_cases h11 : xs.length = 11
  · have h4 : xs.getD 4 0 ≠ 12 := by rcases hno with h | h; exact absurd h11 h; exact h
    obtain ⟨b, o, c, rfl, hc, hm, hr⟩ := h.at' (by omega)
    rw [h11] at hc ⊢
    refine (markFrom b o c q xs cx w hr h11 hc hq).mono fun e w' => ?_
    rintro ⟨r, rfl, hr1, _, hg⟩
    rw [hr1 h4]
    exact ⟨rfl, hg⟩
  · obtain ⟨p, c, rfl, _⟩ := h
    refine (markFrom_short _ _ p c q rfl h11 w).mono fun e w' => ?_
    rintro ⟨rfl, rfl⟩
    exact ⟨rfl, Gr.refl _⟩

theorem markRead_some (cx : Ctx) (xs : List Int) (h11 : xs.length = 11) (h4 : xs.getD 4 0 = 12) (q : Nat) (u : Value) (w : World) (h : Rd w u xs)
    (hq : w.heap[q]? = some (.cells (cx.cells ByteArray.empty) 93 (0, 0))) :
    Calls Tryd.prog 35 #[.pointer (some ⟨q, 0, none⟩), u] w fun e w' => ∃ k, e = .returned (.tuple #[.pointer (some ⟨k, 0, none⟩), .int .u8 (xs.getD 10 0)]) ∧
      w'.heap[k]? = some (.cells (markCells (lenOf cx xs) (xs.getD 5 0) q (xs.getD 10 0)) 85 (0, 0)) ∧ Gr w w' := by
  refine net_MarkerRead_some q u (lenOf cx xs) (xs.getD 5 0) (xs.getD 10 0) w ?_
  obtain ⟨b, o, c, rfl, hc, hm, hr⟩ := h.at' (by omega)
  rw [h11] at hc ⊢
  refine (markFrom b o c q xs cx w hr h11 hc hq).mono fun e w' => ?_
  rintro ⟨r, rfl, _, hr1, hg⟩
  obtain ⟨k, rfl, hk⟩ := hr1 h4
  exact ⟨k, rfl, hk, hg⟩

theorem impl_MarkerRead_nil (cx : Ctx) (xs : List Int) (v : Value) (w : World) (h : Rd w v xs) (hl : xs.length ≤ 100000000000) (hno : xs.length ≠ 11 ∨ xs.getD 4 0 ≠ 12) :
    Calls Tryd.prog 19 #[cx.val, v] w fun e w' => e = .returned (.tuple #[.agg #[.int .u32 0, .int .u8 0, .int .u8 0, .int .u16 0], .int .u8 0, .bool false]) ∧ Gr w w' := by
  have HN := fun q v w => Lib.hid (markRead_nil cx xs hno q v w)
  have hc := contextOf cx
  unfold Ctx.val at hc ⊢
  have HC := Lib.hid hc
  clear hc hno
  go_enter Tryd.func19, Tryd.ntmps19
  go_wp2_with (first
    | (go_at_call 28; refine (HC.out _).mono ?_; rintro e w1 ⟨q, rfl, hq1, hq, hg1⟩; have hw1 := Gr.trans (((Gr.refl w).alloc _).alloc _) hg1)
    | (go_at_call 35; go_must (refine ((HN q u2 w2).out ho2.rd (hg2.heap hq)).mono ?_); rintro e w3 ⟨rfl, hg3⟩; have hz : w3.heap[w.heap.size + 1]? = some (.cells #[.int .u32 0, .int .u8 0, .int .u8 0, .int .u16 0] 27 (0, 0)) := hg3.heap (hg2.heap (hg1.heap (heap_new_at (w.alloc _) _ (by simp)))); have z0 : w3.cell? ⟨w.heap.size + 1, 0, none⟩ = some (.int .u32 0) := (blk_cell hz 0).trans rfl; have z1 : w3.cell? ⟨w.heap.size + 1, 1, none⟩ = some (.int .u8 0) := (blk_cell hz 1).trans rfl; have z2 : w3.cell? ⟨w.heap.size + 1, 2, none⟩ = some (.int .u8 0) := (blk_cell hz 2).trans rfl; have z3 : w3.cell? ⟨w.heap.size + 1, 3, none⟩ = some (.int .u16 0) := (blk_cell hz 3).trans rfl; have y0 := blk_free hz 0; have y1 := blk_free hz 1; have y2 := blk_free hz 2; have y3 := blk_free hz 3)
    | (go_at_call 16; refine (clone v xs _ (h.gr hw1) (by omega)).mono ?_; rintro e w2 ⟨u2, rfl, ho2, hg2⟩))
  have hgw : Gr w w3 := (hw1.trans hg2).trans hg3
  have hb : w.heap.size ≤ w.heap.size + 1 := by omega
  exact bodyPost_ret (v := .tuple #[.agg #[.int .u32 0, .int .u8 0, .int .u8 0, .int .u16 0], .int .u8 0, .bool false]) (by simp [results, Tryd.results19, go_sem, z0, z1, z2, z3]) rfl ⟨rfl, ((((hgw.setCell hb _).setCell hb _).setCell hb _).setCell hb _)⟩

theorem impl_MarkerRead_some (cx : Ctx) (xs : List Int) (v : Value) (w : World) (h : Rd w v xs) (h11 : xs.length = 11) (h4 : xs.getD 4 0 = 12) :
    Calls Tryd.prog 19 #[cx.val, v] w fun e w' => e = .returned (.tuple #[.agg #[.int .u32 (lenOf cx xs), .int .u8 12, .int .u8 (xs.getD 5 0), .int .u16 0], .int .u8 (xs.getD 10 0), .bool true]) ∧ Gr w w' := by
  have HN := fun q v w => Lib.hid (markRead_some cx xs h11 h4 q v w)
  have hc := contextOf cx
  unfold Ctx.val at hc ⊢
  have HC := Lib.hid hc
  clear hc h4
  generalize xs.getD 5 0 = fl at HN ⊢
  generalize xs.getD 10 0 = kk at HN ⊢
  generalize lenOf cx xs = len at HN ⊢
  go_enter Tryd.func19, Tryd.ntmps19
  go_wp2_with (first
    | (go_at_call 28; refine (HC.out _).mono ?_; rintro e w1 ⟨q, rfl, hq1, hq, hg1⟩; have hw1 := Gr.trans (((Gr.refl w).alloc _).alloc _) hg1)
    | (go_at_call 35; go_must (refine ((HN q u2 w2).out ho2.rd (hg2.heap hq)).mono ?_); rintro e w3 ⟨k, rfl, hk, hg3⟩; have c0 : w3.cell? ⟨k, 0, none⟩ = some (.int .u16 0) := (blk_cell hk 0).trans rfl; have c1 : w3.cell? ⟨k, 1, none⟩ = some (.int .u32 len) := (blk_cell hk 1).trans rfl; have c2 : w3.cell? ⟨k, 2, none⟩ = some (.int .u8 12) := (blk_cell hk 2).trans rfl; have c3 : w3.cell? ⟨k, 3, none⟩ = some (.int .u8 fl) := (blk_cell hk 3).trans rfl)
    | (go_at_call 32; go_must (refine (headOf k 0 len 12 fl _ c0 c1 c2 c3).mono ?_); rintro e w4 ⟨rfl, hg4⟩; have hz : w4.heap[w.heap.size + 1]? = some (.cells #[.int .u32 0, .int .u8 0, .int .u8 0, .int .u16 0] 27 (0, 0)) := hg4.heap (hg3.heap (hg2.heap (hg1.heap (heap_new_at (w.alloc _) _ (by simp))))); have z0 : w4.cell? ⟨w.heap.size + 1, 0, none⟩ = some (.int .u32 0) := (blk_cell hz 0).trans rfl; have z1 : w4.cell? ⟨w.heap.size + 1, 1, none⟩ = some (.int .u8 0) := (blk_cell hz 1).trans rfl; have z2 : w4.cell? ⟨w.heap.size + 1, 2, none⟩ = some (.int .u8 0) := (blk_cell hz 2).trans rfl; have z3 : w4.cell? ⟨w.heap.size + 1, 3, none⟩ = some (.int .u16 0) := (blk_cell hz 3).trans rfl; have y0 := blk_free hz 0; have y1 := blk_free hz 1; have y2 := blk_free hz 2; have y3 := blk_free hz 3)
    | (go_at_call 16; refine (clone v xs _ (h.gr hw1) (by omega)).mono ?_; rintro e w2 ⟨u2, rfl, ho2, hg2⟩))
  have hgw : Gr w w4 := ((hw1.trans hg2).trans hg3).trans hg4
  have hb : w.heap.size ≤ w.heap.size + 1 := by omega
  exact bodyPost_ret (v := .tuple #[.agg #[.int .u32 len, .int .u8 12, .int .u8 fl, .int .u16 0], .int .u8 kk, .bool true]) (by simp [results, Tryd.results19, go_sem, z0, z1, z2, z3]) rfl ⟨rfl, ((((hgw.setCell hb _).setCell hb _).setCell hb _).setCell hb _)⟩

theorem specLong (c : Ctx) (w : World) : Calls Tryd.prog 21 #[c.val] w fun e w' => e = .returned (.bool (c.done && decide (315 ≤ c.ver))) ∧ Gr w w' := by
  have hc := packetLong c
  unfold Ctx.val at hc ⊢
  have HC := Lib.hid hc
  clear hc
  go_enter Tryd.func21, Tryd.ntmps21
  go_wp2_with (first | (go_at_call 36; refine (HC.out _).mono ?_; rintro e w1 ⟨rfl, hg1⟩))
  go_ret
  exact ⟨rfl, Gr.trans ((Gr.refl w).alloc _) hg1⟩

set_option maxRecDepth 100000 in
theorem specHeadOf (long : Bool) (off : Int) (b o n c : Nat) (xs : List Int) (w : World) (h : RdAt w b o xs) (hn : xs.length = n) (h6 : 6 ≤ n) (hc : n ≤ c) :
    Calls Tryd.prog 20 #[.bool long, .slice (some ⟨b, o, none⟩) n c, .int .u16 off] w fun e w' => e = .returned (.agg #[.int .u32 (if long = true then nat4 xs else nat2 xs), .int .u8 (xs.getD 4 0), .int .u8 (xs.getD 5 0), .int .u16 off]) ∧ Gr w w' := by
  have k4 := h.cell 4 (by omega)
  have k5 := h.cell 5 (by omega)
  generalize xs.getD 4 0 = t at *
  generalize xs.getD 5 0 = fl at *
  have hb : b < w.heap.size := World.block_lt_of_cell? w _ k4
  have i4 : (4 : Int) < (n : Nat) := by omega
  have i5 : (5 : Int) < (n : Nat) := by omega
  have HP2 := fun w (h : RdAt w b o xs) => Lib.hid (packetGet2 b o n c xs w h hn (by omega) hc)
  have HP4 := fun w (h : RdAt w b o xs) => Lib.hid (packetGet4 b o n c xs w h hn (by omega) hc)
  obtain ⟨B0, B1⟩ := nat2_bd h.byt
  obtain ⟨B2, B3⟩ := nat4_bd h.byt
  generalize nat2 xs = N2 at *
  generalize nat4 xs = N4 at *
  have e2 : IntKind.u32.wrap N2 = N2 := by rw [IntKind.wrap_u32]; omega
  have e4 : IntKind.u32.wrap N4 = N4 := by rw [IntKind.wrap_u32]; omega
  cases long
  · go_enter Tryd.func20, Tryd.ntmps20
    go_wp2
    go_region_held3 (fun w' => w'.cell? ⟨b, o + 4, none⟩ = some (.int .u8 t) ∧ w'.cell? ⟨b, o + 5, none⟩ = some (.int .u8 fl)) (first | go_keep)
      ((first
        | (go_at_call 26; refine (HP2 _ (h.gr (by with_reducible first | exact ((Gr.refl w).alloc _) | exact ((Gr.refl w).alloc _).drew))).out.mono ?_; rintro e w2 ⟨rfl, rfl⟩)))
    go_wp2_with fail
    exact bodyPost_ret (v := .agg #[.int .u32 N2, .int .u8 t, .int .u8 fl, .int .u16 off]) (by simp [results, Tryd.results20, go_sem]) rfl ⟨by simp, ((Gr.refl w).alloc _).drew⟩
  · go_enter Tryd.func20, Tryd.ntmps20
    go_wp2
    go_region_held3 (fun w' => w'.cell? ⟨b, o + 4, none⟩ = some (.int .u8 t) ∧ w'.cell? ⟨b, o + 5, none⟩ = some (.int .u8 fl)) (first | go_keep)
      ((first
        | (go_at_call 26; refine (HP4 _ (h.gr (by with_reducible first | exact ((Gr.refl w).alloc _) | exact ((Gr.refl w).alloc _).drew))).out.mono ?_; rintro e w2 ⟨rfl, rfl⟩)))
    go_wp2_with fail
    exact bodyPost_ret (v := .agg #[.int .u32 N4, .int .u8 t, .int .u8 fl, .int .u16 off]) (by simp [results, Tryd.results20, go_sem]) rfl ⟨by simp, ((Gr.refl w).alloc _).drew⟩
end Go.Proofs.YtoaajnhbcekglaaDoor
