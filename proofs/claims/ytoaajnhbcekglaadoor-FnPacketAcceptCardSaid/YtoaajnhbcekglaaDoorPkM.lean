/- The reference's reader of a head: numbers out of bytes. -/
import Derived.Test.YtoaajnhbcekglaaDoorPkT
import Derived.Test.YtoaajnhbcekglaaDoorPkI
namespace Go.Proofs.YtoaajnhbcekglaaDoor
open Go Go.RowKit

theorem or_step (a x : Int) (ha : 0 ≤ a) (hb : a * 256 < 18446744073709551616) (hx : 0 ≤ x) (hy : x < 256) : bits .or .u64 (IntKind.u64.wrap (a * 256)) x = a * 256 + x := by
  rw [wraps_u64 _ (by omega) (by omega)]
  exact bits_join .u64 64 (by decide) wraps_u64 8 (a * 256) x (by omega) (by omega) (by omega) hx (by omega) (by omega)
theorem or_zero (x : Int) (hx : 0 ≤ x) (hy : x < 256) : bits .or .u64 0 x = x := by
  have := bits_join .u64 64 (by decide) wraps_u64 8 0 x (by omega) (by omega) (by omega) hx (by omega) (by omega)
  omega

set_option maxRecDepth 100000 in
theorem packetGet2 (b o n c : Nat) (xs : List Int) (w : World) (h : RdAt w b o xs) (hn : xs.length = n) (h2 : 2 ≤ n) (hc : n ≤ c) :
    Calls Tryd.prog 26 #[.slice (some ⟨b, o, none⟩) n c, .int .i64 0, .int .i64 2] w fun e w' => e = .returned (.int .u64 (nat2 xs)) ∧ w' = w := by
  have c0 := h.cell 0 (by omega)
  rw [Nat.add_zero] at c0
  have c1 := h.cell 1 (by omega)
  have b0 := byt_getD h.byt 0
  have b1 := byt_getD h.byt 1
  unfold nat2
  generalize xs.getD 0 0 = x0 at *
  generalize xs.getD 1 0 = x1 at *
  obtain ⟨b00, b01⟩ := b0
  obtain ⟨b10, b11⟩ := b1
  have i2 : (2 : Int) ≤ (c : Nat) := by omega
  go_enter Tryd.func26, Tryd.ntmps26
  go_wp2
  refine wp_loop_rounds 3 ?_
  rw [rounds_succ]
  go_wp2
  rw [rounds_succ]
  go_wp2
  rw [rounds_succ]
  go_wp2
  go_ret
  refine ⟨?_, rfl⟩
  show Ending.returned (.int .u64 (bits .or .u64 (IntKind.u64.wrap (bits .or .u64 0 x0 * 256)) x1)) = _
  rw [or_zero x0 b00 b01, or_step x0 x1 b00 (by omega) b10 b11]

set_option maxRecDepth 100000 in
theorem packetGet4 (b o n c : Nat) (xs : List Int) (w : World) (h : RdAt w b o xs) (hn : xs.length = n) (h2 : 4 ≤ n) (hc : n ≤ c) :
    Calls Tryd.prog 26 #[.slice (some ⟨b, o, none⟩) n c, .int .i64 0, .int .i64 4] w fun e w' => e = .returned (.int .u64 (nat4 xs)) ∧ w' = w := by
  have c0 := h.cell 0 (by omega)
  rw [Nat.add_zero] at c0
  have c1 := h.cell 1 (by omega)
  have c2 := h.cell 2 (by omega)
  have c3 := h.cell 3 (by omega)
  have b0 := byt_getD h.byt 0
  have b1 := byt_getD h.byt 1
  have b2 := byt_getD h.byt 2
  have b3 := byt_getD h.byt 3
  unfold nat4
  generalize xs.getD 0 0 = x0 at *
  generalize xs.getD 1 0 = x1 at *
  generalize xs.getD 2 0 = x2 at *
  generalize xs.getD 3 0 = x3 at *
  obtain ⟨b00, b01⟩ := b0
  obtain ⟨b10, b11⟩ := b1
  obtain ⟨b20, b21⟩ := b2
  obtain ⟨b30, b31⟩ := b3
  have i2 : (4 : Int) ≤ (c : Nat) := by omega
  go_enter Tryd.func26, Tryd.ntmps26
  go_wp2
  refine wp_loop_rounds 5 ?_
  rw [rounds_succ]
  go_wp2
  rw [rounds_succ]
  go_wp2
  rw [rounds_succ]
  go_wp2
  rw [rounds_succ]
  go_wp2
  rw [rounds_succ]
  go_wp2
  go_ret
  refine ⟨?_, rfl⟩
  show Ending.returned (.int .u64 (bits .or .u64 (IntKind.u64.wrap (bits .or .u64 (IntKind.u64.wrap (bits .or .u64 (IntKind.u64.wrap (bits .or .u64 0 x0 * 256)) x1 * 256)) x2 * 256)) x3)) = _
  rw [or_zero x0 b00 b01, or_step x0 x1 b00 (by omega) b10 b11, or_step (x0 * 256 + x1) x2 (by omega) (by omega) b20 b21, or_step _ x3 (by omega) (by omega) b30 b31]
  congr 2
  omega

/-- The cells of a packet MARKER. -/
def markCells (len fl : Int) (q : Nat) (k : Int) : Array Value := #[.int .u16 0, .int .u32 len, .int .u8 12, .int .u8 fl, .pointer (some ⟨q, 0, none⟩), .int .u8 k]

set_option maxRecDepth 100000 in
theorem markFrom_short (v : Value) (n : Nat) (a : Option Addr) (c q : Nat) (hv : v = .slice a n c) (hn : n ≠ 11) (w : World) :
    Calls Tryd.prog 48 #[v, .pointer (some ⟨q, 0, none⟩)] w fun e w' => e = .returned (.pointer none) ∧ w' = w := by
  subst hv
  go_enter Tryd.func48, Tryd.ntmps48
  go_wp2
  go_ret
  exact ⟨rfl, rfl⟩

set_option maxRecDepth 100000 in
set_option maxHeartbeats 1000000 in
theorem markFrom (b o c q : Nat) (xs : List Int) (cx : Ctx) (w : World) (h : RdAt w b o xs) (hn : xs.length = 11) (hc : 11 ≤ c)
    (hq : w.heap[q]? = some (.cells (cx.cells ByteArray.empty) 93 (0, 0))) :
    Calls Tryd.prog 48 #[.slice (some ⟨b, o, none⟩) 11 c, .pointer (some ⟨q, 0, none⟩)] w fun e w' => ∃ r, e = .returned (.pointer r) ∧
      (xs.getD 4 0 ≠ 12 → r = none) ∧ (xs.getD 4 0 = 12 → ∃ k, r = some ⟨k, 0, none⟩ ∧ w'.heap[k]? = some (.cells (markCells (lenOf cx xs) (xs.getD 5 0) q (xs.getD 10 0)) 85 (0, 0))) ∧ Gr w w' := by
  have k4 := h.cell 4 (by omega)
  have k5 := h.cell 5 (by omega)
  have k10 := h.cell 10 (by omega)
  have B4 := byt_getD h.byt 4
  generalize xs.getD 4 0 = t at *
  generalize xs.getD 5 0 = fl at *
  generalize xs.getD 10 0 = kk at *
  have hq2 : w.cell? ⟨q, 2, none⟩ = some (.int .u16 cx.ver) := (blk_cell hq 2).trans rfl
  have hq9 : w.cell? ⟨q, 9, none⟩ = some (.bool cx.done) := (blk_cell hq 9).trans rfl
  have i4 : (4 : Int) < (11 : Nat) := by omega
  have i5 : (5 : Int) < (11 : Nat) := by omega
  have i10 : (10 : Int) < (11 : Nat) := by omega
  have hb : b < w.heap.size := World.block_lt_of_cell? w _ k4
  have hql : q < w.heap.size := lt_of_some hq
  have HX := Lib.hid hn
  have BB := And.intro (nat2_bd h.byt) (nat4_bd h.byt)
  obtain ⟨⟨BB0, BB1⟩, BB2, BB3⟩ := BB
  obtain ⟨B40, B41⟩ := B4
  clear hn
  have main : ∀ (ht : t = 12 ∨ ¬ t = 12) (hcx : (cx.done = true ∧ 315 ≤ cx.ver) ∨ (cx.done = true ∧ cx.ver < 315) ∨ cx.done = false), Calls Tryd.prog 48 #[.slice (some ⟨b, o, none⟩) 11 c, .pointer (some ⟨q, 0, none⟩)] w fun e w' => ∃ r, e = .returned (.pointer r) ∧
      (t ≠ 12 → r = none) ∧ (t = 12 → ∃ k, r = some ⟨k, 0, none⟩ ∧ w'.heap[k]? = some (.cells (markCells (lenOf cx xs) fl q kk) 85 (0, 0))) ∧ Gr w w' := by
    intro ht hcx
    have HL := Lib.hid (show lenOf cx xs = if (cx.done && decide (315 ≤ cx.ver)) = true then nat4 xs else nat2 xs from rfl)
    generalize lenOf cx xs = len at HL ⊢
    have L1 : cx.done = true → 315 ≤ cx.ver → len = nat4 xs := fun a b => by rw [HL.out, if_pos (by simp [a, b])]
    have L2 : cx.done = true → cx.ver < 315 → len = nat2 xs := fun a b => by rw [HL.out, if_neg (by simp [a]; omega)]
    have L3 : cx.done = false → len = nat2 xs := fun a => by rw [HL.out, if_neg (by simp [a])]
    have L1 := Lib.hid L1
    have L2 := Lib.hid L2
    have L3 := Lib.hid L3
    rcases ht with rfl | ht <;> rcases hcx with ⟨hd, hv⟩ | ⟨hd, hv⟩ | hd
    all_goals
      go_enter Tryd.func48, Tryd.ntmps48
      go_wp2
      go_region
      go_wp2_with (first
        | (go_at_call 59; go_must (refine (get32 _ b o _ _ xs (h.gr (((Gr.refl w).alloc _).drew)) (by omega) (by rw [HX.out]; omega)).mono ?_); rintro e w2 ⟨rfl, hg2⟩; have hk : w2.heap[w.heap.size]? = some (.cells #[.int .u16 0, .int .u32 0, .int .u8 _, .int .u8 fl, .pointer (some ⟨q, 0, none⟩), .int .u8 kk] 85 (0, 0)) := hg2.heap (heap_alloc_new w _); have c1 : w2.cell? ⟨w.heap.size, 1, none⟩ = some (.int .u32 0) := (blk_cell hk 1).trans rfl; have c2 : w2.cell? ⟨w.heap.size, 2, none⟩ = some (.int .u8 _) := (blk_cell hk 2).trans rfl; have f1 := blk_free hk 1)
        | (go_at_call 54; go_must (refine (get16 _ b o _ _ xs (h.gr (((Gr.refl w).alloc _).drew)) (by omega) (by rw [HX.out]; omega)).mono ?_); rintro e w2 ⟨rfl, hg2⟩; have hk : w2.heap[w.heap.size]? = some (.cells #[.int .u16 0, .int .u32 0, .int .u8 _, .int .u8 fl, .pointer (some ⟨q, 0, none⟩), .int .u8 kk] 85 (0, 0)) := hg2.heap (heap_alloc_new w _); have c1 : w2.cell? ⟨w.heap.size, 1, none⟩ = some (.int .u32 0) := (blk_cell hk 1).trans rfl; have c2 : w2.cell? ⟨w.heap.size, 2, none⟩ = some (.int .u8 _) := (blk_cell hk 2).trans rfl; have f1 := blk_free hk 1))
      go_ret
      refine ⟨_, rfl, fun e => by first | rfl | exact absurd rfl e | exact absurd e ht, fun e => ?_, ((((Gr.refl w).alloc _).drew).trans hg2).setCell (Nat.le_refl _) _⟩
      first
        | exact absurd e ht
        | (refine ⟨_, rfl, (blk_set hk 1 _).trans ?_⟩
           first | rw [L1.out hd hv] | rw [L2.out hd hv] | rw [L3.out hd]
           simp [markCells])
  exact main (Decidable.em _) (by cases hd : cx.done <;> by_cases hv : 315 ≤ cx.ver <;> simp [hd] <;> omega)

set_option maxRecDepth 100000 in
theorem net_MarkerRead_nil (q : Nat) (v : Value) (w : World) (h : Calls Tryd.prog 48 #[v, .pointer (some ⟨q, 0, none⟩)] w fun e w' => e = .returned (.pointer none) ∧ Gr w w') :
    Calls Tryd.prog 35 #[.pointer (some ⟨q, 0, none⟩), v] w fun e w' => e = .returned (.tuple #[.pointer none, .int .u8 0]) ∧ Gr w w' := by
  have H := Lib.hid h
  clear h
  go_enter Tryd.func35, Tryd.ntmps35
  go_wp2_with (first | (go_at_call 48; refine H.out.mono ?_; rintro e w1 ⟨rfl, hg1⟩))
  exact bodyPost_ret (v := .tuple #[.pointer none, .int .u8 0]) (by simp [results, Tryd.results35, go_sem]) rfl ⟨rfl, hg1⟩

set_option maxRecDepth 100000 in
theorem net_MarkerRead_some (q : Nat) (v : Value) (len fl kk : Int) (w : World) (h : Calls Tryd.prog 48 #[v, .pointer (some ⟨q, 0, none⟩)] w fun e w' => ∃ k, e = .returned (.pointer (some ⟨k, 0, none⟩)) ∧ w'.heap[k]? = some (.cells (markCells len fl q kk) 85 (0, 0)) ∧ Gr w w') :
    Calls Tryd.prog 35 #[.pointer (some ⟨q, 0, none⟩), v] w fun e w' => ∃ k, e = .returned (.tuple #[.pointer (some ⟨k, 0, none⟩), .int .u8 kk]) ∧ w'.heap[k]? = some (.cells (markCells len fl q kk) 85 (0, 0)) ∧ Gr w w' := by
  have H := Lib.hid h
  clear h
  go_enter Tryd.func35, Tryd.ntmps35
  go_wp2_with (first | (go_at_call 48; refine H.out.mono ?_; rintro e w1 ⟨k, rfl, hk, hg1⟩; have c5 : w1.cell? ⟨k, 5, none⟩ = some (.int .u8 kk) := (blk_cell hk 5).trans rfl))
  go_quiet (fail)
  go_wp2
  exact bodyPost_ret (v := .tuple #[.pointer (some ⟨k, 0, none⟩), .int .u8 kk]) (by simp [results, Tryd.results35, go_sem]) rfl ⟨_, rfl, hk, hg1.drewN _⟩
end Go.Proofs.YtoaajnhbcekglaaDoor
