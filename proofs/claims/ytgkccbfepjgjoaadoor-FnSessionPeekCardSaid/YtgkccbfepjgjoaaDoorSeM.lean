/- A step of a reader, as the thin package does it: where the input does not suffice. Printed by gen_gotno.py. -/
import Derived.Test.YtgkccbfepjgjoaaDoorSeMb
namespace Go.Proofs.YtgkccbfepjgjoaaDoor
open Go Go.RowKit

set_option maxRecDepth 100000 in
set_option maxHeartbeats 2000000 in
theorem gotn_byte (s : Nat) (big : Bool) (ch : Int) (E : Value) (r : List Int) (sz : Int) (be co : Bool) (w : World) (h : Ss w s big ch E r) (hc : r = []) (hsz : 0 ≤ sz) :
    Calls Tryd.prog 38 #[.pointer (some ⟨s, 0, none⟩), .agg #[.int .i64 0, .int .i64 sz, .bool be, .bool co]] w (RetG w s big ch E none) := by
  have hsl := h.lt
  have HN := Lib.hid (GB.new w 0 sz be co)
  obtain ⟨T, p, rfl⟩ := h.err
  have HS := Lib.hid h
  subst hc
  have HC := fun w hs => Lib.hid (getByte_no s big ch (.iface T (.pointer (some p))) w hs)
  clear h
  go_enter Tryd.func38, Tryd.ntmps38
  go_wp2_with (first
    | (go_at_call 63; go_must (refine (HC _ (HS.out.gr ((((Gr.refl w).alloc _).alloc _).alloc _))).out.mono ?_); rintro e w1 ⟨rfl, ⟨r1, hs1⟩, hf1⟩; have hb1 := HN.out.fx hf1 hsl; have g0 := blk_cell hb1.g 0; have g1 := blk_cell hb1.g 1; have g2 := blk_cell hb1.g 2; have g3 := blk_cell hb1.g 3; have g4 := blk_cell hb1.g 4; have y1 := blk_free hb1.g 1; have y2 := blk_free hb1.g 2; have y3 := blk_free hb1.g 3; have y4 := blk_free hb1.g 4; have n0 := blk_cell hb1.r 0; have n1 := blk_cell hb1.r 1; have n2 := blk_cell hb1.r 2; have n3 := blk_cell hb1.r 3; have n4 := blk_cell hb1.r 4; have z0 := blk_free hb1.r 0; have z1 := blk_free hb1.r 1; have z2 := blk_free hb1.r 2; have z3 := blk_free hb1.r 3; have z4 := blk_free hb1.r 4; simp [zeroCs] at g0 g1 g2 g3 g4 n0 n1 n2 n3 n4))
  have hbl := fun u3 a0 a1 a2 a3 a4 => Lib.hid (show Below w.heap.size w1 (((((((w1).setCell ⟨w.heap.size + 1 + 1, 3, none⟩ u3).setCell ⟨w.heap.size + 1, 0, none⟩ a0).setCell ⟨w.heap.size + 1, 1, none⟩ a1).setCell ⟨w.heap.size + 1, 2, none⟩ a2).setCell ⟨w.heap.size + 1, 3, none⟩ a3).setCell ⟨w.heap.size + 1, 4, none⟩ a4) from ((((((Below.refl w.heap.size w1).setCell (p := ⟨w.heap.size + 1 + 1, 3, none⟩) (by simp; omega) _).setCell (p := ⟨w.heap.size + 1, 0, none⟩) (by simp) _).setCell (p := ⟨w.heap.size + 1, 1, none⟩) (by simp) _).setCell (p := ⟨w.heap.size + 1, 2, none⟩) (by simp) _).setCell (p := ⟨w.heap.size + 1, 3, none⟩) (by simp) _).setCell (p := ⟨w.heap.size + 1, 4, none⟩) (by simp) _)
  refine bodyPost_ret (v := zeroG) (by simp [zeroG, results, Tryd.results38, go_sem, n0, n1, n2, n3, n4] <;> rfl) rfl ⟨rfl, ⟨r1, hs1.below (hbl _ _ _ _ _ _).out hsl⟩, (((((Fx.refl s w).alloc _).alloc _).alloc _).trans hf1).below (hbl _ _ _ _ _ _).out (Nat.le_refl _)⟩

set_option maxRecDepth 100000 in
set_option maxHeartbeats 2000000 in
theorem gotn_bytes (s : Nat) (big : Bool) (ch : Int) (E : Value) (r : List Int) (m : Nat) (be co : Bool) (w : World) (h : Ss w s big ch E r) (hc : r.length < m) (hm : m ≤ 1152921504606846976) :
    Calls Tryd.prog 38 #[.pointer (some ⟨s, 0, none⟩), .agg #[.int .i64 1, .int .i64 m, .bool be, .bool co]] w (RetG w s big ch E none) := by
  have hsl := h.lt
  have HN := Lib.hid (GB.new w 1 m be co)
  obtain ⟨T, p, rfl⟩ := h.err
  have HS := Lib.hid h
  have HC := fun w hs => Lib.hid (getBytes_no s big ch (.iface T (.pointer (some p))) r m w hs hc hm)
  clear hc
  clear h
  go_enter Tryd.func38, Tryd.ntmps38
  go_wp2_with (first
    | (go_at_call 64; go_must (refine (HC _ (HS.out.gr ((((Gr.refl w).alloc _).alloc _).alloc _))).out.mono ?_); rintro e w1 ⟨rfl, ⟨r1, hs1⟩, hf1⟩; have hb1 := HN.out.fx hf1 hsl; have g0 := blk_cell hb1.g 0; have g1 := blk_cell hb1.g 1; have g2 := blk_cell hb1.g 2; have g3 := blk_cell hb1.g 3; have g4 := blk_cell hb1.g 4; have y1 := blk_free hb1.g 1; have y2 := blk_free hb1.g 2; have y3 := blk_free hb1.g 3; have y4 := blk_free hb1.g 4; have n0 := blk_cell hb1.r 0; have n1 := blk_cell hb1.r 1; have n2 := blk_cell hb1.r 2; have n3 := blk_cell hb1.r 3; have n4 := blk_cell hb1.r 4; have z0 := blk_free hb1.r 0; have z1 := blk_free hb1.r 1; have z2 := blk_free hb1.r 2; have z3 := blk_free hb1.r 3; have z4 := blk_free hb1.r 4; simp [zeroCs] at g0 g1 g2 g3 g4 n0 n1 n2 n3 n4))
  have hbl := fun u1 a0 a1 a2 a3 a4 => Lib.hid (show Below w.heap.size w1 (((((((w1).setCell ⟨w.heap.size + 1 + 1, 1, none⟩ u1).setCell ⟨w.heap.size + 1, 0, none⟩ a0).setCell ⟨w.heap.size + 1, 1, none⟩ a1).setCell ⟨w.heap.size + 1, 2, none⟩ a2).setCell ⟨w.heap.size + 1, 3, none⟩ a3).setCell ⟨w.heap.size + 1, 4, none⟩ a4) from ((((((Below.refl w.heap.size w1).setCell (p := ⟨w.heap.size + 1 + 1, 1, none⟩) (by simp; omega) _).setCell (p := ⟨w.heap.size + 1, 0, none⟩) (by simp) _).setCell (p := ⟨w.heap.size + 1, 1, none⟩) (by simp) _).setCell (p := ⟨w.heap.size + 1, 2, none⟩) (by simp) _).setCell (p := ⟨w.heap.size + 1, 3, none⟩) (by simp) _).setCell (p := ⟨w.heap.size + 1, 4, none⟩) (by simp) _)
  refine bodyPost_ret (v := zeroG) (by simp [zeroG, results, Tryd.results38, go_sem, n0, n1, n2, n3, n4] <;> rfl) rfl ⟨rfl, ⟨r1, hs1.below (hbl _ _ _ _ _ _).out hsl⟩, (((((Fx.refl s w).alloc _).alloc _).alloc _).trans hf1).below (hbl _ _ _ _ _ _).out (Nat.le_refl _)⟩

set_option maxRecDepth 100000 in
set_option maxHeartbeats 2000000 in
theorem gotn_clr (s : Nat) (big : Bool) (ch : Int) (E : Value) (r : List Int) (sz : Int) (be co : Bool) (w : World) (h : Ss w s big ch E r) (hc : Clr big r none) (hsz : 0 ≤ sz) :
    Calls Tryd.prog 38 #[.pointer (some ⟨s, 0, none⟩), .agg #[.int .i64 2, .int .i64 sz, .bool be, .bool co]] w (RetG w s big ch E none) := by
  have hsl := h.lt
  have HN := Lib.hid (GB.new w 2 sz be co)
  obtain ⟨T, p, rfl⟩ := h.err
  have HS := Lib.hid h
  have HC := fun w hs => Lib.hid (getClr s big ch (.iface T (.pointer (some p))) r _ w hs hc)
  clear hc
  clear h
  go_enter Tryd.func38, Tryd.ntmps38
  go_wp2_with (first
    | (go_at_call 65; go_must (refine (HC _ (HS.out.gr ((((Gr.refl w).alloc _).alloc _).alloc _))).out.mono ?_); rintro e w1 ⟨rfl, ⟨r1, hs1⟩, hf1⟩; have hb1 := HN.out.fx hf1 hsl; have g0 := blk_cell hb1.g 0; have g1 := blk_cell hb1.g 1; have g2 := blk_cell hb1.g 2; have g3 := blk_cell hb1.g 3; have g4 := blk_cell hb1.g 4; have y1 := blk_free hb1.g 1; have y2 := blk_free hb1.g 2; have y3 := blk_free hb1.g 3; have y4 := blk_free hb1.g 4; have n0 := blk_cell hb1.r 0; have n1 := blk_cell hb1.r 1; have n2 := blk_cell hb1.r 2; have n3 := blk_cell hb1.r 3; have n4 := blk_cell hb1.r 4; have z0 := blk_free hb1.r 0; have z1 := blk_free hb1.r 1; have z2 := blk_free hb1.r 2; have z3 := blk_free hb1.r 3; have z4 := blk_free hb1.r 4; simp [zeroCs] at g0 g1 g2 g3 g4 n0 n1 n2 n3 n4))
  have hbl := fun u1 a0 a1 a2 a3 a4 => Lib.hid (show Below w.heap.size w1 (((((((w1).setCell ⟨w.heap.size + 1 + 1, 1, none⟩ u1).setCell ⟨w.heap.size + 1, 0, none⟩ a0).setCell ⟨w.heap.size + 1, 1, none⟩ a1).setCell ⟨w.heap.size + 1, 2, none⟩ a2).setCell ⟨w.heap.size + 1, 3, none⟩ a3).setCell ⟨w.heap.size + 1, 4, none⟩ a4) from ((((((Below.refl w.heap.size w1).setCell (p := ⟨w.heap.size + 1 + 1, 1, none⟩) (by simp; omega) _).setCell (p := ⟨w.heap.size + 1, 0, none⟩) (by simp) _).setCell (p := ⟨w.heap.size + 1, 1, none⟩) (by simp) _).setCell (p := ⟨w.heap.size + 1, 2, none⟩) (by simp) _).setCell (p := ⟨w.heap.size + 1, 3, none⟩) (by simp) _).setCell (p := ⟨w.heap.size + 1, 4, none⟩) (by simp) _)
  refine bodyPost_ret (v := zeroG) (by simp [zeroG, results, Tryd.results38, go_sem, n0, n1, n2, n3, n4] <;> rfl) rfl ⟨rfl, ⟨r1, hs1.below (hbl _ _ _ _ _ _).out hsl⟩, (((((Fx.refl s w).alloc _).alloc _).alloc _).trans hf1).below (hbl _ _ _ _ _ _).out (Nat.le_refl _)⟩

set_option maxRecDepth 100000 in
set_option maxHeartbeats 2000000 in
theorem gotn_dlc (s : Nat) (big : Bool) (ch : Int) (E : Value) (r : List Int) (sz : Int) (be co : Bool) (w : World) (h : Ss w s big ch E r) (hp : PkShort r) (hc : Dlc big r none) (hsz : 0 ≤ sz) :
    Calls Tryd.prog 38 #[.pointer (some ⟨s, 0, none⟩), .agg #[.int .i64 3, .int .i64 sz, .bool be, .bool co]] w (RetG w s big ch E none) := by
  have hsl := h.lt
  have HN := Lib.hid (GB.new w 3 sz be co)
  obtain ⟨T, p, rfl⟩ := h.err
  have HS := Lib.hid h
  have HL := fun w hs => Lib.hid (long_no s big ch (.iface T (.pointer (some p))) r w hs hp)
  have HC := fun w hs => Lib.hid (getDlc s big ch (.iface T (.pointer (some p))) r _ w hs hc)
  clear hc hp
  clear h
  go_enter Tryd.func38, Tryd.ntmps38
  go_wp2_with (first
    | (go_at_call 66; go_must (refine (HL _ (HS.out.gr ((((Gr.refl w).alloc _).alloc _).alloc _))).out.mono ?_); rintro e w0 ⟨rfl, hs0, hf0⟩; have hb0 := HN.out.fx hf0 hsl; have x0 := blk_cell hb0.x 0; have x1 := blk_cell hb0.x 1; have x2 := blk_cell hb0.x 2; have x3 := blk_cell hb0.x 3; simp at x0 x1 x2 x3)
    | (go_at_call 67; go_must (refine (HC _ hs0).out.mono ?_); rintro e w1 ⟨rfl, ⟨r1, hs1⟩, hf1⟩; have hb1 := (HN.out.fx hf0 hsl).fx hf1 hsl; have g0 := blk_cell hb1.g 0; have g1 := blk_cell hb1.g 1; have g2 := blk_cell hb1.g 2; have g3 := blk_cell hb1.g 3; have g4 := blk_cell hb1.g 4; have y1 := blk_free hb1.g 1; have y2 := blk_free hb1.g 2; have y3 := blk_free hb1.g 3; have y4 := blk_free hb1.g 4; have n0 := blk_cell hb1.r 0; have n1 := blk_cell hb1.r 1; have n2 := blk_cell hb1.r 2; have n3 := blk_cell hb1.r 3; have n4 := blk_cell hb1.r 4; have z0 := blk_free hb1.r 0; have z1 := blk_free hb1.r 1; have z2 := blk_free hb1.r 2; have z3 := blk_free hb1.r 3; have z4 := blk_free hb1.r 4; simp [zeroCs] at g0 g1 g2 g3 g4 n0 n1 n2 n3 n4))
  have hbl := fun u1 a0 a1 a2 a3 a4 => Lib.hid (show Below w.heap.size w1 (((((((w1).setCell ⟨w.heap.size + 1 + 1, 1, none⟩ u1).setCell ⟨w.heap.size + 1, 0, none⟩ a0).setCell ⟨w.heap.size + 1, 1, none⟩ a1).setCell ⟨w.heap.size + 1, 2, none⟩ a2).setCell ⟨w.heap.size + 1, 3, none⟩ a3).setCell ⟨w.heap.size + 1, 4, none⟩ a4) from ((((((Below.refl w.heap.size w1).setCell (p := ⟨w.heap.size + 1 + 1, 1, none⟩) (by simp; omega) _).setCell (p := ⟨w.heap.size + 1, 0, none⟩) (by simp) _).setCell (p := ⟨w.heap.size + 1, 1, none⟩) (by simp) _).setCell (p := ⟨w.heap.size + 1, 2, none⟩) (by simp) _).setCell (p := ⟨w.heap.size + 1, 3, none⟩) (by simp) _).setCell (p := ⟨w.heap.size + 1, 4, none⟩) (by simp) _)
  refine bodyPost_ret (v := zeroG) (by simp [zeroG, results, Tryd.results38, go_sem, n0, n1, n2, n3, n4] <;> rfl) rfl ⟨rfl, ⟨r1, hs1.below (hbl _ _ _ _ _ _).out hsl⟩, (((((Fx.refl s w).alloc _).alloc _).alloc _).trans (hf0.trans hf1)).below (hbl _ _ _ _ _ _).out (Nat.le_refl _)⟩

set_option maxRecDepth 100000 in
set_option maxHeartbeats 2000000 in
theorem gotn_i64c (s : Nat) (big : Bool) (ch : Int) (E : Value) (r : List Int) (sz : Int) (be : Bool) (w : World) (h : Ss w s big ch E r) (hp : PkShort r) (hc : rdPk r = none) (hsz : 0 ≤ sz) :
    Calls Tryd.prog 38 #[.pointer (some ⟨s, 0, none⟩), .agg #[.int .i64 4, .int .i64 sz, .bool be, .bool true]] w (RetG w s big ch E none) := by
  have hsl := h.lt
  have HN := Lib.hid (GB.new w 4 sz be true)
  obtain ⟨T, p, rfl⟩ := h.err
  have HS := Lib.hid h
  have HL := fun w hs => Lib.hid (long_no s big ch (.iface T (.pointer (some p))) r w hs hp)
  have HC := fun w hs => Lib.hid (by have := int64_pk s big ch (.iface T (.pointer (some p))) sz be r w hs hp; rw [hc] at this; exact this)
  clear hc hp
  clear h
  go_enter Tryd.func38, Tryd.ntmps38
  go_wp2_with (first
    | (go_at_call 66; go_must (refine (HL _ (HS.out.gr ((((Gr.refl w).alloc _).alloc _).alloc _))).out.mono ?_); rintro e w0 ⟨rfl, hs0, hf0⟩; have hb0 := HN.out.fx hf0 hsl; have x0 := blk_cell hb0.x 0; have x1 := blk_cell hb0.x 1; have x2 := blk_cell hb0.x 2; have x3 := blk_cell hb0.x 3; simp at x0 x1 x2 x3)
    | (go_at_call 68; go_must (refine (HC _ hs0).out.mono ?_); rintro e w1 ⟨rfl, ⟨r1, hs1⟩, hf1⟩; have hb1 := (HN.out.fx hf0 hsl).fx hf1 hsl; have g0 := blk_cell hb1.g 0; have g1 := blk_cell hb1.g 1; have g2 := blk_cell hb1.g 2; have g3 := blk_cell hb1.g 3; have g4 := blk_cell hb1.g 4; have y1 := blk_free hb1.g 1; have y2 := blk_free hb1.g 2; have y3 := blk_free hb1.g 3; have y4 := blk_free hb1.g 4; have n0 := blk_cell hb1.r 0; have n1 := blk_cell hb1.r 1; have n2 := blk_cell hb1.r 2; have n3 := blk_cell hb1.r 3; have n4 := blk_cell hb1.r 4; have z0 := blk_free hb1.r 0; have z1 := blk_free hb1.r 1; have z2 := blk_free hb1.r 2; have z3 := blk_free hb1.r 3; have z4 := blk_free hb1.r 4; simp [zeroCs] at g0 g1 g2 g3 g4 n0 n1 n2 n3 n4))
  have hbl := fun u3 a0 a1 a2 a3 a4 => Lib.hid (show Below w.heap.size w1 (((((((w1).setCell ⟨w.heap.size + 1 + 1, 3, none⟩ u3).setCell ⟨w.heap.size + 1, 0, none⟩ a0).setCell ⟨w.heap.size + 1, 1, none⟩ a1).setCell ⟨w.heap.size + 1, 2, none⟩ a2).setCell ⟨w.heap.size + 1, 3, none⟩ a3).setCell ⟨w.heap.size + 1, 4, none⟩ a4) from ((((((Below.refl w.heap.size w1).setCell (p := ⟨w.heap.size + 1 + 1, 3, none⟩) (by simp; omega) _).setCell (p := ⟨w.heap.size + 1, 0, none⟩) (by simp) _).setCell (p := ⟨w.heap.size + 1, 1, none⟩) (by simp) _).setCell (p := ⟨w.heap.size + 1, 2, none⟩) (by simp) _).setCell (p := ⟨w.heap.size + 1, 3, none⟩) (by simp) _).setCell (p := ⟨w.heap.size + 1, 4, none⟩) (by simp) _)
  refine bodyPost_ret (v := zeroG) (by simp [zeroG, results, Tryd.results38, go_sem, n0, n1, n2, n3, n4] <;> rfl) rfl ⟨rfl, ⟨r1, hs1.below (hbl _ _ _ _ _ _).out hsl⟩, (((((Fx.refl s w).alloc _).alloc _).alloc _).trans (hf0.trans hf1)).below (hbl _ _ _ _ _ _).out (Nat.le_refl _)⟩

set_option maxRecDepth 100000 in
set_option maxHeartbeats 2000000 in
theorem gotn_i64n (s : Nat) (big : Bool) (ch : Int) (E : Value) (r : List Int) (m : Nat) (be : Bool) (w : World) (h : Ss w s big ch E r) (m1 : 1 ≤ m) (m8 : m ≤ 8) (hc : rdNum m be r = none) :
    Calls Tryd.prog 38 #[.pointer (some ⟨s, 0, none⟩), .agg #[.int .i64 4, .int .i64 m, .bool be, .bool false]] w (RetG w s big ch E none) := by
  have hsl := h.lt
  have HN := Lib.hid (GB.new w 4 m be false)
  obtain ⟨T, p, rfl⟩ := h.err
  have HS := Lib.hid h
  have HC := fun w hs => Lib.hid (by have := int64_num s big ch (.iface T (.pointer (some p))) m be r w hs m1 m8; rw [hc] at this; exact this)
  clear hc
  clear h
  go_enter Tryd.func38, Tryd.ntmps38
  go_wp2_with (first
    | (go_at_call 68; go_must (refine (HC _ (HS.out.gr ((((Gr.refl w).alloc _).alloc _).alloc _))).out.mono ?_); rintro e w1 ⟨rfl, ⟨r1, hs1⟩, hf1⟩; have hb1 := HN.out.fx hf1 hsl; have g0 := blk_cell hb1.g 0; have g1 := blk_cell hb1.g 1; have g2 := blk_cell hb1.g 2; have g3 := blk_cell hb1.g 3; have g4 := blk_cell hb1.g 4; have y1 := blk_free hb1.g 1; have y2 := blk_free hb1.g 2; have y3 := blk_free hb1.g 3; have y4 := blk_free hb1.g 4; have n0 := blk_cell hb1.r 0; have n1 := blk_cell hb1.r 1; have n2 := blk_cell hb1.r 2; have n3 := blk_cell hb1.r 3; have n4 := blk_cell hb1.r 4; have z0 := blk_free hb1.r 0; have z1 := blk_free hb1.r 1; have z2 := blk_free hb1.r 2; have z3 := blk_free hb1.r 3; have z4 := blk_free hb1.r 4; simp [zeroCs] at g0 g1 g2 g3 g4 n0 n1 n2 n3 n4))
  have hbl := fun u3 a0 a1 a2 a3 a4 => Lib.hid (show Below w.heap.size w1 (((((((w1).setCell ⟨w.heap.size + 1 + 1, 3, none⟩ u3).setCell ⟨w.heap.size + 1, 0, none⟩ a0).setCell ⟨w.heap.size + 1, 1, none⟩ a1).setCell ⟨w.heap.size + 1, 2, none⟩ a2).setCell ⟨w.heap.size + 1, 3, none⟩ a3).setCell ⟨w.heap.size + 1, 4, none⟩ a4) from ((((((Below.refl w.heap.size w1).setCell (p := ⟨w.heap.size + 1 + 1, 3, none⟩) (by simp; omega) _).setCell (p := ⟨w.heap.size + 1, 0, none⟩) (by simp) _).setCell (p := ⟨w.heap.size + 1, 1, none⟩) (by simp) _).setCell (p := ⟨w.heap.size + 1, 2, none⟩) (by simp) _).setCell (p := ⟨w.heap.size + 1, 3, none⟩) (by simp) _).setCell (p := ⟨w.heap.size + 1, 4, none⟩) (by simp) _)
  refine bodyPost_ret (v := zeroG) (by simp [zeroG, results, Tryd.results38, go_sem, n0, n1, n2, n3, n4] <;> rfl) rfl ⟨rfl, ⟨r1, hs1.below (hbl _ _ _ _ _ _).out hsl⟩, (((((Fx.refl s w).alloc _).alloc _).alloc _).trans hf1).below (hbl _ _ _ _ _ _).out (Nat.le_refl _)⟩

set_option maxRecDepth 100000 in
set_option maxHeartbeats 2000000 in
theorem gotn_intc (s : Nat) (big : Bool) (ch : Int) (E : Value) (r : List Int) (sz : Int) (be : Bool) (w : World) (h : Ss w s big ch E r) (hp : PkShort r) (hc : rdPk r = none) (hsz : 0 ≤ sz) :
    Calls Tryd.prog 38 #[.pointer (some ⟨s, 0, none⟩), .agg #[.int .i64 5, .int .i64 sz, .bool be, .bool true]] w (RetG w s big ch E none) := by
  have hsl := h.lt
  have HN := Lib.hid (GB.new w 5 sz be true)
  obtain ⟨T, p, rfl⟩ := h.err
  have HS := Lib.hid h
  have HL := fun w hs => Lib.hid (long_no s big ch (.iface T (.pointer (some p))) r w hs hp)
  have HC := fun w hs => Lib.hid (by have := getInt_pk s big ch (.iface T (.pointer (some p))) sz be r w hs hp; rw [hc] at this; exact this)
  clear hc hp
  clear h
  go_enter Tryd.func38, Tryd.ntmps38
  go_wp2_with (first
    | (go_at_call 66; go_must (refine (HL _ (HS.out.gr ((((Gr.refl w).alloc _).alloc _).alloc _))).out.mono ?_); rintro e w0 ⟨rfl, hs0, hf0⟩; have hb0 := HN.out.fx hf0 hsl; have x0 := blk_cell hb0.x 0; have x1 := blk_cell hb0.x 1; have x2 := blk_cell hb0.x 2; have x3 := blk_cell hb0.x 3; simp at x0 x1 x2 x3)
    | (go_at_call 69; go_must (refine (HC _ hs0).out.mono ?_); rintro e w1 ⟨rfl, ⟨r1, hs1⟩, hf1⟩; have hb1 := (HN.out.fx hf0 hsl).fx hf1 hsl; have g0 := blk_cell hb1.g 0; have g1 := blk_cell hb1.g 1; have g2 := blk_cell hb1.g 2; have g3 := blk_cell hb1.g 3; have g4 := blk_cell hb1.g 4; have y1 := blk_free hb1.g 1; have y2 := blk_free hb1.g 2; have y3 := blk_free hb1.g 3; have y4 := blk_free hb1.g 4; have n0 := blk_cell hb1.r 0; have n1 := blk_cell hb1.r 1; have n2 := blk_cell hb1.r 2; have n3 := blk_cell hb1.r 3; have n4 := blk_cell hb1.r 4; have z0 := blk_free hb1.r 0; have z1 := blk_free hb1.r 1; have z2 := blk_free hb1.r 2; have z3 := blk_free hb1.r 3; have z4 := blk_free hb1.r 4; simp [zeroCs] at g0 g1 g2 g3 g4 n0 n1 n2 n3 n4))
  have hbl := fun u3 a0 a1 a2 a3 a4 => Lib.hid (show Below w.heap.size w1 (((((((w1).setCell ⟨w.heap.size + 1 + 1, 3, none⟩ u3).setCell ⟨w.heap.size + 1, 0, none⟩ a0).setCell ⟨w.heap.size + 1, 1, none⟩ a1).setCell ⟨w.heap.size + 1, 2, none⟩ a2).setCell ⟨w.heap.size + 1, 3, none⟩ a3).setCell ⟨w.heap.size + 1, 4, none⟩ a4) from ((((((Below.refl w.heap.size w1).setCell (p := ⟨w.heap.size + 1 + 1, 3, none⟩) (by simp; omega) _).setCell (p := ⟨w.heap.size + 1, 0, none⟩) (by simp) _).setCell (p := ⟨w.heap.size + 1, 1, none⟩) (by simp) _).setCell (p := ⟨w.heap.size + 1, 2, none⟩) (by simp) _).setCell (p := ⟨w.heap.size + 1, 3, none⟩) (by simp) _).setCell (p := ⟨w.heap.size + 1, 4, none⟩) (by simp) _)
  refine bodyPost_ret (v := zeroG) (by simp [zeroG, results, Tryd.results38, go_sem, n0, n1, n2, n3, n4] <;> rfl) rfl ⟨rfl, ⟨r1, hs1.below (hbl _ _ _ _ _ _).out hsl⟩, (((((Fx.refl s w).alloc _).alloc _).alloc _).trans (hf0.trans hf1)).below (hbl _ _ _ _ _ _).out (Nat.le_refl _)⟩

set_option maxRecDepth 100000 in
set_option maxHeartbeats 2000000 in
theorem gotn_intn (s : Nat) (big : Bool) (ch : Int) (E : Value) (r : List Int) (m : Nat) (be : Bool) (w : World) (h : Ss w s big ch E r) (m1 : 1 ≤ m) (m8 : m ≤ 8) (hc : rdNum m be r = none) :
    Calls Tryd.prog 38 #[.pointer (some ⟨s, 0, none⟩), .agg #[.int .i64 5, .int .i64 m, .bool be, .bool false]] w (RetG w s big ch E none) := by
  have hsl := h.lt
  have HN := Lib.hid (GB.new w 5 m be false)
  obtain ⟨T, p, rfl⟩ := h.err
  have HS := Lib.hid h
  have HC := fun w hs => Lib.hid (by have := getInt_num s big ch (.iface T (.pointer (some p))) m be r w hs m1 m8; rw [hc] at this; exact this)
  clear hc
  clear h
  go_enter Tryd.func38, Tryd.ntmps38
  go_wp2_with (first
    | (go_at_call 69; go_must (refine (HC _ (HS.out.gr ((((Gr.refl w).alloc _).alloc _).alloc _))).out.mono ?_); rintro e w1 ⟨rfl, ⟨r1, hs1⟩, hf1⟩; have hb1 := HN.out.fx hf1 hsl; have g0 := blk_cell hb1.g 0; have g1 := blk_cell hb1.g 1; have g2 := blk_cell hb1.g 2; have g3 := blk_cell hb1.g 3; have g4 := blk_cell hb1.g 4; have y1 := blk_free hb1.g 1; have y2 := blk_free hb1.g 2; have y3 := blk_free hb1.g 3; have y4 := blk_free hb1.g 4; have n0 := blk_cell hb1.r 0; have n1 := blk_cell hb1.r 1; have n2 := blk_cell hb1.r 2; have n3 := blk_cell hb1.r 3; have n4 := blk_cell hb1.r 4; have z0 := blk_free hb1.r 0; have z1 := blk_free hb1.r 1; have z2 := blk_free hb1.r 2; have z3 := blk_free hb1.r 3; have z4 := blk_free hb1.r 4; simp [zeroCs] at g0 g1 g2 g3 g4 n0 n1 n2 n3 n4))
  have hbl := fun u3 a0 a1 a2 a3 a4 => Lib.hid (show Below w.heap.size w1 (((((((w1).setCell ⟨w.heap.size + 1 + 1, 3, none⟩ u3).setCell ⟨w.heap.size + 1, 0, none⟩ a0).setCell ⟨w.heap.size + 1, 1, none⟩ a1).setCell ⟨w.heap.size + 1, 2, none⟩ a2).setCell ⟨w.heap.size + 1, 3, none⟩ a3).setCell ⟨w.heap.size + 1, 4, none⟩ a4) from ((((((Below.refl w.heap.size w1).setCell (p := ⟨w.heap.size + 1 + 1, 3, none⟩) (by simp; omega) _).setCell (p := ⟨w.heap.size + 1, 0, none⟩) (by simp) _).setCell (p := ⟨w.heap.size + 1, 1, none⟩) (by simp) _).setCell (p := ⟨w.heap.size + 1, 2, none⟩) (by simp) _).setCell (p := ⟨w.heap.size + 1, 3, none⟩) (by simp) _).setCell (p := ⟨w.heap.size + 1, 4, none⟩) (by simp) _)
  refine bodyPost_ret (v := zeroG) (by simp [zeroG, results, Tryd.results38, go_sem, n0, n1, n2, n3, n4] <;> rfl) rfl ⟨rfl, ⟨r1, hs1.below (hbl _ _ _ _ _ _).out hsl⟩, (((((Fx.refl s w).alloc _).alloc _).alloc _).trans hf1).below (hbl _ _ _ _ _ _).out (Nat.le_refl _)⟩

set_option maxRecDepth 100000 in
set_option maxHeartbeats 2000000 in
theorem gotn_kv (s : Nat) (big : Bool) (ch : Int) (E : Value) (r : List Int) (sz : Int) (be co : Bool) (w : World) (h : Ss w s big ch E r) (hc : ∀ w, Ss w s big ch E r → Calls Tryd.prog 70 #[.pointer (some ⟨s, 0, none⟩)] w (RetK w s big ch E none)) (hsz : 0 ≤ sz) :
    Calls Tryd.prog 38 #[.pointer (some ⟨s, 0, none⟩), .agg #[.int .i64 6, .int .i64 sz, .bool be, .bool co]] w (RetG w s big ch E none) := by
  have hsl := h.lt
  have HN := Lib.hid (GB.new w 6 sz be co)
  obtain ⟨T, p, rfl⟩ := h.err
  have HS := Lib.hid h
  have HC := fun w hs => Lib.hid (hc w hs)
  clear hc
  clear h
  go_enter Tryd.func38, Tryd.ntmps38
  go_wp2_with (first
    | (go_at_call 70; go_must (refine (HC _ (HS.out.gr ((((Gr.refl w).alloc _).alloc _).alloc _))).out.mono ?_); rintro e w1 ⟨q1, m1, c1, q2, m2, c2, rfl, ⟨r1, hs1⟩, hf1⟩; have hb1 := HN.out.fx hf1 hsl; have g0 := blk_cell hb1.g 0; have g1 := blk_cell hb1.g 1; have g2 := blk_cell hb1.g 2; have g3 := blk_cell hb1.g 3; have g4 := blk_cell hb1.g 4; have y1 := blk_free hb1.g 1; have y2 := blk_free hb1.g 2; have y3 := blk_free hb1.g 3; have y4 := blk_free hb1.g 4; have n0 := blk_cell hb1.r 0; have n1 := blk_cell hb1.r 1; have n2 := blk_cell hb1.r 2; have n3 := blk_cell hb1.r 3; have n4 := blk_cell hb1.r 4; have z0 := blk_free hb1.r 0; have z1 := blk_free hb1.r 1; have z2 := blk_free hb1.r 2; have z3 := blk_free hb1.r 3; have z4 := blk_free hb1.r 4; simp [zeroCs] at g0 g1 g2 g3 g4 n0 n1 n2 n3 n4))
  have hbl := fun u1 u2 u3 a0 a1 a2 a3 a4 => Lib.hid (show Below w.heap.size w1 (((((((((w1).setCell ⟨w.heap.size + 1 + 1, 1, none⟩ u1).setCell ⟨w.heap.size + 1 + 1, 2, none⟩ u2).setCell ⟨w.heap.size + 1 + 1, 3, none⟩ u3).setCell ⟨w.heap.size + 1, 0, none⟩ a0).setCell ⟨w.heap.size + 1, 1, none⟩ a1).setCell ⟨w.heap.size + 1, 2, none⟩ a2).setCell ⟨w.heap.size + 1, 3, none⟩ a3).setCell ⟨w.heap.size + 1, 4, none⟩ a4) from ((((((((Below.refl w.heap.size w1).setCell (p := ⟨w.heap.size + 1 + 1, 1, none⟩) (by simp; omega) _).setCell (p := ⟨w.heap.size + 1 + 1, 2, none⟩) (by simp; omega) _).setCell (p := ⟨w.heap.size + 1 + 1, 3, none⟩) (by simp; omega) _).setCell (p := ⟨w.heap.size + 1, 0, none⟩) (by simp) _).setCell (p := ⟨w.heap.size + 1, 1, none⟩) (by simp) _).setCell (p := ⟨w.heap.size + 1, 2, none⟩) (by simp) _).setCell (p := ⟨w.heap.size + 1, 3, none⟩) (by simp) _).setCell (p := ⟨w.heap.size + 1, 4, none⟩) (by simp) _)
  refine bodyPost_ret (v := zeroG) (by simp [zeroG, results, Tryd.results38, go_sem, n0, n1, n2, n3, n4] <;> rfl) rfl ⟨rfl, ⟨r1, hs1.below (hbl _ _ _ _ _ _ _ _).out hsl⟩, (((((Fx.refl s w).alloc _).alloc _).alloc _).trans hf1).below (hbl _ _ _ _ _ _ _ _).out (Nat.le_refl _)⟩

set_option maxRecDepth 100000 in
set_option maxHeartbeats 2000000 in
theorem gotn_null (s : Nat) (big : Bool) (ch : Int) (E : Value) (r : List Int) (m : Nat) (be co : Bool) (w : World) (h : Ss w s big ch E r) (hc : r.length < m) (hm : m ≤ 1152921504606846976) :
    Calls Tryd.prog 38 #[.pointer (some ⟨s, 0, none⟩), .agg #[.int .i64 7, .int .i64 m, .bool be, .bool co]] w (RetG w s big ch E none) := by
  have hsl := h.lt
  have HN := Lib.hid (GB.new w 7 m be co)
  obtain ⟨T, p, rfl⟩ := h.err
  have HS := Lib.hid h
  have HC := fun w hs => Lib.hid (null_no s big ch (.iface T (.pointer (some p))) r m w hs hc hm)
  clear hc
  clear h
  go_enter Tryd.func38, Tryd.ntmps38
  go_wp2_with (first
    | (go_at_call 71; go_must (refine (HC _ (HS.out.gr ((((Gr.refl w).alloc _).alloc _).alloc _))).out.mono ?_); rintro e w1 ⟨rfl, ⟨r1, hs1⟩, hf1⟩; have hb1 := HN.out.fx hf1 hsl; have g0 := blk_cell hb1.g 0; have g1 := blk_cell hb1.g 1; have g2 := blk_cell hb1.g 2; have g3 := blk_cell hb1.g 3; have g4 := blk_cell hb1.g 4; have y1 := blk_free hb1.g 1; have y2 := blk_free hb1.g 2; have y3 := blk_free hb1.g 3; have y4 := blk_free hb1.g 4; have n0 := blk_cell hb1.r 0; have n1 := blk_cell hb1.r 1; have n2 := blk_cell hb1.r 2; have n3 := blk_cell hb1.r 3; have n4 := blk_cell hb1.r 4; have z0 := blk_free hb1.r 0; have z1 := blk_free hb1.r 1; have z2 := blk_free hb1.r 2; have z3 := blk_free hb1.r 3; have z4 := blk_free hb1.r 4; simp [zeroCs] at g0 g1 g2 g3 g4 n0 n1 n2 n3 n4))
  have hbl := fun u4 a0 a1 a2 a3 a4 => Lib.hid (show Below w.heap.size w1 (((((((w1).setCell ⟨w.heap.size + 1 + 1, 4, none⟩ u4).setCell ⟨w.heap.size + 1, 0, none⟩ a0).setCell ⟨w.heap.size + 1, 1, none⟩ a1).setCell ⟨w.heap.size + 1, 2, none⟩ a2).setCell ⟨w.heap.size + 1, 3, none⟩ a3).setCell ⟨w.heap.size + 1, 4, none⟩ a4) from ((((((Below.refl w.heap.size w1).setCell (p := ⟨w.heap.size + 1 + 1, 4, none⟩) (by simp; omega) _).setCell (p := ⟨w.heap.size + 1, 0, none⟩) (by simp) _).setCell (p := ⟨w.heap.size + 1, 1, none⟩) (by simp) _).setCell (p := ⟨w.heap.size + 1, 2, none⟩) (by simp) _).setCell (p := ⟨w.heap.size + 1, 3, none⟩) (by simp) _).setCell (p := ⟨w.heap.size + 1, 4, none⟩) (by simp) _)
  refine bodyPost_ret (v := zeroG) (by simp [zeroG, results, Tryd.results38, go_sem, n0, n1, n2, n3, n4] <;> rfl) rfl ⟨rfl, ⟨r1, hs1.below (hbl _ _ _ _ _ _).out hsl⟩, (((((Fx.refl s w).alloc _).alloc _).alloc _).trans hf1).below (hbl _ _ _ _ _ _).out (Nat.le_refl _)⟩

set_option maxRecDepth 100000 in
set_option maxHeartbeats 2000000 in
theorem gotn_fix (s : Nat) (big : Bool) (ch : Int) (E : Value) (r : List Int) (sz : Int) (be co : Bool) (w : World) (h : Ss w s big ch E r) (hc : Fix r none) (hsz : 0 ≤ sz) :
    Calls Tryd.prog 38 #[.pointer (some ⟨s, 0, none⟩), .agg #[.int .i64 8, .int .i64 sz, .bool be, .bool co]] w (RetG w s big ch E none) := by
  have hsl := h.lt
  have HN := Lib.hid (GB.new w 8 sz be co)
  obtain ⟨T, p, rfl⟩ := h.err
  have HS := Lib.hid h
  have HC := fun w hs => Lib.hid (getFix s big ch (.iface T (.pointer (some p))) r _ w hs hc)
  clear hc
  clear h
  go_enter Tryd.func38, Tryd.ntmps38
  go_wp2_with (first
    | (go_at_call 72; go_must (refine (HC _ (HS.out.gr ((((Gr.refl w).alloc _).alloc _).alloc _))).out.mono ?_); rintro e w1 ⟨rfl, ⟨r1, hs1⟩, hf1⟩; have hb1 := HN.out.fx hf1 hsl; have g0 := blk_cell hb1.g 0; have g1 := blk_cell hb1.g 1; have g2 := blk_cell hb1.g 2; have g3 := blk_cell hb1.g 3; have g4 := blk_cell hb1.g 4; have y1 := blk_free hb1.g 1; have y2 := blk_free hb1.g 2; have y3 := blk_free hb1.g 3; have y4 := blk_free hb1.g 4; have n0 := blk_cell hb1.r 0; have n1 := blk_cell hb1.r 1; have n2 := blk_cell hb1.r 2; have n3 := blk_cell hb1.r 3; have n4 := blk_cell hb1.r 4; have z0 := blk_free hb1.r 0; have z1 := blk_free hb1.r 1; have z2 := blk_free hb1.r 2; have z3 := blk_free hb1.r 3; have z4 := blk_free hb1.r 4; simp [zeroCs] at g0 g1 g2 g3 g4 n0 n1 n2 n3 n4))
  have hbl := fun u1 a0 a1 a2 a3 a4 => Lib.hid (show Below w.heap.size w1 (((((((w1).setCell ⟨w.heap.size + 1 + 1, 1, none⟩ u1).setCell ⟨w.heap.size + 1, 0, none⟩ a0).setCell ⟨w.heap.size + 1, 1, none⟩ a1).setCell ⟨w.heap.size + 1, 2, none⟩ a2).setCell ⟨w.heap.size + 1, 3, none⟩ a3).setCell ⟨w.heap.size + 1, 4, none⟩ a4) from ((((((Below.refl w.heap.size w1).setCell (p := ⟨w.heap.size + 1 + 1, 1, none⟩) (by simp; omega) _).setCell (p := ⟨w.heap.size + 1, 0, none⟩) (by simp) _).setCell (p := ⟨w.heap.size + 1, 1, none⟩) (by simp) _).setCell (p := ⟨w.heap.size + 1, 2, none⟩) (by simp) _).setCell (p := ⟨w.heap.size + 1, 3, none⟩) (by simp) _).setCell (p := ⟨w.heap.size + 1, 4, none⟩) (by simp) _)
  refine bodyPost_ret (v := zeroG) (by simp [zeroG, results, Tryd.results38, go_sem, n0, n1, n2, n3, n4] <;> rfl) rfl ⟨rfl, ⟨r1, hs1.below (hbl _ _ _ _ _ _).out hsl⟩, (((((Fx.refl s w).alloc _).alloc _).alloc _).trans hf1).below (hbl _ _ _ _ _ _).out (Nat.le_refl _)⟩

set_option maxRecDepth 100000 in
set_option maxHeartbeats 2000000 in
theorem gotn_peek (s : Nat) (big : Bool) (ch : Int) (E : Value) (r : List Int) (m : Nat) (be co : Bool) (w : World) (h : Ss w s big ch E r) (hc : r.length < m) (hm : m ≤ 1152921504606846976) :
    Calls Tryd.prog 38 #[.pointer (some ⟨s, 0, none⟩), .agg #[.int .i64 9, .int .i64 m, .bool be, .bool co]] w (RetG w s big ch E none) := by
  have hsl := h.lt
  have HN := Lib.hid (GB.new w 9 m be co)
  obtain ⟨T, p, rfl⟩ := h.err
  have HS := Lib.hid h
  have HC := fun w hs => Lib.hid (peek_no s big ch (.iface T (.pointer (some p))) r m w hs hc hm)
  clear hc
  clear h
  go_enter Tryd.func38, Tryd.ntmps38
  go_wp2_with (first
    | (go_at_call 73; go_must (refine (HC _ (HS.out.gr ((((Gr.refl w).alloc _).alloc _).alloc _))).out.mono ?_); rintro e w1 ⟨rfl, ⟨r1, hs1⟩, hf1⟩; have hb1 := HN.out.fx hf1 hsl; have g0 := blk_cell hb1.g 0; have g1 := blk_cell hb1.g 1; have g2 := blk_cell hb1.g 2; have g3 := blk_cell hb1.g 3; have g4 := blk_cell hb1.g 4; have y1 := blk_free hb1.g 1; have y2 := blk_free hb1.g 2; have y3 := blk_free hb1.g 3; have y4 := blk_free hb1.g 4; have n0 := blk_cell hb1.r 0; have n1 := blk_cell hb1.r 1; have n2 := blk_cell hb1.r 2; have n3 := blk_cell hb1.r 3; have n4 := blk_cell hb1.r 4; have z0 := blk_free hb1.r 0; have z1 := blk_free hb1.r 1; have z2 := blk_free hb1.r 2; have z3 := blk_free hb1.r 3; have z4 := blk_free hb1.r 4; simp [zeroCs] at g0 g1 g2 g3 g4 n0 n1 n2 n3 n4))
  have hbl := fun u1 a0 a1 a2 a3 a4 => Lib.hid (show Below w.heap.size w1 (((((((w1).setCell ⟨w.heap.size + 1 + 1, 1, none⟩ u1).setCell ⟨w.heap.size + 1, 0, none⟩ a0).setCell ⟨w.heap.size + 1, 1, none⟩ a1).setCell ⟨w.heap.size + 1, 2, none⟩ a2).setCell ⟨w.heap.size + 1, 3, none⟩ a3).setCell ⟨w.heap.size + 1, 4, none⟩ a4) from ((((((Below.refl w.heap.size w1).setCell (p := ⟨w.heap.size + 1 + 1, 1, none⟩) (by simp; omega) _).setCell (p := ⟨w.heap.size + 1, 0, none⟩) (by simp) _).setCell (p := ⟨w.heap.size + 1, 1, none⟩) (by simp) _).setCell (p := ⟨w.heap.size + 1, 2, none⟩) (by simp) _).setCell (p := ⟨w.heap.size + 1, 3, none⟩) (by simp) _).setCell (p := ⟨w.heap.size + 1, 4, none⟩) (by simp) _)
  refine bodyPost_ret (v := zeroG) (by simp [zeroG, results, Tryd.results38, go_sem, n0, n1, n2, n3, n4] <;> rfl) rfl ⟨rfl, ⟨r1, hs1.below (hbl _ _ _ _ _ _).out hsl⟩, (((((Fx.refl s w).alloc _).alloc _).alloc _).trans hf1).below (hbl _ _ _ _ _ _).out (Nat.le_refl _)⟩

end Go.Proofs.YtgkccbfepjgjoaaDoor
