/- A session writes compressed numbers. Printed by gen_zb.py. -/
import Derived.Test.YtgkccbfepjgjoaaDoorSeZa
namespace Go.Proofs.YtgkccbfepjgjoaaDoor
open Go Go.RowKit

set_option maxRecDepth 100000 in
set_option maxHeartbeats 4000000 in
theorem putUint_pk_int (s : Nat) (big : Bool) (ch : Int) (xs : List Int) (u k : Nat) (x : Int) (t : List Int) (w : World) (hS : Sw w s big ch xs) (hu : u < 4294967296) (hrow : numB true 8 u = row8 k (x :: t)) (hx : x ≠ 0) (hk : k + t.length = 7) (h4 : 5 ≤ k) (hlim : xs.length ≤ 10000000000) :
    Calls Tryd.prog 43 #[.pointer (some ⟨s, 0, none⟩), .iface 3 (.int .i64 u), .int .u8 4, .bool true, .bool true] w (RetP w s big ch (xs ++ (((8 - k : Nat) : Int) :: x :: t))) := by
  have hsl := hS.lt
  have hrl := hS.row_lt
  have hb1 : (8 - k : Nat) = t.length + 1 := by omega
  have HB := fun w3 (hg : Gr w w3) => Lib.hid (writeByte_sw s big ch xs ((8 - k : Nat) : Int) w3 (hS.gr hg) (by omega) (by omega))
  have HW := fun w3 w4 (h : OwnAt w3 w.heap.size 8 (row8 k (x :: t))) (hg : Gr w w3) (hx4 : Wx s w3 w4) (hs4 : Sw w4 s big ch (xs ++ [((8 - k : Nat) : Int)])) => Lib.hid (write_sw s big ch (xs ++ [((8 - k : Nat) : Int)]) (x :: t) (.slice (some ⟨w.heap.size, k, none⟩) (8 - k) (8 - k)) w4 hs4
    (Rd.wx (by
      have hat : RdAt w3 w.heap.size 0 (row8 k (x :: t)) := ⟨fun i hi => by rw [Nat.zero_add]; exact h.cell i hi, h.byt⟩
      have hd := hat.drop k
      have hdr : (row8 k (x :: t)).drop k = x :: t := by simp [row8]
      rw [hdr, Nat.zero_add] at hd
      exact hd.rd (by simp; omega) (by omega) (by simp only [maxLen]; omega)) hx4 (fun a n c e => by
      injection e with e
      injection e with e
      subst e
      exact ⟨by show w.heap.size ≠ s; omega, fun e => by rw [rowOf_heap (hg.block hsl)] at e; have := hrl _ e.symm; simp at this, (show w.heap.size < w3.heap.size from h.lt)⟩))
    (Aside.wx (fun a n c e => by
      injection e with e
      injection e with e
      subst e
      exact ⟨by show w.heap.size ≠ s; omega, fun e => by rw [rowOf_heap (hg.block hsl)] at e; have := hrl _ e.symm; simp at this, (show w.heap.size < w3.heap.size from h.lt)⟩) hx4) (by simp; omega))
  have HP := fun w2 g l h hx => Lib.hid (putBE8 w2 g l u (by omega) h hx)
  have HT := fun w3 g h => Lib.hid (trim8 g k x t w3 h hx hk)
  have iu : IntKind.u64.wrap (u : Int) = u := by rw [IntKind.wrap_u64]; omega
  have ii : IntKind.i64.wrap (u : Int) = u := by rw [IntKind.wrap_i64]; omega
  have iu0 : (0 : Int) ≤ u := by omega
  obtain ⟨N, hN⟩ : ∃ N, 8 - k = N := ⟨_, rfl⟩
  rw [hN] at HB HW HT ⊢
  have hN1 : (1 : Int) ≤ N := by omega
  have hN4 : (N : Int) ≤ 3 := by omega
  have iw : IntKind.u8.wrap (N : Int) = N := by rw [IntKind.wrap_u8]; omega
  have n0 : ((N : Int) == 0) = false := beq_eq_false_iff_ne.2 (by omega)
  have HRW := Lib.hid hrow
  rw [show xs ++ (N : Int) :: x :: t = xs ++ [(N : Int)] ++ (x :: t) by simp]
  have y0 := fun w => ta_no (t := 3) (xT := 20) (.int .i64 u) w Tryd.underlying2 (by kernel_rfl) (by decide)
  have y1 := fun w => ta_no (t := 3) (xT := 20) (.int .i64 u) w Tryd.underlying21 (by kernel_rfl) (by decide)
  have y2 := fun w => ta_no (t := 3) (xT := 20) (.int .i64 u) w Tryd.underlying121 (by kernel_rfl) (by decide)
  have y3 := fun w => ta_no (t := 3) (xT := 20) (.int .i64 u) w Tryd.underlying76 (by kernel_rfl) (by decide)
  have y4 := fun w => ta_no (t := 3) (xT := 20) (.int .i64 u) w Tryd.underlying36 (by kernel_rfl) (by decide)
  have y5 := fun w => ta_no (t := 3) (xT := 20) (.int .i64 u) w Tryd.underlying122 (by kernel_rfl) (by decide)
  have y6 := fun w => ta_no (t := 3) (xT := 20) (.int .i64 u) w Tryd.underlying123 (by kernel_rfl) (by decide)
  have y7 := fun w => ta_no (t := 3) (xT := 20) (.int .i64 u) w Tryd.underlying5 (by kernel_rfl) (by decide)
  have y8 := fun w => ta_no (t := 3) (xT := 20) (.int .i64 u) w Tryd.underlying95 (by kernel_rfl) (by decide)
  have y9 := fun w => ta_yes (xT := 20) (.int .i64 u) w Tryd.underlying3
  clear hS hrl hrow hN hb1
  go_enter Tryd.func43, Tryd.ntmps43
  go_wp2_with (first
    | (at_make; go_must (refine wpList_make_gr Go.Proofs.YtgkccbfepjgjoaaDoor.u8 rfl _ _ rfl (Gr.refl w) .i64 .i64 8 8 8 rfl rfl rfl rfl (by omega) _ rfl ?_); intro w2 ho2 hg2 _ _)
    | (go_at_call 76; go_must (refine (HP w2 _ _ ho2 rfl).out.mono ?_); rintro e w3 ⟨rfl, ho3, hg3⟩; rw [HRW.out] at ho3; have hg3 := hg3 w hg2 (Nat.le_refl _))
    | (go_at_call 77; go_must (refine (HT w3 _ ho3).out.mono ?_); rintro e w4 ⟨rfl, h34⟩; cases h34)
    | (go_at_call 75; go_must (refine (HB w3 hg3).out.mono ?_); rintro e w5 ⟨rfl, h5, hx5⟩)
    | (go_at_call 74; go_must (refine (HW w3 w5 ho3 hg3 hx5 h5).out.mono ?_); rintro e w6 ⟨rfl, h6, hx6⟩))
  go_end0
  exact ⟨rfl, h6, (((Wx.refl s w).gr hg3 hsl).trans hx5).trans hx6⟩

set_option maxRecDepth 100000 in
set_option maxHeartbeats 4000000 in
theorem putInt_pk_int (s : Nat) (big : Bool) (ch : Int) (xs : List Int) (u k : Nat) (x : Int) (t : List Int) (w : World) (hS : Sw w s big ch xs) (hu : u < 4294967296) (hrow : numB true 8 u = row8 k (x :: t)) (hx : x ≠ 0) (hk : k + t.length = 7) (h4 : 5 ≤ k) (hlim : xs.length ≤ 10000000000) :
    Calls Tryd.prog 42 #[.pointer (some ⟨s, 0, none⟩), .iface 3 (.int .i64 u), .int .u8 4, .bool true, .bool true] w (RetP w s big ch (xs ++ (((8 - k : Nat) : Int) :: x :: t))) := by
  have hsl := hS.lt
  have hrl := hS.row_lt
  have hb1 : (8 - k : Nat) = t.length + 1 := by omega
  have HB := fun w3 (hg : Gr w w3) => Lib.hid (writeByte_sw s big ch xs ((8 - k : Nat) : Int) w3 (hS.gr hg) (by omega) (by omega))
  have HW := fun w3 w4 (h : OwnAt w3 w.heap.size 8 (row8 k (x :: t))) (hg : Gr w w3) (hx4 : Wx s w3 w4) (hs4 : Sw w4 s big ch (xs ++ [((8 - k : Nat) : Int)])) => Lib.hid (write_sw s big ch (xs ++ [((8 - k : Nat) : Int)]) (x :: t) (.slice (some ⟨w.heap.size, k, none⟩) (8 - k) (8 - k)) w4 hs4
    (Rd.wx (by
      have hat : RdAt w3 w.heap.size 0 (row8 k (x :: t)) := ⟨fun i hi => by rw [Nat.zero_add]; exact h.cell i hi, h.byt⟩
      have hd := hat.drop k
      have hdr : (row8 k (x :: t)).drop k = x :: t := by simp [row8]
      rw [hdr, Nat.zero_add] at hd
      exact hd.rd (by simp; omega) (by omega) (by simp only [maxLen]; omega)) hx4 (fun a n c e => by
      injection e with e
      injection e with e
      subst e
      exact ⟨by show w.heap.size ≠ s; omega, fun e => by rw [rowOf_heap (hg.block hsl)] at e; have := hrl _ e.symm; simp at this, (show w.heap.size < w3.heap.size from h.lt)⟩))
    (Aside.wx (fun a n c e => by
      injection e with e
      injection e with e
      subst e
      exact ⟨by show w.heap.size ≠ s; omega, fun e => by rw [rowOf_heap (hg.block hsl)] at e; have := hrl _ e.symm; simp at this, (show w.heap.size < w3.heap.size from h.lt)⟩) hx4) (by simp; omega))
  have HP := fun w2 g l h hx => Lib.hid (putBE8 w2 g l u (by omega) h hx)
  have HT := fun w3 g h => Lib.hid (trim8 g k x t w3 h hx hk)
  have iu : IntKind.u64.wrap (u : Int) = u := by rw [IntKind.wrap_u64]; omega
  have ii : IntKind.i64.wrap (u : Int) = u := by rw [IntKind.wrap_i64]; omega
  have iu0 : (0 : Int) ≤ u := by omega
  obtain ⟨N, hN⟩ : ∃ N, 8 - k = N := ⟨_, rfl⟩
  rw [hN] at HB HW HT ⊢
  have hN1 : (1 : Int) ≤ N := by omega
  have hN4 : (N : Int) ≤ 3 := by omega
  have iw : IntKind.u8.wrap (N : Int) = N := by rw [IntKind.wrap_u8]; omega
  have n0 : ((N : Int) == 0) = false := beq_eq_false_iff_ne.2 (by omega)
  have HRW := Lib.hid hrow
  rw [show xs ++ (N : Int) :: x :: t = xs ++ [(N : Int)] ++ (x :: t) by simp]
  have y0 := fun w => ta_no (t := 3) (xT := 20) (.int .i64 u) w Tryd.underlying2 (by kernel_rfl) (by decide)
  have y1 := fun w => ta_no (t := 3) (xT := 20) (.int .i64 u) w Tryd.underlying21 (by kernel_rfl) (by decide)
  have y2 := fun w => ta_no (t := 3) (xT := 20) (.int .i64 u) w Tryd.underlying121 (by kernel_rfl) (by decide)
  have y3 := fun w => ta_no (t := 3) (xT := 20) (.int .i64 u) w Tryd.underlying76 (by kernel_rfl) (by decide)
  have y4 := fun w => ta_no (t := 3) (xT := 20) (.int .i64 u) w Tryd.underlying36 (by kernel_rfl) (by decide)
  have y5 := fun w => ta_no (t := 3) (xT := 20) (.int .i64 u) w Tryd.underlying122 (by kernel_rfl) (by decide)
  have y6 := fun w => ta_no (t := 3) (xT := 20) (.int .i64 u) w Tryd.underlying123 (by kernel_rfl) (by decide)
  have y7 := fun w => ta_no (t := 3) (xT := 20) (.int .i64 u) w Tryd.underlying5 (by kernel_rfl) (by decide)
  have y8 := fun w => ta_no (t := 3) (xT := 20) (.int .i64 u) w Tryd.underlying95 (by kernel_rfl) (by decide)
  have y9 := fun w => ta_yes (xT := 20) (.int .i64 u) w Tryd.underlying3
  clear hS hrl hrow hN hb1
  go_enter Tryd.func42, Tryd.ntmps42
  go_wp2_with (first
    | (at_make; go_must (refine wpList_make_gr Go.Proofs.YtgkccbfepjgjoaaDoor.u8 rfl _ _ rfl (Gr.refl w) .i64 .i64 8 8 8 rfl rfl rfl rfl (by omega) _ rfl ?_); intro w2 ho2 hg2 _ _)
    | (go_at_call 76; go_must (refine (HP w2 _ _ ho2 rfl).out.mono ?_); rintro e w3 ⟨rfl, ho3, hg3⟩; rw [HRW.out] at ho3; have hg3 := hg3 w hg2 (Nat.le_refl _))
    | (go_at_call 77; go_must (refine (HT w3 _ ho3).out.mono ?_); rintro e w4 ⟨rfl, h34⟩; cases h34)
    | (go_at_call 75; go_must (refine (HB w3 hg3).out.mono ?_); rintro e w5 ⟨rfl, h5, hx5⟩)
    | (go_at_call 74; go_must (refine (HW w3 w5 ho3 hg3 hx5 h5).out.mono ?_); rintro e w6 ⟨rfl, h6, hx6⟩))
  go_end0
  exact ⟨rfl, h6, (((Wx.refl s w).gr hg3 hsl).trans hx5).trans hx6⟩

set_option maxRecDepth 100000 in
set_option maxHeartbeats 4000000 in
theorem putInt_pk_u8 (s : Nat) (big : Bool) (ch : Int) (xs : List Int) (u k : Nat) (x : Int) (t : List Int) (w : World) (hS : Sw w s big ch xs) (hu : u < 256) (hrow : numB true 8 u = row8 k (x :: t)) (hx : x ≠ 0) (hk : k + t.length = 7) (h4 : 5 ≤ k) (hlim : xs.length ≤ 10000000000) :
    Calls Tryd.prog 42 #[.pointer (some ⟨s, 0, none⟩), .iface 5 (.int .u8 u), .int .u8 4, .bool true, .bool true] w (RetP w s big ch (xs ++ (((8 - k : Nat) : Int) :: x :: t))) := by
  have hsl := hS.lt
  have hrl := hS.row_lt
  have hb1 : (8 - k : Nat) = t.length + 1 := by omega
  have HB := fun w3 (hg : Gr w w3) => Lib.hid (writeByte_sw s big ch xs ((8 - k : Nat) : Int) w3 (hS.gr hg) (by omega) (by omega))
  have HW := fun w3 w4 (h : OwnAt w3 w.heap.size 8 (row8 k (x :: t))) (hg : Gr w w3) (hx4 : Wx s w3 w4) (hs4 : Sw w4 s big ch (xs ++ [((8 - k : Nat) : Int)])) => Lib.hid (write_sw s big ch (xs ++ [((8 - k : Nat) : Int)]) (x :: t) (.slice (some ⟨w.heap.size, k, none⟩) (8 - k) (8 - k)) w4 hs4
    (Rd.wx (by
      have hat : RdAt w3 w.heap.size 0 (row8 k (x :: t)) := ⟨fun i hi => by rw [Nat.zero_add]; exact h.cell i hi, h.byt⟩
      have hd := hat.drop k
      have hdr : (row8 k (x :: t)).drop k = x :: t := by simp [row8]
      rw [hdr, Nat.zero_add] at hd
      exact hd.rd (by simp; omega) (by omega) (by simp only [maxLen]; omega)) hx4 (fun a n c e => by
      injection e with e
      injection e with e
      subst e
      exact ⟨by show w.heap.size ≠ s; omega, fun e => by rw [rowOf_heap (hg.block hsl)] at e; have := hrl _ e.symm; simp at this, (show w.heap.size < w3.heap.size from h.lt)⟩))
    (Aside.wx (fun a n c e => by
      injection e with e
      injection e with e
      subst e
      exact ⟨by show w.heap.size ≠ s; omega, fun e => by rw [rowOf_heap (hg.block hsl)] at e; have := hrl _ e.symm; simp at this, (show w.heap.size < w3.heap.size from h.lt)⟩) hx4) (by simp; omega))
  have HP := fun w2 g l h hx => Lib.hid (putBE8 w2 g l u (by omega) h hx)
  have HT := fun w3 g h => Lib.hid (trim8 g k x t w3 h hx hk)
  have iu : IntKind.u64.wrap (u : Int) = u := by rw [IntKind.wrap_u64]; omega
  have ii : IntKind.i64.wrap (u : Int) = u := by rw [IntKind.wrap_i64]; omega
  have iu0 : (0 : Int) ≤ u := by omega
  obtain ⟨N, hN⟩ : ∃ N, 8 - k = N := ⟨_, rfl⟩
  rw [hN] at HB HW HT ⊢
  have hN1 : (1 : Int) ≤ N := by omega
  have hN4 : (N : Int) ≤ 3 := by omega
  have iw : IntKind.u8.wrap (N : Int) = N := by rw [IntKind.wrap_u8]; omega
  have n0 : ((N : Int) == 0) = false := beq_eq_false_iff_ne.2 (by omega)
  have HRW := Lib.hid hrow
  rw [show xs ++ (N : Int) :: x :: t = xs ++ [(N : Int)] ++ (x :: t) by simp]
  have y0 := fun w => ta_no (t := 5) (xT := 20) (.int .u8 u) w Tryd.underlying2 (by kernel_rfl) (by decide)
  have y1 := fun w => ta_no (t := 5) (xT := 20) (.int .u8 u) w Tryd.underlying21 (by kernel_rfl) (by decide)
  have y2 := fun w => ta_no (t := 5) (xT := 20) (.int .u8 u) w Tryd.underlying121 (by kernel_rfl) (by decide)
  have y3 := fun w => ta_no (t := 5) (xT := 20) (.int .u8 u) w Tryd.underlying76 (by kernel_rfl) (by decide)
  have y4 := fun w => ta_no (t := 5) (xT := 20) (.int .u8 u) w Tryd.underlying36 (by kernel_rfl) (by decide)
  have y5 := fun w => ta_no (t := 5) (xT := 20) (.int .u8 u) w Tryd.underlying122 (by kernel_rfl) (by decide)
  have y6 := fun w => ta_no (t := 5) (xT := 20) (.int .u8 u) w Tryd.underlying123 (by kernel_rfl) (by decide)
  have y7 := fun w => ta_yes (xT := 20) (.int .u8 u) w Tryd.underlying5
  clear hS hrl hrow hN hb1
  go_enter Tryd.func42, Tryd.ntmps42
  go_wp2_with (first
    | (at_make; go_must (refine wpList_make_gr Go.Proofs.YtgkccbfepjgjoaaDoor.u8 rfl _ _ rfl (Gr.refl w) .i64 .i64 8 8 8 rfl rfl rfl rfl (by omega) _ rfl ?_); intro w2 ho2 hg2 _ _)
    | (go_at_call 76; go_must (refine (HP w2 _ _ ho2 rfl).out.mono ?_); rintro e w3 ⟨rfl, ho3, hg3⟩; rw [HRW.out] at ho3; have hg3 := hg3 w hg2 (Nat.le_refl _))
    | (go_at_call 77; go_must (refine (HT w3 _ ho3).out.mono ?_); rintro e w4 ⟨rfl, h34⟩; cases h34)
    | (go_at_call 75; go_must (refine (HB w3 hg3).out.mono ?_); rintro e w5 ⟨rfl, h5, hx5⟩)
    | (go_at_call 74; go_must (refine (HW w3 w5 ho3 hg3 hx5 h5).out.mono ?_); rintro e w6 ⟨rfl, h6, hx6⟩))
  go_end0
  exact ⟨rfl, h6, (((Wx.refl s w).gr hg3 hsl).trans hx5).trans hx6⟩
end Go.Proofs.YtgkccbfepjgjoaaDoor
