/- A session writes numbers that are not compressed. Printed by gen_sex.py. -/
import Derived.Test.YtgkccbfepjgjoaaDoorSeR
namespace Go.Proofs.YtgkccbfepjgjoaaDoor
open Go Go.RowKit

/-- The bytes of a number. -/
def numB (be : Bool) (n v : Nat) : List Int := (if be = true then Lib.beBytes n v else Lib.leBytes n v).map fun b => (b.toNat : Int)
theorem numB_length (be : Bool) (n v : Nat) : (numB be n v).length = n := by unfold numB; cases be <;> simp [Lib.beBytes_length, Lib.leBytes_length]
theorem numB_byt (be : Bool) (n v : Nat) : Byt (numB be n v) := fun x hx => by
  unfold numB at hx
  obtain ⟨b, _, rfl⟩ := List.mem_map.1 hx
  have := b.toNat_lt
  omega
theorem ta_no {A t xT : TypeId} {k : IntKind} (v : Value) (w : World) (hu : Tryd.prog.underlying A = some (.int k)) (hz : (Tryd.prog.info? A).map (·.zero) = some (some (.int k 0))) (hne : t ≠ A) :
    (Instr.typeAssert (.iface t v) xT A true).run Tryd.prog w = .ok (.tuple #[.int k 0, .bool false]) w := by
  obtain ⟨i, hi, hzi⟩ := Option.map_eq_some_iff.1 hz
  simp [Instr.typeAssert, run_underlying hu, hne, zeroValue, typeInfo, hi, hzi, go_sem, Result.andThen]
theorem ta_yes {A xT : TypeId} {k : IntKind} (v : Value) (w : World) (hu : Tryd.prog.underlying A = some (.int k)) :
    (Instr.typeAssert (.iface A v) xT A true).run Tryd.prog w = .ok (.tuple #[v, .bool true]) w := by
  simp [Instr.typeAssert, run_underlying hu, go_sem, Result.andThen]
theorem byteCells_map (l : List UInt8) : Lib.byteCells l = (l.map fun b => (b.toNat : Int)).map (Value.int .u8) := by simp [Lib.byteCells]
theorem putAt_all : ∀ (zs pre xs : List Int), zs.length = xs.length → putAt (pre ++ xs) pre.length zs = pre ++ zs
  | [], pre, xs, h => by
    obtain rfl : xs = [] := List.eq_nil_of_length_eq_zero (by simpa using h.symm)
    rfl
  | z :: zs, pre, xs, h => by
    obtain ⟨y, ys, rfl⟩ : ∃ y ys, xs = y :: ys := by
      cases xs with
      | nil => simp at h
      | cons y ys => exact ⟨y, ys, rfl⟩
    have ih := putAt_all zs (pre ++ [z]) ys (by simpa using h)
    have e : (pre ++ y :: ys).set pre.length z = (pre ++ [z]) ++ ys := by simp
    show putAt ((pre ++ y :: ys).set pre.length z) (pre.length + 1) zs = _
    rw [e, show pre.length + 1 = (pre ++ [z]).length by simp, ih]
    simp
theorem put_row {w : World} {g n : Nat} {xs : List Int} {bs : List UInt8} (h : OwnAt w g n xs) (hx : xs.length = n) (hb : bs.length = n) (T : TypeId) (hz : Byt (bs.map fun b => (b.toNat : Int))) :
    OwnAt ((w.alloc (.cells #[] T)).setCells g 0 (Lib.byteCells bs)) g n (bs.map fun b => (b.toNat : Int)) ∧ ∀ w0, Gr w0 w → w0.heap.size ≤ g → Gr w0 ((w.alloc (.cells #[] T)).setCells g 0 (Lib.byteCells bs)) := by
  rw [byteCells_map]
  refine ⟨?_, fun w0 h0 hg => (h0.alloc _).setCells hg _ _⟩
  have h1 := (h.alloc (.cells #[] T)).setCells 0 (bs.map fun b => (b.toNat : Int)) (by simp; omega) hz
  have h2 := putAt_all (bs.map fun b => (b.toNat : Int)) [] xs (by simp; omega)
  simp only [List.nil_append, List.length_nil] at h2
  rwa [h2] at h1

theorem putBE2 (w : World) (g : Nat) (xs : List Int) (v : Nat) (hv : v < 65536) (h : OwnAt w g 2 xs) (hx : xs.length = 2) :
    Calls Tryd.prog 78 #[.agg #[], .slice (some ⟨g, 0, none⟩) 2 2, .int .u16 v] w fun e w' => e = .returned (.tuple #[]) ∧ OwnAt w' g 2 (numB true 2 v) ∧ ∀ w0, Gr w0 w → w0.heap.size ≤ g → Gr w0 w' := by
  refine (Tryd.binary_BE_PutUint16 g 0 2 2 v hv _ _ w (Nat.le_refl _) (h.cell 0 (by omega)) (h.cell 1 (by omega)) (h.free 0) (h.free 1)).mono fun e w' => ?_
  rintro ⟨rfl, rfl⟩
  have := put_row h hx (bs := Lib.beBytes 2 v) (by simp [Lib.beBytes_length]) 125 (numB_byt true 2 v)
  exact ⟨rfl, this.1, this.2⟩

set_option maxRecDepth 100000 in
theorem putUint_BE2 (s : Nat) (big : Bool) (ch : Int) (xs : List Int) (u : Nat) (w : World) (hS : Sw w s big ch xs) (hu : u < 65536) (hlim : xs.length ≤ 10000000000) :
    Calls Tryd.prog 43 #[.pointer (some ⟨s, 0, none⟩), .iface 36 (.int .u64 u), .int .u8 2, .bool true, .bool false] w (RetP w s big ch (xs ++ numB true 2 u)) := by
  have hsl := hS.lt
  have hrl := hS.row_lt
  have HW := fun w3 v (h : OwnAt w3 w.heap.size 2 (numB true 2 u)) (hg : Gr w w3) (hv : v = .slice (some ⟨w.heap.size, 0, none⟩) 2 2) => Lib.hid (write_sw s big ch xs (numB true 2 u) v w3 (hS.gr hg) (by subst hv; have := h.rd; rwa [numB_length] at this) (by
    subst hv
    have := (h.own (B := w.heap.size) (Nat.le_refl _)).aside (s := s) hsl (fun k hk => by rw [rowOf_heap (hg.block hsl)] at hk; exact hrl k hk)
    rwa [numB_length] at this) (by rw [numB_length]; omega))
  have HP := fun w2 g l h hx => Lib.hid (putBE2 w2 g l u hu h hx)
  have iw : IntKind.u16.wrap (u : Int) = u := by rw [IntKind.wrap_u16]; omega
  clear hS hrl
  have y0 := fun w => ta_no (t := 36) (xT := 20) (.int .u64 u) w Tryd.underlying2 (by kernel_rfl) (by decide)
  have y1 := fun w => ta_no (t := 36) (xT := 20) (.int .u64 u) w Tryd.underlying21 (by kernel_rfl) (by decide)
  have y2 := fun w => ta_no (t := 36) (xT := 20) (.int .u64 u) w Tryd.underlying121 (by kernel_rfl) (by decide)
  have y3 := fun w => ta_no (t := 36) (xT := 20) (.int .u64 u) w Tryd.underlying76 (by kernel_rfl) (by decide)
  have y4 := fun w => ta_yes (xT := 20) (.int .u64 u) w Tryd.underlying36
  go_enter Tryd.func43, Tryd.ntmps43
  go_wp2_with (first
    | (at_make; go_must (refine wpList_make_gr Go.Proofs.YtgkccbfepjgjoaaDoor.u8 rfl _ _ rfl (Gr.refl w) .u8 .u8 2 2 2 rfl rfl rfl rfl (by omega) _ rfl ?_); intro w2 ho2 hg2 _ _)
    | (go_at_call 78; go_must (refine (HP w2 _ _ ho2 rfl).out.mono ?_); rintro e w3 ⟨rfl, ho3, hg3⟩; have hg3 := hg3 w hg2 (Nat.le_refl _))
    | (go_at_call 74; go_must (refine (HW w3 _ ho3 hg3 rfl).out.mono ?_); rintro e w4 ⟨rfl, h4, h5⟩))
  go_end0
  exact ⟨rfl, h4, ((Wx.refl s w).gr hg3 hsl).trans h5⟩

theorem putBE4 (w : World) (g : Nat) (xs : List Int) (v : Nat) (hv : v < 4294967296) (h : OwnAt w g 4 xs) (hx : xs.length = 4) :
    Calls Tryd.prog 79 #[.agg #[], .slice (some ⟨g, 0, none⟩) 4 4, .int .u32 v] w fun e w' => e = .returned (.tuple #[]) ∧ OwnAt w' g 4 (numB true 4 v) ∧ ∀ w0, Gr w0 w → w0.heap.size ≤ g → Gr w0 w' := by
  refine (Tryd.binary_BE_PutUint32 g 0 4 4 v hv _ _ _ _ w (Nat.le_refl _) (h.cell 0 (by omega)) (h.cell 1 (by omega)) (h.cell 2 (by omega)) (h.cell 3 (by omega)) (h.free 0) (h.free 1) (h.free 2) (h.free 3)).mono fun e w' => ?_
  rintro ⟨rfl, rfl⟩
  have := put_row h hx (bs := Lib.beBytes 4 v) (by simp [Lib.beBytes_length]) 125 (numB_byt true 4 v)
  exact ⟨rfl, this.1, this.2⟩

set_option maxRecDepth 100000 in
theorem putUint_BE4 (s : Nat) (big : Bool) (ch : Int) (xs : List Int) (u : Nat) (w : World) (hS : Sw w s big ch xs) (hu : u < 4294967296) (hlim : xs.length ≤ 10000000000) :
    Calls Tryd.prog 43 #[.pointer (some ⟨s, 0, none⟩), .iface 36 (.int .u64 u), .int .u8 4, .bool true, .bool false] w (RetP w s big ch (xs ++ numB true 4 u)) := by
  have hsl := hS.lt
  have hrl := hS.row_lt
  have HW := fun w3 v (h : OwnAt w3 w.heap.size 4 (numB true 4 u)) (hg : Gr w w3) (hv : v = .slice (some ⟨w.heap.size, 0, none⟩) 4 4) => Lib.hid (write_sw s big ch xs (numB true 4 u) v w3 (hS.gr hg) (by subst hv; have := h.rd; rwa [numB_length] at this) (by
    subst hv
    have := (h.own (B := w.heap.size) (Nat.le_refl _)).aside (s := s) hsl (fun k hk => by rw [rowOf_heap (hg.block hsl)] at hk; exact hrl k hk)
    rwa [numB_length] at this) (by rw [numB_length]; omega))
  have HP := fun w2 g l h hx => Lib.hid (putBE4 w2 g l u hu h hx)
  have iw : IntKind.u32.wrap (u : Int) = u := by rw [IntKind.wrap_u32]; omega
  clear hS hrl
  have y0 := fun w => ta_no (t := 36) (xT := 20) (.int .u64 u) w Tryd.underlying2 (by kernel_rfl) (by decide)
  have y1 := fun w => ta_no (t := 36) (xT := 20) (.int .u64 u) w Tryd.underlying21 (by kernel_rfl) (by decide)
  have y2 := fun w => ta_no (t := 36) (xT := 20) (.int .u64 u) w Tryd.underlying121 (by kernel_rfl) (by decide)
  have y3 := fun w => ta_no (t := 36) (xT := 20) (.int .u64 u) w Tryd.underlying76 (by kernel_rfl) (by decide)
  have y4 := fun w => ta_yes (xT := 20) (.int .u64 u) w Tryd.underlying36
  go_enter Tryd.func43, Tryd.ntmps43
  go_wp2_with (first
    | (at_make; go_must (refine wpList_make_gr Go.Proofs.YtgkccbfepjgjoaaDoor.u8 rfl _ _ rfl (Gr.refl w) .u8 .u8 4 4 4 rfl rfl rfl rfl (by omega) _ rfl ?_); intro w2 ho2 hg2 _ _)
    | (go_at_call 79; go_must (refine (HP w2 _ _ ho2 rfl).out.mono ?_); rintro e w3 ⟨rfl, ho3, hg3⟩; have hg3 := hg3 w hg2 (Nat.le_refl _))
    | (go_at_call 74; go_must (refine (HW w3 _ ho3 hg3 rfl).out.mono ?_); rintro e w4 ⟨rfl, h4, h5⟩))
  go_end0
  exact ⟨rfl, h4, ((Wx.refl s w).gr hg3 hsl).trans h5⟩

theorem putBE8 (w : World) (g : Nat) (xs : List Int) (v : Nat) (hv : v < 18446744073709551616) (h : OwnAt w g 8 xs) (hx : xs.length = 8) :
    Calls Tryd.prog 76 #[.agg #[], .slice (some ⟨g, 0, none⟩) 8 8, .int .u64 v] w fun e w' => e = .returned (.tuple #[]) ∧ OwnAt w' g 8 (numB true 8 v) ∧ ∀ w0, Gr w0 w → w0.heap.size ≤ g → Gr w0 w' := by
  refine (Tryd.binary_BE_PutUint64 g 0 8 8 v hv _ _ _ _ _ _ _ _ w (Nat.le_refl _) (h.cell 0 (by omega)) (h.cell 1 (by omega)) (h.cell 2 (by omega)) (h.cell 3 (by omega)) (h.cell 4 (by omega)) (h.cell 5 (by omega)) (h.cell 6 (by omega)) (h.cell 7 (by omega)) (h.free 0) (h.free 1) (h.free 2) (h.free 3) (h.free 4) (h.free 5) (h.free 6) (h.free 7)).mono fun e w' => ?_
  rintro ⟨rfl, rfl⟩
  have := put_row h hx (bs := Lib.beBytes 8 v) (by simp [Lib.beBytes_length]) 125 (numB_byt true 8 v)
  exact ⟨rfl, this.1, this.2⟩

set_option maxRecDepth 100000 in
theorem putUint_BE8 (s : Nat) (big : Bool) (ch : Int) (xs : List Int) (u : Nat) (w : World) (hS : Sw w s big ch xs) (hu : u < 18446744073709551616) (hlim : xs.length ≤ 10000000000) :
    Calls Tryd.prog 43 #[.pointer (some ⟨s, 0, none⟩), .iface 36 (.int .u64 u), .int .u8 8, .bool true, .bool false] w (RetP w s big ch (xs ++ numB true 8 u)) := by
  have hsl := hS.lt
  have hrl := hS.row_lt
  have HW := fun w3 v (h : OwnAt w3 w.heap.size 8 (numB true 8 u)) (hg : Gr w w3) (hv : v = .slice (some ⟨w.heap.size, 0, none⟩) 8 8) => Lib.hid (write_sw s big ch xs (numB true 8 u) v w3 (hS.gr hg) (by subst hv; have := h.rd; rwa [numB_length] at this) (by
    subst hv
    have := (h.own (B := w.heap.size) (Nat.le_refl _)).aside (s := s) hsl (fun k hk => by rw [rowOf_heap (hg.block hsl)] at hk; exact hrl k hk)
    rwa [numB_length] at this) (by rw [numB_length]; omega))
  have HP := fun w2 g l h hx => Lib.hid (putBE8 w2 g l u hu h hx)
  have iw : IntKind.u64.wrap (u : Int) = u := by rw [IntKind.wrap_u64]; omega
  clear hS hrl
  have y0 := fun w => ta_no (t := 36) (xT := 20) (.int .u64 u) w Tryd.underlying2 (by kernel_rfl) (by decide)
  have y1 := fun w => ta_no (t := 36) (xT := 20) (.int .u64 u) w Tryd.underlying21 (by kernel_rfl) (by decide)
  have y2 := fun w => ta_no (t := 36) (xT := 20) (.int .u64 u) w Tryd.underlying121 (by kernel_rfl) (by decide)
  have y3 := fun w => ta_no (t := 36) (xT := 20) (.int .u64 u) w Tryd.underlying76 (by kernel_rfl) (by decide)
  have y4 := fun w => ta_yes (xT := 20) (.int .u64 u) w Tryd.underlying36
  go_enter Tryd.func43, Tryd.ntmps43
  go_wp2_with (first
    | (at_make; go_must (refine wpList_make_gr Go.Proofs.YtgkccbfepjgjoaaDoor.u8 rfl _ _ rfl (Gr.refl w) .u8 .u8 8 8 8 rfl rfl rfl rfl (by omega) _ rfl ?_); intro w2 ho2 hg2 _ _)
    | (go_at_call 76; go_must (refine (HP w2 _ _ ho2 rfl).out.mono ?_); rintro e w3 ⟨rfl, ho3, hg3⟩; have hg3 := hg3 w hg2 (Nat.le_refl _))
    | (go_at_call 74; go_must (refine (HW w3 _ ho3 hg3 rfl).out.mono ?_); rintro e w4 ⟨rfl, h4, h5⟩))
  go_end0
  exact ⟨rfl, h4, ((Wx.refl s w).gr hg3 hsl).trans h5⟩

theorem putLE2 (w : World) (g : Nat) (xs : List Int) (v : Nat) (hv : v < 65536) (h : OwnAt w g 2 xs) (hx : xs.length = 2) :
    Calls Tryd.prog 80 #[.agg #[], .slice (some ⟨g, 0, none⟩) 2 2, .int .u16 v] w fun e w' => e = .returned (.tuple #[]) ∧ OwnAt w' g 2 (numB false 2 v) ∧ ∀ w0, Gr w0 w → w0.heap.size ≤ g → Gr w0 w' := by
  refine (Tryd.binary_LE_PutUint16 g 0 2 2 v hv _ _ w (Nat.le_refl _) (h.cell 0 (by omega)) (h.cell 1 (by omega)) (h.free 0) (h.free 1)).mono fun e w' => ?_
  rintro ⟨rfl, rfl⟩
  have := put_row h hx (bs := Lib.leBytes 2 v) (by simp [Lib.leBytes_length]) 129 (numB_byt false 2 v)
  exact ⟨rfl, this.1, this.2⟩

set_option maxRecDepth 100000 in
theorem putUint_LE2 (s : Nat) (big : Bool) (ch : Int) (xs : List Int) (u : Nat) (w : World) (hS : Sw w s big ch xs) (hu : u < 65536) (hlim : xs.length ≤ 10000000000) :
    Calls Tryd.prog 43 #[.pointer (some ⟨s, 0, none⟩), .iface 36 (.int .u64 u), .int .u8 2, .bool false, .bool false] w (RetP w s big ch (xs ++ numB false 2 u)) := by
  have hsl := hS.lt
  have hrl := hS.row_lt
  have HW := fun w3 v (h : OwnAt w3 w.heap.size 2 (numB false 2 u)) (hg : Gr w w3) (hv : v = .slice (some ⟨w.heap.size, 0, none⟩) 2 2) => Lib.hid (write_sw s big ch xs (numB false 2 u) v w3 (hS.gr hg) (by subst hv; have := h.rd; rwa [numB_length] at this) (by
    subst hv
    have := (h.own (B := w.heap.size) (Nat.le_refl _)).aside (s := s) hsl (fun k hk => by rw [rowOf_heap (hg.block hsl)] at hk; exact hrl k hk)
    rwa [numB_length] at this) (by rw [numB_length]; omega))
  have HP := fun w2 g l h hx => Lib.hid (putLE2 w2 g l u hu h hx)
  have iw : IntKind.u16.wrap (u : Int) = u := by rw [IntKind.wrap_u16]; omega
  clear hS hrl
  have y0 := fun w => ta_no (t := 36) (xT := 20) (.int .u64 u) w Tryd.underlying2 (by kernel_rfl) (by decide)
  have y1 := fun w => ta_no (t := 36) (xT := 20) (.int .u64 u) w Tryd.underlying21 (by kernel_rfl) (by decide)
  have y2 := fun w => ta_no (t := 36) (xT := 20) (.int .u64 u) w Tryd.underlying121 (by kernel_rfl) (by decide)
  have y3 := fun w => ta_no (t := 36) (xT := 20) (.int .u64 u) w Tryd.underlying76 (by kernel_rfl) (by decide)
  have y4 := fun w => ta_yes (xT := 20) (.int .u64 u) w Tryd.underlying36
  go_enter Tryd.func43, Tryd.ntmps43
  go_wp2_with (first
    | (at_make; go_must (refine wpList_make_gr Go.Proofs.YtgkccbfepjgjoaaDoor.u8 rfl _ _ rfl (Gr.refl w) .u8 .u8 2 2 2 rfl rfl rfl rfl (by omega) _ rfl ?_); intro w2 ho2 hg2 _ _)
    | (go_at_call 80; go_must (refine (HP w2 _ _ ho2 rfl).out.mono ?_); rintro e w3 ⟨rfl, ho3, hg3⟩; have hg3 := hg3 w hg2 (Nat.le_refl _))
    | (go_at_call 74; go_must (refine (HW w3 _ ho3 hg3 rfl).out.mono ?_); rintro e w4 ⟨rfl, h4, h5⟩))
  go_end0
  exact ⟨rfl, h4, ((Wx.refl s w).gr hg3 hsl).trans h5⟩

theorem putLE4 (w : World) (g : Nat) (xs : List Int) (v : Nat) (hv : v < 4294967296) (h : OwnAt w g 4 xs) (hx : xs.length = 4) :
    Calls Tryd.prog 81 #[.agg #[], .slice (some ⟨g, 0, none⟩) 4 4, .int .u32 v] w fun e w' => e = .returned (.tuple #[]) ∧ OwnAt w' g 4 (numB false 4 v) ∧ ∀ w0, Gr w0 w → w0.heap.size ≤ g → Gr w0 w' := by
  refine (Tryd.binary_LE_PutUint32 g 0 4 4 v hv _ _ _ _ w (Nat.le_refl _) (h.cell 0 (by omega)) (h.cell 1 (by omega)) (h.cell 2 (by omega)) (h.cell 3 (by omega)) (h.free 0) (h.free 1) (h.free 2) (h.free 3)).mono fun e w' => ?_
  rintro ⟨rfl, rfl⟩
  have := put_row h hx (bs := Lib.leBytes 4 v) (by simp [Lib.leBytes_length]) 129 (numB_byt false 4 v)
  exact ⟨rfl, this.1, this.2⟩

set_option maxRecDepth 100000 in
theorem putUint_LE4 (s : Nat) (big : Bool) (ch : Int) (xs : List Int) (u : Nat) (w : World) (hS : Sw w s big ch xs) (hu : u < 4294967296) (hlim : xs.length ≤ 10000000000) :
    Calls Tryd.prog 43 #[.pointer (some ⟨s, 0, none⟩), .iface 36 (.int .u64 u), .int .u8 4, .bool false, .bool false] w (RetP w s big ch (xs ++ numB false 4 u)) := by
  have hsl := hS.lt
  have hrl := hS.row_lt
  have HW := fun w3 v (h : OwnAt w3 w.heap.size 4 (numB false 4 u)) (hg : Gr w w3) (hv : v = .slice (some ⟨w.heap.size, 0, none⟩) 4 4) => Lib.hid (write_sw s big ch xs (numB false 4 u) v w3 (hS.gr hg) (by subst hv; have := h.rd; rwa [numB_length] at this) (by
    subst hv
    have := (h.own (B := w.heap.size) (Nat.le_refl _)).aside (s := s) hsl (fun k hk => by rw [rowOf_heap (hg.block hsl)] at hk; exact hrl k hk)
    rwa [numB_length] at this) (by rw [numB_length]; omega))
  have HP := fun w2 g l h hx => Lib.hid (putLE4 w2 g l u hu h hx)
  have iw : IntKind.u32.wrap (u : Int) = u := by rw [IntKind.wrap_u32]; omega
  clear hS hrl
  have y0 := fun w => ta_no (t := 36) (xT := 20) (.int .u64 u) w Tryd.underlying2 (by kernel_rfl) (by decide)
  have y1 := fun w => ta_no (t := 36) (xT := 20) (.int .u64 u) w Tryd.underlying21 (by kernel_rfl) (by decide)
  have y2 := fun w => ta_no (t := 36) (xT := 20) (.int .u64 u) w Tryd.underlying121 (by kernel_rfl) (by decide)
  have y3 := fun w => ta_no (t := 36) (xT := 20) (.int .u64 u) w Tryd.underlying76 (by kernel_rfl) (by decide)
  have y4 := fun w => ta_yes (xT := 20) (.int .u64 u) w Tryd.underlying36
  go_enter Tryd.func43, Tryd.ntmps43
  go_wp2_with (first
    | (at_make; go_must (refine wpList_make_gr Go.Proofs.YtgkccbfepjgjoaaDoor.u8 rfl _ _ rfl (Gr.refl w) .u8 .u8 4 4 4 rfl rfl rfl rfl (by omega) _ rfl ?_); intro w2 ho2 hg2 _ _)
    | (go_at_call 81; go_must (refine (HP w2 _ _ ho2 rfl).out.mono ?_); rintro e w3 ⟨rfl, ho3, hg3⟩; have hg3 := hg3 w hg2 (Nat.le_refl _))
    | (go_at_call 74; go_must (refine (HW w3 _ ho3 hg3 rfl).out.mono ?_); rintro e w4 ⟨rfl, h4, h5⟩))
  go_end0
  exact ⟨rfl, h4, ((Wx.refl s w).gr hg3 hsl).trans h5⟩

theorem putLE8 (w : World) (g : Nat) (xs : List Int) (v : Nat) (hv : v < 18446744073709551616) (h : OwnAt w g 8 xs) (hx : xs.length = 8) :
    Calls Tryd.prog 82 #[.agg #[], .slice (some ⟨g, 0, none⟩) 8 8, .int .u64 v] w fun e w' => e = .returned (.tuple #[]) ∧ OwnAt w' g 8 (numB false 8 v) ∧ ∀ w0, Gr w0 w → w0.heap.size ≤ g → Gr w0 w' := by
  refine (Tryd.binary_LE_PutUint64 g 0 8 8 v hv _ _ _ _ _ _ _ _ w (Nat.le_refl _) (h.cell 0 (by omega)) (h.cell 1 (by omega)) (h.cell 2 (by omega)) (h.cell 3 (by omega)) (h.cell 4 (by omega)) (h.cell 5 (by omega)) (h.cell 6 (by omega)) (h.cell 7 (by omega)) (h.free 0) (h.free 1) (h.free 2) (h.free 3) (h.free 4) (h.free 5) (h.free 6) (h.free 7)).mono fun e w' => ?_
  rintro ⟨rfl, rfl⟩
  have := put_row h hx (bs := Lib.leBytes 8 v) (by simp [Lib.leBytes_length]) 129 (numB_byt false 8 v)
  exact ⟨rfl, this.1, this.2⟩

set_option maxRecDepth 100000 in
theorem putUint_LE8 (s : Nat) (big : Bool) (ch : Int) (xs : List Int) (u : Nat) (w : World) (hS : Sw w s big ch xs) (hu : u < 18446744073709551616) (hlim : xs.length ≤ 10000000000) :
    Calls Tryd.prog 43 #[.pointer (some ⟨s, 0, none⟩), .iface 36 (.int .u64 u), .int .u8 8, .bool false, .bool false] w (RetP w s big ch (xs ++ numB false 8 u)) := by
  have hsl := hS.lt
  have hrl := hS.row_lt
  have HW := fun w3 v (h : OwnAt w3 w.heap.size 8 (numB false 8 u)) (hg : Gr w w3) (hv : v = .slice (some ⟨w.heap.size, 0, none⟩) 8 8) => Lib.hid (write_sw s big ch xs (numB false 8 u) v w3 (hS.gr hg) (by subst hv; have := h.rd; rwa [numB_length] at this) (by
    subst hv
    have := (h.own (B := w.heap.size) (Nat.le_refl _)).aside (s := s) hsl (fun k hk => by rw [rowOf_heap (hg.block hsl)] at hk; exact hrl k hk)
    rwa [numB_length] at this) (by rw [numB_length]; omega))
  have HP := fun w2 g l h hx => Lib.hid (putLE8 w2 g l u hu h hx)
  have iw : IntKind.u64.wrap (u : Int) = u := by rw [IntKind.wrap_u64]; omega
  clear hS hrl
  have y0 := fun w => ta_no (t := 36) (xT := 20) (.int .u64 u) w Tryd.underlying2 (by kernel_rfl) (by decide)
  have y1 := fun w => ta_no (t := 36) (xT := 20) (.int .u64 u) w Tryd.underlying21 (by kernel_rfl) (by decide)
  have y2 := fun w => ta_no (t := 36) (xT := 20) (.int .u64 u) w Tryd.underlying121 (by kernel_rfl) (by decide)
  have y3 := fun w => ta_no (t := 36) (xT := 20) (.int .u64 u) w Tryd.underlying76 (by kernel_rfl) (by decide)
  have y4 := fun w => ta_yes (xT := 20) (.int .u64 u) w Tryd.underlying36
  go_enter Tryd.func43, Tryd.ntmps43
  go_wp2_with (first
    | (at_make; go_must (refine wpList_make_gr Go.Proofs.YtgkccbfepjgjoaaDoor.u8 rfl _ _ rfl (Gr.refl w) .u8 .u8 8 8 8 rfl rfl rfl rfl (by omega) _ rfl ?_); intro w2 ho2 hg2 _ _)
    | (go_at_call 82; go_must (refine (HP w2 _ _ ho2 rfl).out.mono ?_); rintro e w3 ⟨rfl, ho3, hg3⟩; have hg3 := hg3 w hg2 (Nat.le_refl _))
    | (go_at_call 74; go_must (refine (HW w3 _ ho3 hg3 rfl).out.mono ?_); rintro e w4 ⟨rfl, h4, h5⟩))
  go_end0
  exact ⟨rfl, h4, ((Wx.refl s w).gr hg3 hsl).trans h5⟩

set_option maxRecDepth 100000 in
theorem putUint_1 (s : Nat) (big : Bool) (ch : Int) (xs : List Int) (u : Nat) (be co : Bool) (w : World) (hS : Sw w s big ch xs) (hu : u < 256) (hlim : xs.length ≤ 10000000000) :
    Calls Tryd.prog 43 #[.pointer (some ⟨s, 0, none⟩), .iface 36 (.int .u64 u), .int .u8 1, .bool be, .bool co] w (RetP w s big ch (xs ++ [(u : Int)])) := by
  have HB := Lib.hid (writeByte_sw s big ch xs u w hS (by omega) (by omega))
  have iw : IntKind.u8.wrap (u : Int) = u := by rw [IntKind.wrap_u8]; omega
  clear hS
  have y0 := fun w => ta_no (t := 36) (xT := 20) (.int .u64 u) w Tryd.underlying2 (by kernel_rfl) (by decide)
  have y1 := fun w => ta_no (t := 36) (xT := 20) (.int .u64 u) w Tryd.underlying21 (by kernel_rfl) (by decide)
  have y2 := fun w => ta_no (t := 36) (xT := 20) (.int .u64 u) w Tryd.underlying121 (by kernel_rfl) (by decide)
  have y3 := fun w => ta_no (t := 36) (xT := 20) (.int .u64 u) w Tryd.underlying76 (by kernel_rfl) (by decide)
  have y4 := fun w => ta_yes (xT := 20) (.int .u64 u) w Tryd.underlying36
  go_enter Tryd.func43, Tryd.ntmps43
  go_wp2_with (first | (go_at_call 75; go_must (refine HB.out.mono ?_); rintro e w1 ⟨rfl, h1, h2⟩))
  go_end0
  exact ⟨rfl, h1, h2⟩
end Go.Proofs.YtgkccbfepjgjoaaDoor
