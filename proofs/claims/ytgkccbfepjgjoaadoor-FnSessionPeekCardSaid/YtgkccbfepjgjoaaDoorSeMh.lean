/- Several texts in one (merge.py): SeX, SeZa, SeZb, SeZc, SeZh, SeZi. -/
import Derived.Test.YtgkccbfepjgjoaaDoorSeMg
/- A session writes numbers that are not compressed. Printed by gen_sex.py. -/
namespace Go.Proofs.YtgkccbfepjgjoaaDoor
open Go Go.RowKit

/-- The bytes of a number. -/
def numB (be : Bool) (n v : Nat) : List Int := (if be = true then Lib.beBytes n v else Lib.leBytes n v).map fun b => (b.toNat : Int)
theorem numB_length (be : Bool) (n v : Nat) : (numB be n v).length = n := by unfold numB; cases be <;> simp [Lib.beBytes_length, Lib.leBytes_length]
theorem numB_byt (be : Bool) (n v : Nat) : Byt (numB be n v) := fun x hx => by
  unfold numB at hx
  obtain ⟨b, _, rfl⟩ := List.mem_map.1 hx
  have := b.toNat_lt
  omega
theorem ta_no {A t xT : TypeId} {k : IntKind} (v : Value) (w : World) (hu : Tryd.prog.underlying A = some (.int k)) (hz : (Tryd.prog.info? A).map (·.zero) = some (some (.int k 0))) (hne : t ≠ A) :
    (Instr.typeAssert (.iface t v) xT A true).run Tryd.prog w = .ok (.tuple #[.int k 0, .bool false]) w := by
  obtain ⟨i, hi, hzi⟩ := Option.map_eq_some_iff.1 hz
  simp [Instr.typeAssert, run_underlying hu, hne, zeroValue, typeInfo, hi, hzi, go_sem, Result.andThen]
theorem ta_yes {A xT : TypeId} {k : IntKind} (v : Value) (w : World) (hu : Tryd.prog.underlying A = some (.int k)) :
    (Instr.typeAssert (.iface A v) xT A true).run Tryd.prog w = .ok (.tuple #[v, .bool true]) w := by
  simp [Instr.typeAssert, run_underlying hu, go_sem, Result.andThen]
theorem byteCells_map (l : List UInt8) : Lib.byteCells l = (l.map fun b => (b.toNat : Int)).map (Value.int .u8) := by simp [Lib.byteCells]
theorem putAt_all : ∀ (zs pre xs : List Int), zs.length = xs.length → putAt (pre ++ xs) pre.length zs = pre ++ zs
  | [], pre, xs, h => by
    obtain rfl : xs = [] := List.eq_nil_of_length_eq_zero (by simpa using h.symm)
    rfl
  | z :: zs, pre, xs, h => by
    obtain ⟨y, ys, rfl⟩ : ∃ y ys, xs = y :: ys := by
      cases xs with
      | nil => simp at h
      | cons y ys => exact ⟨y, ys, rfl⟩
    have ih := putAt_all zs (pre ++ [z]) ys (by simpa using h)
    have e : (pre ++ y :: ys).set pre.length z = (pre ++ [z]) ++ ys := by simp
    show putAt ((pre ++ y :: ys).set pre.length z) (pre.length + 1) zs = _
    rw [e, show pre.length + 1 = (pre ++ [z]).length by simp, ih]
    simp
theorem put_row {w : World} {g n : Nat} {xs : List Int} {bs : List UInt8} (h : OwnAt w g n xs) (hx : xs.length = n) (hb : bs.length = n) (T : TypeId) (hz : Byt (bs.map fun b => (b.toNat : Int))) :
    OwnAt ((w.alloc (.cells #[] T)).setCells g 0 (Lib.byteCells bs)) g n (bs.map fun b => (b.toNat : Int)) ∧ ∀ w0, Gr w0 w → w0.heap.size ≤ g → Gr w0 ((w.alloc (.cells #[] T)).setCells g 0 (Lib.byteCells bs)) := by
  rw [byteCells_map]
  refine ⟨?_, fun w0 h0 hg => (h0.alloc _).setCells hg _ _⟩
  have h1 := (h.alloc (.cells #[] T)).setCells 0 (bs.map fun b => (b.toNat : Int)) (by simp; omega) hz
  have h2 := putAt_all (bs.map fun b => (b.toNat : Int)) [] xs (by simp; omega)
  simp only [List.nil_append, List.length_nil] at h2
  rwa [h2] at h1

theorem putBE2 (w : World) (g : Nat) (xs : List Int) (v : Nat) (hv : v < 65536) (h : OwnAt w g 2 xs) (hx : xs.length = 2) :
    Calls Tryd.prog 78 #[.agg #[], .slice (some ⟨g, 0, none⟩) 2 2, .int .u16 v] w fun e w' => e = .returned (.tuple #[]) ∧ OwnAt w' g 2 (numB true 2 v) ∧ ∀ w0, Gr w0 w → w0.heap.size ≤ g → Gr w0 w' := by
  refine (Tryd.binary_BE_PutUint16 g 0 2 2 v hv _ _ w (Nat.le_refl _) (h.cell 0 (by omega)) (h.cell 1 (by omega)) (h.free 0) (h.free 1)).mono fun e w' => ?_
  rintro ⟨rfl, rfl⟩
  have := put_row h hx (bs := Lib.beBytes 2 v) (by simp [Lib.beBytes_length]) 125 (numB_byt true 2 v)
  exact ⟨rfl, this.1, this.2⟩

set_option maxRecDepth 100000 in
theorem putUint_BE2 (s : Nat) (big : Bool) (ch : Int) (xs : List Int) (u : Nat) (w : World) (hS : Sw w s big ch xs) (hu : u < 65536) (hlim : xs.length ≤ 10000000000) :
    Calls Tryd.prog 43 #[.pointer (some ⟨s, 0, none⟩), .iface 36 (.int .u64 u), .int .u8 2, .bool true, .bool false] w (RetP w s big ch (xs ++ numB true 2 u)) := by
  have hsl := hS.lt
  have hrl := hS.row_lt
  have HW := fun w3 v (h : OwnAt w3 w.heap.size 2 (numB true 2 u)) (hg : Gr w w3) (hv : v = .slice (some ⟨w.heap.size, 0, none⟩) 2 2) => Lib.hid (write_sw s big ch xs (numB true 2 u) v w3 (hS.gr hg) (by subst hv; have := h.rd; rwa [numB_length] at this) (by
    subst hv
    have := (h.own (B := w.heap.size) (Nat.le_refl _)).aside (s := s) hsl (fun k hk => by rw [rowOf_heap (hg.block hsl)] at hk; exact hrl k hk)
    rwa [numB_length] at this) (by rw [numB_length]; omega))
  have HP := fun w2 g l h hx => Lib.hid (putBE2 w2 g l u hu h hx)
  have iw : IntKind.u16.wrap (u : Int) = u := by rw [IntKind.wrap_u16]; omega
  clear hS hrl
  have y0 := fun w => ta_no (t := 36) (xT := 20) (.int .u64 u) w Tryd.underlying2 (by kernel_rfl) (by decide)
  have y1 := fun w => ta_no (t := 36) (xT := 20) (.int .u64 u) w Tryd.underlying21 (by kernel_rfl) (by decide)
  have y2 := fun w => ta_no (t := 36) (xT := 20) (.int .u64 u) w Tryd.underlying121 (by kernel_rfl) (by decide)
  have y3 := fun w => ta_no (t := 36) (xT := 20) (.int .u64 u) w Tryd.underlying76 (by kernel_rfl) (by decide)
  have y4 := fun w => ta_yes (xT := 20) (.int .u64 u) w Tryd.underlying36
  go_enter Tryd.func43, Tryd.ntmps43
  go_wp2_with (first
    | (at_make; go_must (refine wpList_make_gr Go.Proofs.YtgkccbfepjgjoaaDoor.u8 rfl _ _ rfl (Gr.refl w) .u8 .u8 2 2 2 rfl rfl rfl rfl (by omega) _ rfl ?_); intro w2 ho2 hg2 _ _)
    | (go_at_call 78; go_must (refine (HP w2 _ _ ho2 rfl).out.mono ?_); rintro e w3 ⟨rfl, ho3, hg3⟩; have hg3 := hg3 w hg2 (Nat.le_refl _))
    | (go_at_call 74; go_must (refine (HW w3 _ ho3 hg3 rfl).out.mono ?_); rintro e w4 ⟨rfl, h4, h5⟩))
  go_end0
  exact ⟨rfl, h4, ((Wx.refl s w).gr hg3 hsl).trans h5⟩

theorem putBE4 (w : World) (g : Nat) (xs : List Int) (v : Nat) (hv : v < 4294967296) (h : OwnAt w g 4 xs) (hx : xs.length = 4) :
    Calls Tryd.prog 79 #[.agg #[], .slice (some ⟨g, 0, none⟩) 4 4, .int .u32 v] w fun e w' => e = .returned (.tuple #[]) ∧ OwnAt w' g 4 (numB true 4 v) ∧ ∀ w0, Gr w0 w → w0.heap.size ≤ g → Gr w0 w' := by
  refine (Tryd.binary_BE_PutUint32 g 0 4 4 v hv _ _ _ _ w (Nat.le_refl _) (h.cell 0 (by omega)) (h.cell 1 (by omega)) (h.cell 2 (by omega)) (h.cell 3 (by omega)) (h.free 0) (h.free 1) (h.free 2) (h.free 3)).mono fun e w' => ?_
  rintro ⟨rfl, rfl⟩
  have := put_row h hx (bs := Lib.beBytes 4 v) (by simp [Lib.beBytes_length]) 125 (numB_byt true 4 v)
  exact ⟨rfl, this.1, this.2⟩

set_option maxRecDepth 100000 in
theorem putUint_BE4 (s : Nat) (big : Bool) (ch : Int) (xs : List Int) (u : Nat) (w : World) (hS : Sw w s big ch xs) (hu : u < 4294967296) (hlim : xs.length ≤ 10000000000) :
    Calls Tryd.prog 43 #[.pointer (some ⟨s, 0, none⟩), .iface 36 (.int .u64 u), .int .u8 4, .bool true, .bool false] w (RetP w s big ch (xs ++ numB true 4 u)) := by
  have hsl := hS.lt
  have hrl := hS.row_lt
  have HW := fun w3 v (h : OwnAt w3 w.heap.size 4 (numB true 4 u)) (hg : Gr w w3) (hv : v = .slice (some ⟨w.heap.size, 0, none⟩) 4 4) => Lib.hid (write_sw s big ch xs (numB true 4 u) v w3 (hS.gr hg) (by subst hv; have := h.rd; rwa [numB_length] at this) (by
    subst hv
    have := (h.own (B := w.heap.size) (Nat.le_refl _)).aside (s := s) hsl (fun k hk => by rw [rowOf_heap (hg.block hsl)] at hk; exact hrl k hk)
    rwa [numB_length] at this) (by rw [numB_length]; omega))
  have HP := fun w2 g l h hx => Lib.hid (putBE4 w2 g l u hu h hx)
  have iw : IntKind.u32.wrap (u : Int) = u := by rw [IntKind.wrap_u32]; omega
  clear hS hrl
  have y0 := fun w => ta_no (t := 36) (xT := 20) (.int .u64 u) w Tryd.underlying2 (by kernel_rfl) (by decide)
  have y1 := fun w => ta_no (t := 36) (xT := 20) (.int .u64 u) w Tryd.underlying21 (by kernel_rfl) (by decide)
  have y2 := fun w => ta_no (t := 36) (xT := 20) (.int .u64 u) w Tryd.underlying121 (by kernel_rfl) (by decide)
  have y3 := fun w => ta_no (t := 36) (xT := 20) (.int .u64 u) w Tryd.underlying76 (by kernel_rfl) (by decide)
  have y4 := fun w => ta_yes (xT := 20) (.int .u64 u) w Tryd.underlying36
  go_enter Tryd.func43, Tryd.ntmps43
  go_wp2_with (first
    | (at_make; go_must (refine wpList_make_gr Go.Proofs.YtgkccbfepjgjoaaDoor.u8 rfl _ _ rfl (Gr.refl w) .u8 .u8 4 4 4 rfl rfl rfl rfl (by omega) _ rfl ?_); intro w2 ho2 hg2 _ _)
    | (go_at_call 79; go_must (refine (HP w2 _ _ ho2 rfl).out.mono ?_); rintro e w3 ⟨rfl, ho3, hg3⟩; have hg3 := hg3 w hg2 (Nat.le_refl _))
    | (go_at_call 74; go_must (refine (HW w3 _ ho3 hg3 rfl).out.mono ?_); rintro e w4 ⟨rfl, h4, h5⟩))
  go_end0
  exact ⟨rfl, h4, ((Wx.refl s w).gr hg3 hsl).trans h5⟩

theorem putBE8 (w : World) (g : Nat) (xs : List Int) (v : Nat) (hv : v < 18446744073709551616) (h : OwnAt w g 8 xs) (hx : xs.length = 8) :
    Calls Tryd.prog 76 #[.agg #[], .slice (some ⟨g, 0, none⟩) 8 8, .int .u64 v] w fun e w' => e = .returned (.tuple #[]) ∧ OwnAt w' g 8 (numB true 8 v) ∧ ∀ w0, Gr w0 w → w0.heap.size ≤ g → Gr w0 w' := by
  refine (Tryd.binary_BE_PutUint64 g 0 8 8 v hv _ _ _ _ _ _ _ _ w (Nat.le_refl _) (h.cell 0 (by omega)) (h.cell 1 (by omega)) (h.cell 2 (by omega)) (h.cell 3 (by omega)) (h.cell 4 (by omega)) (h.cell 5 (by omega)) (h.cell 6 (by omega)) (h.cell 7 (by omega)) (h.free 0) (h.free 1) (h.free 2) (h.free 3) (h.free 4) (h.free 5) (h.free 6) (h.free 7)).mono fun e w' => ?_
  rintro ⟨rfl, rfl⟩
  have := put_row h hx (bs := Lib.beBytes 8 v) (by simp [Lib.beBytes_length]) 125 (numB_byt true 8 v)
  exact ⟨rfl, this.1, this.2⟩

set_option maxRecDepth 100000 in
theorem putUint_BE8 (s : Nat) (big : Bool) (ch : Int) (xs : List Int) (u : Nat) (w : World) (hS : Sw w s big ch xs) (hu : u < 18446744073709551616) (hlim : xs.length ≤ 10000000000) :
    Calls Tryd.prog 43 #[.pointer (some ⟨s, 0, none⟩), .iface 36 (.int .u64 u), .int .u8 8, .bool true, .bool false] w (RetP w s big ch (xs ++ numB true 8 u)) := by
  have hsl := hS.lt
  have hrl := hS.row_lt
  have HW := fun w3 v (h : OwnAt w3 w.heap.size 8 (numB true 8 u)) (hg : Gr w w3) (hv : v = .slice (some ⟨w.heap.size, 0, none⟩) 8 8) => Lib.hid (write_sw s big ch xs (numB true 8 u) v w3 (hS.gr hg) (by subst hv; have := h.rd; rwa [numB_length] at this) (by
    subst hv
    have := (h.own (B := w.heap.size) (Nat.le_refl _)).aside (s := s) hsl (fun k hk => by rw [rowOf_heap (hg.block hsl)] at hk; exact hrl k hk)
    rwa [numB_length] at this) (by rw [numB_length]; omega))
  have HP := fun w2 g l h hx => Lib.hid (putBE8 w2 g l u hu h hx)
  have iw : IntKind.u64.wrap (u : Int) = u := by rw [IntKind.wrap_u64]; omega
  clear hS hrl
  have y0 := fun w => ta_no (t := 36) (xT := 20) (.int .u64 u) w Tryd.underlying2 (by kernel_rfl) (by decide)
  have y1 := fun w => ta_no (t := 36) (xT := 20) (.int .u64 u) w Tryd.underlying21 (by kernel_rfl) (by decide)
  have y2 := fun w => ta_no (t := 36) (xT := 20) (.int .u64 u) w Tryd.underlying121 (by kernel_rfl) (by decide)
  have y3 := fun w => ta_no (t := 36) (xT := 20) (.int .u64 u) w Tryd.underlying76 (by kernel_rfl) (by decide)
  have y4 := fun w => ta_yes (xT := 20) (.int .u64 u) w Tryd.underlying36
  go_enter Tryd.func43, Tryd.ntmps43
  go_wp2_with (first
    | (at_make; go_must (refine wpList_make_gr Go.Proofs.YtgkccbfepjgjoaaDoor.u8 rfl _ _ rfl (Gr.refl w) .u8 .u8 8 8 8 rfl rfl rfl rfl (by omega) _ rfl ?_); intro w2 ho2 hg2 _ _)
    | (go_at_call 76; go_must (refine (HP w2 _ _ ho2 rfl).out.mono ?_); rintro e w3 ⟨rfl, ho3, hg3⟩; have hg3 := hg3 w hg2 (Nat.le_refl _))
    | (go_at_call 74; go_must (refine (HW w3 _ ho3 hg3 rfl).out.mono ?_); rintro e w4 ⟨rfl, h4, h5⟩))
  go_end0
  exact ⟨rfl, h4, ((Wx.refl s w).gr hg3 hsl).trans h5⟩

theorem putLE2 (w : World) (g : Nat) (xs : List Int) (v : Nat) (hv : v < 65536) (h : OwnAt w g 2 xs) (hx : xs.length = 2) :
    Calls Tryd.prog 80 #[.agg #[], .slice (some ⟨g, 0, none⟩) 2 2, .int .u16 v] w fun e w' => e = .returned (.tuple #[]) ∧ OwnAt w' g 2 (numB false 2 v) ∧ ∀ w0, Gr w0 w → w0.heap.size ≤ g → Gr w0 w' := by
  refine (Tryd.binary_LE_PutUint16 g 0 2 2 v hv _ _ w (Nat.le_refl _) (h.cell 0 (by omega)) (h.cell 1 (by omega)) (h.free 0) (h.free 1)).mono fun e w' => ?_
  rintro ⟨rfl, rfl⟩
  have := put_row h hx (bs := Lib.leBytes 2 v) (by simp [Lib.leBytes_length]) 129 (numB_byt false 2 v)
  exact ⟨rfl, this.1, this.2⟩

set_option maxRecDepth 100000 in
theorem putUint_LE2 (s : Nat) (big : Bool) (ch : Int) (xs : List Int) (u : Nat) (w : World) (hS : Sw w s big ch xs) (hu : u < 65536) (hlim : xs.length ≤ 10000000000) :
    Calls Tryd.prog 43 #[.pointer (some ⟨s, 0, none⟩), .iface 36 (.int .u64 u), .int .u8 2, .bool false, .bool false] w (RetP w s big ch (xs ++ numB false 2 u)) := by
  have hsl := hS.lt
  have hrl := hS.row_lt
  have HW := fun w3 v (h : OwnAt w3 w.heap.size 2 (numB false 2 u)) (hg : Gr w w3) (hv : v = .slice (some ⟨w.heap.size, 0, none⟩) 2 2) => Lib.hid (write_sw s big ch xs (numB false 2 u) v w3 (hS.gr hg) (by subst hv; have := h.rd; rwa [numB_length] at this) (by
    subst hv
    have := (h.own (B := w.heap.size) (Nat.le_refl _)).aside (s := s) hsl (fun k hk => by rw [rowOf_heap (hg.block hsl)] at hk; exact hrl k hk)
    rwa [numB_length] at this) (by rw [numB_length]; omega))
  have HP := fun w2 g l h hx => Lib.hid (putLE2 w2 g l u hu h hx)
  have iw : IntKind.u16.wrap (u : Int) = u := by rw [IntKind.wrap_u16]; omega
  clear hS hrl
  have y0 := fun w => ta_no (t := 36) (xT := 20) (.int .u64 u) w Tryd.underlying2 (by kernel_rfl) (by decide)
  have y1 := fun w => ta_no (t := 36) (xT := 20) (.int .u64 u) w Tryd.underlying21 (by kernel_rfl) (by decide)
  have y2 := fun w => ta_no (t := 36) (xT := 20) (.int .u64 u) w Tryd.underlying121 (by kernel_rfl) (by decide)
  have y3 := fun w => ta_no (t := 36) (xT := 20) (.int .u64 u) w Tryd.underlying76 (by kernel_rfl) (by decide)
  have y4 := fun w => ta_yes (xT := 20) (.int .u64 u) w Tryd.underlying36
  go_enter Tryd.func43, Tryd.ntmps43
  go_wp2_with (first
    | (at_make; go_must (refine wpList_make_gr Go.Proofs.YtgkccbfepjgjoaaDoor.u8 rfl _ _ rfl (Gr.refl w) .u8 .u8 2 2 2 rfl rfl rfl rfl (by omega) _ rfl ?_); intro w2 ho2 hg2 _ _)
    | (go_at_call 80; go_must (refine (HP w2 _ _ ho2 rfl).out.mono ?_); rintro e w3 ⟨rfl, ho3, hg3⟩; have hg3 := hg3 w hg2 (Nat.le_refl _))
    | (go_at_call 74; go_must (refine (HW w3 _ ho3 hg3 rfl).out.mono ?_); rintro e w4 ⟨rfl, h4, h5⟩))
  go_end0
  exact ⟨rfl, h4, ((Wx.refl s w).gr hg3 hsl).trans h5⟩

theorem putLE4 (w : World) (g : Nat) (xs : List Int) (v : Nat) (hv : v < 4294967296) (h : OwnAt w g 4 xs) (hx : xs.length = 4) :
    Calls Tryd.prog 81 #[.agg #[], .slice (some ⟨g, 0, none⟩) 4 4, .int .u32 v] w fun e w' => e = .returned (.tuple #[]) ∧ OwnAt w' g 4 (numB false 4 v) ∧ ∀ w0, Gr w0 w → w0.heap.size ≤ g → Gr w0 w' := by
  refine (Tryd.binary_LE_PutUint32 g 0 4 4 v hv _ _ _ _ w (Nat.le_refl _) (h.cell 0 (by omega)) (h.cell 1 (by omega)) (h.cell 2 (by omega)) (h.cell 3 (by omega)) (h.free 0) (h.free 1) (h.free 2) (h.free 3)).mono fun e w' => ?_
  rintro ⟨rfl, rfl⟩
  have := put_row h hx (bs := Lib.leBytes 4 v) (by simp [Lib.leBytes_length]) 129 (numB_byt false 4 v)
  exact ⟨rfl, this.1, this.2⟩

set_option maxRecDepth 100000 in
theorem putUint_LE4 (s : Nat) (big : Bool) (ch : Int) (xs : List Int) (u : Nat) (w : World) (hS : Sw w s big ch xs) (hu : u < 4294967296) (hlim : xs.length ≤ 10000000000) :
    Calls Tryd.prog 43 #[.pointer (some ⟨s, 0, none⟩), .iface 36 (.int .u64 u), .int .u8 4, .bool false, .bool false] w (RetP w s big ch (xs ++ numB false 4 u)) := by
  have hsl := hS.lt
  have hrl := hS.row_lt
  have HW := fun w3 v (h : OwnAt w3 w.heap.size 4 (numB false 4 u)) (hg : Gr w w3) (hv : v = .slice (some ⟨w.heap.size, 0, none⟩) 4 4) => Lib.hid (write_sw s big ch xs (numB false 4 u) v w3 (hS.gr hg) (by subst hv; have := h.rd; rwa [numB_length] at this) (by
    subst hv
    have := (h.own (B := w.heap.size) (Nat.le_refl _)).aside (s := s) hsl (fun k hk => by rw [rowOf_heap (hg.block hsl)] at hk; exact hrl k hk)
    rwa [numB_length] at this) (by rw [numB_length]; omega))
  have HP := fun w2 g l h hx => Lib.hid (putLE4 w2 g l u hu h hx)
  have iw : IntKind.u32.wrap (u : Int) = u := by rw [IntKind.wrap_u32]; omega
  clear hS hrl
  have y0 := fun w => ta_no (t := 36) (xT := 20) (.int .u64 u) w Tryd.underlying2 (by kernel_rfl) (by decide)
  have y1 := fun w => ta_no (t := 36) (xT := 20) (.int .u64 u) w Tryd.underlying21 (by kernel_rfl) (by decide)
  have y2 := fun w => ta_no (t := 36) (xT := 20) (.int .u64 u) w Tryd.underlying121 (by kernel_rfl) (by decide)
  have y3 := fun w => ta_no (t := 36) (xT := 20) (.int .u64 u) w Tryd.underlying76 (by kernel_rfl) (by decide)
  have y4 := fun w => ta_yes (xT := 20) (.int .u64 u) w Tryd.underlying36
  go_enter Tryd.func43, Tryd.ntmps43
  go_wp2_with (first
    | (at_make; go_must (refine wpList_make_gr Go.Proofs.YtgkccbfepjgjoaaDoor.u8 rfl _ _ rfl (Gr.refl w) .u8 .u8 4 4 4 rfl rfl rfl rfl (by omega) _ rfl ?_); intro w2 ho2 hg2 _ _)
    | (go_at_call 81; go_must (refine (HP w2 _ _ ho2 rfl).out.mono ?_); rintro e w3 ⟨rfl, ho3, hg3⟩; have hg3 := hg3 w hg2 (Nat.le_refl _))
    | (go_at_call 74; go_must (refine (HW w3 _ ho3 hg3 rfl).out.mono ?_); rintro e w4 ⟨rfl, h4, h5⟩))
  go_end0
  exact ⟨rfl, h4, ((Wx.refl s w).gr hg3 hsl).trans h5⟩

theorem putLE8 (w : World) (g : Nat) (xs : List Int) (v : Nat) (hv : v < 18446744073709551616) (h : OwnAt w g 8 xs) (hx : xs.length = 8) :
    Calls Tryd.prog 82 #[.agg #[], .slice (some ⟨g, 0, none⟩) 8 8, .int .u64 v] w fun e w' => e = .returned (.tuple #[]) ∧ OwnAt w' g 8 (numB false 8 v) ∧ ∀ w0, Gr w0 w → w0.heap.size ≤ g → Gr w0 w' := by
  refine (Tryd.binary_LE_PutUint64 g 0 8 8 v hv _ _ _ _ _ _ _ _ w (Nat.le_refl _) (h.cell 0 (by omega)) (h.cell 1 (by omega)) (h.cell 2 (by omega)) (h.cell 3 (by omega)) (h.cell 4 (by omega)) (h.cell 5 (by omega)) (h.cell 6 (by omega)) (h.cell 7 (by omega)) (h.free 0) (h.free 1) (h.free 2) (h.free 3) (h.free 4) (h.free 5) (h.free 6) (h.free 7)).mono fun e w' => ?_
  rintro ⟨rfl, rfl⟩
  have := put_row h hx (bs := Lib.leBytes 8 v) (by simp [Lib.leBytes_length]) 129 (numB_byt false 8 v)
  exact ⟨rfl, this.1, this.2⟩

set_option maxRecDepth 100000 in
theorem putUint_LE8 (s : Nat) (big : Bool) (ch : Int) (xs : List Int) (u : Nat) (w : World) (hS : Sw w s big ch xs) (hu : u < 18446744073709551616) (hlim : xs.length ≤ 10000000000) :
    Calls Tryd.prog 43 #[.pointer (some ⟨s, 0, none⟩), .iface 36 (.int .u64 u), .int .u8 8, .bool false, .bool false] w (RetP w s big ch (xs ++ numB false 8 u)) := by
  have hsl := hS.lt
  have hrl := hS.row_lt
  have HW := fun w3 v (h : OwnAt w3 w.heap.size 8 (numB false 8 u)) (hg : Gr w w3) (hv : v = .slice (some ⟨w.heap.size, 0, none⟩) 8 8) => Lib.hid (write_sw s big ch xs (numB false 8 u) v w3 (hS.gr hg) (by subst hv; have := h.rd; rwa [numB_length] at this) (by
    subst hv
    have := (h.own (B := w.heap.size) (Nat.le_refl _)).aside (s := s) hsl (fun k hk => by rw [rowOf_heap (hg.block hsl)] at hk; exact hrl k hk)
    rwa [numB_length] at this) (by rw [numB_length]; omega))
  have HP := fun w2 g l h hx => Lib.hid (putLE8 w2 g l u hu h hx)
  have iw : IntKind.u64.wrap (u : Int) = u := by rw [IntKind.wrap_u64]; omega
  clear hS hrl
  have y0 := fun w => ta_no (t := 36) (xT := 20) (.int .u64 u) w Tryd.underlying2 (by kernel_rfl) (by decide)
  have y1 := fun w => ta_no (t := 36) (xT := 20) (.int .u64 u) w Tryd.underlying21 (by kernel_rfl) (by decide)
  have y2 := fun w => ta_no (t := 36) (xT := 20) (.int .u64 u) w Tryd.underlying121 (by kernel_rfl) (by decide)
  have y3 := fun w => ta_no (t := 36) (xT := 20) (.int .u64 u) w Tryd.underlying76 (by kernel_rfl) (by decide)
  have y4 := fun w => ta_yes (xT := 20) (.int .u64 u) w Tryd.underlying36
  go_enter Tryd.func43, Tryd.ntmps43
  go_wp2_with (first
    | (at_make; go_must (refine wpList_make_gr Go.Proofs.YtgkccbfepjgjoaaDoor.u8 rfl _ _ rfl (Gr.refl w) .u8 .u8 8 8 8 rfl rfl rfl rfl (by omega) _ rfl ?_); intro w2 ho2 hg2 _ _)
    | (go_at_call 82; go_must (refine (HP w2 _ _ ho2 rfl).out.mono ?_); rintro e w3 ⟨rfl, ho3, hg3⟩; have hg3 := hg3 w hg2 (Nat.le_refl _))
    | (go_at_call 74; go_must (refine (HW w3 _ ho3 hg3 rfl).out.mono ?_); rintro e w4 ⟨rfl, h4, h5⟩))
  go_end0
  exact ⟨rfl, h4, ((Wx.refl s w).gr hg3 hsl).trans h5⟩

set_option maxRecDepth 100000 in
theorem putUint_1 (s : Nat) (big : Bool) (ch : Int) (xs : List Int) (u : Nat) (be co : Bool) (w : World) (hS : Sw w s big ch xs) (hu : u < 256) (hlim : xs.length ≤ 10000000000) :
    Calls Tryd.prog 43 #[.pointer (some ⟨s, 0, none⟩), .iface 36 (.int .u64 u), .int .u8 1, .bool be, .bool co] w (RetP w s big ch (xs ++ [(u : Int)])) := by
  have HB := Lib.hid (writeByte_sw s big ch xs u w hS (by omega) (by omega))
  have iw : IntKind.u8.wrap (u : Int) = u := by rw [IntKind.wrap_u8]; omega
  clear hS
  have y0 := fun w => ta_no (t := 36) (xT := 20) (.int .u64 u) w Tryd.underlying2 (by kernel_rfl) (by decide)
  have y1 := fun w => ta_no (t := 36) (xT := 20) (.int .u64 u) w Tryd.underlying21 (by kernel_rfl) (by decide)
  have y2 := fun w => ta_no (t := 36) (xT := 20) (.int .u64 u) w Tryd.underlying121 (by kernel_rfl) (by decide)
  have y3 := fun w => ta_no (t := 36) (xT := 20) (.int .u64 u) w Tryd.underlying76 (by kernel_rfl) (by decide)
  have y4 := fun w => ta_yes (xT := 20) (.int .u64 u) w Tryd.underlying36
  go_enter Tryd.func43, Tryd.ntmps43
  go_wp2_with (first | (go_at_call 75; go_must (refine HB.out.mono ?_); rintro e w1 ⟨rfl, h1, h2⟩))
  go_end0
  exact ⟨rfl, h1, h2⟩
end Go.Proofs.YtgkccbfepjgjoaaDoor

/- A session's zzTrimZeros, at eight bytes of which the first ones are 0. -/
namespace Go.Proofs.YtgkccbfepjgjoaaDoor
open Go Go.RowKit

/-- Zeros ahead, then other bytes: in a row of eight. -/
def row8 (k : Nat) (l : List Int) : List Int := List.replicate k 0 ++ l
set_option maxRecDepth 100000 in
set_option maxHeartbeats 4000000 in
theorem trim8 (g k : Nat) (x : Int) (t : List Int) (w : World) (h : OwnAt w g 8 (row8 k (x :: t))) (hx : x ≠ 0) (hk : k + t.length = 7) :
    Calls Tryd.prog 77 #[.slice (some ⟨g, 0, none⟩) 8 8] w fun e w' => e = .returned (.slice (some ⟨g, k, none⟩) (8 - k) (8 - k)) ∧ w = w' := by
  have hlen : (row8 k (x :: t)).length = 8 := by simp [row8]; omega
  have hz : ∀ j, j < k → w.cell? ⟨g, j, none⟩ = some (.int .u8 0) := fun j hj => by
    rw [h.cell j (by omega)]
    simp [row8, List.getD_eq_getElem?_getD, List.getElem?_append_left, hj]
  have hxc : w.cell? ⟨g, k, none⟩ = some (.int .u8 x) := by
    rw [h.cell k (by omega)]
    simp [row8, List.getD_eq_getElem?_getD]
  have hx2 : (x == 0) = false := beq_eq_false_iff_ne.2 hx
  have HZ := Lib.hid hz
  have HX := Lib.hid hxc
  clear h hz hxc hx hlen
  go_enter Tryd.func77, Tryd.ntmps77
  go_wp2
  go_loopw [0] (fun v wr => ∃ j : Nat, j ≤ k ∧ v = .slice (some ⟨g, j, none⟩) (8 - j) (8 - j) ∧ w = wr) (fun v _ => match v with | .slice _ n _ => n | _ => 0)
  case atStart => exact ⟨0, Nat.zero_le _, rfl, rfl⟩
  case round =>
    obtain ⟨j, hj, rfl, rfl⟩ := hrel
    by_cases e : j < k
    · have hc := HZ.out j e
      have hsl := fun W => run_cut1 (P := Tryd.prog) Go.Proofs.YtgkccbfepjgjoaaDoor.u8 g j (8 - j) (8 - j) 1 1 rfl (by omega) W
      have hco : cutOff j (8 - j) 1 = j + 1 := by unfold cutOff; rw [if_neg (by omega)]
      rw [hco, show 8 - j - 1 = 8 - (j + 1) by omega] at hsl
      have i1 : (0 : Int) < ((8 - j : Nat) : Int) := by omega
      have i2 : 0 < 8 - j := by omega
      have i3 : 1 ≤ 8 - j := by omega
      obtain ⟨N, hN⟩ : ∃ N, 8 - j = N := ⟨_, rfl⟩
      rw [hN] at hsl i1 i2 i3 ⊢
      have HNN := Lib.hid hN
      clear hN hco
      go_wp2
      go_roundw
      case rel => exact ⟨j + 1, by omega, by rw [show 8 - (j + 1) = 7 - j by omega]; exact ⟨rfl, trivial⟩⟩
      case measure => have := HNN.out; simp; omega
    · obtain rfl : j = k := by omega
      have hc := HX.out
      have i1 : (0 : Int) < ((8 - j : Nat) : Int) := by omega
      have i2 : 0 < 8 - j := by omega
      obtain ⟨N, hN⟩ : ∃ N, 8 - j = N := ⟨_, rfl⟩
      rw [hN] at i1 i2 ⊢
      have HNN := Lib.hid hN
      clear hN
      go_wp2
      go_ret
      rw [HNN.out]
      exact ⟨rfl, rfl⟩
end Go.Proofs.YtgkccbfepjgjoaaDoor

/- A session writes compressed numbers. Printed by gen_zb.py. -/
namespace Go.Proofs.YtgkccbfepjgjoaaDoor
open Go Go.RowKit

set_option maxRecDepth 100000 in
set_option maxHeartbeats 4000000 in
theorem putUint_pk_int (s : Nat) (big : Bool) (ch : Int) (xs : List Int) (u k : Nat) (x : Int) (t : List Int) (w : World) (hS : Sw w s big ch xs) (hu : u < 4294967296) (hrow : numB true 8 u = row8 k (x :: t)) (hx : x ≠ 0) (hk : k + t.length = 7) (h4 : 5 ≤ k) (hlim : xs.length ≤ 10000000000) :
    Calls Tryd.prog 43 #[.pointer (some ⟨s, 0, none⟩), .iface 3 (.int .i64 u), .int .u8 4, .bool true, .bool true] w (RetP w s big ch (xs ++ (((8 - k : Nat) : Int) :: x :: t))) := by
  have hsl := hS.lt
  have hrl := hS.row_lt
  have hb1 : (8 - k : Nat) = t.length + 1 := by omega
  have HB := fun w3 (hg : Gr w w3) => Lib.hid (writeByte_sw s big ch xs ((8 - k : Nat) : Int) w3 (hS.gr hg) (by omega) (by omega))
  have HW := fun w3 w4 (h : OwnAt w3 w.heap.size 8 (row8 k (x :: t))) (hg : Gr w w3) (hx4 : Wx s w3 w4) (hs4 : Sw w4 s big ch (xs ++ [((8 - k : Nat) : Int)])) => Lib.hid (write_sw s big ch (xs ++ [((8 - k : Nat) : Int)]) (x :: t) (.slice (some ⟨w.heap.size, k, none⟩) (8 - k) (8 - k)) w4 hs4
    (Rd.wx (by
      have hat : RdAt w3 w.heap.size 0 (row8 k (x :: t)) := ⟨fun i hi => by rw [Nat.zero_add]; exact h.cell i hi, h.byt⟩
      have hd := hat.drop k
      have hdr : (row8 k (x :: t)).drop k = x :: t := by simp [row8]
      rw [hdr, Nat.zero_add] at hd
      exact hd.rd (by simp; omega) (by omega) (by simp only [maxLen]; omega)) hx4 (fun a n c e => by
      injection e with e
      injection e with e
      subst e
      exact ⟨by show w.heap.size ≠ s; omega, fun e => by rw [rowOf_heap (hg.block hsl)] at e; have := hrl _ e.symm; simp at this, (show w.heap.size < w3.heap.size from h.lt)⟩))
    (Aside.wx (fun a n c e => by
      injection e with e
      injection e with e
      subst e
      exact ⟨by show w.heap.size ≠ s; omega, fun e => by rw [rowOf_heap (hg.block hsl)] at e; have := hrl _ e.symm; simp at this, (show w.heap.size < w3.heap.size from h.lt)⟩) hx4) (by simp; omega))
  have HP := fun w2 g l h hx => Lib.hid (putBE8 w2 g l u (by omega) h hx)
  have HT := fun w3 g h => Lib.hid (trim8 g k x t w3 h hx hk)
  have iu : IntKind.u64.wrap (u : Int) = u := by rw [IntKind.wrap_u64]; omega
  have ii : IntKind.i64.wrap (u : Int) = u := by rw [IntKind.wrap_i64]; omega
  have iu0 : (0 : Int) ≤ u := by omega
  obtain ⟨N, hN⟩ : ∃ N, 8 - k = N := ⟨_, rfl⟩
  rw [hN] at HB HW HT ⊢
  have hN1 : (1 : Int) ≤ N := by omega
  have hN4 : (N : Int) ≤ 3 := by omega
  have iw : IntKind.u8.wrap (N : Int) = N := by rw [IntKind.wrap_u8]; omega
  have n0 : ((N : Int) == 0) = false := beq_eq_false_iff_ne.2 (by omega)
  have HRW := Lib.hid hrow
  rw [show xs ++ (N : Int) :: x :: t = xs ++ [(N : Int)] ++ (x :: t) by simp]
  have y0 := fun w => ta_no (t := 3) (xT := 20) (.int .i64 u) w Tryd.underlying2 (by kernel_rfl) (by decide)
  have y1 := fun w => ta_no (t := 3) (xT := 20) (.int .i64 u) w Tryd.underlying21 (by kernel_rfl) (by decide)
  have y2 := fun w => ta_no (t := 3) (xT := 20) (.int .i64 u) w Tryd.underlying121 (by kernel_rfl) (by decide)
  have y3 := fun w => ta_no (t := 3) (xT := 20) (.int .i64 u) w Tryd.underlying76 (by kernel_rfl) (by decide)
  have y4 := fun w => ta_no (t := 3) (xT := 20) (.int .i64 u) w Tryd.underlying36 (by kernel_rfl) (by decide)
  have y5 := fun w => ta_no (t := 3) (xT := 20) (.int .i64 u) w Tryd.underlying122 (by kernel_rfl) (by decide)
  have y6 := fun w => ta_no (t := 3) (xT := 20) (.int .i64 u) w Tryd.underlying123 (by kernel_rfl) (by decide)
  have y7 := fun w => ta_no (t := 3) (xT := 20) (.int .i64 u) w Tryd.underlying5 (by kernel_rfl) (by decide)
  have y8 := fun w => ta_no (t := 3) (xT := 20) (.int .i64 u) w Tryd.underlying95 (by kernel_rfl) (by decide)
  have y9 := fun w => ta_yes (xT := 20) (.int .i64 u) w Tryd.underlying3
  clear hS hrl hrow hN hb1
  go_enter Tryd.func43, Tryd.ntmps43
  go_wp2_with (first
    | (at_make; go_must (refine wpList_make_gr Go.Proofs.YtgkccbfepjgjoaaDoor.u8 rfl _ _ rfl (Gr.refl w) .i64 .i64 8 8 8 rfl rfl rfl rfl (by omega) _ rfl ?_); intro w2 ho2 hg2 _ _)
    | (go_at_call 76; go_must (refine (HP w2 _ _ ho2 rfl).out.mono ?_); rintro e w3 ⟨rfl, ho3, hg3⟩; rw [HRW.out] at ho3; have hg3 := hg3 w hg2 (Nat.le_refl _))
    | (go_at_call 77; go_must (refine (HT w3 _ ho3).out.mono ?_); rintro e w4 ⟨rfl, h34⟩; cases h34)
    | (go_at_call 75; go_must (refine (HB w3 hg3).out.mono ?_); rintro e w5 ⟨rfl, h5, hx5⟩)
    | (go_at_call 74; go_must (refine (HW w3 w5 ho3 hg3 hx5 h5).out.mono ?_); rintro e w6 ⟨rfl, h6, hx6⟩))
  go_end0
  exact ⟨rfl, h6, (((Wx.refl s w).gr hg3 hsl).trans hx5).trans hx6⟩

set_option maxRecDepth 100000 in
set_option maxHeartbeats 4000000 in
theorem putInt_pk_int (s : Nat) (big : Bool) (ch : Int) (xs : List Int) (u k : Nat) (x : Int) (t : List Int) (w : World) (hS : Sw w s big ch xs) (hu : u < 4294967296) (hrow : numB true 8 u = row8 k (x :: t)) (hx : x ≠ 0) (hk : k + t.length = 7) (h4 : 5 ≤ k) (hlim : xs.length ≤ 10000000000) :
    Calls Tryd.prog 42 #[.pointer (some ⟨s, 0, none⟩), .iface 3 (.int .i64 u), .int .u8 4, .bool true, .bool true] w (RetP w s big ch (xs ++ (((8 - k : Nat) : Int) :: x :: t))) := by
  have hsl := hS.lt
  have hrl := hS.row_lt
  have hb1 : (8 - k : Nat) = t.length + 1 := by omega
  have HB := fun w3 (hg : Gr w w3) => Lib.hid (writeByte_sw s big ch xs ((8 - k : Nat) : Int) w3 (hS.gr hg) (by omega) (by omega))
  have HW := fun w3 w4 (h : OwnAt w3 w.heap.size 8 (row8 k (x :: t))) (hg : Gr w w3) (hx4 : Wx s w3 w4) (hs4 : Sw w4 s big ch (xs ++ [((8 - k : Nat) : Int)])) => Lib.hid (write_sw s big ch (xs ++ [((8 - k : Nat) : Int)]) (x :: t) (.slice (some ⟨w.heap.size, k, none⟩) (8 - k) (8 - k)) w4 hs4
    (Rd.wx (by
      have hat : RdAt w3 w.heap.size 0 (row8 k (x :: t)) := ⟨fun i hi => by rw [Nat.zero_add]; exact h.cell i hi, h.byt⟩
      have hd := hat.drop k
      have hdr : (row8 k (x :: t)).drop k = x :: t := by simp [row8]
      rw [hdr, Nat.zero_add] at hd
      exact hd.rd (by simp; omega) (by omega) (by simp only [maxLen]; omega)) hx4 (fun a n c e => by
      injection e with e
      injection e with e
      subst e
      exact ⟨by show w.heap.size ≠ s; omega, fun e => by rw [rowOf_heap (hg.block hsl)] at e; have := hrl _ e.symm; simp at this, (show w.heap.size < w3.heap.size from h.lt)⟩))
    (Aside.wx (fun a n c e => by
      injection e with e
      injection e with e
      subst e
      exact ⟨by show w.heap.size ≠ s; omega, fun e => by rw [rowOf_heap (hg.block hsl)] at e; have := hrl _ e.symm; simp at this, (show w.heap.size < w3.heap.size from h.lt)⟩) hx4) (by simp; omega))
  have HP := fun w2 g l h hx => Lib.hid (putBE8 w2 g l u (by omega) h hx)
  have HT := fun w3 g h => Lib.hid (trim8 g k x t w3 h hx hk)
  have iu : IntKind.u64.wrap (u : Int) = u := by rw [IntKind.wrap_u64]; omega
  have ii : IntKind.i64.wrap (u : Int) = u := by rw [IntKind.wrap_i64]; omega
  have iu0 : (0 : Int) ≤ u := by omega
  obtain ⟨N, hN⟩ : ∃ N, 8 - k = N := ⟨_, rfl⟩
  rw [hN] at HB HW HT ⊢
  have hN1 : (1 : Int) ≤ N := by omega
  have hN4 : (N : Int) ≤ 3 := by omega
  have iw : IntKind.u8.wrap (N : Int) = N := by rw [IntKind.wrap_u8]; omega
  have n0 : ((N : Int) == 0) = false := beq_eq_false_iff_ne.2 (by omega)
  have HRW := Lib.hid hrow
  rw [show xs ++ (N : Int) :: x :: t = xs ++ [(N : Int)] ++ (x :: t) by simp]
  have y0 := fun w => ta_no (t := 3) (xT := 20) (.int .i64 u) w Tryd.underlying2 (by kernel_rfl) (by decide)
  have y1 := fun w => ta_no (t := 3) (xT := 20) (.int .i64 u) w Tryd.underlying21 (by kernel_rfl) (by decide)
  have y2 := fun w => ta_no (t := 3) (xT := 20) (.int .i64 u) w Tryd.underlying121 (by kernel_rfl) (by decide)
  have y3 := fun w => ta_no (t := 3) (xT := 20) (.int .i64 u) w Tryd.underlying76 (by kernel_rfl) (by decide)
  have y4 := fun w => ta_no (t := 3) (xT := 20) (.int .i64 u) w Tryd.underlying36 (by kernel_rfl) (by decide)
  have y5 := fun w => ta_no (t := 3) (xT := 20) (.int .i64 u) w Tryd.underlying122 (by kernel_rfl) (by decide)
  have y6 := fun w => ta_no (t := 3) (xT := 20) (.int .i64 u) w Tryd.underlying123 (by kernel_rfl) (by decide)
  have y7 := fun w => ta_no (t := 3) (xT := 20) (.int .i64 u) w Tryd.underlying5 (by kernel_rfl) (by decide)
  have y8 := fun w => ta_no (t := 3) (xT := 20) (.int .i64 u) w Tryd.underlying95 (by kernel_rfl) (by decide)
  have y9 := fun w => ta_yes (xT := 20) (.int .i64 u) w Tryd.underlying3
  clear hS hrl hrow hN hb1
  go_enter Tryd.func42, Tryd.ntmps42
  go_wp2_with (first
    | (at_make; go_must (refine wpList_make_gr Go.Proofs.YtgkccbfepjgjoaaDoor.u8 rfl _ _ rfl (Gr.refl w) .i64 .i64 8 8 8 rfl rfl rfl rfl (by omega) _ rfl ?_); intro w2 ho2 hg2 _ _)
    | (go_at_call 76; go_must (refine (HP w2 _ _ ho2 rfl).out.mono ?_); rintro e w3 ⟨rfl, ho3, hg3⟩; rw [HRW.out] at ho3; have hg3 := hg3 w hg2 (Nat.le_refl _))
    | (go_at_call 77; go_must (refine (HT w3 _ ho3).out.mono ?_); rintro e w4 ⟨rfl, h34⟩; cases h34)
    | (go_at_call 75; go_must (refine (HB w3 hg3).out.mono ?_); rintro e w5 ⟨rfl, h5, hx5⟩)
    | (go_at_call 74; go_must (refine (HW w3 w5 ho3 hg3 hx5 h5).out.mono ?_); rintro e w6 ⟨rfl, h6, hx6⟩))
  go_end0
  exact ⟨rfl, h6, (((Wx.refl s w).gr hg3 hsl).trans hx5).trans hx6⟩

set_option maxRecDepth 100000 in
set_option maxHeartbeats 4000000 in
theorem putInt_pk_u8 (s : Nat) (big : Bool) (ch : Int) (xs : List Int) (u k : Nat) (x : Int) (t : List Int) (w : World) (hS : Sw w s big ch xs) (hu : u < 256) (hrow : numB true 8 u = row8 k (x :: t)) (hx : x ≠ 0) (hk : k + t.length = 7) (h4 : 5 ≤ k) (hlim : xs.length ≤ 10000000000) :
    Calls Tryd.prog 42 #[.pointer (some ⟨s, 0, none⟩), .iface 5 (.int .u8 u), .int .u8 4, .bool true, .bool true] w (RetP w s big ch (xs ++ (((8 - k : Nat) : Int) :: x :: t))) := by
  have hsl := hS.lt
  have hrl := hS.row_lt
  have hb1 : (8 - k : Nat) = t.length + 1 := by omega
  have HB := fun w3 (hg : Gr w w3) => Lib.hid (writeByte_sw s big ch xs ((8 - k : Nat) : Int) w3 (hS.gr hg) (by omega) (by omega))
  have HW := fun w3 w4 (h : OwnAt w3 w.heap.size 8 (row8 k (x :: t))) (hg : Gr w w3) (hx4 : Wx s w3 w4) (hs4 : Sw w4 s big ch (xs ++ [((8 - k : Nat) : Int)])) => Lib.hid (write_sw s big ch (xs ++ [((8 - k : Nat) : Int)]) (x :: t) (.slice (some ⟨w.heap.size, k, none⟩) (8 - k) (8 - k)) w4 hs4
    (Rd.wx (by
      have hat : RdAt w3 w.heap.size 0 (row8 k (x :: t)) := ⟨fun i hi => by rw [Nat.zero_add]; exact h.cell i hi, h.byt⟩
      have hd := hat.drop k
      have hdr : (row8 k (x :: t)).drop k = x :: t := by simp [row8]
      rw [hdr, Nat.zero_add] at hd
      exact hd.rd (by simp; omega) (by omega) (by simp only [maxLen]; omega)) hx4 (fun a n c e => by
      injection e with e
      injection e with e
      subst e
      exact ⟨by show w.heap.size ≠ s; omega, fun e => by rw [rowOf_heap (hg.block hsl)] at e; have := hrl _ e.symm; simp at this, (show w.heap.size < w3.heap.size from h.lt)⟩))
    (Aside.wx (fun a n c e => by
      injection e with e
      injection e with e
      subst e
      exact ⟨by show w.heap.size ≠ s; omega, fun e => by rw [rowOf_heap (hg.block hsl)] at e; have := hrl _ e.symm; simp at this, (show w.heap.size < w3.heap.size from h.lt)⟩) hx4) (by simp; omega))
  have HP := fun w2 g l h hx => Lib.hid (putBE8 w2 g l u (by omega) h hx)
  have HT := fun w3 g h => Lib.hid (trim8 g k x t w3 h hx hk)
  have iu : IntKind.u64.wrap (u : Int) = u := by rw [IntKind.wrap_u64]; omega
  have ii : IntKind.i64.wrap (u : Int) = u := by rw [IntKind.wrap_i64]; omega
  have iu0 : (0 : Int) ≤ u := by omega
  obtain ⟨N, hN⟩ : ∃ N, 8 - k = N := ⟨_, rfl⟩
  rw [hN] at HB HW HT ⊢
  have hN1 : (1 : Int) ≤ N := by omega
  have hN4 : (N : Int) ≤ 3 := by omega
  have iw : IntKind.u8.wrap (N : Int) = N := by rw [IntKind.wrap_u8]; omega
  have n0 : ((N : Int) == 0) = false := beq_eq_false_iff_ne.2 (by omega)
  have HRW := Lib.hid hrow
  rw [show xs ++ (N : Int) :: x :: t = xs ++ [(N : Int)] ++ (x :: t) by simp]
  have y0 := fun w => ta_no (t := 5) (xT := 20) (.int .u8 u) w Tryd.underlying2 (by kernel_rfl) (by decide)
  have y1 := fun w => ta_no (t := 5) (xT := 20) (.int .u8 u) w Tryd.underlying21 (by kernel_rfl) (by decide)
  have y2 := fun w => ta_no (t := 5) (xT := 20) (.int .u8 u) w Tryd.underlying121 (by kernel_rfl) (by decide)
  have y3 := fun w => ta_no (t := 5) (xT := 20) (.int .u8 u) w Tryd.underlying76 (by kernel_rfl) (by decide)
  have y4 := fun w => ta_no (t := 5) (xT := 20) (.int .u8 u) w Tryd.underlying36 (by kernel_rfl) (by decide)
  have y5 := fun w => ta_no (t := 5) (xT := 20) (.int .u8 u) w Tryd.underlying122 (by kernel_rfl) (by decide)
  have y6 := fun w => ta_no (t := 5) (xT := 20) (.int .u8 u) w Tryd.underlying123 (by kernel_rfl) (by decide)
  have y7 := fun w => ta_yes (xT := 20) (.int .u8 u) w Tryd.underlying5
  clear hS hrl hrow hN hb1
  go_enter Tryd.func42, Tryd.ntmps42
  go_wp2_with (first
    | (at_make; go_must (refine wpList_make_gr Go.Proofs.YtgkccbfepjgjoaaDoor.u8 rfl _ _ rfl (Gr.refl w) .i64 .i64 8 8 8 rfl rfl rfl rfl (by omega) _ rfl ?_); intro w2 ho2 hg2 _ _)
    | (go_at_call 76; go_must (refine (HP w2 _ _ ho2 rfl).out.mono ?_); rintro e w3 ⟨rfl, ho3, hg3⟩; rw [HRW.out] at ho3; have hg3 := hg3 w hg2 (Nat.le_refl _))
    | (go_at_call 77; go_must (refine (HT w3 _ ho3).out.mono ?_); rintro e w4 ⟨rfl, h34⟩; cases h34)
    | (go_at_call 75; go_must (refine (HB w3 hg3).out.mono ?_); rintro e w5 ⟨rfl, h5, hx5⟩)
    | (go_at_call 74; go_must (refine (HW w3 w5 ho3 hg3 hx5 h5).out.mono ?_); rintro e w6 ⟨rfl, h6, hx6⟩))
  go_end0
  exact ⟨rfl, h6, (((Wx.refl s w).gr hg3 hsl).trans hx5).trans hx6⟩
end Go.Proofs.YtgkccbfepjgjoaaDoor

/- A session writes the compressed number 0. -/
namespace Go.Proofs.YtgkccbfepjgjoaaDoor
open Go Go.RowKit

set_option maxRecDepth 100000 in
set_option maxHeartbeats 4000000 in
theorem trim0 (g : Nat) (w : World) (h : OwnAt w g 8 (List.replicate 8 0)) :
    Calls Tryd.prog 77 #[.slice (some ⟨g, 0, none⟩) 8 8] w fun e w' => e = .returned (.slice (some ⟨g, 7, none⟩) 0 0) ∧ w = w' := by
  have hz : ∀ j, j < 8 → w.cell? ⟨g, j, none⟩ = some (.int .u8 0) := fun j hj => by
    rw [h.cell j (by simpa using hj), List.getD_eq_getElem?_getD, List.getElem?_replicate, if_pos hj]
    rfl
  have HZ := Lib.hid hz
  clear h hz
  go_enter Tryd.func77, Tryd.ntmps77
  go_wp2
  go_loopw [0] (fun v wr => ∃ j : Nat, j ≤ 8 ∧ v = .slice (some ⟨g, min j 7, none⟩) (8 - j) (8 - j) ∧ w = wr) (fun v _ => match v with | .slice _ n _ => n | _ => 0)
  case atStart => exact ⟨0, Nat.zero_le _, rfl, rfl⟩
  case round =>
    obtain ⟨j, hj, rfl, rfl⟩ := hrel
    by_cases e : j < 8
    · have hmin : min j 7 = j := by omega
      rw [hmin]
      have hc := HZ.out j e
      have hsl := fun W => run_cut1 (P := Tryd.prog) Go.Proofs.YtgkccbfepjgjoaaDoor.u8 g j (8 - j) (8 - j) 1 1 rfl (by omega) W
      have hco : cutOff j (8 - j) 1 = min (j + 1) 7 := by unfold cutOff; split <;> omega
      rw [hco, show 8 - j - 1 = 8 - (j + 1) by omega] at hsl
      have i1 : (0 : Int) < ((8 - j : Nat) : Int) := by omega
      have i2 : 0 < 8 - j := by omega
      have i3 : 1 ≤ 8 - j := by omega
      obtain ⟨N, hN⟩ : ∃ N, 8 - j = N := ⟨_, rfl⟩
      obtain ⟨q, hq⟩ : ∃ q, min (j + 1) 7 = q := ⟨_, rfl⟩
      obtain ⟨M, hM⟩ : ∃ M, 8 - (j + 1) = M := ⟨_, rfl⟩
      rw [hN, hq, hM] at hsl
      rw [hN] at i1 i2 i3 ⊢
      have HNN := Lib.hid hN
      have HQ := Lib.hid hq
      have HM := Lib.hid hM
      clear hN hq hM hco hmin
      go_wp2
      go_roundw
      case rel => exact ⟨j + 1, by omega, by rw [HQ.out, HM.out]; exact ⟨rfl, trivial⟩⟩
      case measure => have := HNN.out; have := HM.out; simp; omega
    · obtain rfl : j = 8 := by omega
      go_wp2
      go_ret
      exact ⟨rfl, rfl⟩

set_option maxRecDepth 100000 in
set_option maxHeartbeats 4000000 in
theorem putInt_zero_u8 (s : Nat) (big : Bool) (ch : Int) (xs : List Int) (w : World) (hS : Sw w s big ch xs) (hlim : xs.length ≤ 10000000000) :
    Calls Tryd.prog 42 #[.pointer (some ⟨s, 0, none⟩), .iface 5 (.int .u8 0), .int .u8 4, .bool true, .bool true] w (RetP w s big ch (xs ++ [0])) := by
  have hsl := hS.lt
  have HB := fun w3 (hg : Gr w w3) => Lib.hid (writeByte_sw s big ch xs 0 w3 (hS.gr hg) (by omega) (by omega))
  have HP := fun w2 g l h hx => Lib.hid (putBE8 w2 g l 0 (by omega) h hx)
  have HT := fun w3 g h => Lib.hid (trim0 g w3 h)
  have hrow : numB true 8 0 = List.replicate 8 0 := by rfl
  have HRW := Lib.hid hrow
  have y0 := fun w => ta_no (t := 5) (xT := 20) (.int .u8 0) w Tryd.underlying2 (by kernel_rfl) (by decide)
  have y1 := fun w => ta_no (t := 5) (xT := 20) (.int .u8 0) w Tryd.underlying21 (by kernel_rfl) (by decide)
  have y2 := fun w => ta_no (t := 5) (xT := 20) (.int .u8 0) w Tryd.underlying121 (by kernel_rfl) (by decide)
  have y3 := fun w => ta_no (t := 5) (xT := 20) (.int .u8 0) w Tryd.underlying76 (by kernel_rfl) (by decide)
  have y4 := fun w => ta_no (t := 5) (xT := 20) (.int .u8 0) w Tryd.underlying36 (by kernel_rfl) (by decide)
  have y5 := fun w => ta_no (t := 5) (xT := 20) (.int .u8 0) w Tryd.underlying122 (by kernel_rfl) (by decide)
  have y6 := fun w => ta_no (t := 5) (xT := 20) (.int .u8 0) w Tryd.underlying123 (by kernel_rfl) (by decide)
  have y7 := fun w => ta_yes (xT := 20) (.int .u8 0) w Tryd.underlying5
  clear hS hrow
  go_enter Tryd.func42, Tryd.ntmps42
  go_wp2_with (first
    | (at_make; go_must (refine wpList_make_gr Go.Proofs.YtgkccbfepjgjoaaDoor.u8 rfl _ _ rfl (Gr.refl w) .i64 .i64 8 8 8 rfl rfl rfl rfl (by omega) _ rfl ?_); intro w2 ho2 hg2 _ _)
    | (go_at_call 76; go_must (refine (HP w2 _ _ ho2 rfl).out.mono ?_); rintro e w3 ⟨rfl, ho3, hg3⟩; rw [HRW.out] at ho3; have hg3 := hg3 w hg2 (Nat.le_refl _))
    | (go_at_call 77; go_must (refine (HT w3 _ ho3).out.mono ?_); rintro e w4 ⟨rfl, h34⟩; cases h34)
    | (go_at_call 75; go_must (refine (HB w3 hg3).out.mono ?_); rintro e w5 ⟨rfl, h5, hx5⟩))
  go_end0
  exact ⟨rfl, h5, ((Wx.refl s w).gr hg3 hsl).trans hx5⟩
end Go.Proofs.YtgkccbfepjgjoaaDoor

/- A session writes compressed numbers of any size. Printed by gen_zh.py. -/
namespace Go.Proofs.YtgkccbfepjgjoaaDoor
open Go Go.RowKit

set_option maxRecDepth 100000 in
set_option maxHeartbeats 4000000 in
theorem putUint_pkG (s : Nat) (big : Bool) (ch : Int) (xs : List Int) (u k : Nat) (be : Bool) (x : Int) (t : List Int) (w : World) (hS : Sw w s big ch xs) (hu : u < 18446744073709551616) (hrow : numB true 8 u = row8 k (x :: t)) (hx : x ≠ 0) (hk : k + t.length = 7) (z : Nat) (hz8 : z ≤ 8) (hz : 8 - k ≤ z) (hz1 : z ≠ 1) (hlim : xs.length ≤ 10000000000) :
    Calls Tryd.prog 43 #[.pointer (some ⟨s, 0, none⟩), .iface 36 (.int .u64 u), .int .u8 (z : Nat), .bool be, .bool true] w (RetP w s big ch (xs ++ (((8 - k : Nat) : Int) :: x :: t))) := by
  have hsl := hS.lt
  have hrl := hS.row_lt
  have hb1 : (8 - k : Nat) = t.length + 1 := by omega
  have HB := fun w3 (hg : Gr w w3) => Lib.hid (writeByte_sw s big ch xs ((8 - k : Nat) : Int) w3 (hS.gr hg) (by omega) (by omega))
  have HW := fun w3 w4 (h : OwnAt w3 w.heap.size 8 (row8 k (x :: t))) (hg : Gr w w3) (hx4 : Wx s w3 w4) (hs4 : Sw w4 s big ch (xs ++ [((8 - k : Nat) : Int)])) => Lib.hid (write_sw s big ch (xs ++ [((8 - k : Nat) : Int)]) (x :: t) (.slice (some ⟨w.heap.size, k, none⟩) (8 - k) (8 - k)) w4 hs4
    (Rd.wx (by
      have hat : RdAt w3 w.heap.size 0 (row8 k (x :: t)) := ⟨fun i hi => by rw [Nat.zero_add]; exact h.cell i hi, h.byt⟩
      have hd := hat.drop k
      have hdr : (row8 k (x :: t)).drop k = x :: t := by simp [row8]
      rw [hdr, Nat.zero_add] at hd
      exact hd.rd (by simp; omega) (by omega) (by simp only [maxLen]; omega)) hx4 (fun a n c e => by
      injection e with e
      injection e with e
      subst e
      exact ⟨by show w.heap.size ≠ s; omega, fun e => by rw [rowOf_heap (hg.block hsl)] at e; have := hrl _ e.symm; simp at this, (show w.heap.size < w3.heap.size from h.lt)⟩))
    (Aside.wx (fun a n c e => by
      injection e with e
      injection e with e
      subst e
      exact ⟨by show w.heap.size ≠ s; omega, fun e => by rw [rowOf_heap (hg.block hsl)] at e; have := hrl _ e.symm; simp at this, (show w.heap.size < w3.heap.size from h.lt)⟩) hx4) (by simp; omega))
  have HP := fun w2 g l h hx => Lib.hid (putBE8 w2 g l u (by omega) h hx)
  have HT := fun w3 g h => Lib.hid (trim8 g k x t w3 h hx hk)
  have iu : IntKind.u64.wrap (u : Int) = u := by rw [IntKind.wrap_u64]; omega
  have iu0 : (0 : Int) ≤ u := by omega
  obtain ⟨N, hN⟩ : ∃ N, 8 - k = N := ⟨_, rfl⟩
  rw [hN] at HB HW HT ⊢
  have hN1 : (1 : Int) ≤ N := by omega
  have hN4 : (N : Int) ≤ 8 := by omega
  have hNz0 : N ≤ z := by omega
  have z10 : ((z : Int) == 1) = false := beq_eq_false_iff_ne.2 (by omega)
  have hz8i : (z : Int) ≤ 8 := by omega
  have iw : IntKind.u8.wrap (N : Int) = N := by rw [IntKind.wrap_u8]; omega
  have n0 : ((N : Int) == 0) = false := beq_eq_false_iff_ne.2 (by omega)
  have HRW := Lib.hid hrow
  rw [show xs ++ (N : Int) :: x :: t = xs ++ [(N : Int)] ++ (x :: t) by simp]
  have y0 := fun w => ta_no (t := 36) (xT := 20) (.int .u64 u) w Tryd.underlying2 (by kernel_rfl) (by decide)
  have y1 := fun w => ta_no (t := 36) (xT := 20) (.int .u64 u) w Tryd.underlying21 (by kernel_rfl) (by decide)
  have y2 := fun w => ta_no (t := 36) (xT := 20) (.int .u64 u) w Tryd.underlying121 (by kernel_rfl) (by decide)
  have y3 := fun w => ta_no (t := 36) (xT := 20) (.int .u64 u) w Tryd.underlying76 (by kernel_rfl) (by decide)
  have y4 := fun w => ta_yes (xT := 20) (.int .u64 u) w Tryd.underlying36
  clear hS hrl hrow hN hb1
  rcases (by omega : N = z ∨ N < z) with hNz | hNz
  all_goals
   first | (have hNz2 : (N : Int) < z := by omega) | subst hNz
   go_enter Tryd.func43, Tryd.ntmps43
   go_wp2_with (first
    | (at_make; go_must (refine wpList_make_gr Go.Proofs.YtgkccbfepjgjoaaDoor.u8 rfl _ _ rfl (Gr.refl w) .i64 .i64 8 8 8 rfl rfl rfl rfl (by omega) _ rfl ?_); intro w2 ho2 hg2 _ _)
    | (go_at_call 76; go_must (refine (HP w2 _ _ ho2 rfl).out.mono ?_); rintro e w3 ⟨rfl, ho3, hg3⟩; rw [HRW.out] at ho3; have hg3 := hg3 w hg2 (Nat.le_refl _))
    | (go_at_call 77; go_must (refine (HT w3 _ ho3).out.mono ?_); rintro e w4 ⟨rfl, h34⟩; cases h34)
    | (go_at_call 75; go_must (refine (HB w3 hg3).out.mono ?_); rintro e w5 ⟨rfl, h5, hx5⟩)
    | (go_at_call 74; go_must (refine (HW w3 w5 ho3 hg3 hx5 h5).out.mono ?_); rintro e w6 ⟨rfl, h6, hx6⟩))
   go_end0
   exact ⟨rfl, h6, (((Wx.refl s w).gr hg3 hsl).trans hx5).trans hx6⟩

set_option maxRecDepth 100000 in
set_option maxHeartbeats 4000000 in
theorem putInt_pkG (s : Nat) (big : Bool) (ch : Int) (xs : List Int) (u k : Nat) (be : Bool) (x : Int) (t : List Int) (w : World) (hS : Sw w s big ch xs) (hu : u < 9223372036854775808) (hrow : numB true 8 u = row8 k (x :: t)) (hx : x ≠ 0) (hk : k + t.length = 7) (z : Nat) (hz8 : z ≤ 8) (hz : 8 - k ≤ z) (hlim : xs.length ≤ 10000000000) :
    Calls Tryd.prog 42 #[.pointer (some ⟨s, 0, none⟩), .iface 2 (.int .i64 u), .int .u8 (z : Nat), .bool be, .bool true] w (RetP w s big ch (xs ++ (((8 - k : Nat) : Int) :: x :: t))) := by
  have hsl := hS.lt
  have hrl := hS.row_lt
  have hb1 : (8 - k : Nat) = t.length + 1 := by omega
  have HB := fun w3 (hg : Gr w w3) => Lib.hid (writeByte_sw s big ch xs ((8 - k : Nat) : Int) w3 (hS.gr hg) (by omega) (by omega))
  have HW := fun w3 w4 (h : OwnAt w3 w.heap.size 8 (row8 k (x :: t))) (hg : Gr w w3) (hx4 : Wx s w3 w4) (hs4 : Sw w4 s big ch (xs ++ [((8 - k : Nat) : Int)])) => Lib.hid (write_sw s big ch (xs ++ [((8 - k : Nat) : Int)]) (x :: t) (.slice (some ⟨w.heap.size, k, none⟩) (8 - k) (8 - k)) w4 hs4
    (Rd.wx (by
      have hat : RdAt w3 w.heap.size 0 (row8 k (x :: t)) := ⟨fun i hi => by rw [Nat.zero_add]; exact h.cell i hi, h.byt⟩
      have hd := hat.drop k
      have hdr : (row8 k (x :: t)).drop k = x :: t := by simp [row8]
      rw [hdr, Nat.zero_add] at hd
      exact hd.rd (by simp; omega) (by omega) (by simp only [maxLen]; omega)) hx4 (fun a n c e => by
      injection e with e
      injection e with e
      subst e
      exact ⟨by show w.heap.size ≠ s; omega, fun e => by rw [rowOf_heap (hg.block hsl)] at e; have := hrl _ e.symm; simp at this, (show w.heap.size < w3.heap.size from h.lt)⟩))
    (Aside.wx (fun a n c e => by
      injection e with e
      injection e with e
      subst e
      exact ⟨by show w.heap.size ≠ s; omega, fun e => by rw [rowOf_heap (hg.block hsl)] at e; have := hrl _ e.symm; simp at this, (show w.heap.size < w3.heap.size from h.lt)⟩) hx4) (by simp; omega))
  have HP := fun w2 g l h hx => Lib.hid (putBE8 w2 g l u (by omega) h hx)
  have HT := fun w3 g h => Lib.hid (trim8 g k x t w3 h hx hk)
  have iu : IntKind.u64.wrap (u : Int) = u := by rw [IntKind.wrap_u64]; omega
  have ii : IntKind.i64.wrap (u : Int) = u := by rw [IntKind.wrap_i64]; omega
  have iu0 : (0 : Int) ≤ u := by omega
  obtain ⟨N, hN⟩ : ∃ N, 8 - k = N := ⟨_, rfl⟩
  rw [hN] at HB HW HT ⊢
  have hN1 : (1 : Int) ≤ N := by omega
  have hN4 : (N : Int) ≤ 8 := by omega
  have hNz0 : N ≤ z := by omega
  have hz8i : (z : Int) ≤ 8 := by omega
  have iw : IntKind.u8.wrap (N : Int) = N := by rw [IntKind.wrap_u8]; omega
  have n0 : ((N : Int) == 0) = false := beq_eq_false_iff_ne.2 (by omega)
  have HRW := Lib.hid hrow
  rw [show xs ++ (N : Int) :: x :: t = xs ++ [(N : Int)] ++ (x :: t) by simp]
  have y0 := fun w => ta_yes (xT := 20) (.int .i64 u) w Tryd.underlying2
  clear hS hrl hrow hN hb1
  rcases (by omega : N = z ∨ N < z) with hNz | hNz
  all_goals
   first | (have hNz2 : (N : Int) < z := by omega) | subst hNz
   go_enter Tryd.func42, Tryd.ntmps42
   go_wp2_with (first
    | (at_make; go_must (refine wpList_make_gr Go.Proofs.YtgkccbfepjgjoaaDoor.u8 rfl _ _ rfl (Gr.refl w) .i64 .i64 8 8 8 rfl rfl rfl rfl (by omega) _ rfl ?_); intro w2 ho2 hg2 _ _)
    | (go_at_call 76; go_must (refine (HP w2 _ _ ho2 rfl).out.mono ?_); rintro e w3 ⟨rfl, ho3, hg3⟩; rw [HRW.out] at ho3; have hg3 := hg3 w hg2 (Nat.le_refl _))
    | (go_at_call 77; go_must (refine (HT w3 _ ho3).out.mono ?_); rintro e w4 ⟨rfl, h34⟩; cases h34)
    | (go_at_call 75; go_must (refine (HB w3 hg3).out.mono ?_); rintro e w5 ⟨rfl, h5, hx5⟩)
    | (go_at_call 74; go_must (refine (HW w3 w5 ho3 hg3 hx5 h5).out.mono ?_); rintro e w6 ⟨rfl, h6, hx6⟩))
   go_end0
   exact ⟨rfl, h6, (((Wx.refl s w).gr hg3 hsl).trans hx5).trans hx6⟩
end Go.Proofs.YtgkccbfepjgjoaaDoor

/- A session writes numbers with a sign that are not compressed, and the compressed 0. Printed by gen_zi.py. -/
namespace Go.Proofs.YtgkccbfepjgjoaaDoor
open Go Go.RowKit

set_option maxRecDepth 100000 in
theorem putInt_BE2 (s : Nat) (big : Bool) (ch : Int) (xs : List Int) (u : Nat) (w : World) (hS : Sw w s big ch xs) (hu : u < 65536) (hlim : xs.length ≤ 10000000000) :
    Calls Tryd.prog 42 #[.pointer (some ⟨s, 0, none⟩), .iface 2 (.int .i64 u), .int .u8 2, .bool true, .bool false] w (RetP w s big ch (xs ++ numB true 2 u)) := by
  have hsl := hS.lt
  have hrl := hS.row_lt
  have HW := fun w3 v (h : OwnAt w3 w.heap.size 2 (numB true 2 u)) (hg : Gr w w3) (hv : v = .slice (some ⟨w.heap.size, 0, none⟩) 2 2) => Lib.hid (write_sw s big ch xs (numB true 2 u) v w3 (hS.gr hg) (by subst hv; have := h.rd; rwa [numB_length] at this) (by
    subst hv
    have := (h.own (B := w.heap.size) (Nat.le_refl _)).aside (s := s) hsl (fun k hk => by rw [rowOf_heap (hg.block hsl)] at hk; exact hrl k hk)
    rwa [numB_length] at this) (by rw [numB_length]; omega))
  have HP := fun w2 g l h hx => Lib.hid (putBE2 w2 g l u (by omega) h hx)
  have iw : IntKind.u16.wrap (u : Int) = u := by rw [IntKind.wrap_u16]; omega
  clear hS hrl
  have y0 := fun w => ta_yes (xT := 20) (.int .i64 u) w Tryd.underlying2
  go_enter Tryd.func42, Tryd.ntmps42
  go_wp2_with (first
    | (at_make; go_must (refine wpList_make_gr Go.Proofs.YtgkccbfepjgjoaaDoor.u8 rfl _ _ rfl (Gr.refl w) .u8 .u8 2 2 2 rfl rfl rfl rfl (by omega) _ rfl ?_); intro w2 ho2 hg2 _ _)
    | (go_at_call 78; go_must (refine (HP w2 _ _ ho2 rfl).out.mono ?_); rintro e w3 ⟨rfl, ho3, hg3⟩; have hg3 := hg3 w hg2 (Nat.le_refl _))
    | (go_at_call 74; go_must (refine (HW w3 _ ho3 hg3 rfl).out.mono ?_); rintro e w4 ⟨rfl, h4, h5⟩))
  go_end0
  exact ⟨rfl, h4, ((Wx.refl s w).gr hg3 hsl).trans h5⟩

set_option maxRecDepth 100000 in
theorem putInt_BE4 (s : Nat) (big : Bool) (ch : Int) (xs : List Int) (u : Nat) (w : World) (hS : Sw w s big ch xs) (hu : u < 4294967296) (hlim : xs.length ≤ 10000000000) :
    Calls Tryd.prog 42 #[.pointer (some ⟨s, 0, none⟩), .iface 2 (.int .i64 u), .int .u8 4, .bool true, .bool false] w (RetP w s big ch (xs ++ numB true 4 u)) := by
  have hsl := hS.lt
  have hrl := hS.row_lt
  have HW := fun w3 v (h : OwnAt w3 w.heap.size 4 (numB true 4 u)) (hg : Gr w w3) (hv : v = .slice (some ⟨w.heap.size, 0, none⟩) 4 4) => Lib.hid (write_sw s big ch xs (numB true 4 u) v w3 (hS.gr hg) (by subst hv; have := h.rd; rwa [numB_length] at this) (by
    subst hv
    have := (h.own (B := w.heap.size) (Nat.le_refl _)).aside (s := s) hsl (fun k hk => by rw [rowOf_heap (hg.block hsl)] at hk; exact hrl k hk)
    rwa [numB_length] at this) (by rw [numB_length]; omega))
  have HP := fun w2 g l h hx => Lib.hid (putBE4 w2 g l u (by omega) h hx)
  have iw : IntKind.u32.wrap (u : Int) = u := by rw [IntKind.wrap_u32]; omega
  clear hS hrl
  have y0 := fun w => ta_yes (xT := 20) (.int .i64 u) w Tryd.underlying2
  go_enter Tryd.func42, Tryd.ntmps42
  go_wp2_with (first
    | (at_make; go_must (refine wpList_make_gr Go.Proofs.YtgkccbfepjgjoaaDoor.u8 rfl _ _ rfl (Gr.refl w) .u8 .u8 4 4 4 rfl rfl rfl rfl (by omega) _ rfl ?_); intro w2 ho2 hg2 _ _)
    | (go_at_call 79; go_must (refine (HP w2 _ _ ho2 rfl).out.mono ?_); rintro e w3 ⟨rfl, ho3, hg3⟩; have hg3 := hg3 w hg2 (Nat.le_refl _))
    | (go_at_call 74; go_must (refine (HW w3 _ ho3 hg3 rfl).out.mono ?_); rintro e w4 ⟨rfl, h4, h5⟩))
  go_end0
  exact ⟨rfl, h4, ((Wx.refl s w).gr hg3 hsl).trans h5⟩

set_option maxRecDepth 100000 in
theorem putInt_BE8 (s : Nat) (big : Bool) (ch : Int) (xs : List Int) (u : Nat) (w : World) (hS : Sw w s big ch xs) (hu : u < 9223372036854775808) (hlim : xs.length ≤ 10000000000) :
    Calls Tryd.prog 42 #[.pointer (some ⟨s, 0, none⟩), .iface 2 (.int .i64 u), .int .u8 8, .bool true, .bool false] w (RetP w s big ch (xs ++ numB true 8 u)) := by
  have hsl := hS.lt
  have hrl := hS.row_lt
  have HW := fun w3 v (h : OwnAt w3 w.heap.size 8 (numB true 8 u)) (hg : Gr w w3) (hv : v = .slice (some ⟨w.heap.size, 0, none⟩) 8 8) => Lib.hid (write_sw s big ch xs (numB true 8 u) v w3 (hS.gr hg) (by subst hv; have := h.rd; rwa [numB_length] at this) (by
    subst hv
    have := (h.own (B := w.heap.size) (Nat.le_refl _)).aside (s := s) hsl (fun k hk => by rw [rowOf_heap (hg.block hsl)] at hk; exact hrl k hk)
    rwa [numB_length] at this) (by rw [numB_length]; omega))
  have HP := fun w2 g l h hx => Lib.hid (putBE8 w2 g l u (by omega) h hx)
  have iw : IntKind.u64.wrap (u : Int) = u := by rw [IntKind.wrap_u64]; omega
  clear hS hrl
  have y0 := fun w => ta_yes (xT := 20) (.int .i64 u) w Tryd.underlying2
  go_enter Tryd.func42, Tryd.ntmps42
  go_wp2_with (first
    | (at_make; go_must (refine wpList_make_gr Go.Proofs.YtgkccbfepjgjoaaDoor.u8 rfl _ _ rfl (Gr.refl w) .u8 .u8 8 8 8 rfl rfl rfl rfl (by omega) _ rfl ?_); intro w2 ho2 hg2 _ _)
    | (go_at_call 76; go_must (refine (HP w2 _ _ ho2 rfl).out.mono ?_); rintro e w3 ⟨rfl, ho3, hg3⟩; have hg3 := hg3 w hg2 (Nat.le_refl _))
    | (go_at_call 74; go_must (refine (HW w3 _ ho3 hg3 rfl).out.mono ?_); rintro e w4 ⟨rfl, h4, h5⟩))
  go_end0
  exact ⟨rfl, h4, ((Wx.refl s w).gr hg3 hsl).trans h5⟩

set_option maxRecDepth 100000 in
theorem putInt_LE2 (s : Nat) (big : Bool) (ch : Int) (xs : List Int) (u : Nat) (w : World) (hS : Sw w s big ch xs) (hu : u < 65536) (hlim : xs.length ≤ 10000000000) :
    Calls Tryd.prog 42 #[.pointer (some ⟨s, 0, none⟩), .iface 2 (.int .i64 u), .int .u8 2, .bool false, .bool false] w (RetP w s big ch (xs ++ numB false 2 u)) := by
  have hsl := hS.lt
  have hrl := hS.row_lt
  have HW := fun w3 v (h : OwnAt w3 w.heap.size 2 (numB false 2 u)) (hg : Gr w w3) (hv : v = .slice (some ⟨w.heap.size, 0, none⟩) 2 2) => Lib.hid (write_sw s big ch xs (numB false 2 u) v w3 (hS.gr hg) (by subst hv; have := h.rd; rwa [numB_length] at this) (by
    subst hv
    have := (h.own (B := w.heap.size) (Nat.le_refl _)).aside (s := s) hsl (fun k hk => by rw [rowOf_heap (hg.block hsl)] at hk; exact hrl k hk)
    rwa [numB_length] at this) (by rw [numB_length]; omega))
  have HP := fun w2 g l h hx => Lib.hid (putLE2 w2 g l u (by omega) h hx)
  have iw : IntKind.u16.wrap (u : Int) = u := by rw [IntKind.wrap_u16]; omega
  clear hS hrl
  have y0 := fun w => ta_yes (xT := 20) (.int .i64 u) w Tryd.underlying2
  go_enter Tryd.func42, Tryd.ntmps42
  go_wp2_with (first
    | (at_make; go_must (refine wpList_make_gr Go.Proofs.YtgkccbfepjgjoaaDoor.u8 rfl _ _ rfl (Gr.refl w) .u8 .u8 2 2 2 rfl rfl rfl rfl (by omega) _ rfl ?_); intro w2 ho2 hg2 _ _)
    | (go_at_call 80; go_must (refine (HP w2 _ _ ho2 rfl).out.mono ?_); rintro e w3 ⟨rfl, ho3, hg3⟩; have hg3 := hg3 w hg2 (Nat.le_refl _))
    | (go_at_call 74; go_must (refine (HW w3 _ ho3 hg3 rfl).out.mono ?_); rintro e w4 ⟨rfl, h4, h5⟩))
  go_end0
  exact ⟨rfl, h4, ((Wx.refl s w).gr hg3 hsl).trans h5⟩

set_option maxRecDepth 100000 in
theorem putInt_LE4 (s : Nat) (big : Bool) (ch : Int) (xs : List Int) (u : Nat) (w : World) (hS : Sw w s big ch xs) (hu : u < 4294967296) (hlim : xs.length ≤ 10000000000) :
    Calls Tryd.prog 42 #[.pointer (some ⟨s, 0, none⟩), .iface 2 (.int .i64 u), .int .u8 4, .bool false, .bool false] w (RetP w s big ch (xs ++ numB false 4 u)) := by
  have hsl := hS.lt
  have hrl := hS.row_lt
  have HW := fun w3 v (h : OwnAt w3 w.heap.size 4 (numB false 4 u)) (hg : Gr w w3) (hv : v = .slice (some ⟨w.heap.size, 0, none⟩) 4 4) => Lib.hid (write_sw s big ch xs (numB false 4 u) v w3 (hS.gr hg) (by subst hv; have := h.rd; rwa [numB_length] at this) (by
    subst hv
    have := (h.own (B := w.heap.size) (Nat.le_refl _)).aside (s := s) hsl (fun k hk => by rw [rowOf_heap (hg.block hsl)] at hk; exact hrl k hk)
    rwa [numB_length] at this) (by rw [numB_length]; omega))
  have HP := fun w2 g l h hx => Lib.hid (putLE4 w2 g l u (by omega) h hx)
  have iw : IntKind.u32.wrap (u : Int) = u := by rw [IntKind.wrap_u32]; omega
  clear hS hrl
  have y0 := fun w => ta_yes (xT := 20) (.int .i64 u) w Tryd.underlying2
  go_enter Tryd.func42, Tryd.ntmps42
  go_wp2_with (first
    | (at_make; go_must (refine wpList_make_gr Go.Proofs.YtgkccbfepjgjoaaDoor.u8 rfl _ _ rfl (Gr.refl w) .u8 .u8 4 4 4 rfl rfl rfl rfl (by omega) _ rfl ?_); intro w2 ho2 hg2 _ _)
    | (go_at_call 81; go_must (refine (HP w2 _ _ ho2 rfl).out.mono ?_); rintro e w3 ⟨rfl, ho3, hg3⟩; have hg3 := hg3 w hg2 (Nat.le_refl _))
    | (go_at_call 74; go_must (refine (HW w3 _ ho3 hg3 rfl).out.mono ?_); rintro e w4 ⟨rfl, h4, h5⟩))
  go_end0
  exact ⟨rfl, h4, ((Wx.refl s w).gr hg3 hsl).trans h5⟩

set_option maxRecDepth 100000 in
theorem putInt_LE8 (s : Nat) (big : Bool) (ch : Int) (xs : List Int) (u : Nat) (w : World) (hS : Sw w s big ch xs) (hu : u < 9223372036854775808) (hlim : xs.length ≤ 10000000000) :
    Calls Tryd.prog 42 #[.pointer (some ⟨s, 0, none⟩), .iface 2 (.int .i64 u), .int .u8 8, .bool false, .bool false] w (RetP w s big ch (xs ++ numB false 8 u)) := by
  have hsl := hS.lt
  have hrl := hS.row_lt
  have HW := fun w3 v (h : OwnAt w3 w.heap.size 8 (numB false 8 u)) (hg : Gr w w3) (hv : v = .slice (some ⟨w.heap.size, 0, none⟩) 8 8) => Lib.hid (write_sw s big ch xs (numB false 8 u) v w3 (hS.gr hg) (by subst hv; have := h.rd; rwa [numB_length] at this) (by
    subst hv
    have := (h.own (B := w.heap.size) (Nat.le_refl _)).aside (s := s) hsl (fun k hk => by rw [rowOf_heap (hg.block hsl)] at hk; exact hrl k hk)
    rwa [numB_length] at this) (by rw [numB_length]; omega))
  have HP := fun w2 g l h hx => Lib.hid (putLE8 w2 g l u (by omega) h hx)
  have iw : IntKind.u64.wrap (u : Int) = u := by rw [IntKind.wrap_u64]; omega
  clear hS hrl
  have y0 := fun w => ta_yes (xT := 20) (.int .i64 u) w Tryd.underlying2
  go_enter Tryd.func42, Tryd.ntmps42
  go_wp2_with (first
    | (at_make; go_must (refine wpList_make_gr Go.Proofs.YtgkccbfepjgjoaaDoor.u8 rfl _ _ rfl (Gr.refl w) .u8 .u8 8 8 8 rfl rfl rfl rfl (by omega) _ rfl ?_); intro w2 ho2 hg2 _ _)
    | (go_at_call 82; go_must (refine (HP w2 _ _ ho2 rfl).out.mono ?_); rintro e w3 ⟨rfl, ho3, hg3⟩; have hg3 := hg3 w hg2 (Nat.le_refl _))
    | (go_at_call 74; go_must (refine (HW w3 _ ho3 hg3 rfl).out.mono ?_); rintro e w4 ⟨rfl, h4, h5⟩))
  go_end0
  exact ⟨rfl, h4, ((Wx.refl s w).gr hg3 hsl).trans h5⟩

set_option maxRecDepth 100000 in
theorem putInt_1 (s : Nat) (big : Bool) (ch : Int) (xs : List Int) (u : Nat) (be : Bool) (w : World) (hS : Sw w s big ch xs) (hu : u < 256) (hlim : xs.length ≤ 10000000000) :
    Calls Tryd.prog 42 #[.pointer (some ⟨s, 0, none⟩), .iface 2 (.int .i64 u), .int .u8 1, .bool be, .bool false] w (RetP w s big ch (xs ++ [(u : Int)])) := by
  have HB := Lib.hid (writeByte_sw s big ch xs u w hS (by omega) (by omega))
  have iw : IntKind.u8.wrap (u : Int) = u := by rw [IntKind.wrap_u8]; omega
  clear hS
  have y0 := fun w => ta_yes (xT := 20) (.int .i64 u) w Tryd.underlying2
  go_enter Tryd.func42, Tryd.ntmps42
  go_wp2_with (first | (go_at_call 75; go_must (refine HB.out.mono ?_); rintro e w1 ⟨rfl, h1, h2⟩))
  go_end0
  exact ⟨rfl, h1, h2⟩

set_option maxRecDepth 100000 in
set_option maxHeartbeats 4000000 in
theorem putUint_zero_u64 (s : Nat) (big : Bool) (ch : Int) (xs : List Int) (z : Nat) (be : Bool) (w : World) (hS : Sw w s big ch xs) (hz8 : 1 ≤ z ∧ z ≤ 8) (hz1 : z ≠ 1) (hlim : xs.length ≤ 10000000000) :
    Calls Tryd.prog 43 #[.pointer (some ⟨s, 0, none⟩), .iface 36 (.int .u64 0), .int .u8 (z : Nat), .bool be, .bool true] w (RetP w s big ch (xs ++ [0])) := by
  have hsl := hS.lt
  have HB := fun w3 (hg : Gr w w3) => Lib.hid (writeByte_sw s big ch xs 0 w3 (hS.gr hg) (by omega) (by omega))
  have HP := fun w2 g l h hx => Lib.hid (putBE8 w2 g l 0 (by omega) h hx)
  have HT := fun w3 g h => Lib.hid (trim0 g w3 h)
  have hrow : numB true 8 0 = List.replicate 8 0 := by rfl
  have HRW := Lib.hid hrow
  have z1 : (1 : Int) ≤ z := by omega
  have z8 : (z : Int) ≤ 8 := by omega
  have z10 : ((z : Int) == 1) = false := beq_eq_false_iff_ne.2 (by omega)
  have y0 := fun w => ta_no (t := 36) (xT := 20) (.int .u64 0) w Tryd.underlying2 (by kernel_rfl) (by decide)
  have y1 := fun w => ta_no (t := 36) (xT := 20) (.int .u64 0) w Tryd.underlying21 (by kernel_rfl) (by decide)
  have y2 := fun w => ta_no (t := 36) (xT := 20) (.int .u64 0) w Tryd.underlying121 (by kernel_rfl) (by decide)
  have y3 := fun w => ta_no (t := 36) (xT := 20) (.int .u64 0) w Tryd.underlying76 (by kernel_rfl) (by decide)
  have y4 := fun w => ta_yes (xT := 20) (.int .u64 0) w Tryd.underlying36
  clear hS hrow
  go_enter Tryd.func43, Tryd.ntmps43
  go_wp2_with (first
    | (at_make; go_must (refine wpList_make_gr Go.Proofs.YtgkccbfepjgjoaaDoor.u8 rfl _ _ rfl (Gr.refl w) .i64 .i64 8 8 8 rfl rfl rfl rfl (by omega) _ rfl ?_); intro w2 ho2 hg2 _ _)
    | (go_at_call 76; go_must (refine (HP w2 _ _ ho2 rfl).out.mono ?_); rintro e w3 ⟨rfl, ho3, hg3⟩; rw [HRW.out] at ho3; have hg3 := hg3 w hg2 (Nat.le_refl _))
    | (go_at_call 77; go_must (refine (HT w3 _ ho3).out.mono ?_); rintro e w4 ⟨rfl, h34⟩; cases h34)
    | (go_at_call 75; go_must (refine (HB w3 hg3).out.mono ?_); rintro e w5 ⟨rfl, h5, hx5⟩))
  go_end0
  exact ⟨rfl, h5, ((Wx.refl s w).gr hg3 hsl).trans hx5⟩

set_option maxRecDepth 100000 in
set_option maxHeartbeats 4000000 in
theorem putInt_zero_i64 (s : Nat) (big : Bool) (ch : Int) (xs : List Int) (z : Nat) (be : Bool) (w : World) (hS : Sw w s big ch xs) (hz8 : 1 ≤ z ∧ z ≤ 8) (hlim : xs.length ≤ 10000000000) :
    Calls Tryd.prog 42 #[.pointer (some ⟨s, 0, none⟩), .iface 2 (.int .i64 0), .int .u8 (z : Nat), .bool be, .bool true] w (RetP w s big ch (xs ++ [0])) := by
  have hsl := hS.lt
  have HB := fun w3 (hg : Gr w w3) => Lib.hid (writeByte_sw s big ch xs 0 w3 (hS.gr hg) (by omega) (by omega))
  have HP := fun w2 g l h hx => Lib.hid (putBE8 w2 g l 0 (by omega) h hx)
  have HT := fun w3 g h => Lib.hid (trim0 g w3 h)
  have hrow : numB true 8 0 = List.replicate 8 0 := by rfl
  have HRW := Lib.hid hrow
  have z1 : (1 : Int) ≤ z := by omega
  have z8 : (z : Int) ≤ 8 := by omega
  have y0 := fun w => ta_yes (xT := 20) (.int .i64 0) w Tryd.underlying2
  clear hS hrow
  go_enter Tryd.func42, Tryd.ntmps42
  go_wp2_with (first
    | (at_make; go_must (refine wpList_make_gr Go.Proofs.YtgkccbfepjgjoaaDoor.u8 rfl _ _ rfl (Gr.refl w) .i64 .i64 8 8 8 rfl rfl rfl rfl (by omega) _ rfl ?_); intro w2 ho2 hg2 _ _)
    | (go_at_call 76; go_must (refine (HP w2 _ _ ho2 rfl).out.mono ?_); rintro e w3 ⟨rfl, ho3, hg3⟩; rw [HRW.out] at ho3; have hg3 := hg3 w hg2 (Nat.le_refl _))
    | (go_at_call 77; go_must (refine (HT w3 _ ho3).out.mono ?_); rintro e w4 ⟨rfl, h34⟩; cases h34)
    | (go_at_call 75; go_must (refine (HB w3 hg3).out.mono ?_); rintro e w5 ⟨rfl, h5, hx5⟩))
  go_end0
  exact ⟨rfl, h5, ((Wx.refl s w).gr hg3 hsl).trans hx5⟩
end Go.Proofs.YtgkccbfepjgjoaaDoor
