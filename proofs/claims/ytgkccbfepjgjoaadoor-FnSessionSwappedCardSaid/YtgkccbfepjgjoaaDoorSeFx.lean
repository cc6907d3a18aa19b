/- A session's WriteFixedClr into a buffer of the call's own. -/
import Derived.Test.YtgkccbfepjgjoaaDoorSeMh
namespace Go.Proofs.YtgkccbfepjgjoaaDoor
open Go Go.RowKit

theorem whole_of_at {T e : TypeId} {B b : Nat} {bs : List Value} {w : World} (h : LibA.IsBuffer T (fun _ => none) e B b 0 bs w) : Lib.IsBuffer T e B b bs w := by
  obtain ⟨hB, v, lr, ⟨cs, hb, h0, h1, h2, h3⟩, r⟩ := h
  refine ⟨hB, v, lr, ?_, r⟩
  have e : cs = #[v, .int .i64 0, .int .i8 lr] := by
    apply Array.ext_getElem?
    intro i
    match i with
    | 0 => exact h0
    | 1 => exact h1
    | 2 => exact h2
    | i + 3 => rw [h3 (i + 3) (.inr (by omega)), Array.getElem?_eq_none (by simp)]
  rw [hb, e]

/-- WriteByte into a buffer of the call's own. -/
theorem writeByte_bf {B b : Nat} {xs : List Int} {w : World} (c : Int) (hc : 0 ≤ c ∧ c < 256) (hb : Bf B b xs w) (hB : B ≤ w.heap.size) (hlim : xs.length + 1 ≤ 140737488355328) :
    Calls Tryd.prog 75 #[.pointer (some ⟨b, 0, none⟩), .int .u8 c] w fun e w' => e = .returned .nilIface ∧ Bf B b (xs ++ [c]) w' ∧ Below B w w' := by
  refine (Tryd.Buffer_WriteByte_at 79 (fun _ => none) B b 0 (xs.map (Value.int .u8)) c w (LibA.of_whole hb.1) hB (one_cells _) (by simpa using hlim)).mono fun e w' => ?_
  rintro ⟨h1, h2, h3, _⟩
  refine ⟨h1, ⟨?_, byt_append hb.2 (fun x hx => by simp at hx; omega)⟩, h3⟩
  rw [List.map_append]
  exact whole_of_at h2

/-- Write into a buffer of the call's own, of bytes that lie anywhere else. -/
theorem write_far {B b : Nat} {xs l : List Int} {w : World} {v : Value} (hb : Bf B b xs w) (hB : B ≤ w.heap.size) (hv : Rd w v l) (hlo : OffV b v) (hlim : xs.length + l.length ≤ 140737488355328) :
    Calls Tryd.prog 74 #[.pointer (some ⟨b, 0, none⟩), v] w fun e w' => e = .returned (.tuple #[.int .i64 l.length, .nilIface]) ∧ Bf B b (xs ++ l) w' ∧ Below B w w' := by
  obtain ⟨p, c, rfl, hc, hm, hnil, hbi, hby⟩ := hv
  by_cases h0 : l.length = 0
  · obtain rfl : l = [] := List.eq_nil_of_length_eq_zero h0
    rw [List.append_nil]
    exact write_none p c hb hB
  · obtain ⟨g0, o0, rfl, hcell⟩ := hbi (by omega)
    have hne : g0 ≠ b := hlo _ _ _ rfl
    refine (Tryd.Buffer_Write_any B b _ (l.map (Value.int .u8)) ⟨g0, o0, none⟩ _ c w hb.1 hB (one_cells _) (by simp) hne ?_ (one_cells _) (by simpa using hlim)).mono fun e w' => ?_
    · exact src_cells ⟨hcell, hby⟩
    · rintro ⟨h1, h2, h3, _⟩
      exact ⟨h1, ⟨by rw [List.map_append]; exact h2, byt_append hb.2 hby⟩, h3⟩

set_option maxRecDepth 100000 in
/-- WriteUint of a length in four bytes. -/
theorem writeUint4 (s B b : Nat) (xs : List Int) (u : Nat) (w : World) (hb : Bf B b xs w) (hB : B ≤ w.heap.size) (hbw : b < w.heap.size) (hu : u < 4294967296) (hlim : xs.length ≤ 10000000000) :
    Calls Tryd.prog 83 #[.pointer (some ⟨s, 0, none⟩), .pointer (some ⟨b, 0, none⟩), .iface 3 (.int .i64 u), .int .u8 4, .bool true, .bool false] w (RetW B b w (xs ++ numB true 4 u)) := by
  have HW := fun w3 (h : OwnAt w3 w.heap.size 4 (numB true 4 u)) (hg : Gr w w3) => Lib.hid (write_far (v := .slice (some ⟨w.heap.size, 0, none⟩) 4 4) (hb.gr hg) (Nat.le_trans hB hg.size) (by have := h.rd; rwa [numB_length] at this) (fun a n c e => by
    injection e with e
    injection e with e
    subst e
    show w.heap.size ≠ b
    omega) (by rw [numB_length]; omega))
  have HP := fun w2 g l h hx => Lib.hid (putBE4 w2 g l u hu h hx)
  have iw : IntKind.u32.wrap (u : Int) = u := by rw [IntKind.wrap_u32]; omega
  have iw6 : IntKind.u64.wrap (u : Int) = u := by rw [IntKind.wrap_u64]; omega
  have iu : (u : Int) < 4294967296 := by omega
  clear hb
  have y0 := fun w => ta_no (t := 3) (xT := 20) (.int .i64 u) w Tryd.underlying2 (by kernel_rfl) (by decide)
  have y1 := fun w => ta_no (t := 3) (xT := 20) (.int .i64 u) w Tryd.underlying21 (by kernel_rfl) (by decide)
  have y2 := fun w => ta_no (t := 3) (xT := 20) (.int .i64 u) w Tryd.underlying121 (by kernel_rfl) (by decide)
  have y3 := fun w => ta_no (t := 3) (xT := 20) (.int .i64 u) w Tryd.underlying76 (by kernel_rfl) (by decide)
  have y4 := fun w => ta_no (t := 3) (xT := 20) (.int .i64 u) w Tryd.underlying36 (by kernel_rfl) (by decide)
  have y5 := fun w => ta_no (t := 3) (xT := 20) (.int .i64 u) w Tryd.underlying122 (by kernel_rfl) (by decide)
  have y6 := fun w => ta_no (t := 3) (xT := 20) (.int .i64 u) w Tryd.underlying123 (by kernel_rfl) (by decide)
  have y7 := fun w => ta_no (t := 3) (xT := 20) (.int .i64 u) w Tryd.underlying5 (by kernel_rfl) (by decide)
  have y8 := fun w => ta_no (t := 3) (xT := 20) (.int .i64 u) w Tryd.underlying95 (by kernel_rfl) (by decide)
  have y9 := fun w => ta_yes (xT := 20) (.int .i64 u) w Tryd.underlying3
  go_enter Tryd.func83, Tryd.ntmps83
  go_wp2_with (first
    | (at_make; go_must (refine wpList_make_gr Go.Proofs.YtgkccbfepjgjoaaDoor.u8 rfl _ _ rfl (Gr.refl w) .u8 .u8 4 4 4 rfl rfl rfl rfl (by omega) _ rfl ?_); intro w2 ho2 hg2 _ _)
    | (go_at_call 79; go_must (refine (HP w2 _ _ ho2 rfl).out.mono ?_); rintro e w3 ⟨rfl, ho3, hg3⟩; have hg3 := hg3 w hg2 (Nat.le_refl _))
    | (go_at_call 74; go_must (refine (HW w3 ho3 hg3).out.mono ?_); rintro e w4 ⟨rfl, h4, h5⟩))
  go_end0
  exact ⟨rfl, h4, (hg3.mono hB).trans h5⟩

/-- The bytes of a fixed CLR. -/
def fixB (l : List Int) : List Int := if l.length ≤ 252 then (l.length : Int) :: l else 254 :: (numB true 4 l.length ++ l)

set_option maxRecDepth 100000 in
theorem writeFixed (s B b : Nat) (l : List Int) (v : Value) (w : World) (hb : Bf B b [] w) (hB : B ≤ w.heap.size) (hbw : b < w.heap.size) (hv : Rd w v l) (hlo : LoV B v) (hl : l.length ≤ 1000000) :
    Calls Tryd.prog 45 #[.pointer (some ⟨s, 0, none⟩), .pointer (some ⟨b, 0, none⟩), v] w (RetW B b w (fixB l)) := by
  obtain ⟨n, hn⟩ : ∃ n, l.length = n := ⟨_, rfl⟩
  have HW := fun w2 ys (h : Bf B b ys w2) (hg : Below B w w2) (hsz : B ≤ w2.heap.size) (hy : ys.length ≤ 100) => Lib.hid (write_lo h hsz (hv.below hg hlo) hlo (by omega))
  have HV := Lib.hid hv
  obtain ⟨p, c, rfl, hc, hm, _⟩ := id hv
  have hcm : c ≤ 9223372036854775807 := by simp only [maxLen] at hm; omega
  unfold fixB
  rw [hn] at HW hc ⊢
  have hl : n ≤ 1000000 := by omega
  clear hn hv hm HV
  by_cases h : n ≤ 252
  · rw [if_pos h]
    have HB := Lib.hid (writeByte_bf (n : Int) (by omega) hb hB (by simp))
    have iw : IntKind.u8.wrap (n : Int) = n := by rw [IntKind.wrap_u8]; omega
    clear hb
    go_enter Tryd.func45, Tryd.ntmps45
    go_wp2_with (first
      | (go_at_call 75; go_must (refine HB.out.mono ?_); rintro e w2 ⟨rfl, h2, g2⟩)
      | (go_at_call 74; go_must (refine (HW w2 _ h2 g2 (Nat.le_trans hB g2.size) (by simp)).out.mono ?_); rintro e w3 ⟨rfl, h3, g3⟩))
    go_end0
    exact ⟨rfl, h3, g2.trans g3⟩
  · rw [if_neg h]
    have h : 252 < n := by omega
    have HB := Lib.hid (writeByte_bf (254 : Int) (by omega) hb hB (by simp))
    have HU := fun w2 (h : Bf B b ([] ++ [254]) w2) (hsz : B ≤ w2.heap.size) (hbw : b < w2.heap.size) => Lib.hid (writeUint4 s B b _ n w2 h hsz hbw (by omega) (by simp))
    clear hb
    go_enter Tryd.func45, Tryd.ntmps45
    go_wp2_with (first
      | (go_at_call 75; go_must (refine HB.out.mono ?_); rintro e w2 ⟨rfl, h2, g2⟩)
      | (go_at_call 83; go_must (refine (HU w2 h2 (Nat.le_trans hB g2.size) (Nat.lt_of_lt_of_le hbw g2.size)).out.mono ?_); rintro e w3 ⟨rfl, h3, g3⟩; have g3 := g2.trans g3)
      | (go_at_call 74; go_must (refine (HW w3 _ h3 g3 (Nat.le_trans hB g3.size) (by simp [numB_length])).out.mono ?_); rintro e w4 ⟨rfl, h4, g4⟩))
    go_end0
    exact ⟨rfl, by simpa [List.append_assoc] using h4, g3.trans g4⟩
end Go.Proofs.YtgkccbfepjgjoaaDoor
