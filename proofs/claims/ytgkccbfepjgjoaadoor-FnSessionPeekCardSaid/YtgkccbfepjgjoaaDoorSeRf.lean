/- The reference's reader: a CLR whatever stands there; a DLC. -/
import Derived.Test.YtgkccbfepjgjoaaDoorSeRe
namespace Go.Proofs.YtgkccbfepjgjoaaDoor
open Go Go.RowKit

set_option maxRecDepth 100000 in
theorem take_open (r : Nat) (xs : List Int) (n : Int) (w : World) (h : Sx w r xs false true) :
    Calls Tryd.prog 50 #[.pointer (some ⟨r, 0, none⟩), .int .i64 n] w (RetTn w r (.slice none 0 0) true) := by
  obtain ⟨v, hb, hv, ho, hz, hl⟩ := h
  have c1 : w.cell? ⟨r, 1, none⟩ = some (.bool false) := (blk_cell hb 1).trans rfl
  have c2 : w.cell? ⟨r, 2, none⟩ = some (.bool true) := (blk_cell hb 2).trans rfl
  have f1 := blk_free hb 1
  have HF := Lib.hid (show RetTn w r (.slice none 0 0) true (.returned (.slice none 0 0)) (w.setCell ⟨r, 1, none⟩ (.bool true)) from
    ⟨rfl, ⟨xs, v, by rw [blk_set hb]; simp, hv.fx ((Fx.refl r w).set 1 _) ho, ho, by simpa using hz, hl⟩, (Fk.refl r w).set hb 1 (by decide) _⟩)
  clear hb hl ho hv hz
  go_enter Tryd.func50, Tryd.ntmps50
  go_wp2
  go_ret
  exact HF.out
/-- A reader that is torn or open takes nothing more. -/
theorem take_dead (r : Nat) (xs : List Int) (n : Int) (t o : Bool) (w : World) (h : Sx w r xs t o) (hd : (t || o) = true) :
    Calls Tryd.prog 50 #[.pointer (some ⟨r, 0, none⟩), .int .i64 n] w (RetTn w r (.slice none 0 0) o) := by
  cases t
  · simp at hd
    subst hd
    exact take_open r xs n w h
  · exact take_torn r xs n o w h
theorem packed_dead' (r : Nat) (xs : List Int) (t o : Bool) (w : World) (h : Sx w r xs t o) (hd : (t || o) = true) :
    Calls Tryd.prog 53 #[.pointer (some ⟨r, 0, none⟩)] w (RetTn w r (.int .i64 0) o) := by
  have HT := Lib.hid (take_dead r xs 1 t o w h hd)
  clear h hd
  go_enter Tryd.func53, Tryd.ntmps53
  go_wp2_with (first
    | (go_at_call 50; go_must (refine HT.out.mono ?_); rintro e w1 ⟨rfl, ⟨q, hs1⟩, hf1⟩; have c1 := hs1.c1))
  go_ret
  exact ⟨rfl, ⟨q, hs1⟩, hf1⟩

/-- A CLR, whatever stands there. -/
theorem rclr (r : Nat) (big : Bool) (xs : List Int) (w : World) (h : Sx w r xs false false) :
    Calls Tryd.prog 51 #[.pointer (some ⟨r, 0, none⟩), .bool big] w (RetCl big w r xs) := by
  cases xs with
  | nil => exact rclr_torn r big w h
  | cons b t =>
    have hb := h.byt b (by simp)
    by_cases h1 : b = 0 ∨ b = 255 ∨ b = 253
    · exact rclr_null r big b t w h h1
    · by_cases h2 : b = 254
      · subst h2
        cases big
        · exact rclr_parts_false r t w h
        · exact rclr_parts_true r t w h
      · obtain ⟨n, rfl⟩ : ∃ n : Nat, b = (n : Int) := ⟨b.toNat, by omega⟩
        exact rclr_one r big n t w h (by omega) (by omega)

/-- What a reader of bytes gives: the bytes, what is left, is it torn, is it open. -/
def RetD (L : List Int → List Int → Bool → Bool → Prop) (w : World) (r : Nat) (e : Ending) (w' : World) : Prop :=
  ∃ u l q t o, e = .returned u ∧ Rd w' u l ∧ OffV r u ∧ (∀ s, s < w.heap.size → OffX w r s → OffV s u) ∧ Fk r w w' ∧ Sx w' r q t o ∧ L l q t o
/-- What a reader of a number gives. -/
def RetN (L : Int → List Int → Bool → Bool → Prop) (k : IntKind) (w : World) (r : Nat) (e : Ending) (w' : World) : Prop :=
  ∃ z q t o, e = .returned (.int k z) ∧ Fk r w w' ∧ Sx w' r q t o ∧ L z q t o
theorem RetTn.d {w w' : World} {r : Nat} {o : Bool} {e : Ending} {L : List Int → List Int → Bool → Bool → Prop} (h : RetTn w r (.slice none 0 0) o e w') (hL : ∀ q, L [] q true o) : RetD L w r e w' := by
  obtain ⟨rfl, ⟨q, hs⟩, hf⟩ := h
  exact ⟨_, [], q, true, o, rfl, Rd.nil _, offV_nil r, fun s _ _ => offV_nil s, hf, hs, hL q⟩
theorem RetTn.n {w w' : World} {r : Nat} {o : Bool} {e : Ending} {k : IntKind} {L : Int → List Int → Bool → Bool → Prop} (h : RetTn w r (.int k 0) o e w') (hL : ∀ q, L 0 q true o) : RetN L k w r e w' := by
  obtain ⟨rfl, ⟨q, hs⟩, hf⟩ := h
  exact ⟨0, q, true, o, rfl, hf, hs, hL q⟩
theorem RetTk.d {w w' : World} {r : Nat} {l xs : List Int} {e : Ending} {L : List Int → List Int → Bool → Bool → Prop} (h : RetTk w r l xs e w') (hL : L l xs false false) : RetD L w r e w' := by
  obtain ⟨u, rfl, h1, h2, _, h3, h4, h5⟩ := h
  exact ⟨u, l, xs, false, false, rfl, h1, h2, fun s _ h => h3 s h, h5, h4, hL⟩

/-- How a CLR, a DLC, a compressed number are read: the bytes, what is left, is it torn, is it open. -/
def LClr (big : Bool) (xs l q : List Int) (t o : Bool) : Prop := o = true ∨ (o = false ∧ t = false ∧ Clr big xs (some (l, q))) ∨ (o = false ∧ t = true ∧ Clr big xs none)
def LDlc (big : Bool) (xs l q : List Int) (t o : Bool) : Prop := o = true ∨ (o = false ∧ t = false ∧ Dlc big xs (some (l, q))) ∨ (o = false ∧ t = true ∧ Dlc big xs none)
def LPk (xs : List Int) (z : Int) (q : List Int) (t o : Bool) : Prop := o = true ∨ (o = false ∧ t = false ∧ PkShort xs ∧ rdPk xs = some (z, q)) ∨ (o = false ∧ t = true ∧ PkShort xs ∧ rdPk xs = none)

theorem packedN (r : Nat) (xs : List Int) (w : World) (h : Sx w r xs false false) :
    Calls Tryd.prog 53 #[.pointer (some ⟨r, 0, none⟩)] w (RetN (LPk xs) .i64 w r) := by
  refine (packed r xs w h).mono ?_
  rintro e w' (⟨z, q, h1, h2, rfl, h3, h4⟩ | ⟨h1, h2, rfl, ⟨q, h3⟩, h4⟩ | ⟨rfl, ⟨q, h3⟩, h4⟩)
  · exact ⟨z, q, false, false, rfl, h4, h3, .inr (.inl ⟨rfl, rfl, h1, h2⟩)⟩
  · exact ⟨0, q, true, false, rfl, h4, h3, .inr (.inr ⟨rfl, rfl, h1, h2⟩)⟩
  · exact ⟨0, q, false, true, rfl, h4, h3, .inl rfl⟩
theorem rclrD (r : Nat) (big : Bool) (xs : List Int) (w : World) (h : Sx w r xs false false) :
    Calls Tryd.prog 51 #[.pointer (some ⟨r, 0, none⟩), .bool big] w (RetD (LClr big xs) w r) := by
  refine (rclr r big xs w h).mono ?_
  rintro e w' ⟨u, l, rfl, h1, h2, h3, _, h4, h5⟩
  rcases h5 with ⟨q, h5, h6⟩ | ⟨h5, q, h6⟩ | ⟨q, h6⟩
  · exact ⟨u, l, q, false, false, rfl, h1, h2, h3, h4, h6, .inr (.inl ⟨rfl, rfl, h5⟩)⟩
  · exact ⟨u, l, q, true, false, rfl, h1, h2, h3, h4, h6, .inr (.inr ⟨rfl, rfl, h5⟩)⟩
  · exact ⟨u, l, q, false, true, rfl, h1, h2, h3, h4, h6, .inl rfl⟩

set_option maxRecDepth 100000 in
theorem rdlc_pk (r : Nat) (big : Bool) (xs : List Int) (w : World) (h : Sx w r xs false false) :
    Calls Tryd.prog 52 #[.pointer (some ⟨r, 0, none⟩), .bool big] w (RetD (LDlc big xs) w r) := by
  have HP := Lib.hid (packed r xs w h)
  clear h
  go_enter Tryd.func52, Tryd.ntmps52
  go_wp2_with fail
  go_must (refine HP.out.mono ?_)
  rintro e w2 (⟨z, q, hps, hrd, rfl, hs2, hf2⟩ | ⟨hps, hrd, rfl, ⟨q, hs2⟩, hf2⟩ | ⟨rfl, ⟨q, hs2⟩, hf2⟩)
  · have HD := Lib.hid hrd
    have HS := Lib.hid hps
    have hzb := rdPk_bd hrd
    clear hrd hps
    by_cases hneg : z < 0 ∨ 1073741824 < z
    · have c1 := hs2.c1
      have c2 := hs2.c2
      have f2 := hs2.f2
      have hso := hs2.open'
      have hFo := hf2.open' hs2
      have c1' := hso.c1
      have c2' := hso.c2
      by_cases hn1 : z < 0 <;> by_cases hn2 : 1073741824 < z <;> try (exfalso; omega)
      all_goals
        go_wp2_with fail
        go_ret
        exact ⟨_, [], q, false, true, rfl, Rd.nil _, offV_nil r, fun s _ _ => offV_nil s, hFo, hso, .inl rfl⟩
    · obtain ⟨m, rfl⟩ : ∃ m : Nat, z = (m : Int) := ⟨z.toNat, by omega⟩
      have hm : m ≤ 1073741824 := by omega
      have c1 := hs2.c1
      have c2 := hs2.c2
      clear hneg
      by_cases h0 : m = 0
      · subst h0
        go_wp2_with fail
        go_ret
        exact ⟨_, [], q, false, false, rfl, Rd.nil _, offV_nil r, fun s _ _ => offV_nil s, hf2, hs2, .inr (.inl ⟨rfl, rfl, .null HS.out HD.out⟩)⟩
      · have m0 : ((m : Int) == 0) = false := beq_eq_false_iff_ne.2 (by omega)
        have HC := Lib.hid (rclr r big q w2 hs2)
        have HW2 := Lib.hid hf2
        clear hs2 hf2
        go_wp2_with (first
          | (go_at_call 51; go_must (refine HC.out.mono ?_)))
        rintro e w3 ⟨u, l, rfl, hu, ho, hx, hlb, hf3, h5⟩
        have hf := HW2.out.trans hf3
        have hz2 := HW2.out.size
        have hx' : ∀ s, s < w.heap.size → OffX w r s → OffV s u := fun s hs h => hx s (by omega) (HW2.out.off s h)
        obtain ⟨u2, hu2, huo, hcut⟩ := cutH hu (min l.length m) (Nat.min_le_left ..)
        have ho2 : OffV r u2 := huo (· ≠ r) ho
        have hx2 : ∀ s, s < w.heap.size → OffX w r s → OffV s u2 := fun s hs h => huo (· ≠ s) (hx' s hs h)
        have htk : l.take (min l.length m) = l.take m := by
          by_cases hc : l.length ≤ m
          · rw [Nat.min_eq_left hc, List.take_length, List.take_of_length_le hc]
          · rw [Nat.min_eq_right (by omega)]
        rw [htk] at hu2
        have HU2 := Lib.hid hu2
        have HO2 := Lib.hid ho2
        have HX2 := Lib.hid hx2
        have HF := Lib.hid hf
        have HR : Hid (∃ q t o, Sx w3 r q t o ∧ LDlc big xs (l.take m) q t o) := by
          rcases h5 with ⟨q', h5, h6⟩ | ⟨h5, q', h6⟩ | ⟨q', h6⟩
          · exact Lib.hid ⟨q', false, false, h6, .inr (.inl ⟨rfl, rfl, by have := Dlc.some (n := m) HS.out HD.out (by omega) h5; simpa using this⟩)⟩
          · exact Lib.hid ⟨q', true, false, h6, .inr (.inr ⟨rfl, rfl, by have := Dlc.some (n := m) HS.out HD.out (by omega) h5; simpa using this⟩)⟩
          · exact Lib.hid ⟨q', false, true, h6, .inl rfl⟩
        obtain ⟨pu, cu, rfl, hcu⟩ := id hu
        clear hu2 ho2 hx2 hx' hx ho hf hf3 h5 huo htk hu hcu
        rw [show ((min l.length m : Nat) : Int) = min (l.length : Int) (m : Int) by omega] at hcut
        go_wp2_with fail
        go_ret
        obtain ⟨q', t, o, h6, h7⟩ := HR.out
        exact ⟨_, _, q', t, o, rfl, HU2.out, HO2.out, HX2.out, HF.out, h6, h7⟩
  · have HD := Lib.hid hrd
    have HS := Lib.hid hps
    have c1 := hs2.c1
    clear hrd hps
    go_wp2_with fail
    go_ret
    exact ⟨_, [], q, true, false, rfl, Rd.nil _, offV_nil r, fun s _ _ => offV_nil s, hf2, hs2, .inr (.inr ⟨rfl, rfl, .torn HS.out HD.out⟩)⟩
  · have c1 := hs2.c1
    have c2 := hs2.c2
    go_wp2_with fail
    go_ret
    exact ⟨_, [], q, false, true, rfl, Rd.nil _, offV_nil r, fun s _ _ => offV_nil s, hf2, hs2, .inl rfl⟩

theorem rdlc_dead (r : Nat) (big : Bool) (xs : List Int) (t o : Bool) (w : World) (h : Sx w r xs t o) (hd : (t || o) = true) :
    Calls Tryd.prog 52 #[.pointer (some ⟨r, 0, none⟩), .bool big] w (RetTn w r (.slice none 0 0) o) := by
  have HP := Lib.hid (packed_dead' r xs t o w h hd)
  clear h hd
  go_enter Tryd.func52, Tryd.ntmps52
  go_wp2_with (first
    | (go_at_call 53; go_must (refine HP.out.mono ?_); rintro e w1 ⟨rfl, ⟨q, hs1⟩, hf1⟩; have c1 := hs1.c1))
  go_ret
  exact ⟨rfl, ⟨q, hs1⟩, hf1⟩
end Go.Proofs.YtgkccbfepjgjoaaDoor
