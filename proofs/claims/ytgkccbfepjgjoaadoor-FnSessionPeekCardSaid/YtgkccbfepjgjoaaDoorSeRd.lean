/- The reference's reader: CLRs. -/
import Derived.Test.YtgkccbfepjgjoaaDoorSeRc
import Derived.Deep.LoopGhost
namespace Go.Proofs.YtgkccbfepjgjoaaDoor
open Go Go.RowKit

/-- What 'clr' gives. -/
def RetCl (big : Bool) (w : World) (r : Nat) (xs : List Int) (e : Ending) (w' : World) : Prop :=
  ∃ u l, e = .returned u ∧ Rd w' u l ∧ OffV r u ∧ (∀ s, s < w.heap.size → OffX w r s → OffV s u) ∧ l.length ≤ 2147483647 ∧ Fk r w w' ∧
    ((∃ q, Clr big xs (some (l, q)) ∧ Sx w' r q false false) ∨ (Clr big xs none ∧ ∃ q, Sx w' r q true false) ∨ (∃ q, Sx w' r q false true))
theorem offV_nil (r : Nat) : OffV r (.slice none 0 0) := fun a n c e => by cases e

theorem rclr_torn (r : Nat) (big : Bool) (w : World) (h : Sx w r [] false false) :
    Calls Tryd.prog 51 #[.pointer (some ⟨r, 0, none⟩), .bool big] w (RetCl big w r []) := by
  have HT := Lib.hid (take_no r [] 1 w h (by simp))
  clear h
  go_enter Tryd.func51, Tryd.ntmps51
  go_wp2_with (first
    | (go_at_call 50; go_must (refine HT.out.mono ?_); rintro e w1 ⟨rfl, ⟨q, hs1⟩, hf1⟩; have c1 := hs1.c1))
  go_ret
  exact ⟨_, [], rfl, Rd.nil _, offV_nil r, fun s _ _ => offV_nil s, by simp, hf1, .inr (.inl ⟨Clr.torn, q, hs1⟩)⟩

theorem take_one {r : Nat} {b : Int} {t : List Int} {w : World} (h : Sx w r (b :: t) false false) : Calls Tryd.prog 50 #[.pointer (some ⟨r, 0, none⟩), .int .i64 1] w (RetTk w r [b] t) := by
  have := take_ok r (b :: t) 1 w h (by simp)
  simpa using this
theorem rclr_null (r : Nat) (big : Bool) (b : Int) (t : List Int) (w : World) (h : Sx w r (b :: t) false false) (hb : b = 0 ∨ b = 255 ∨ b = 253) :
    Calls Tryd.prog 51 #[.pointer (some ⟨r, 0, none⟩), .bool big] w (RetCl big w r (b :: t)) := by
  have HT := Lib.hid (take_one h)
  have HC := Lib.hid (Clr.null (big := big) (t := t) hb)
  clear h
  rcases hb with rfl | rfl | rfl
  all_goals
    go_enter Tryd.func51, Tryd.ntmps51
    go_wp2_with (first
      | (go_at_call 50; go_must (refine HT.out.mono ?_); rintro e w1 ⟨u1, rfl, hr1, ho1, _, _, hs1, hf1⟩; have c1 := hs1.c1; have c2 := hs1.c2; obtain ⟨a, o, c, rfl, hc, hcm, k0⟩ := rd_one hr1))
    go_ret
    exact ⟨_, [], rfl, Rd.nil _, offV_nil r, fun s _ _ => offV_nil s, by simp, hf1, .inl ⟨t, HC.out, hs1⟩⟩

theorem rclr_one (r : Nat) (big : Bool) (n : Nat) (t : List Int) (w : World) (h : Sx w r ((n : Int) :: t) false false) (h1 : 1 ≤ n) (h2 : n ≤ 252) :
    Calls Tryd.prog 51 #[.pointer (some ⟨r, 0, none⟩), .bool big] w (RetCl big w r ((n : Int) :: t)) := by
  have HT := Lib.hid (take_one h)
  have i1 : ((n : Int) == 0) = false := beq_eq_false_iff_ne.2 (by omega)
  have i2 : ((n : Int) == 253) = false := beq_eq_false_iff_ne.2 (by omega)
  have i3 : ((n : Int) == 255) = false := beq_eq_false_iff_ne.2 (by omega)
  have i4 : ((n : Int) != 254) = true := by rw [bne_iff_ne]; omega
  have hw : IntKind.i64.wrap (n : Int) = n := IntWalk.i64_in _ (by omega)
  have hl : t.length ≤ 2147483647 := by obtain ⟨v, _, _, _, _, hl⟩ := h; simp only [List.length_cons] at hl; omega
  clear h
  by_cases hn : n ≤ t.length
  · have HN := fun w1 h => Lib.hid (take_ok r t n w1 h hn)
    have HC := Lib.hid (Clr.one (big := big) h1 h2 hn)
    have hlt : (t.take n).length ≤ 2147483647 := by rw [List.length_take]; omega
    go_enter Tryd.func51, Tryd.ntmps51
    go_wp2_with (first
      | (go_at_call 50; have _t := HT; go_must (refine HT.out.mono ?_); rintro e w1 ⟨u1, rfl, hr1, ho1, _, _, hs1, hf1⟩; clear HT _t; have c1 := hs1.c1; have c2 := hs1.c2; obtain ⟨a, o, c, rfl, hc, hcm, k0⟩ := rd_one hr1)
      | (go_at_call 50; go_must (refine (HN _ hs1).out.mono ?_); rintro e w2 ⟨u2, rfl, hr2, ho2, _, hx2, hs2, hf2⟩))
    go_ret
    exact ⟨_, _, rfl, hr2, ho2, fun s _ h => hx2 s (hf1.off s h), hlt, hf1.trans hf2, .inl ⟨_, HC.out, hs2⟩⟩
  · have HN := fun w1 h => Lib.hid (take_no r t n w1 h (by omega))
    have HC := Lib.hid (Clr.short (big := big) h1 h2 (show t.length < n by omega))
    go_enter Tryd.func51, Tryd.ntmps51
    go_wp2_with (first
      | (go_at_call 50; have _t := HT; go_must (refine HT.out.mono ?_); rintro e w1 ⟨u1, rfl, hr1, ho1, _, _, hs1, hf1⟩; clear HT _t; have c1 := hs1.c1; have c2 := hs1.c2; obtain ⟨a, o, c, rfl, hc, hcm, k0⟩ := rd_one hr1)
      | (go_at_call 50; go_must (refine (HN _ hs1).out.mono ?_); rintro e w2 ⟨rfl, ⟨q, hs2⟩, hf2⟩))
    go_ret
    exact ⟨_, [], rfl, Rd.nil _, offV_nil r, fun s _ _ => offV_nil s, by simp, hf1.trans hf2, .inr (.inl ⟨HC.out, q, hs2⟩)⟩

/-- The loop over the parts. -/
def CInv (big : Bool) (B r : Nat) (w : World) (t : List Int) (k : Nat) (ov : Value) (wr : World) : Prop :=
  Fk r w wr ∧ B ≤ wr.heap.size ∧ ((∃ acc rc, Own B wr ov acc ∧ Sx wr r rc false false ∧ (∀ s, B ≤ s → OffX wr r s) ∧ rc.length + 1 ≤ k ∧ acc.length + rc.length ≤ t.length ∧ ∀ o, Parts big rc o → Parts big t (o.map fun p => (acc ++ p.1, p.2))) ∨
    (k = 0 ∧ ∃ acc q, Own B wr ov acc ∧ acc.length ≤ t.length ∧ Sx wr r q true false ∧ Parts big t none))

theorem own_off {B r : Nat} {w : World} {v : Value} {xs : List Int} (h : Own B w v xs) (hr : r < B) : OffV r v := h.off hr
theorem grown_below {B : Nat} {w w' : World} {v : Value} {xs : List Int} (h : Own B w v xs) (g : w.grownBy w' v.ownBlock) (hB : B ≤ w.heap.size) : Below B w w' := Below.grown (Below.refl B w) g hB h.row
end Go.Proofs.YtgkccbfepjgjoaaDoor
