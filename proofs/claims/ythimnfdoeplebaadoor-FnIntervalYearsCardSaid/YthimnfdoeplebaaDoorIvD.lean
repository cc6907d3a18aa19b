/- The law FnIntervalYears: the walk. -/
import Derived.Test.YthimnfdoeplebaaDoorIvC
namespace Go.Proofs.YthimnfdoeplebaaDoor
open Go Go.RowKit

/-- The text of an interval of years. -/
def yt (y m : Nat) : List UInt8 := 43 :: (pad 2 (Lib.decDigits y) ++ 45 :: pad 2 (Lib.decDigits m))

theorem yb_byt (x m : Int) (hx : 0 ≤ x ∧ x < 4294967296) (hm : 0 ≤ m ∧ m < 100) : Byt (yb x m) := by
  intro z hz; simp [yb] at hz; omega
theorem yb_nat4 (x m : Int) (hx : 0 ≤ x ∧ x < 4294967296) : nat4 (yb x m) = x := by
  simp [yb, nat4]; omega

set_option maxRecDepth 100000 in
set_option maxHeartbeats 1000000 in
theorem convYM (y m : Nat) (hy : y < 1000000000) (hm : m < 12) (v : Value) (w : World) (h : Rd w v (yb (y + 2147483648) m)) (ht : Tab10 w) :
    Calls Tryd.prog 46 #[v] w fun e w' => e = .returned (.string (bs (yt y m))) ∧ Gr w w' := by
  obtain ⟨b, o, c, rfl, hc, hcm, hr⟩ := h.at' (by simp [yb])
  have hg := get32 w b o 5 c _ (hr) (by omega) (by simp [yb])
  rw [yb_nat4 _ _ (by omega)] at hg
  have k4 := hr.cell 4 (by simp [yb])
  rw [show (yb ((y : Int) + 2147483648) m).getD 4 0 = (m : Int) + 60 from rfl] at k4
  have hlen : (yb ((y : Int) + 2147483648) m).length = 5 := rfl
  rw [hlen] at hc ⊢
  obtain ⟨X, hX⟩ : ∃ X : Int, (y : Int) + 2147483648 = X := ⟨_, rfl⟩
  obtain ⟨M, hM⟩ : ∃ M : Int, (m : Int) + 60 = M := ⟨_, rfl⟩
  rw [hX] at hg
  rw [hM] at k4
  have hx0 : IntKind.i64.wrap X = X := by rw [IntKind.wrap_i64]; omega
  have hx1 : IntKind.i64.wrap (X - 2147483648) = (y : Int) := by rw [IntKind.wrap_i64]; omega
  have hm1 : IntKind.u8.wrap (M - 60) = (m : Int) := by rw [IntKind.wrap_u8]; omega
  have hm2 : IntKind.i64.wrap (m : Int) = (m : Int) := by rw [IntKind.wrap_i64]; omega
  have p1 := fun w ht => Lib.hid (padded y (by omega) w ht)
  have p2 := fun w ht => Lib.hid (padded m (by omega) w ht)
  have s1 := pad_len y (by omega)
  have s2 := pad_len m (by omega)
  have z1 := bs_size (pad 2 (Lib.decDigits y))
  have z2 := bs_size (pad 2 (Lib.decDigits m))
  unfold yt
  generalize pad 2 (Lib.decDigits y) = Y at p1 s1 z1 ⊢
  generalize pad 2 (Lib.decDigits m) = N at p2 s2 z2 ⊢
  have hy0 : (0 : Int) ≤ (y : Int) := by omega
  have i4 : (4 : Int) < (5 : Int) := by omega
  have HG := Lib.hid hg
  clear hg hX hM hr h hcm hlen hc
  go_enter Tryd.func46, Tryd.ntmps46
  go_wp2_with (first
    | (go_at_call 65; go_must (refine HG.out.mono ?_); rintro e w1 ⟨rfl, hg1⟩; have k4 := hg1.cell k4; have ht1 := ht.gr hg1)
    | (go_at_call 66; refine (p1 w1 ht1).out.mono ?_; rintro e w2 ⟨rfl, hg2⟩; have ht2 := ht1.gr hg2; clear p1)
    | (go_at_call 66; go_must (refine (p2 w2 ht2).out.mono ?_); rintro e w3 ⟨rfl, hg3⟩))
  go_ret
  refine ⟨?_, (hg1.trans hg2).trans hg3⟩
  show Ending.returned (.string (bs [43] ++ bs Y ++ bs [45] ++ bs N)) = _
  rw [bs_append, bs_append, bs_append]
  simp

theorem implYears (y m : Nat) (hy : y < 1000000000) (hm : m < 12) (v : Value) (w : World) (h : Rd w v (yb (y + 2147483648) m)) (ht : Tab10 w) :
    Calls Tryd.prog 14 #[v] w fun e w' => e = .returned (.string (bs (yt y m))) ∧ Gr w w' := by
  have HC := Lib.hid (clone v _ w h (by simp [yb]))
  have HY := fun v w h ht => Lib.hid (convYM y m hy hm v w h ht)
  obtain ⟨p, c, rfl, _⟩ := h
  have hlen : (yb ((y : Int) + 2147483648) m).length = 5 := rfl
  rw [hlen] at HC ⊢
  generalize bs (yt y m) = T at HY ⊢
  go_enter Tryd.func14, Tryd.ntmps14
  go_wp2_with (first
    | (go_at_call 35; go_must (refine HC.out.mono ?_); rintro e w1 ⟨u1, rfl, ho1, hg1⟩)
    | (go_at_call 46; go_must (refine (HY u1 w1 ho1.rd (ht.gr hg1)).out.mono ?_); rintro e w2 ⟨rfl, hg2⟩))
  go_ret
  exact ⟨rfl, hg1.trans hg2⟩

theorem live_text : bs (yt 3 4) = ⟨#[43, 48, 51, 45, 48, 52]⟩ := by
  unfold yt
  rw [decDigits_lt (by omega), decDigits_lt (by omega)]
  rfl

theorem live (w : World) (ht : Tab10 w) : Calls Tryd.prog 17 #[] w fun e w' => e = .returned (.bool true) ∧ Gr w w' := by
  have HY := fun v w h ht => Lib.hid (implYears 3 4 (by omega) (by omega) v w h ht)
  rw [live_text] at HY
  go_enter Tryd.func17, Tryd.ntmps17
  go_wp2_with (first
    | (go_at_call 14; go_must (refine (HY _ _ (Rd.lit w (yb ((3 : Nat) + 2147483648) (4 : Nat)) _ 5 (yb_byt _ _ (by omega) (by omega)) rfl rfl (by simp [maxLen]) rfl) (ht.gr ((Gr.refl w).alloc _))).out.mono ?_); rintro e w2 ⟨rfl, hg2⟩))
  go_ret
  exact ⟨by simp, Gr.trans ((Gr.refl w).alloc _) hg2⟩
end Go.Proofs.YthimnfdoeplebaaDoor
