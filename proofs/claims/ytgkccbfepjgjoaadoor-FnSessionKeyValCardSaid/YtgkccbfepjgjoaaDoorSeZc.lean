/- A session writes the compressed number 0. -/
import Derived.Test.YtgkccbfepjgjoaaDoorSeZb
namespace Go.Proofs.YtgkccbfepjgjoaaDoor
open Go Go.RowKit

set_option maxRecDepth 100000 in
set_option maxHeartbeats 4000000 in
theorem trim0 (g : Nat) (w : World) (h : OwnAt w g 8 (List.replicate 8 0)) :
    Calls Tryd.prog 77 #[.slice (some ⟨g, 0, none⟩) 8 8] w fun e w' => e = .returned (.slice (some ⟨g, 7, none⟩) 0 0) ∧ w = w' := by
  have hz : ∀ j, j < 8 → w.cell? ⟨g, j, none⟩ = some (.int .u8 0) := fun j hj => by
    rw [h.cell j (by simpa using hj), List.getD_eq_getElem?_getD, List.getElem?_replicate, if_pos hj]
    rfl
  have HZ := Lib.hid hz
  clear h hz
  go_enter Tryd.func77, Tryd.ntmps77
  go_wp2
  go_loopw [0] (fun v wr => ∃ j : Nat, j ≤ 8 ∧ v = .slice (some ⟨g, min j 7, none⟩) (8 - j) (8 - j) ∧ w = wr) (fun v _ => match v with | .slice _ n _ => n | _ => 0)
  case atStart => exact ⟨0, Nat.zero_le _, rfl, rfl⟩
  case round =>
    obtain ⟨j, hj, rfl, rfl⟩ := hrel
    by_cases e : j < 8
    · have hmin : min j 7 = j := by omega
      rw [hmin]
      have hc := HZ.out j e
      have hsl := fun W => run_cut1 (P := Tryd.prog) Go.Proofs.YtgkccbfepjgjoaaDoor.u8 g j (8 - j) (8 - j) 1 1 rfl (by omega) W
      have hco : cutOff j (8 - j) 1 = min (j + 1) 7 := by unfold cutOff; split <;> omega
      rw [hco, show 8 - j - 1 = 8 - (j + 1) by omega] at hsl
      have i1 : (0 : Int) < ((8 - j : Nat) : Int) := by omega
      have i2 : 0 < 8 - j := by omega
      have i3 : 1 ≤ 8 - j := by omega
      obtain ⟨N, hN⟩ : ∃ N, 8 - j = N := ⟨_, rfl⟩
      obtain ⟨q, hq⟩ : ∃ q, min (j + 1) 7 = q := ⟨_, rfl⟩
      obtain ⟨M, hM⟩ : ∃ M, 8 - (j + 1) = M := ⟨_, rfl⟩
      rw [hN, hq, hM] at hsl
      rw [hN] at i1 i2 i3 ⊢
      have HNN := Lib.hid hN
      have HQ := Lib.hid hq
      have HM := Lib.hid hM
      clear hN hq hM hco hmin
      go_wp2
      go_roundw
      case rel => exact ⟨j + 1, by omega, by rw [HQ.out, HM.out]; exact ⟨rfl, trivial⟩⟩
      case measure => have := HNN.out; have := HM.out; simp; omega
    · obtain rfl : j = 8 := by omega
      go_wp2
      go_ret
      exact ⟨rfl, rfl⟩

set_option maxRecDepth 100000 in
set_option maxHeartbeats 4000000 in
theorem putInt_zero_u8 (s : Nat) (big : Bool) (ch : Int) (xs : List Int) (w : World) (hS : Sw w s big ch xs) (hlim : xs.length ≤ 10000000000) :
    Calls Tryd.prog 42 #[.pointer (some ⟨s, 0, none⟩), .iface 5 (.int .u8 0), .int .u8 4, .bool true, .bool true] w (RetP w s big ch (xs ++ [0])) := by
  have hsl := hS.lt
  have HB := fun w3 (hg : Gr w w3) => Lib.hid (writeByte_sw s big ch xs 0 w3 (hS.gr hg) (by omega) (by omega))
  have HP := fun w2 g l h hx => Lib.hid (putBE8 w2 g l 0 (by omega) h hx)
  have HT := fun w3 g h => Lib.hid (trim0 g w3 h)
  have hrow : numB true 8 0 = List.replicate 8 0 := by rfl
  have HRW := Lib.hid hrow
  have y0 := fun w => ta_no (t := 5) (xT := 20) (.int .u8 0) w Tryd.underlying2 (by kernel_rfl) (by decide)
  have y1 := fun w => ta_no (t := 5) (xT := 20) (.int .u8 0) w Tryd.underlying21 (by kernel_rfl) (by decide)
  have y2 := fun w => ta_no (t := 5) (xT := 20) (.int .u8 0) w Tryd.underlying121 (by kernel_rfl) (by decide)
  have y3 := fun w => ta_no (t := 5) (xT := 20) (.int .u8 0) w Tryd.underlying76 (by kernel_rfl) (by decide)
  have y4 := fun w => ta_no (t := 5) (xT := 20) (.int .u8 0) w Tryd.underlying36 (by kernel_rfl) (by decide)
  have y5 := fun w => ta_no (t := 5) (xT := 20) (.int .u8 0) w Tryd.underlying122 (by kernel_rfl) (by decide)
  have y6 := fun w => ta_no (t := 5) (xT := 20) (.int .u8 0) w Tryd.underlying123 (by kernel_rfl) (by decide)
  have y7 := fun w => ta_yes (xT := 20) (.int .u8 0) w Tryd.underlying5
  clear hS hrow
  go_enter Tryd.func42, Tryd.ntmps42
  go_wp2_with (first
    | (at_make; go_must (refine wpList_make_gr Go.Proofs.YtgkccbfepjgjoaaDoor.u8 rfl _ _ rfl (Gr.refl w) .i64 .i64 8 8 8 rfl rfl rfl rfl (by omega) _ rfl ?_); intro w2 ho2 hg2 _ _)
    | (go_at_call 76; go_must (refine (HP w2 _ _ ho2 rfl).out.mono ?_); rintro e w3 ⟨rfl, ho3, hg3⟩; rw [HRW.out] at ho3; have hg3 := hg3 w hg2 (Nat.le_refl _))
    | (go_at_call 77; go_must (refine (HT w3 _ ho3).out.mono ?_); rintro e w4 ⟨rfl, h34⟩; cases h34)
    | (go_at_call 75; go_must (refine (HB w3 hg3).out.mono ?_); rintro e w5 ⟨rfl, h5, hx5⟩))
  go_end0
  exact ⟨rfl, h5, ((Wx.refl s w).gr hg3 hsl).trans hx5⟩
end Go.Proofs.YtgkccbfepjgjoaaDoor
