/- A session's zzTrimZeros, at eight bytes of which the first ones are 0. -/
import Derived.Test.YtgkccbfepjgjoaaDoorSeX
namespace Go.Proofs.YtgkccbfepjgjoaaDoor
open Go Go.RowKit

/-- Zeros ahead, then other bytes: in a row of eight. -/
def row8 (k : Nat) (l : List Int) : List Int := List.replicate k 0 ++ l
set_option maxRecDepth 100000 in
set_option maxHeartbeats 4000000 in
theorem trim8 (g k : Nat) (x : Int) (t : List Int) (w : World) (h : OwnAt w g 8 (row8 k (x :: t))) (hx : x ≠ 0) (hk : k + t.length = 7) :
    Calls Tryd.prog 77 #[.slice (some ⟨g, 0, none⟩) 8 8] w fun e w' => e = .returned (.slice (some ⟨g, k, none⟩) (8 - k) (8 - k)) ∧ w = w' := by
  have hlen : (row8 k (x :: t)).length = 8 := by simp [row8]; omega
  have hz : ∀ j, j < k → w.cell? ⟨g, j, none⟩ = some (.int .u8 0) := fun j hj => by
    rw [h.cell j (by omega)]
    simp [row8, List.getD_eq_getElem?_getD, List.getElem?_append_left, hj]
  have hxc : w.cell? ⟨g, k, none⟩ = some (.int .u8 x) := by
    rw [h.cell k (by omega)]
    simp [row8, List.getD_eq_getElem?_getD]
  have hx2 : (x == 0) = false := beq_eq_false_iff_ne.2 hx
  have HZ := Lib.hid hz
  have HX := Lib.hid hxc
  clear h hz hxc hx hlen
  go_enter Tryd.func77, Tryd.ntmps77
  go_wp2
  go_loopw [0] (fun v wr => ∃ j : Nat, j ≤ k ∧ v = .slice (some ⟨g, j, none⟩) (8 - j) (8 - j) ∧ w = wr) (fun v _ => match v with | .slice _ n _ => n | _ => 0)
  case atStart => exact ⟨0, Nat.zero_le _, rfl, rfl⟩
  case round =>
    obtain ⟨j, hj, rfl, rfl⟩ := hrel
    by_cases e : j < k
    · have hc := HZ.out j e
      have hsl := fun W => run_cut1 (P := Tryd.prog) Go.Proofs.YtgkccbfepjgjoaaDoor.u8 g j (8 - j) (8 - j) 1 1 rfl (by omega) W
      have hco : cutOff j (8 - j) 1 = j + 1 := by unfold cutOff; rw [if_neg (by omega)]
      rw [hco, show 8 - j - 1 = 8 - (j + 1) by omega] at hsl
      have i1 : (0 : Int) < ((8 - j : Nat) : Int) := by omega
      have i2 : 0 < 8 - j := by omega
      have i3 : 1 ≤ 8 - j := by omega
      obtain ⟨N, hN⟩ : ∃ N, 8 - j = N := ⟨_, rfl⟩
      rw [hN] at hsl i1 i2 i3 ⊢
      have HNN := Lib.hid hN
      clear hN hco
      go_wp2
      go_roundw
      case rel => exact ⟨j + 1, by omega, by rw [show 8 - (j + 1) = 7 - j by omega]; exact ⟨rfl, trivial⟩⟩
      case measure => have := HNN.out; simp; omega
    · obtain rfl : j = k := by omega
      have hc := HX.out
      have i1 : (0 : Int) < ((8 - j : Nat) : Int) := by omega
      have i2 : 0 < 8 - j := by omega
      obtain ⟨N, hN⟩ : ∃ N, 8 - j = N := ⟨_, rfl⟩
      rw [hN] at i1 i2 ⊢
      have HNN := Lib.hid hN
      clear hN
      go_wp2
      go_ret
      rw [HNN.out]
      exact ⟨rfl, rfl⟩
end Go.Proofs.YtgkccbfepjgjoaaDoor
