/- NumberOfInt64, NumberSame, and the laws' fixed example. -/
import Derived.Test.YtoachnjapfakdaaGreatDoorNmE
import Derived.Shelf.Bytes.SlEqualAll
namespace Go.Proofs.YtoachnjapfakdaaGreatDoor
open Go Go.RowKit

theorem Rd.conv {w : World} {v : Value} {xs : List Int} (h : Rd w v xs) : (convert 22 9 v).run Tryz.prog w = .ok (.string ⟨(Lib.bytesOf xs).toArray⟩) w := by
  obtain ⟨p, c, rfl, _, _, _, hb, _⟩ := h
  exact hb.convert rfl c 22 5 9 Tryz.underlying22 Tryz.underlying5 Tryz.underlying9

theorem same (v u : Value) (xs ys : List Int) (w : World) (hx : Rd w v xs) (hy : Rd w u ys) :
    Calls Tryz.prog 5 #[v, u] w fun e w' => e = .returned (.bool (decide (xs = ys))) ∧ w' = w := by
  have h1 := hx.conv
  have h2 := hy.conv
  have hb := bytesOf_eq hx.byt hy.byt
  have t1 : (⟨(Lib.bytesOf xs).toArray⟩ : ByteArray).toList = Lib.bytesOf xs := by simp
  have t2 : (⟨(Lib.bytesOf ys).toArray⟩ : ByteArray).toList = Lib.bytesOf ys := by simp
  generalize (⟨(Lib.bytesOf xs).toArray⟩ : ByteArray) = X at *
  generalize (⟨(Lib.bytesOf ys).toArray⟩ : ByteArray) = Y at *
  rw [← t1, ← t2] at hb
  have HXY := Lib.hid hb
  clear hb hx hy t1 t2
  go_enter Tryz.func5, Tryz.ntmps5
  go_wp2
  go_ret
  refine ⟨?_, rfl⟩
  show Ending.returned (.bool (X.toList == Y.toList)) = _
  rw [HXY.out]

theorem numberOf_pos (u : Nat) (hu : u ≤ 9223372036854775807) (w : World) (ht : Tab10 w) :
    Calls Tryz.prog 18 #[.int .i64 u] w fun e' w' => ∃ v, e' = .returned v ∧ Own w.heap.size w' v (intForm false u) ∧ Gr w w' := by
  have H := Lib.hid (encode_pos u hu w ht)
  go_enter Tryz.func18, Tryz.ntmps18
  go_wp2_with (first | (go_at_call 30; refine H.out.mono ?_; rintro e w1 ⟨v, rfl, ho, hg⟩))
  go_ret
  exact ⟨_, rfl, ho, hg⟩
theorem numberOf_neg (u : Nat) (hu : 1 ≤ u ∧ u ≤ 9223372036854775808) (w : World) (ht : Tab10 w) :
    Calls Tryz.prog 18 #[.int .i64 (-(u : Int))] w fun e' w' => ∃ v, e' = .returned v ∧ Own w.heap.size w' v (intForm true u) ∧ Gr w w' := by
  have H := Lib.hid (encode_neg u hu w ht)
  go_enter Tryz.func18, Tryz.ntmps18
  go_wp2_with (first | (go_at_call 30; refine H.out.mono ?_; rintro e w1 ⟨v, rfl, ho, hg⟩))
  go_ret
  exact ⟨_, rfl, ho, hg⟩

theorem form123 : intForm false 123 = [194, 2, 24] := by
  have e : letters 123 = [49, 50, 51] := by
    rw [letters_ge (by omega), letters_ge (by omega), letters_lt (by omega)]
    rfl
  unfold intForm
  rw [e]
  decide

end Go.Proofs.YtoachnjapfakdaaGreatDoor
