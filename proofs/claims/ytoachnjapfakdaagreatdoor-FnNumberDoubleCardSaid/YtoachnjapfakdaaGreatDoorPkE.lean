/- Contracts of bytes.Clone and bytes.Equal in this seat's words. -/
import Derived.Test.YtoachnjapfakdaaGreatDoorBase
import Derived.Test.YtoachnjapfakdaaGreatDoorProg
import Derived.Test.YtoachnjapfakdaaGreatDoorShelf
namespace Go.Proofs.YtoachnjapfakdaaGreatDoor
open Go Go.RowKit

theorem bytesOf_eq {xs ys : List Int} (hx : Byt xs) (hy : Byt ys) : (Lib.bytesOf xs == Lib.bytesOf ys) = decide (xs = ys) := by
  by_cases h : xs = ys
  · subst h; simp
  · rw [decide_eq_false h]
    rw [beq_eq_false_iff_ne]
    intro e
    apply h
    have key : ∀ (l : List Int), Byt l → (Lib.bytesOf l).map (fun u => (u.toNat : Int)) = l := by
      intro l hl
      induction l with
      | nil => rfl
      | cons a t ih =>
        have := ih (fun x hx => hl x (by simp [hx]))
        have ha := hl a (by simp)
        simp only [Lib.bytesOf, List.map_cons] at this ⊢
        rw [this]
        congr 1
        simp
        omega
    rw [← key xs hx, ← key ys hy, e]

/-- bytes.Clone. -/
theorem clone (v : Value) (xs : List Int) (w : World) (h : Rd w v xs) (hl : xs.length ≤ 140737488355328) :
    Calls Tryz.prog 17 #[v] w fun e w' => ∃ u, e = .returned u ∧ Own w.heap.size w' u xs ∧ Gr w w' := by
  obtain ⟨p, c, rfl, _, _, hn, hb, hbx⟩ := h
  cases p with
  | none =>
    have : xs = [] := by
      rcases Nat.eq_zero_or_pos xs.length with h | h
      · exact List.eq_nil_of_length_eq_zero h
      · obtain ⟨_, _, e, _⟩ := hb h; cases e
    subst this
    refine (Tryz.bytes_Clone_nil _ _ w).mono fun e w' => ?_
    rintro ⟨rfl, rfl⟩
    exact ⟨_, rfl, Own.nil _ _, Gr.refl _⟩
  | some a =>
    refine (Tryz.bytes_Clone_at a _ c xs w rfl hl (fun i hi => ?_)).mono fun e w' => ?_
    · obtain ⟨b, o, e, hc⟩ := hb (by omega)
      injection e with e
      subst e
      rw [Lib.addr_add]
      exact hc i hi
    · rintro ⟨u, rfl, h1, _, h3⟩
      exact ⟨u, rfl, ⟨h1, hbx⟩, h3⟩
end Go.Proofs.YtoachnjapfakdaaGreatDoor
