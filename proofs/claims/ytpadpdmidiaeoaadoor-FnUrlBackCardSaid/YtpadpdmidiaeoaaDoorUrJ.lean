/- FnUrlBack: the walk of the law. -/
import Derived.Test.YtpadpdmidiaeoaaDoorUrI
import Derived.Laws.Runes
namespace Go.Proofs.YtpadpdmidiaeoaaDoor
open Go Go.RowKit

theorem itoa_no47 (n : Int) : ∀ c ∈ Lib.itoa n, c ≠ 47 := by
  have hd : ∀ u : Nat, ∀ c ∈ Lib.decDigits u, c ≠ 47 := by
    intro u
    induction u using Nat.strongRecOn with
    | ind u ih =>
      intro c hc
      rw [Lib.decDigits] at hc
      split at hc
      · rename_i h
        simp only [List.mem_singleton] at hc
        subst hc
        rcases (by omega : u = 0 ∨ u = 1 ∨ u = 2 ∨ u = 3 ∨ u = 4 ∨ u = 5 ∨ u = 6 ∨ u = 7 ∨ u = 8 ∨ u = 9) with rfl | rfl | rfl | rfl | rfl | rfl | rfl | rfl | rfl | rfl <;> decide
      · rename_i h
        rcases List.mem_append.1 hc with hc | hc
        · exact ih (u / 10) (by omega) c hc
        · simp only [List.mem_singleton] at hc
          subst hc
          generalize hr : u % 10 = r
          have : r < 10 := by omega
          rcases (by omega : r = 0 ∨ r = 1 ∨ r = 2 ∨ r = 3 ∨ r = 4 ∨ r = 5 ∨ r = 6 ∨ r = 7 ∨ r = 8 ∨ r = 9) with rfl | rfl | rfl | rfl | rfl | rfl | rfl | rfl | rfl | rfl <;> decide
  intro c hc
  unfold Lib.itoa at hc
  split at hc
  · rcases List.mem_cons.1 hc with rfl | hc
    · decide
    · exact hd _ c hc
  · exact hd _ c hc
theorem host_plain (L : List UInt8) (h : hostOk L = true) : hostL L = L ∧ (47 : UInt8) ∉ L ∧ L.length ≤ 100 := by
  unfold hostOk at h
  rw [Bool.and_eq_true, List.all_eq_true, decide_eq_true_eq] at h
  obtain ⟨h1, h2, h3⟩ := h
  refine ⟨?_, fun hm => ?_, h3⟩
  · unfold hostL
    rw [if_neg]
    have e := firstIdx_nonneg (bs L) 58
    have e2 : (bs L).data.toList.any (· == 58) = false := by
      rw [← Bool.not_eq_true, List.any_eq_true]
      rintro ⟨x, hx, he⟩
      have hx : x ∈ L := by simpa [bs] using hx
      have he : x = 58 := by simpa using he
      have := h1 x hx
      rw [he] at this
      revert this; decide
    rw [e2, decide_eq_false_iff_not] at e
    exact e
  · have := h1 _ hm
    revert this; decide

theorem strAt3 (A B C : ByteArray) (w : World) (T : TypeId) (H : Nat) (hH : H = w.heap.size) : StrAt (w.alloc (.cells #[.string A, .string B, .string C] T)) H [A, B, C] := by
  intro j hj
  have hj : j < 3 := hj
  rcases (by omega : j = 0 ∨ j = 1 ∨ j = 2) with rfl | rfl | rfl
  · exact (blk_cell (heap_new_at w _ hH) 0).trans rfl
  · exact (blk_cell (heap_new_at w _ hH) 1).trans rfl
  · exact (blk_cell (heap_new_at w _ hH) 2).trans rfl

/-- One of the texts is too long for any machine. -/
theorem back_unfit (SV SE US PW : ByteArray) (n : Int) (w : World) (h : ¬ (SV.size ≤ 2147483647 ∧ SE.size ≤ 2147483647 ∧ US.size ≤ 2147483647 ∧ PW.size ≤ 2147483647)) :
    Calls Tryd.prog 4 #[.string SV, .int .u16 n, .string SE, .string US, .string PW] w fun e w' => e = .returned (.bool true) ∧ Gr w w' := by
  obtain ⟨a, ha⟩ : ∃ a, SV.size = a := ⟨_, rfl⟩
  obtain ⟨b, hb⟩ : ∃ a, SE.size = a := ⟨_, rfl⟩
  obtain ⟨c, hc⟩ : ∃ a, US.size = a := ⟨_, rfl⟩
  obtain ⟨d, hd⟩ : ∃ a, PW.size = a := ⟨_, rfl⟩
  rw [ha, hb, hc, hd] at h
  have h4 : 2147483647 < (a : Int) ∨ (¬ 2147483647 < (a : Int) ∧ 2147483647 < (b : Int)) ∨ (¬ 2147483647 < (a : Int) ∧ ¬ 2147483647 < (b : Int) ∧ 2147483647 < (c : Int)) ∨ (¬ 2147483647 < (a : Int) ∧ ¬ 2147483647 < (b : Int) ∧ ¬ 2147483647 < (c : Int) ∧ 2147483647 < (d : Int)) := by omega
  clear h
  rcases h4 with h1 | ⟨h1, h2⟩ | ⟨h1, h2, h3⟩ | ⟨h1, h2, h3, h4⟩
  all_goals
    go_enter Tryd.func4, Tryd.ntmps4
    go_wp2
    go_ret
    exact ⟨rfl, Gr.refl w⟩

/-- What the law looks at of a text: no colon, no at sign. -/
def plainOk (T : List UInt8) : Bool := T.all fun b => b != 58 && b != 64
end Go.Proofs.YtpadpdmidiaeoaaDoor
