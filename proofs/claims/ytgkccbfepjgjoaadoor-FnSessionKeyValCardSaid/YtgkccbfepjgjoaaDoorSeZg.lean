/- What a key's and a value's bytes are read as. -/
import Derived.Test.YtgkccbfepjgjoaaDoorSeZf
namespace Go.Proofs.YtgkccbfepjgjoaaDoor
open Go Go.RowKit

theorem chunks_flat (c : Nat) (hc : 1 ≤ c) : ∀ (f : Nat) (l : List Int), l.length ≤ f → (chunks c f l).flatten = l
  | 0, l, h => by
    obtain rfl : l = [] := List.eq_nil_of_length_eq_zero (by omega)
    rfl
  | f + 1, l, h => by
    unfold chunks
    by_cases e : l = []
    · subst e; simp
    · have hl : 0 < l.length := List.length_pos_iff.2 e
      rw [if_neg e, List.flatten_cons, chunks_flat c hc f (l.drop c) (by rw [List.length_drop]; omega), List.take_append_drop]
theorem chunks_len (c : Nat) (hc : 1 ≤ c) (hc2 : c ≤ 255) : ∀ (f : Nat) (l : List Int), ∀ x ∈ chunks c f l, 1 ≤ x.length ∧ x.length ≤ 255
  | 0, l => by simp [chunks]
  | f + 1, l => by
    unfold chunks
    by_cases e : l = []
    · rw [if_pos e]; simp
    · have hl : 0 < l.length := List.length_pos_iff.2 e
      rw [if_neg e]
      intro x hx
      rcases List.mem_cons.1 hx with rfl | hx
      · rw [List.length_take]; omega
      · exact chunks_len c hc hc2 f _ x hx
/-- A CLR is read as its bytes. -/
theorem clr_back (big : Bool) (c : Nat) (hc : 1 ≤ c) (hc2 : c ≤ 252) (l more : List Int) : Clr big (clrB big c l ++ more) (some (l, more)) := by
  unfold clrB
  split
  · rename_i h
    by_cases h0 : l.length = 0
    · obtain rfl : l = [] := List.eq_nil_of_length_eq_zero h0
      exact Clr.null (.inl rfl)
    · have := Clr.one (big := big) (t := l ++ more) (n := l.length) (by omega) h (by simp)
      simpa using this
  · have h1 := parts_all big more (chunks c l.length l) (chunks_len c hc (by omega) _ _)
    rw [chunks_flat c hc _ _ (Nat.le_refl _)] at h1
    have := Clr.parts h1
    simpa using this
theorem pk_back (u : Nat) (hu : u < 65536) (more : List Int) : PkShort (pkB u ++ more) ∧ rdPk (pkB u ++ more) = some ((u : Int), more) := by
  unfold pkB
  split
  · rename_i h; subst h
    exact ⟨by show (0 : Int) % 128 ≤ 8; decide, by simp [rdPk, pkV]⟩
  · split
    · have hw : wrap64 (u : Int) = u := by unfold wrap64; omega
      exact ⟨by show (1 : Int) % 128 ≤ 8; decide, by simp [rdPk, pkV, numV, Lib.beZ, Lib.beFromZ, hw]⟩
    · refine ⟨by show (2 : Int) % 128 ≤ 8; decide, ?_⟩
      have hw : wrap64 ((u : Int) / 256 * 256 + (u : Int) % 256) = u := by unfold wrap64; omega
      simp [rdPk, pkV, numV, Lib.beZ, Lib.beFromZ]
      first | exact hw | (rw [← hw]; congr 1; omega) | (unfold wrap64; omega)
theorem dlc_back (big : Bool) (c : Nat) (hc : 1 ≤ c) (hc2 : c ≤ 252) (l more : List Int) (hl : l.length ≤ 10000) : Dlc big (dlcB big c l ++ more) (some (l, more)) := by
  unfold dlcB
  by_cases h : l = []
  · subst h
    rw [if_pos rfl]
    exact Dlc.null (by show (0 : Int) % 128 ≤ 8; decide) (by simp [rdPk, pkV])
  · rw [if_neg h, List.append_assoc]
    have h0 : 0 < l.length := List.length_pos_iff.2 h
    obtain ⟨h1, h2⟩ := pk_back l.length (by omega) (clrB big c l ++ more)
    have := Dlc.some h1 h2 h0 (clr_back big c hc hc2 l more)
    simpa using this
end Go.Proofs.YtgkccbfepjgjoaaDoor
