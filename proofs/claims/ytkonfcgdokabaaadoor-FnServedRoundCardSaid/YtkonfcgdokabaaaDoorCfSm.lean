/- FnServedRound in plain words: what its steps give. -/
import Derived.Test.YtkonfcgdokabaaaDoorCfSl
namespace Go.Proofs.YtkonfcgdokabaaaDoor
open Go Go.RowKit

theorem gots_adds (l : List Srv) : ∀ (S : List Srv) (ix : Nat), Inf.gots ⟨S, ix⟩ (l.map (Stp.mk 0)) = List.replicate l.length none := by
  induction l with
  | nil => intro S ix; rfl
  | cons s l ih =>
    intro S ix
    simp only [List.map_cons, List.length_cons, List.replicate_succ]
    exact congrArg (none :: ·) (ih (addS S s) ix)
theorem all_jumps (m : Nat) : ∀ (S : List Srv) (ix : Nat), Inf.all ⟨S, ix⟩ (List.replicate m ⟨2, noSrv⟩) = ⟨S, ix + m⟩ := by
  induction m with
  | zero => intro S ix; rfl
  | succ m ih =>
    intro S ix
    rw [List.replicate_succ]
    refine (ih S (ix + 1)).trans ?_
    rw [show ix + 1 + m = ix + (m + 1) by omega]
theorem gots_jumps (m : Nat) : ∀ (S : List Srv) (ix i : Nat), i < m → (Inf.gots ⟨S, ix⟩ (List.replicate m ⟨2, noSrv⟩))[i]? = some (S[ix + 1 + i]?) := by
  induction m with
  | zero => intro S ix i hi; omega
  | succ m ih =>
    intro S ix i hi
    rw [List.replicate_succ]
    cases i with
    | zero => rfl
    | succ i =>
      have h := ih S (ix + 1) i (by omega)
      rw [show ix + 1 + (i + 1) = ix + 1 + 1 + i by omega, ← h]
      rfl
/-- The steps of the law. -/
def roundS (l : List Srv) (m : Nat) : List Stp := l.map (Stp.mk 0) ++ (⟨1, noSrv⟩ :: (List.replicate m ⟨2, noSrv⟩ ++ [⟨3, noSrv⟩, ⟨1, noSrv⟩]))
theorem roundS_len (l : List Srv) (m : Nat) : (roundS l m).length = l.length + m + 3 := by
  simp [roundS]
  omega
theorem round_gots (l : List Srv) (m : Nat) : Inf.gots ⟨[], 0⟩ (roundS l m) = List.replicate l.length none ++ ((addL [] l)[0]? :: (Inf.gots ⟨addL [] l, 0⟩ (List.replicate m ⟨2, noSrv⟩) ++ [none, (addL [] l)[0]?])) := by
  unfold roundS
  rw [Inf.gots_append, gots_adds, all_adds]
  congr 1
  show _ :: Inf.gots ⟨addL [] l, 0⟩ _ = _
  rw [Inf.gots_append, all_jumps]
  rfl
theorem round_all (l : List Srv) (m : Nat) : (Inf.all ⟨[], 0⟩ (roundS l m)).S = addL [] l := by
  unfold roundS
  rw [Inf.all_append, all_adds]
  show (Inf.all ⟨addL [] l, 0⟩ (List.replicate m ⟨2, noSrv⟩ ++ [⟨3, noSrv⟩, ⟨1, noSrv⟩])).S = _
  rw [Inf.all_append, all_jumps]
  rfl
theorem round_got (l : List Srv) (m i : Nat) (hi : i ≤ m) : (Inf.gots ⟨[], 0⟩ (roundS l m))[l.length + i]? = some ((addL [] l)[i]?) := by
  rw [round_gots, List.getElem?_append_right (by simp)]
  simp only [List.length_replicate, Nat.add_sub_cancel_left]
  cases i with
  | zero => rfl
  | succ i =>
    rw [List.getElem?_cons_succ, List.getElem?_append_left (by rw [Inf.gots_len]; simp; omega), gots_jumps m _ _ _ (by omega)]
    rw [show 0 + 1 + i = i + 1 by omega]
theorem round_last (l : List Srv) (m : Nat) : (Inf.gots ⟨[], 0⟩ (roundS l m))[l.length + m + 2]? = some ((addL [] l)[0]?) := by
  rw [round_gots, List.getElem?_append_right (by simp; omega)]
  simp only [List.length_replicate]
  rw [show l.length + m + 2 - l.length = (m + 1) + 1 by omega, List.getElem?_cons_succ, List.getElem?_append_right (by rw [Inf.gots_len]; simp)]
  rw [Inf.gots_len]
  simp
theorem round_kinds (l : List Srv) (m : Nat) (hl : ∀ s ∈ l, s.good = true) : ∀ x ∈ roundS l m, (x.k = 0 ∧ x.s.good = true) ∨ x.k = 1 ∨ x.k = 2 ∨ x.k = 3 := by
  intro x hx
  simp only [roundS, List.mem_append, List.mem_cons, List.mem_map, List.mem_replicate, List.not_mem_nil, or_false] at hx
  rcases hx with ⟨s, hs, rfl⟩ | rfl | ⟨_, rfl⟩ | rfl | rfl
  · exact .inl ⟨rfl, hl s hs⟩
  · exact .inr (.inl rfl)
  · exact .inr (.inr (.inl rfl))
  · exact .inr (.inr (.inr rfl))
  · exact .inr (.inl rfl)
/-- A round of the law's first loop. -/
theorem addL_next (l : List Srv) (j : Nat) (hj : j < l.length) :
    addL [] (l.take (j + 1)) = if ((addL [] (l.take j)).any fun x => srvSame x l[j]) = true then addL [] (l.take j) else addL [] (l.take j) ++ [l[j]] := by
  have e : addL [] (l.take (j + 1)) = addS (addL [] (l.take j)) l[j] := by rw [List.take_succ_eq_append_getElem hj, addL_append]; rfl
  rw [e]
  unfold addS
  have h : (fun x => srvSame x l[j]) = srvSame l[j] := by funext x; exact srvSame_symm _ _
  rw [h]
theorem addL_good (l : List Srv) : ∀ S, (∀ s ∈ S, s.good = true) → (∀ s ∈ l, s.good = true) → ∀ s ∈ addL S l, s.good = true := by
  induction l with
  | nil => intro S h _; exact h
  | cons x l ih =>
    intro S h1 h2
    refine ih _ (fun s hs => ?_) (fun y hy => h2 y (List.mem_cons_of_mem _ hy))
    unfold addS at hs
    split at hs
    · exact h1 s hs
    · rcases List.mem_append.1 hs with hs | hs
      · exact h1 s hs
      · simp only [List.mem_singleton] at hs
        subst hs
        exact h2 s (List.mem_cons_self ..)
end Go.Proofs.YtkonfcgdokabaaaDoor
