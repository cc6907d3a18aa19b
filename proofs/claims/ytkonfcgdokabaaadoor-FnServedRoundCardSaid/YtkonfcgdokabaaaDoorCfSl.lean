/- Servers that are added one after the other, in plain words. -/
import Derived.Test.YtkonfcgdokabaaaDoorCfSf
namespace Go.Proofs.YtkonfcgdokabaaaDoor
open Go Go.RowKit

def addL (S : List Srv) : List Srv → List Srv
  | [] => S
  | s :: l => addL (addS S s) l
theorem all_adds (l : List Srv) : ∀ (S : List Srv) (ix : Nat), Inf.all ⟨S, ix⟩ (l.map (Stp.mk 0)) = ⟨addL S l, ix⟩ := by
  induction l with
  | nil => intro S ix; rfl
  | cons s l ih => intro S ix; exact ih _ _
theorem addL_append (l m : List Srv) : ∀ S, addL S (l ++ m) = addL (addL S l) m := by
  induction l with
  | nil => intro S; rfl
  | cons s l ih => intro S; exact ih _
theorem addS_pre (S : List Srv) (s : Srv) : ∃ T, addS S s = S ++ T := by
  unfold addS
  split
  · exact ⟨[], by simp⟩
  · exact ⟨[s], rfl⟩
theorem addL_pre (l : List Srv) : ∀ S, ∃ T, addL S l = S ++ T := by
  induction l with
  | nil => intro S; exact ⟨[], by simp [addL]⟩
  | cons s l ih =>
    intro S
    obtain ⟨T, hT⟩ := addS_pre S s
    obtain ⟨U, hU⟩ := ih (S ++ T)
    exact ⟨T ++ U, by rw [addL, hT, hU, List.append_assoc]⟩
theorem srvSame_iff (x y : Srv) : srvSame x y = true ↔ x.a.map lowB = y.a.map lowB ∧ x.n = y.n := by
  unfold srvSame srvEq
  simp
theorem srvSame_symm (x y : Srv) : srvSame x y = srvSame y x := by
  rw [Bool.eq_iff_iff, srvSame_iff, srvSame_iff]
  exact ⟨fun h => ⟨h.1.symm, h.2.symm⟩, fun h => ⟨h.1.symm, h.2.symm⟩⟩
theorem addS_any (S : List Srv) (x s : Srv) : (addS S x).any (srvSame s) = (S.any (srvSame s) || srvSame x s) := by
  unfold addS
  split
  · rename_i h
    rw [Bool.eq_iff_iff, Bool.or_eq_true]
    refine ⟨Or.inl, fun hh => ?_⟩
    rcases hh with hh | hh
    · exact hh
    · obtain ⟨y, hy, hxy⟩ := List.any_eq_true.1 h
      refine List.any_eq_true.2 ⟨y, hy, ?_⟩
      rw [srvSame_iff] at *
      exact ⟨hh.1.symm.trans hxy.1, hh.2.symm.trans hxy.2⟩
  · rw [List.any_append, srvSame_symm x s]
    simp
theorem addL_any (s : Srv) (l : List Srv) : ∀ S, (addL S l).any (srvSame s) = (S.any (srvSame s) || l.any fun x => srvSame x s) := by
  induction l with
  | nil => intro S; simp [addL]
  | cons x l ih => intro S; rw [addL, ih, addS_any, List.any_cons, Bool.or_assoc]
theorem addL_len (l : List Srv) : ∀ S, (addL S l).length ≤ S.length + l.length := by
  induction l with
  | nil => intro S; exact Nat.le_refl _
  | cons x l ih =>
    intro S
    have := ih (addS S x)
    have h2 : (addS S x).length ≤ S.length + 1 := by unfold addS; split <;> simp
    simp only [addL, List.length_cons]
    omega
/-- What a round of the law reads. -/
theorem addL_step (l : List Srv) (j : Nat) (hj : j < l.length) :
    if ((l.take j).any fun x => srvSame x l[j]) = true then addL [] (l.take (j + 1)) = addL [] (l.take j)
    else (addL [] (l.take (j + 1))).length = (addL [] (l.take j)).length + 1 ∧ ∃ h : (addL [] (l.take j)).length < (addL [] l).length, (addL [] l)[(addL [] (l.take j)).length]'h = l[j] := by
  have e : addL [] (l.take (j + 1)) = addS (addL [] (l.take j)) l[j] := by rw [List.take_succ_eq_append_getElem hj, addL_append]; rfl
  have ha := addL_any l[j] (l.take j) []
  rw [List.any_nil, Bool.false_or] at ha
  rw [← ha]
  split
  · rename_i h
    rw [e]
    unfold addS
    rw [if_pos h]
  · rename_i h
    have e2 : addL [] (l.take (j + 1)) = addL [] (l.take j) ++ [l[j]] := by rw [e]; unfold addS; rw [if_neg h]
    obtain ⟨T, hT⟩ := addL_pre (l.drop (j + 1)) (addL [] (l.take (j + 1)))
    have e3 : addL [] l = addL [] (l.take (j + 1)) ++ T := by rw [← hT, ← addL_append, List.take_append_drop]
    rw [e2] at e3
    refine ⟨by rw [e2]; simp, by rw [e3]; simp, ?_⟩
    simp only [e3]
    rw [List.getElem_append_left (by simp)]
    simp
theorem RdSv.take {w : World} {p : Option Addr} {n c : Nat} {l : List Srv} (h : RdSv w (.slice p n c) l) (j : Nat) (hj : j ≤ l.length) : RdSv w (.slice p j c) (l.take j) := by
  obtain ⟨p', c', e, h1, h2, h3⟩ := h
  simp only [Value.slice.injEq] at e
  obtain ⟨rfl, _, rfl⟩ := e
  have ht : (l.take j).length = j := by rw [List.length_take]; omega
  refine ⟨p, c, by rw [ht], by omega, h2, fun hn => ?_⟩
  obtain ⟨b, o, rfl, hc⟩ := h3 (by omega)
  refine ⟨b, o, rfl, fun i hi => ?_⟩
  rw [List.getElem_take]
  exact hc i (by omega)
end Go.Proofs.YtkonfcgdokabaaaDoor
