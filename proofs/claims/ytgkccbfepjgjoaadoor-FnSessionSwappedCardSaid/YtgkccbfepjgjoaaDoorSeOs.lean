/- append of a row of structs to a row of structs of the call's own. -/
import Derived.Test.YtgkccbfepjgjoaaDoorSePu
import Derived.Laws.OwnMore
namespace Go.Proofs.YtgkccbfepjgjoaaDoor
open Go Go.RowKit

/-- The slice value u reads as these entries. -/
def SrcR (w : World) (u : Value) (ds : List (List Value)) : Prop :=
  (u = .slice none 0 0 ∧ ds = []) ∨ ∃ A c, u = .slice (some A) ds.length c ∧ ∀ j x, ds.flatten[j]? = some x → w.cell? (A.add j) = some x
theorem OwnR.src {T : TypeId} {sz B : Nat} {w : World} {v : Value} {cs : List (List Value)} (h : OwnR T sz B w v cs) : SrcR w v cs := by
  rcases h.row.2 with ⟨rfl, h0⟩ | ⟨b, cap, cur, rfl, hg, hh, h3, h4, h5, h6⟩
  · exact .inl ⟨rfl, List.eq_nil_of_length_eq_zero h0⟩
  · refine .inr ⟨_, cap, rfl, fun j x hj => ?_⟩
    have hl : j < cs.length * sz := by
      have := (List.getElem?_eq_some_iff.1 hj).1
      rwa [flatten_len sz cs h.fl] at this
    rw [Lib.addr_add, Nat.zero_add, blk_cell hh, ← Array.getElem?_toList]
    rw [← h6, List.getElem?_take_of_lt hl] at hj
    exact hj
theorem SrcR.gr {a w : World} {u : Value} {ds : List (List Value)} (h : SrcR a u ds) (g : Gr a w) : SrcR w u ds := by
  rcases h with h | ⟨A, c, hu, hc⟩
  · exact .inl h
  · exact .inr ⟨A, c, hu, fun j x hj => g.cell (hc j x hj)⟩

theorem wpList_append_rows {T : TypeId} {sz bytes : Nat} {z : Value} {w : World} {t : TypeId} {ops : Array Oper} {rest : List Oper} {o : Oper} {a : Act} {Q : Exit → Act → World → Prop} (hgd : o.guard = none) (s x : Operand)
    (ho : o.op = .call { callee := .builtin .append, args := #[s, x], argTypes := #[t, t] }) (hsl : Tryd.prog.underlying t = some (.slice T))
    (hinfo : (Tryd.prog.info? T).map (fun i => (i.zero, i.size, i.bytes)) = some (some z, sz, bytes)) (hzs : z.cells.size = sz) (hsz : 0 < sz) (hby : bytes ≤ 10000)
    {B : Nat} {v : Value} {cs : List (List Value)} (hs : a.eval s = v) (hown : OwnR T sz B w v cs) (ds : List (List Value)) (hd : ∀ c ∈ ds, c.length = sz ∧ ∀ u ∈ c, u.oneCell' = true)
    (u : Value) (hx : a.eval x = u) (hu : SrcR w u ds) (hlim : cs.length + ds.length ≤ 1000000) (hB : B ≤ w.heap.size)
    (h : ∀ v' w', OwnR T sz B w' v' (cs ++ ds) → w.grownBy w' v.ownBlock → wpList Tryd.prog ops Q rest (a.put o.dst v') w') : wpList Tryd.prog ops Q (o :: rest) a w := by
  rcases hu with ⟨rfl, rfl⟩ | ⟨A, c, rfl, hc⟩
  · obtain ⟨i, hi0, hz0, hz1, hz2⟩ := info_parts hinfo
    have hrun := run_append_owned_none (P := Tryd.prog) (w := w) B t o.type T i sz hsl hi0 v cs.length cs.flatten hown.row
    refine wpList_plain hgd fun K hK => ?_
    unfold Oper.wp execOp
    simp only [ho, resolve, invoke, builtin, Sem.run_bind, Sem.run_pure, Result.andThen_ok, List.map_toArray, List.map_cons, List.map_nil, hs, hx, hrun]
    exact hK _ _ (h v w (by rw [List.append_nil]; exact hown) (World.grownBy.refl w _))
  · exact wpList_append_row hgd s x ho hsl hinfo hzs hsz hby hs hown ds hd A ds.length c hx rfl hc hlim hB h

/-- append of steps to steps. -/
theorem wpList_append_pts {w : World} {ops : Array Oper} {rest : List Oper} {o : Oper} {a : Act} {Q : Exit → Act → World → Prop} (hgd : o.guard = none) (s x : Operand)
    (ho : o.op = .call { callee := .builtin .append, args := #[s, x], argTypes := #[39, 39] })
    {B C : Nat} {v u : Value} {l m : List Pt} (hs : a.eval s = v) (hown : OwnP B w v l) (hx : a.eval x = u) (hu : OwnP C w u m) (hBC : B ≤ C) (hlim : l.length + m.length ≤ 1000000) (hB : B ≤ w.heap.size)
    (h : ∀ v' w', OwnP B w' v' (l ++ m) → Below B w w' → wpList Tryd.prog ops Q rest (a.put o.dst v') w') : wpList Tryd.prog ops Q (o :: rest) a w := by
  obtain ⟨qs, h1, h2, h3⟩ := hown
  obtain ⟨ps, k1, k2, k3⟩ := hu
  have hz := zip_len Pt.cs l qs h1
  have hz2 := zip_len Pt.cs m ps k1
  have hm : ∀ (i : Nat) (x : Pt) (p : Value × Value), m[i]? = some x → ps[i]? = some p → Own B w p.1 x.d ∧ Own B w p.2 x.o := fun i x p hx hp => ⟨(k3 i x p hx hp).1.mono hBC, (k3 i x p hx hp).2.mono hBC⟩
  refine wpList_append_rows hgd s x ho Tryd.underlying39 ptInfo rfl (by decide) (by decide) hs h2 (List.zipWith Pt.cs m ps) (fun c hc => ?_) u hx k2.src (by rw [hz, hz2]; exact hlim) hB fun v' w' hr hg => h v' w' (OwnP.append h1 h2 h3 k1 hm hr hg) (h2.below hg hB)
  obtain ⟨i, hi, rfl⟩ := List.mem_iff_getElem.1 hc
  rw [hz2] at hi
  have hx : m[i]? = some m[i] := List.getElem?_eq_getElem hi
  obtain ⟨p, hp⟩ : ∃ p, ps[i]? = some p := ⟨_, List.getElem?_eq_getElem (by omega)⟩
  have e : (List.zipWith Pt.cs m ps)[i]? = some (Pt.cs m[i] p) := zip_at hx hp
  rw [List.getElem?_eq_getElem (by rw [hz2]; exact hi)] at e
  injection e with e
  rw [e]
  obtain ⟨o1, o2⟩ := hm i _ p hx hp
  obtain ⟨_, _, e1, _⟩ := o1.rd
  obtain ⟨_, _, e2, _⟩ := o2.rd
  refine ⟨rfl, fun u hu => ?_⟩
  simp only [Pt.cs, List.mem_cons, List.not_mem_nil, or_false] at hu
  rcases hu with rfl | rfl | rfl | rfl | rfl | rfl | rfl | rfl | rfl <;> first | rfl | (rw [e1]; rfl) | (rw [e2]; rfl)
end Go.Proofs.YtgkccbfepjgjoaaDoor
