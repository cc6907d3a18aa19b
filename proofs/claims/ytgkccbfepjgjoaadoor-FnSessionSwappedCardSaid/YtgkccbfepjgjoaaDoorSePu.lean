/- laws.sessionPuts: the steps that write parts. -/
import Derived.Test.YtgkccbfepjgjoaaDoorSeMl
import Derived.Test.YtgkccbfepjgjoaaDoorSeGn
namespace Go.Proofs.YtgkccbfepjgjoaaDoor
open Go Go.RowKit

/-- The step that writes a part. -/
def ptOf (x : Sp) : Pt := ⟨((x.k % 6 : Nat) : Int), x.d, x.o, if x.k % 6 = 2 then (numOf x : Nat) else 0, if x.k % 6 = 3 then (numOf x : Nat) else 0, (szOf x.z : Nat), (x.fl : Nat), x.be, x.co⟩
def Pt.cs (x : Pt) (p : Value × Value) : List Value := [.int .i64 x.k, p.1, p.2, .int .i64 x.n, .int .u64 x.u, .int .u8 x.sz, .int .u8 x.fl, .bool x.be, .bool x.co]
/-- A row of steps of the call's own; their bytes lie in rows of their own. -/
def OwnP (B : Nat) (w : World) (v : Value) (l : List Pt) : Prop :=
  ∃ ps : List (Value × Value), ps.length = l.length ∧ OwnR 38 9 B w v (List.zipWith Pt.cs l ps) ∧ ∀ (i : Nat) (x : Pt) (p : Value × Value), l[i]? = some x → ps[i]? = some p → Own B w p.1 x.d ∧ Own B w p.2 x.o
theorem OwnP.nil (B : Nat) (w : World) : OwnP B w (.slice none 0 0) [] := ⟨[], rfl, OwnR.nil _ _ _ _, fun i x p h => by simp at h⟩
theorem OwnP.gr {B : Nat} {a w : World} {v : Value} {l : List Pt} (h : OwnP B a v l) (g : Gr a w) : OwnP B w v l := by
  obtain ⟨ps, h1, h2, h3⟩ := h
  exact ⟨ps, h1, h2.gr g, fun i x p hx hp => ⟨(h3 i x p hx hp).1.gr g, (h3 i x p hx hp).2.gr g⟩⟩
theorem OwnP.mono {B B' : Nat} {w : World} {v : Value} {l : List Pt} (h : OwnP B w v l) (hB : B' ≤ B) : OwnP B' w v l := by
  obtain ⟨ps, h1, h2, h3⟩ := h
  exact ⟨ps, h1, h2.mono hB, fun i x p hx hp => ⟨(h3 i x p hx hp).1.mono hB, (h3 i x p hx hp).2.mono hB⟩⟩
theorem zip_len {α β γ : Type} (f : α → β → γ) (l : List α) (ps : List β) (h : ps.length = l.length) : (List.zipWith f l ps).length = l.length := by
  rw [List.length_zipWith, h, Nat.min_self]
theorem zip_at {α β γ : Type} {f : α → β → γ} {l : List α} {ps : List β} {i : Nat} {x : α} {p : β} (h1 : l[i]? = some x) (h2 : ps[i]? = some p) : (List.zipWith f l ps)[i]? = some (f x p) := by
  rw [List.getElem?_zipWith, h1, h2]
theorem OwnP.rd {B : Nat} {w : World} {v : Value} {l : List Pt} (h : OwnP B w v l) : RdPt w v l := by
  obtain ⟨ps, h1, h2, h3⟩ := h
  have hz := zip_len Pt.cs l ps h1
  by_cases hn : 0 < l.length
  · obtain ⟨b, cap, rfl, hc1, hc2, _, _, hat⟩ := h2.at' (by rw [hz]; exact hn)
    rw [hz] at hc1 ⊢
    refine ⟨_, cap, rfl, hc1, hc2, fun _ => ⟨b, 0, rfl, fun i hi => ?_⟩⟩
    have hx : l[i]? = some l[i] := List.getElem?_eq_getElem hi
    obtain ⟨p, hp⟩ : ∃ p, ps[i]? = some p := ⟨_, List.getElem?_eq_getElem (by omega)⟩
    obtain ⟨o1, o2⟩ := h3 i _ p hx hp
    have hz := zip_at (f := Pt.cs) hx hp
    have hc := fun j u => hat i j _ u hz
    have e : 0 + i * 9 = i * 9 := by omega
    rw [e]
    exact ⟨p.1, p.2, o1.rd, o2.rd, hc 0 _ rfl, hc 1 _ rfl, hc 2 _ rfl, hc 3 _ rfl, hc 4 _ rfl, hc 5 _ rfl, hc 6 _ rfl, hc 7 _ rfl, hc 8 _ rfl⟩
  · obtain rfl : l = [] := List.eq_nil_of_length_eq_zero (by omega)
    obtain ⟨p, c, rfl, hc1, hc2, _⟩ := h2.shape
    rw [hz] at hc1 ⊢
    exact ⟨p, c, rfl, hc1, hc2, fun h => absurd h (by simp)⟩

theorem ptInfo : (Tryd.prog.info? 38).map (fun i => (i.zero, i.size, i.bytes)) = some (some (.agg #[.int .i64 0, .slice none 0 0, .slice none 0 0, .int .i64 0, .int .u64 0, .int .u8 0, .int .u8 0, .bool false, .bool false]), 9, 80) := by kernel_rfl

/-- append of steps. -/
theorem OwnP.append {B : Nat} {w w' : World} {v v' : Value} {l m : List Pt} {qs ps : List (Value × Value)} (h1 : qs.length = l.length) (h2 : OwnR 38 9 B w v (List.zipWith Pt.cs l qs))
    (h3 : ∀ (i : Nat) (x : Pt) (p : Value × Value), l[i]? = some x → qs[i]? = some p → Own B w p.1 x.d ∧ Own B w p.2 x.o) (hq : ps.length = m.length)
    (hm : ∀ (i : Nat) (x : Pt) (p : Value × Value), m[i]? = some x → ps[i]? = some p → Own B w p.1 x.d ∧ Own B w p.2 x.o)
    (hr : OwnR 38 9 B w' v' (List.zipWith Pt.cs l qs ++ List.zipWith Pt.cs m ps)) (hg : w.grownBy w' v.ownBlock) : OwnP B w' v' (l ++ m) := by
  have hT : 38 ≠ 5 := by decide
  refine ⟨qs ++ ps, by simp [h1, hq], ?_, fun i x p hx hp => ?_⟩
  · rw [List.zipWith_append h1.symm]
    exact hr
  · by_cases hi : i < l.length
    · rw [List.getElem?_append_left hi] at hx
      rw [List.getElem?_append_left (by omega)] at hp
      exact ⟨(h3 i x p hx hp).1.rowKept hg h2 hT, (h3 i x p hx hp).2.rowKept hg h2 hT⟩
    · rw [List.getElem?_append_right (by omega)] at hx
      rw [List.getElem?_append_right (by omega)] at hp
      rw [h1] at hp
      exact ⟨(hm _ x p hx hp).1.rowKept hg h2 hT, (hm _ x p hx hp).2.rowKept hg h2 hT⟩

theorem wpList_append_pt {w : World} {ops : Array Oper} {rest : List Oper} {o : Oper} {a : Act} {Q : Exit → Act → World → Prop} (hgd : o.guard = none) (s x : Operand)
    (ho : o.op = .call { callee := .builtin .append, args := #[s, x], argTypes := #[39, 39] })
    {B : Nat} {v : Value} {l : List Pt} (hs : a.eval s = v) (hown : OwnP B w v l) (m : List Pt) (ps : List (Value × Value)) (hq : ps.length = m.length) (hm : ∀ (i : Nat) (x : Pt) (p : Value × Value), m[i]? = some x → ps[i]? = some p → Own B w p.1 x.d ∧ Own B w p.2 x.o)
    (A : Addr) (k c : Nat) (hx : a.eval x = .slice (some A) k c) (hk : m.length = k) (hc : ∀ j u, (List.zipWith Pt.cs m ps).flatten[j]? = some u → w.cell? (A.add j) = some u) (hlim : l.length + k ≤ 1000000) (hB : B ≤ w.heap.size)
    (h : ∀ v' w', OwnP B w' v' (l ++ m) → Below B w w' → wpList Tryd.prog ops Q rest (a.put o.dst v') w') : wpList Tryd.prog ops Q (o :: rest) a w := by
  obtain ⟨qs, h1, h2, h3⟩ := id hown
  have hz := zip_len Pt.cs l qs h1
  have hz2 := zip_len Pt.cs m ps hq
  refine wpList_append_row hgd s x ho Tryd.underlying39 ptInfo rfl (by decide) (by decide) hs h2 (List.zipWith Pt.cs m ps) (fun c hc => ?_) A k c hx (by rw [hz2]; exact hk) hc (by rw [hz]; exact hlim) hB fun v' w' hr hg => h v' w' ?_ (h2.below hg hB)
  · obtain ⟨i, hi, rfl⟩ := List.mem_iff_getElem.1 hc
    rw [hz2] at hi
    have hx : m[i]? = some m[i] := List.getElem?_eq_getElem hi
    obtain ⟨p, hp⟩ : ∃ p, ps[i]? = some p := ⟨_, List.getElem?_eq_getElem (by omega)⟩
    have e : (List.zipWith Pt.cs m ps)[i]? = some (Pt.cs m[i] p) := zip_at hx hp
    rw [List.getElem?_eq_getElem (by rw [hz2]; exact hi)] at e
    injection e with e
    rw [e]
    obtain ⟨o1, o2⟩ := hm i _ p hx hp
    obtain ⟨_, _, e1, _⟩ := o1.rd
    obtain ⟨_, _, e2, _⟩ := o2.rd
    refine ⟨rfl, fun u hu => ?_⟩
    simp only [Pt.cs, List.mem_cons, List.not_mem_nil, or_false] at hu
    rcases hu with rfl | rfl | rfl | rfl | rfl | rfl | rfl | rfl | rfl <;> first | rfl | (rw [e1]; rfl) | (rw [e2]; rfl)
  · exact OwnP.append h1 h2 h3 hq hm hr hg
end Go.Proofs.YtgkccbfepjgjoaaDoor
