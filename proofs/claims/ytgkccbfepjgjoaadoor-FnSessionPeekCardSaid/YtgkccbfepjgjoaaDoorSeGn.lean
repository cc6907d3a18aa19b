/- A row of several answers, and a row of several steps. -/
import Derived.Test.YtgkccbfepjgjoaaDoorSeT
namespace Go.Proofs.YtgkccbfepjgjoaaDoor
open Go Go.RowKit

/-- An answer lies in this row, from place k on. -/
structure GAt (w : World) (b k : Nat) (g : G) (d o : Value) : Prop where
  c0 : w.cell? ⟨b, k, none⟩ = some (.bool g.ok)
  c1 : w.cell? ⟨b, k + 1, none⟩ = some d
  c2 : w.cell? ⟨b, k + 2, none⟩ = some o
  c3 : w.cell? ⟨b, k + 3, none⟩ = some (.int .i64 g.n)
  c4 : w.cell? ⟨b, k + 4, none⟩ = some (.string g.t)
  rd : Rd w d g.d
  ro : Rd w o g.o
theorem GAt.gr {a w : World} {b k : Nat} {g : G} {d o : Value} (h : GAt a b k g d o) (q : Gr a w) : GAt w b k g d o := ⟨q.cell h.c0, q.cell h.c1, q.cell h.c2, q.cell h.c3, q.cell h.c4, h.rd.gr q, h.ro.gr q⟩

theorem flatG_get : ∀ (gs : List G) (ps : List (Value × Value)) (i : Nat) (g : G) (p : Value × Value) (j : Nat) (u : Value), gs[i]? = some g → ps[i]? = some p → (g.cs p.1 p.2)[j]? = some u → (flatG gs ps)[5 * i + j]? = some u
  | [], _, i, g, p, j, u, h, _, _ => by simp at h
  | _ :: _, [], i, g, p, j, u, _, h, _ => by simp at h
  | a :: gs, b :: ps, 0, g, p, j, u, h1, h2, h3 => by
    simp only [List.getElem?_cons_zero, Option.some.injEq] at h1 h2
    subst h1; subst h2
    have hj : j < (a.cs b.1 b.2).length := (List.getElem?_eq_some_iff.1 h3).1
    simp only [flatG, Nat.mul_zero, Nat.zero_add]
    rw [List.getElem?_append_left hj]
    exact h3
  | a :: gs, b :: ps, i + 1, g, p, j, u, h1, h2, h3 => by
    simp only [List.getElem?_cons_succ] at h1 h2
    have ih := flatG_get gs ps i g p j u h1 h2 h3
    simp only [flatG]
    rw [List.getElem?_append_right (by simp [G.cs]; omega)]
    rw [show 5 * (i + 1) + j - (a.cs b.1 b.2).length = 5 * i + j by simp [G.cs]; omega]
    exact ih

theorem OwnG.rows {B : Nat} {w : World} {v : Value} {gs : List G} (h : OwnG B w v gs) (hne : gs ≠ []) : ∃ b cap, v = .slice (some ⟨b, 0, none⟩) gs.length cap ∧ gs.length ≤ cap ∧ cap ≤ 9223372036854775807 ∧ B ≤ b ∧
    ∀ i g, gs[i]? = some g → ∃ d o, GAt w b (5 * i) g d o ∧ Own B w d g.d ∧ Own B w o g.o := by
  obtain ⟨ps, hl, ho, hi⟩ := h
  obtain ⟨h1, h2⟩ := ho
  rcases h2 with ⟨_, h0⟩ | ⟨b, cap, cur, rfl, hg, hh, h3, h4, h5, h6⟩
  · exact absurd (List.eq_nil_of_length_eq_zero h0) hne
  · refine ⟨b, cap, rfl, h3, by simp only [maxLen] at h4; omega, hg, fun i g hgi => ?_⟩
    have hil : i < gs.length := (List.getElem?_eq_some_iff.1 hgi).1
    obtain ⟨p, hp⟩ : ∃ p, ps[i]? = some p := ⟨_, List.getElem?_eq_getElem (by omega)⟩
    have hc : ∀ j u, (g.cs p.1 p.2)[j]? = some u → w.cell? ⟨b, 5 * i + j, none⟩ = some u := by
      intro j u hj
      have hj5 : j < 5 := by have := (List.getElem?_eq_some_iff.1 hj).1; simpa [G.cs] using this
      have hf := flatG_get gs ps i g p j u hgi hp hj
      rw [blk_cell hh, ← Array.getElem?_toList]
      rw [← h6, List.getElem?_take_of_lt (by omega)] at hf
      exact hf
    obtain ⟨hd, hoo⟩ := hi i g p hgi hp
    exact ⟨p.1, p.2, ⟨hc 0 _ rfl, hc 1 _ rfl, hc 2 _ rfl, hc 3 _ rfl, hc 4 _ rfl, hd.rd, hoo.rd⟩, hd, hoo⟩

/-- Steps lie in a row. -/
theorem RdSt.of {w : World} {H : Nat} (l : List St) {T : TypeId} {fr : Nat × Nat} (h : w.heap[H]? = some (.cells (l.flatMap St.cs).toArray T fr)) (hl : l.length ≤ 9223372036854775807) : RdSt w (.slice (some ⟨H, 0, none⟩) l.length l.length) l := by
  refine ⟨_, _, rfl, Nat.le_refl _, by simp only [maxLen]; omega, fun _ => ⟨H, 0, rfl, fun i hi => ?_⟩⟩
  have key : ∀ (l : List St) (i : Nat) (hi : i < l.length) (j : Nat) (u : Value), (l[i].cs)[j]? = some u → (l.flatMap St.cs)[4 * i + j]? = some u := by
    intro l
    induction l with
    | nil => intro i hi; simp at hi
    | cons a l ih =>
      intro i hi j u hu
      rw [List.flatMap_cons]
      cases i with
      | zero =>
        rw [List.getElem?_append_left (by have := (List.getElem?_eq_some_iff.1 hu).1; simp [St.cs] at this ⊢; omega)]
        simpa using hu
      | succ i =>
        rw [List.getElem?_append_right (by simp [St.cs]; omega)]
        rw [show 4 * (i + 1) + j - (St.cs a).length = 4 * i + j by simp [St.cs]; omega]
        exact ih i (by simpa using hi) j u (by simpa using hu)
  have hc : ∀ j u, (l[i].cs)[j]? = some u → w.cell? ⟨H, 4 * i + j, none⟩ = some u := by
    intro j u hj
    rw [blk_cell h]
    simpa using key l i hi j u hj
  have e : 0 + i * 4 = 4 * i := by omega
  rw [e]
  exact ⟨hc 0 _ rfl, hc 1 _ rfl, hc 2 _ rfl, hc 3 _ rfl⟩
end Go.Proofs.YtgkccbfepjgjoaaDoor
