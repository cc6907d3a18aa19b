/- The laws' row of answers that are wanted: words. -/
import Derived.Test.YtgkccbfepjgjoaaDoorSeAk
import Derived.Test.YtgkccbfepjgjoaaDoorSeEq
namespace Go.Proofs.YtgkccbfepjgjoaaDoor
open Go Go.RowKit

theorem run_append_rowB {T : TypeId} {sz bytes : Nat} {z : Value} {w : World} {t ty : TypeId} {B : Nat} {v : Value} {cs : List (List Value)} (hsl : Tryd.prog.underlying t = some (.slice T))
    (hinfo : (Tryd.prog.info? T).map (fun i => (i.zero, i.size, i.bytes)) = some (some z, sz, bytes)) (hzs : z.cells.size = sz) (hsz : 0 < sz) (hby : bytes ≤ 10000)
    (hown : OwnR T sz B w v cs) (ds : List (List Value)) (hd : ∀ c ∈ ds, c.length = sz ∧ ∀ u ∈ c, u.oneCell' = true) (a : Addr) (m c : Nat) (hm : ds.length = m)
    (hc : ∀ j u, ds.flatten[j]? = some u → w.cell? (a.add j) = some u) (hlim : cs.length + m ≤ 1000000) (hB : B ≤ w.heap.size) :
    ∃ v' w', (Builtin.append_ #[t, t] ty #[v, .slice (some a) m c]).run Tryd.prog w = .ok v' w' ∧ OwnR T sz B w' v' (cs ++ ds) ∧ w.grownBy w' v.ownBlock ∧ (v'.ownBlock = v.ownBlock ∨ v'.ownBlock = some w.heap.size) := by
  obtain ⟨i, hi0, hz0, hz1, hz2⟩ := info_parts hinfo
  have hdl : ∀ c ∈ ds, c.length = sz := fun c hc => (hd c hc).1
  have hbb : (cs.length + m) * bytes ≤ 140737488355328 := Nat.le_trans (Nat.mul_le_mul hlim hby) (by omega)
  obtain ⟨v', w', hrun, h2, h3, _, h5⟩ := run_append_own_at (P := Tryd.prog) w B t ty T i z sz bytes hsl hi0 hz0 hz1 hz2 hzs hsz v cs.length cs.flatten hown.row a m c ds.flatten (by rw [flatten_len sz ds hdl, hm]) hc (by
    intro u hu
    obtain ⟨c, hc, huc⟩ := List.mem_flatten.1 hu
    exact (hd c hc).2 u huc) (by simp only [maxLen]; omega) hbb hB
  refine ⟨v', w', hrun, ⟨fun c hc => ?_, by rw [List.length_append, List.flatten_append, hm]; exact h2⟩, h3, h5⟩
  rcases List.mem_append.1 hc with h | h
  · exact hown.fl c h
  · exact hdl c h
theorem wpList_append_rowB {T : TypeId} {sz bytes : Nat} {z : Value} {w : World} {t : TypeId} {ops : Array Oper} {rest : List Oper} {o : Oper} {a : Act} {Q : Exit → Act → World → Prop} (hgd : o.guard = none) (s x : Operand)
    (ho : o.op = .call { callee := .builtin .append, args := #[s, x], argTypes := #[t, t] }) (hsl : Tryd.prog.underlying t = some (.slice T))
    (hinfo : (Tryd.prog.info? T).map (fun i => (i.zero, i.size, i.bytes)) = some (some z, sz, bytes)) (hzs : z.cells.size = sz) (hsz : 0 < sz) (hby : bytes ≤ 10000)
    {B : Nat} {v : Value} {cs : List (List Value)} (hs : a.eval s = v) (hown : OwnR T sz B w v cs) (ds : List (List Value)) (hd : ∀ c ∈ ds, c.length = sz ∧ ∀ u ∈ c, u.oneCell' = true)
    (A : Addr) (m c : Nat) (hx : a.eval x = .slice (some A) m c) (hm : ds.length = m) (hc : ∀ j u, ds.flatten[j]? = some u → w.cell? (A.add j) = some u) (hlim : cs.length + m ≤ 1000000) (hB : B ≤ w.heap.size)
    (h : ∀ v' w', OwnR T sz B w' v' (cs ++ ds) → w.grownBy w' v.ownBlock → (v'.ownBlock = v.ownBlock ∨ v'.ownBlock = some w.heap.size) → wpList Tryd.prog ops Q rest (a.put o.dst v') w') : wpList Tryd.prog ops Q (o :: rest) a w := by
  obtain ⟨v', w', hrun, h2, h3, h4⟩ := run_append_rowB (ty := o.type) hsl hinfo hzs hsz hby hown ds hd A m c hm hc hlim hB
  refine wpList_plain hgd fun K hK => ?_
  unfold Oper.wp execOp
  simp only [ho, resolve, invoke, builtin, Sem.run_bind, Sem.run_pure, Result.andThen_ok, List.map_toArray, List.map_cons, List.map_nil, hs, hx, hrun]
  exact hK _ _ (h v' w' h2 h3 h4)

theorem OwnR.fx {T : TypeId} {sz B s : Nat} {a w : World} {v : Value} {cs : List (List Value)} (h : OwnR T sz B a v cs) (g : Fx s a w) (hs : ∀ b, v.ownBlock = some b → b ≠ s) : OwnR T sz B w v cs := by
  refine ⟨h.fl, h.row.1, ?_⟩
  rcases h.row.2 with h2 | ⟨b, cap, cur, hv, hg, hh, r⟩
  · exact Or.inl h2
  · exact Or.inr ⟨b, cap, cur, hv, hg, g.heap hh (hs b (by rw [hv]; rfl)), r⟩
/-- Bytes that lie far from the reader, and from a row of answers. -/
structure Far (w : World) (r : Nat) (v : Value) (l : List Int) (u : Value) : Prop where
  rd : Rd w u l
  off : OffV r u
  far : ∀ b, v.ownBlock = some b → 0 < l.length → OffV b u
theorem Far.gr {w w' : World} {r : Nat} {v u : Value} {l : List Int} (h : Far w r v l u) (g : Gr w w') : Far w' r v l u := ⟨h.rd.gr g, h.off, h.far⟩
theorem Far.fx {w w' : World} {r : Nat} {v u : Value} {l : List Int} (h : Far w r v l u) (g : Fx r w w') : Far w' r v l u := ⟨h.rd.fx g h.off, h.off, h.far⟩
theorem Rd.lo {w : World} {u : Value} {l : List Int} (h : Rd w u l) (hn : 0 < l.length) : LoV w.heap.size u := by
  obtain ⟨b, o, c, rfl, _, _, hat⟩ := h.at' hn
  intro a n c' e
  injection e with e
  injection e with e
  subst e
  exact World.block_lt_of_cell? w _ (hat.cell 0 hn)
theorem Rd.grown {w w' : World} {row : Option Nat} {u : Value} {l : List Int} (h : Rd w u l) (g : w.grownBy w' row) (hf : ∀ b, row = some b → 0 < l.length → OffV b u) : Rd w' u l := by
  obtain ⟨p, c, rfl, h1, h2, h3, h4, h5⟩ := h
  refine ⟨p, c, rfl, h1, h2, h3, ?_, h5⟩
  intro hn
  obtain ⟨b, o, rfl, hc⟩ := h4 hn
  refine ⟨b, o, rfl, fun i hi => World.grownBy.cell g (hc i hi) (fun e => ?_)⟩
  exact hf b e.symm hn ⟨b, o, none⟩ _ _ rfl rfl
theorem Far.grow {w w' : World} {r : Nat} {v v' u : Value} {l : List Int} (h : Far w r v l u) (g : w.grownBy w' v.ownBlock) (hv : v'.ownBlock = v.ownBlock ∨ v'.ownBlock = some w.heap.size) : Far w' r v' l u := by
  refine ⟨h.rd.grown g h.far, h.off, fun b hb hn => ?_⟩
  rcases hv with hv | hv
  · exact h.far b (by rw [← hv]; exact hb) hn
  · rw [hv] at hb
    injection hb with hb
    subst hb
    exact (h.rd.lo hn).off (Nat.le_refl _)

/-- The row of answers that are wanted: their bytes lie about, far from the reader. -/
structure WantR (r B : Nat) (w : World) (v : Value) (gs : List G) : Prop where
  own : ∃ ps : List (Value × Value), ps.length = gs.length ∧ OwnR 31 5 B w v (List.zipWith (fun g p => g.cs p.1 p.2) gs ps) ∧
    ∀ (i : Nat) (g : G) (p : Value × Value), gs[i]? = some g → ps[i]? = some p → Far w r v g.d p.1 ∧ Far w r v g.o p.2
  off : ∀ b, v.ownBlock = some b → b ≠ r ∧ b < w.heap.size ∧ OffX w r b
theorem WantR.nil (r B : Nat) (w : World) : WantR r B w (.slice none 0 0) [] := ⟨⟨[], rfl, OwnR.nil _ _ _ _, fun i g p h => by simp at h⟩, fun b h => by cases h⟩
theorem WantR.gr {r B : Nat} {w w' : World} {v : Value} {gs : List G} (h : WantR r B w v gs) (g : Gr w w') (hr : r < w.heap.size) : WantR r B w' v gs := by
  obtain ⟨⟨ps, h1, h2, h3⟩, h4⟩ := h
  exact ⟨⟨ps, h1, OwnR.gr h2 g, fun i x p a b => ⟨(h3 i x p a b).1.gr g, (h3 i x p a b).2.gr g⟩⟩, fun b hb => ⟨(h4 b hb).1, Nat.lt_of_lt_of_le (h4 b hb).2.1 g.size, (h4 b hb).2.2.gr g hr⟩⟩
theorem WantR.fl {r B : Nat} {w w' : World} {v : Value} {gs : List G} (h : WantR r B w v gs) (g : Fl r w w') : WantR r B w' v gs := by
  obtain ⟨⟨ps, h1, h2, h3⟩, h4⟩ := h
  exact ⟨⟨ps, h1, OwnR.fx h2 g.fx (fun b hb => (h4 b hb).1), fun i x p a b => ⟨(h3 i x p a b).1.fx g.fx, (h3 i x p a b).2.fx g.fx⟩⟩,
    fun b hb => ⟨(h4 b hb).1, Nat.lt_of_lt_of_le (h4 b hb).2.1 g.fx.size, g.off b (h4 b hb).2.1 (h4 b hb).2.2⟩⟩
theorem grown_gr {w w' : World} (g : w.grownBy w' none) : Gr w w' := Below.grown (Below.refl w.heap.size w) g (Nat.le_refl _) (fun k hk => by cases hk)
theorem Sx.grown {w w' : World} {r : Nat} {xs : List Int} {t o : Bool} {row : Option Nat} (h : Sx w r xs t o) (g : w.grownBy w' row) (hr : ∀ b, row = some b → b ≠ r ∧ OffX w r b) : Sx w' r xs t o := by
  cases row with
  | none => exact h.gr (grown_gr g)
  | some b => exact h.fx g (fun e => (hr b rfl).1 e.symm) (hr b rfl).2
/-- One more answer. -/
theorem WantR.grow {r B : Nat} {w w' : World} {v v' : Value} {gs : List G} {xs : List Int} {t o : Bool} (h : WantR r B w v gs) (hs : Sx w r xs t o) (g : G) (dv ov : Value) (ps : List (Value × Value)) (hpl : ps.length = gs.length)
    (hps : ∀ (i : Nat) (g : G) (p : Value × Value), gs[i]? = some g → ps[i]? = some p → Far w r v g.d p.1 ∧ Far w r v g.o p.2)
    (h1 : OwnR 31 5 B w' v' (List.zipWith (fun g p => g.cs p.1 p.2) gs ps ++ [g.cs dv ov])) (h2 : w.grownBy w' v.ownBlock) (h3 : v'.ownBlock = v.ownBlock ∨ v'.ownBlock = some w.heap.size) (hd : Far w r v g.d dv) (ho : Far w r v g.o ov) :
    WantR r B w' v' (gs ++ [g]) ∧ Sx w' r xs t o := by
  have hs' : Sx w' r xs t o := hs.grown h2 (fun b hb => ⟨(h.off b hb).1, (h.off b hb).2.2⟩)
  refine ⟨⟨⟨ps ++ [(dv, ov)], by simp [hpl], by rw [List.zipWith_append hpl.symm]; exact h1, fun i x p a b => ?_⟩, fun b hb => ?_⟩, hs'⟩
  · by_cases hi : i < gs.length
    · rw [List.getElem?_append_left hi] at a
      rw [List.getElem?_append_left (by omega)] at b
      exact ⟨(hps i x p a b).1.grow h2 h3, (hps i x p a b).2.grow h2 h3⟩
    · rw [List.getElem?_append_right (by omega)] at a
      rw [List.getElem?_append_right (by omega), hpl] at b
      have h0 : i - gs.length = 0 := by have := (List.getElem?_eq_some_iff.1 a).1; simp at this; omega
      rw [h0] at a b
      simp only [List.getElem?_cons_zero, Option.some.injEq] at a b
      subst a; subst b
      exact ⟨hd.grow h2 h3, ho.grow h2 h3⟩
  · have hlt := h2.size
    have hrl := hs.lt
    rcases h3 with h3 | h3
    · rw [h3] at hb
      obtain ⟨a1, a2, a3⟩ := h.off b hb
      refine ⟨a1, by omega, fun u hu => a3 u ?_⟩
      rw [← hu]
      exact (World.cell?_of_block (a := ⟨r, 0, none⟩) (h2.block r hrl (fun e => by rw [hb] at e; injection e with e; exact a1 e.symm))).symm
    · obtain ⟨_, cc, hcc⟩ := h1.blk b hb
      rw [h3] at hb
      injection hb with hb
      subst hb
      refine ⟨by omega, lt_of_some hcc, fun u hu => ?_⟩
      have hx := hs.offX w.heap.size (Nat.le_refl _)
      refine hx u ?_
      rw [← hu]
      refine (World.cell?_of_block (a := ⟨r, 0, none⟩) (h2.block r hrl (fun e => ?_))).symm
      exact (h.off r e.symm).1 rfl
theorem WantR.rdG {r B : Nat} {w : World} {v : Value} {gs : List G} (h : WantR r B w v gs) : RdG w v gs := by
  obtain ⟨⟨ps, h1, h2, h3⟩, _⟩ := h
  have hz : (List.zipWith (fun g (p : Value × Value) => G.cs g p.1 p.2) gs ps).length = gs.length := by rw [List.length_zipWith, h1, Nat.min_self]
  by_cases hn : 0 < gs.length
  · obtain ⟨b, cap, rfl, hc1, hc2, _, _, hat⟩ := OwnR.at' h2 (by rw [hz]; exact hn)
    rw [hz] at hc1 ⊢
    refine ⟨_, cap, rfl, hc1, hc2, fun _ => ⟨b, 0, rfl, fun i hi => ?_⟩⟩
    have hip : i < ps.length := by omega
    have hx : (List.zipWith (fun g (p : Value × Value) => G.cs g p.1 p.2) gs ps)[i]? = some (G.cs gs[i] ps[i].1 ps[i].2) := by
      rw [List.getElem?_eq_getElem (by rw [hz]; exact hi), List.getElem_zipWith]
    obtain ⟨f1, f2⟩ := h3 i gs[i] ps[i] (List.getElem?_eq_getElem hi) (List.getElem?_eq_getElem hip)
    have hc := fun j u => hat i j _ u hx
    have e : 0 + i * 5 = i * 5 := by omega
    rw [e]
    exact ⟨ps[i].1, ps[i].2, hc 0 _ rfl, hc 1 _ rfl, hc 2 _ rfl, hc 3 _ rfl, hc 4 _ rfl, f1.rd, f2.rd⟩
  · obtain rfl : gs = [] := List.eq_nil_of_length_eq_zero (by omega)
    obtain ⟨p, c, e, hc1, hc2, _⟩ := OwnR.shape h2
    rw [hz] at e hc1
    exact ⟨p, c, e, hc1, hc2, fun h => absurd h (by simp)⟩

theorem Runs.app {big : Bool} {l : List St} {r : List Int} {gs : List G} {o : Option (List Int)} (h : Runs big l r gs o) : ∀ {l2 : List St} {r2 : List Int} {gs2 : List G} {o2 : Option (List Int)}, o = some r2 → Runs big l2 r2 gs2 o2 → Runs big (l ++ l2) r (gs ++ gs2) o2 := by
  induction h with
  | nil r => intro l2 r2 gs2 o2 e k; injection e with e; subst e; exact k
  | torn _ => intro l2 r2 gs2 o2 e; cases e
  | cons h1 h2 _ ih => intro l2 r2 gs2 o2 e k; exact Runs.cons h1 h2 (ih e k)
theorem Runs.snoc {big : Bool} {l : List St} {r q q2 : List Int} {gs : List G} {x : St} {g : G} (h : Runs big l r gs (some q)) (hd : Does big x q (some (g, q2))) (hg : g.ok = true) : Runs big (l ++ [x]) r (gs ++ [g]) (some q2) :=
  h.app rfl (Runs.cons hd hg (Runs.nil q2))
theorem Runs.fell {big : Bool} {l l2 : List St} {r q : List Int} {gs : List G} {x : St} (h : Runs big l r gs (some q)) (hd : Does big x q none) : Runs big (l ++ x :: l2) r (gs ++ [G.no]) none :=
  h.app rfl (Runs.torn hd)
theorem Runs.len {big : Bool} {l : List St} {r : List Int} {gs : List G} {q : List Int} (h : Runs big l r gs (some q)) : gs.length = l.length := by
  generalize ho : some q = o at h
  induction h with
  | nil r => rfl
  | torn _ => cases ho
  | cons _ _ _ ih => simp [ih ho]
end Go.Proofs.YtgkccbfepjgjoaaDoor
