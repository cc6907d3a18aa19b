/- A row of structs of the call's own, of any number of cells each; append to it. -/
import Derived.Test.YtpadpdmidiaeoaaGreatDoorUrT
import Derived.Laws.OwnMore
namespace Go.Proofs.YtpadpdmidiaeoaaGreatDoor
open Go Go.RowKit

theorem flatten_at {α : Type} (sz : Nat) : ∀ (cs : List (List α)), (∀ c ∈ cs, c.length = sz) → ∀ (i j : Nat) (c : List α) (u : α), cs[i]? = some c → c[j]? = some u → cs.flatten[i * sz + j]? = some u
  | [], _, i, j, c, u, h, _ => by simp at h
  | a :: cs, hl, 0, j, c, u, h1, h2 => by
    simp only [List.getElem?_cons_zero, Option.some.injEq] at h1
    subst h1
    have hj : j < a.length := (List.getElem?_eq_some_iff.1 h2).1
    rw [List.flatten_cons, Nat.zero_mul, Nat.zero_add, List.getElem?_append_left hj]
    exact h2
  | a :: cs, hl, i + 1, j, c, u, h1, h2 => by
    simp only [List.getElem?_cons_succ] at h1
    have ih := flatten_at sz cs (fun c hc => hl c (List.mem_cons_of_mem _ hc)) i j c u h1 h2
    have ha := hl a (List.mem_cons_self ..)
    rw [List.flatten_cons, List.getElem?_append_right (by rw [ha, Nat.add_mul]; omega), ha]
    rw [show (i + 1) * sz + j - sz = i * sz + j by rw [Nat.add_mul]; omega]
    exact ih
theorem flatten_len {α : Type} (sz : Nat) : ∀ (cs : List (List α)), (∀ c ∈ cs, c.length = sz) → cs.flatten.length = cs.length * sz
  | [], _ => by simp
  | a :: cs, hl => by
    have ih := flatten_len sz cs (fun c hc => hl c (List.mem_cons_of_mem _ hc))
    have ha := hl a (List.mem_cons_self ..)
    rw [List.flatten_cons, List.length_append, ih, ha, List.length_cons, Nat.add_mul]
    omega

/-- Entries of sz cells each lie in a row of the call's own. -/
structure OwnR (T : TypeId) (sz B : Nat) (w : World) (v : Value) (cs : List (List Value)) : Prop where
  fl : ∀ c ∈ cs, c.length = sz
  row : w.ownsRow B T sz v cs.length cs.flatten

theorem OwnR.nil (T : TypeId) (sz B : Nat) (w : World) : OwnR T sz B w (.slice none 0 0) [] := ⟨fun c h => by simp at h, World.ownsRow_nil _ _ _ _⟩
theorem OwnR.gr {T : TypeId} {sz B : Nat} {a w : World} {v : Value} {cs : List (List Value)} (h : OwnR T sz B a v cs) (g : Gr a w) : OwnR T sz B w v cs := by
  refine ⟨h.fl, h.row.1, ?_⟩
  rcases h.row.2 with h2 | ⟨b, cap, cur, hv, hg, hh, r⟩
  · exact Or.inl h2
  · exact Or.inr ⟨b, cap, cur, hv, hg, g.heap hh, r⟩
theorem OwnR.mono {T : TypeId} {sz B B' : Nat} {w : World} {v : Value} {cs : List (List Value)} (h : OwnR T sz B w v cs) (hB : B' ≤ B) : OwnR T sz B' w v cs := by
  refine ⟨h.fl, h.row.1, ?_⟩
  rcases h.row.2 with h2 | ⟨b, cap, cur, hv, hg, r⟩
  · exact Or.inl h2
  · exact Or.inr ⟨b, cap, cur, hv, Nat.le_trans hB hg, r⟩
theorem OwnR.blk {T : TypeId} {sz B : Nat} {w : World} {v : Value} {cs : List (List Value)} (h : OwnR T sz B w v cs) : ∀ k, v.ownBlock = some k → B ≤ k ∧ ∃ c, w.heap[k]? = some (.cells c T (0, 0)) := by
  intro k hk
  rcases h.row.2 with ⟨rfl, _⟩ | ⟨b, cap, cur, rfl, hg, hh, r⟩
  · cases hk
  · simp only [Value.ownBlock, Option.some.injEq] at hk
    subst hk
    exact ⟨hg, cur, hh⟩
theorem OwnR.shape {T : TypeId} {sz B : Nat} {w : World} {v : Value} {cs : List (List Value)} (h : OwnR T sz B w v cs) : ∃ p c, v = .slice p cs.length c ∧ cs.length ≤ c ∧ c ≤ maxLen ∧ (p = none → cs = []) := by
  rcases h.row.2 with ⟨rfl, h0⟩ | ⟨b, cap, cur, rfl, hg, hh, h3, h4, _⟩
  · have := List.eq_nil_of_length_eq_zero h0
    subst this
    exact ⟨none, 0, rfl, Nat.le_refl _, Nat.zero_le _, fun _ => rfl⟩
  · exact ⟨_, cap, rfl, h3, h4, fun e => by cases e⟩
theorem OwnR.at' {T : TypeId} {sz B : Nat} {w : World} {v : Value} {cs : List (List Value)} (h : OwnR T sz B w v cs) (hne : 0 < cs.length) : ∃ b cap, v = .slice (some ⟨b, 0, none⟩) cs.length cap ∧ cs.length ≤ cap ∧ cap ≤ maxLen ∧ B ≤ b ∧ b < w.heap.size ∧
    ∀ i j c u, cs[i]? = some c → c[j]? = some u → w.cell? ⟨b, i * sz + j, none⟩ = some u := by
  rcases h.row.2 with ⟨rfl, h0⟩ | ⟨b, cap, cur, rfl, hg, hh, h3, h4, h5, h6⟩
  · omega
  · refine ⟨b, cap, rfl, h3, h4, hg, lt_of_some hh, fun i j c u hi hj => ?_⟩
    have hf := flatten_at sz cs h.fl i j c u hi hj
    have hl : i * sz + j < cs.length * sz := by
      have := (List.getElem?_eq_some_iff.1 hf).1
      rwa [flatten_len sz cs h.fl] at this
    rw [blk_cell hh, ← Array.getElem?_toList]
    rw [← h6, List.getElem?_take_of_lt hl] at hf
    exact hf

theorem run_append_row {T : TypeId} {sz bytes : Nat} {z : Value} {w : World} {t ty : TypeId} {B : Nat} {v : Value} {cs : List (List Value)} (hsl : Tryz.prog.underlying t = some (.slice T))
    (hinfo : (Tryz.prog.info? T).map (fun i => (i.zero, i.size, i.bytes)) = some (some z, sz, bytes)) (hzs : z.cells.size = sz) (hsz : 0 < sz) (hby : bytes ≤ 10000)
    (hown : OwnR T sz B w v cs) (ds : List (List Value)) (hd : ∀ c ∈ ds, c.length = sz ∧ ∀ u ∈ c, u.oneCell' = true) (a : Addr) (m c : Nat) (hm : ds.length = m)
    (hc : ∀ j u, ds.flatten[j]? = some u → w.cell? (a.add j) = some u) (hlim : cs.length + m ≤ 1000000) (hB : B ≤ w.heap.size) :
    ∃ v' w', (Builtin.append_ #[t, t] ty #[v, .slice (some a) m c]).run Tryz.prog w = .ok v' w' ∧ OwnR T sz B w' v' (cs ++ ds) ∧ w.grownBy w' v.ownBlock := by
  obtain ⟨i, hi0, hz0, hz1, hz2⟩ := info_parts hinfo
  have hdl : ∀ c ∈ ds, c.length = sz := fun c hc => (hd c hc).1
  have hbb : (cs.length + m) * bytes ≤ 140737488355328 := Nat.le_trans (Nat.mul_le_mul hlim hby) (by omega)
  obtain ⟨v', w', hrun, h2, h3, _, h5⟩ := run_append_own_at (P := Tryz.prog) w B t ty T i z sz bytes hsl hi0 hz0 hz1 hz2 hzs hsz v cs.length cs.flatten hown.row a m c ds.flatten (by rw [flatten_len sz ds hdl, hm]) hc (by
    intro u hu
    obtain ⟨c, hc, huc⟩ := List.mem_flatten.1 hu
    exact (hd c hc).2 u huc) (by simp only [maxLen]; omega) hbb hB
  refine ⟨v', w', hrun, ⟨fun c hc => ?_, by rw [List.length_append, List.flatten_append, hm]; exact h2⟩, h3⟩
  rcases List.mem_append.1 hc with h | h
  · exact hown.fl c h
  · exact hdl c h

theorem wpList_append_row {T : TypeId} {sz bytes : Nat} {z : Value} {w : World} {t : TypeId} {ops : Array Oper} {rest : List Oper} {o : Oper} {a : Act} {Q : Exit → Act → World → Prop} (hgd : o.guard = none) (s x : Operand)
    (ho : o.op = .call { callee := .builtin .append, args := #[s, x], argTypes := #[t, t] }) (hsl : Tryz.prog.underlying t = some (.slice T))
    (hinfo : (Tryz.prog.info? T).map (fun i => (i.zero, i.size, i.bytes)) = some (some z, sz, bytes)) (hzs : z.cells.size = sz) (hsz : 0 < sz) (hby : bytes ≤ 10000)
    {B : Nat} {v : Value} {cs : List (List Value)} (hs : a.eval s = v) (hown : OwnR T sz B w v cs) (ds : List (List Value)) (hd : ∀ c ∈ ds, c.length = sz ∧ ∀ u ∈ c, u.oneCell' = true)
    (A : Addr) (m c : Nat) (hx : a.eval x = .slice (some A) m c) (hm : ds.length = m) (hc : ∀ j u, ds.flatten[j]? = some u → w.cell? (A.add j) = some u) (hlim : cs.length + m ≤ 1000000) (hB : B ≤ w.heap.size)
    (h : ∀ v' w', OwnR T sz B w' v' (cs ++ ds) → w.grownBy w' v.ownBlock → wpList Tryz.prog ops Q rest (a.put o.dst v') w') : wpList Tryz.prog ops Q (o :: rest) a w := by
  obtain ⟨v', w', hrun, h2, h3⟩ := run_append_row (ty := o.type) hsl hinfo hzs hsz hby hown ds hd A m c hm hc hlim hB
  refine wpList_plain hgd fun K hK => ?_
  unfold Oper.wp execOp
  simp only [ho, resolve, invoke, builtin, Sem.run_bind, Sem.run_pure, Result.andThen_ok, List.map_toArray, List.map_cons, List.map_nil, hs, hx, hrun]
  exact hK _ _ (h v' w' h2 h3)

/-- All that was there stays where the call's own row is written. -/
theorem OwnR.below {T : TypeId} {sz B : Nat} {a w : World} {v : Value} {cs : List (List Value)} (hv : OwnR T sz B a v cs) (h : a.grownBy w v.ownBlock) (hB : B ≤ a.heap.size) : Below B a w :=
  Below.grown (Below.refl B a) h hB (fun k hk => (hv.blk k hk).1)
/-- A row of the call's own stays where another one of another kind is written. -/
theorem OwnR.other {T U : TypeId} {sz sz2 B C : Nat} {a w : World} {v u : Value} {cs ds : List (List Value)} (hv : OwnR T sz B a v cs) (hu : OwnR U sz2 C a u ds) (h : a.grownBy w u.ownBlock) (hT : T ≠ U) : OwnR T sz B w v cs := by
  refine ⟨hv.fl, hv.row.1, ?_⟩
  rcases hv.row.2 with h2 | ⟨b, cap, cur, hvv, hg, hh, r⟩
  · exact Or.inl h2
  · refine Or.inr ⟨b, cap, cur, hvv, hg, ?_, r⟩
    rw [h.block b (lt_of_some hh) (fun e => ?_)]
    · exact hh
    · obtain ⟨_, c2, h2⟩ := hu.blk b e.symm
      rw [hh] at h2
      simp only [Option.some.injEq, Obj.cells.injEq] at h2
      exact hT h2.2.1
/-- The slice value u reads as these entries. -/
def SrcR (w : World) (u : Value) (ds : List (List Value)) : Prop :=
  (u = .slice none 0 0 ∧ ds = []) ∨ ∃ A c, u = .slice (some A) ds.length c ∧ ∀ j x, ds.flatten[j]? = some x → w.cell? (A.add j) = some x
theorem OwnR.src {T : TypeId} {sz B : Nat} {w : World} {v : Value} {cs : List (List Value)} (h : OwnR T sz B w v cs) : SrcR w v cs := by
  rcases h.row.2 with ⟨rfl, h0⟩ | ⟨b, cap, cur, rfl, hg, hh, h3, h4, h5, h6⟩
  · exact .inl ⟨rfl, List.eq_nil_of_length_eq_zero h0⟩
  · refine .inr ⟨_, cap, rfl, fun j x hj => ?_⟩
    have hl : j < cs.length * sz := by
      have := (List.getElem?_eq_some_iff.1 hj).1
      rwa [flatten_len sz cs h.fl] at this
    rw [Lib.addr_add, Nat.zero_add, blk_cell hh, ← Array.getElem?_toList]
    rw [← h6, List.getElem?_take_of_lt hl] at hj
    exact hj
theorem SrcR.gr {a w : World} {u : Value} {ds : List (List Value)} (h : SrcR a u ds) (g : Gr a w) : SrcR w u ds := by
  rcases h with h | ⟨A, c, hu, hc⟩
  · exact .inl h
  · exact .inr ⟨A, c, hu, fun j x hj => g.cell (hc j x hj)⟩

theorem wpList_append_rows {T : TypeId} {sz bytes : Nat} {z : Value} {w : World} {t : TypeId} {ops : Array Oper} {rest : List Oper} {o : Oper} {a : Act} {Q : Exit → Act → World → Prop} (hgd : o.guard = none) (s x : Operand)
    (ho : o.op = .call { callee := .builtin .append, args := #[s, x], argTypes := #[t, t] }) (hsl : Tryz.prog.underlying t = some (.slice T))
    (hinfo : (Tryz.prog.info? T).map (fun i => (i.zero, i.size, i.bytes)) = some (some z, sz, bytes)) (hzs : z.cells.size = sz) (hsz : 0 < sz) (hby : bytes ≤ 10000)
    {B : Nat} {v : Value} {cs : List (List Value)} (hs : a.eval s = v) (hown : OwnR T sz B w v cs) (ds : List (List Value)) (hd : ∀ c ∈ ds, c.length = sz ∧ ∀ u ∈ c, u.oneCell' = true)
    (u : Value) (hx : a.eval x = u) (hu : SrcR w u ds) (hlim : cs.length + ds.length ≤ 1000000) (hB : B ≤ w.heap.size)
    (h : ∀ v' w', OwnR T sz B w' v' (cs ++ ds) → w.grownBy w' v.ownBlock → wpList Tryz.prog ops Q rest (a.put o.dst v') w') : wpList Tryz.prog ops Q (o :: rest) a w := by
  rcases hu with ⟨rfl, rfl⟩ | ⟨A, c, rfl, hc⟩
  · obtain ⟨i, hi0, hz0, hz1, hz2⟩ := info_parts hinfo
    have hrun := run_append_owned_none (P := Tryz.prog) (w := w) B t o.type T i sz hsl hi0 v cs.length cs.flatten hown.row
    refine wpList_plain hgd fun K hK => ?_
    unfold Oper.wp execOp
    simp only [ho, resolve, invoke, builtin, Sem.run_bind, Sem.run_pure, Result.andThen_ok, List.map_toArray, List.map_cons, List.map_nil, hs, hx, hrun]
    exact hK _ _ (h v w (by rw [List.append_nil]; exact hown) (World.grownBy.refl w _))
  · exact wpList_append_row hgd s x ho hsl hinfo hzs hsz hby hs hown ds hd A ds.length c hx rfl hc hlim hB h

end Go.Proofs.YtpadpdmidiaeoaaGreatDoor
