/- FnSessionPeek: words: what its loop keeps; its steps, and what they give. -/
import Derived.Test.YtgkccbfepjgjoaaDoorSeLg
namespace Go.Proofs.YtgkccbfepjgjoaaDoor
open Go Go.RowKit

theorem OwnR.keep {T : TypeId} {sz B : Nat} {a w : World} {v : Value} {cs : List (List Value)} {row : Option Nat} (h : OwnR T sz B a v cs) (g : a.grownBy w row) (hne : ∀ b, v.ownBlock = some b → row ≠ some b) : OwnR T sz B w v cs := by
  refine ⟨h.fl, h.row.1, ?_⟩
  rcases h.row.2 with h2 | ⟨b, cap, cur, hv, hg, hh, r⟩
  · exact Or.inl h2
  · refine Or.inr ⟨b, cap, cur, hv, hg, ?_, r⟩
    rw [g.block b (lt_of_some hh) (fun e => hne b (by rw [hv]; rfl) e.symm)]
    exact hh
theorem OwnR.lt {T : TypeId} {sz B : Nat} {a : World} {v : Value} {cs : List (List Value)} (h : OwnR T sz B a v cs) : ∀ b, v.ownBlock = some b → b < a.heap.size := fun b hb => by obtain ⟨_, c, hc⟩ := h.blk b hb; exact lt_of_some hc
/-- A row out of a block that was just laid. -/
theorem OwnR.fresh {T : TypeId} {sz B b : Nat} {w : World} {arr : Array Value} (hh : w.heap[b]? = some (.cells arr T (0, 0))) (hB : B ≤ b) (ds : List (List Value)) (m : Nat) (hm : ds.length = m) (hd : ∀ c ∈ ds, c.length = sz) (he : arr.toList = ds.flatten) (hx : m ≤ maxLen) :
    OwnR T sz B w (.slice (some ⟨b, 0, none⟩) m m) ds := by
  have hl := flatten_len sz ds hd
  subst hm
  refine ⟨hd, hl, Or.inr ⟨b, ds.length, arr, rfl, hB, hh, Nat.le_refl _, hx, ?_, ?_⟩⟩
  · rw [← Array.length_toList, he, hl]
  · rw [he, ← hl, List.take_length]

/-- The rows of bytes that are shown. -/
structure ShR (w cur : World) (sv : Value) (ls : List (List Int)) : Prop where
  ex : ∃ us : List Value, us.length = ls.length ∧ OwnR 24 1 w.heap.size cur sv (us.map fun u => [u]) ∧ ∀ (i : Nat) (l : List Int) (u : Value), ls[i]? = some l → us[i]? = some u → Own w.heap.size cur u l ∨ Rd w u l
theorem ShR.at' {w cur : World} {sv : Value} {ls : List (List Int)} (h : ShR w cur sv ls) (g : Gr w cur) (hn : 0 < ls.length) : ∃ b c, sv = .slice (some ⟨b, 0, none⟩) ls.length c ∧ ls.length ≤ c ∧ c ≤ maxLen ∧ ∀ i l, ls[i]? = some l → ∃ u, cur.cell? ⟨b, i, none⟩ = some u ∧ Rd cur u l := by
  obtain ⟨us, h1, h2, h3⟩ := h.ex
  obtain ⟨b, cap, rfl, hc1, hc2, _, _, hat⟩ := OwnR.at' h2 (by rw [List.length_map]; omega)
  rw [List.length_map, h1] at hc1 ⊢
  refine ⟨b, cap, rfl, hc1, hc2, fun i l hi => ?_⟩
  have hil : i < us.length := by rw [h1]; exact (List.getElem?_eq_some_iff.1 hi).1
  have hu := List.getElem?_eq_getElem hil
  have hx : (us.map fun u => [u])[i]? = some [us[i]] := by rw [List.getElem?_map, hu]; rfl
  have hc := hat i 0 _ _ hx rfl
  rw [Nat.mul_one, Nat.add_zero] at hc
  refine ⟨us[i], hc, ?_⟩
  rcases h3 i l us[i] hi hu with h | h
  · exact h.rd
  · exact h.gr g

/-- What the loop of FnSessionPeek keeps: two rows of steps, the rows that are shown, the reader, and some blocks. -/
structure Bun (w cur : World) (r : Nat) (pv wv sv : Value) (ps ws : List St) (ls : List (List Int)) (xs : List Int) (ex : List (Nat × List Value × TypeId)) : Prop where
  p : OwnS w.heap.size cur pv ps
  q : OwnS w.heap.size cur wv ws
  s : ShR w cur sv ls
  dis : ∀ b, pv.ownBlock = some b → wv.ownBlock ≠ some b
  gr : Gr w cur
  sx : Sx cur r xs false false
  op : ∀ b, pv.ownBlock = some b → OffX cur r b
  oq : ∀ b, wv.ownBlock = some b → OffX cur r b
  os : ∀ b, sv.ownBlock = some b → OffX cur r b
  e : ∀ z ∈ ex, cur.heap[z.1]? = some (.cells z.2.1.toArray z.2.2 (0, 0)) ∧ pv.ownBlock ≠ some z.1 ∧ wv.ownBlock ≠ some z.1 ∧ sv.ownBlock ≠ some z.1

section
variable {w cur cur' : World} {r : Nat} {pv wv sv : Value} {ps ws : List St} {ls : List (List Int)} {xs : List Int} {ex : List (Nat × List Value × TypeId)}
theorem Bun.swap (h : Bun w cur r pv wv sv ps ws ls xs ex) : Bun w cur r wv pv sv ws ps ls xs ex :=
  ⟨h.q, h.p, h.s, fun b hb e => h.dis b e hb, h.gr, h.sx, h.oq, h.op, h.os, fun z hz => ⟨(h.e z hz).1, (h.e z hz).2.2.1, (h.e z hz).2.1, (h.e z hz).2.2.2⟩⟩
theorem ShR.gr (h : ShR w cur sv ls) (g : Gr cur cur') : ShR w cur' sv ls := by
  obtain ⟨us, h1, h2, h3⟩ := h.ex
  exact ⟨us, h1, OwnR.gr h2 g, fun i l u a b => (h3 i l u a b).imp (fun h => h.gr g) id⟩
theorem Bun.gr' (h : Bun w cur r pv wv sv ps ws ls xs ex) (g : Gr cur cur') : Bun w cur' r pv wv sv ps ws ls xs ex :=
  ⟨OwnR.gr h.p g, OwnR.gr h.q g, h.s.gr g, h.dis, h.gr.trans g, h.sx.gr g, fun b hb => (h.op b hb).gr g h.sx.lt, fun b hb => (h.oq b hb).gr g h.sx.lt, fun b hb => (h.os b hb).gr g h.sx.lt, fun z hz => ⟨g.heap (h.e z hz).1, (h.e z hz).2⟩⟩
theorem Bun.drew (h : Bun w cur r pv wv sv ps ws ls xs ex) : Bun w cur.drew r pv wv sv ps ws ls xs ex := h.gr' (Gr.refl cur).drew
/-- A block is laid. -/
theorem Bun.new (h : Bun w cur r pv wv sv ps ws ls xs ex) (cs : List Value) (T : TypeId) : Bun w (cur.alloc (.cells cs.toArray T)) r pv wv sv ps ws ls xs ((cur.heap.size, cs, T) :: ex) := by
  have h' := h.gr' ((Gr.refl cur).alloc (.cells cs.toArray T))
  refine ⟨h'.p, h'.q, h'.s, h'.dis, h'.gr, h'.sx, h'.op, h'.oq, h'.os, fun z hz => ?_⟩
  rcases List.mem_cons.1 hz with rfl | hz
  · obtain ⟨us, _, h2, _⟩ := h.s.ex
    exact ⟨heap_alloc_new cur _, fun e => Nat.lt_irrefl _ (OwnR.lt h.p _ e), fun e => Nat.lt_irrefl _ (OwnR.lt h.q _ e), fun e => Nat.lt_irrefl _ (h2.lt _ e)⟩
  · exact h'.e z hz
theorem Bun.drop (h : Bun w cur r pv wv sv ps ws ls xs ex) : Bun w cur r pv wv sv ps ws ls xs [] := ⟨h.p, h.q, h.s, h.dis, h.gr, h.sx, h.op, h.oq, h.os, fun z hz => by cases hz⟩
/-- The reader has gone on. -/
theorem Bun.fl {q : List Int} (h : Bun w cur r pv wv sv ps ws ls xs ex) (hr : w.heap.size ≤ r) (g : Fl r cur cur') (hs : Sx cur' r q false false) (hx : ∀ z ∈ ex, z.2.2 ≠ 56) : Bun w cur' r pv wv sv ps ws ls q ex := by
  obtain ⟨us, h1, h2, h3⟩ := h.s.ex
  have hn : ∀ {T : TypeId} {sz : Nat} {v : Value} {cs : List (List Value)}, OwnR T sz w.heap.size cur v cs → T ≠ 56 → ∀ b, v.ownBlock = some b → b ≠ r := fun ho hT b hb => by
    obtain ⟨_, c, hc⟩ := ho.blk b hb
    exact h.sx.ne hc hT
  refine ⟨OwnR.fx h.p g.fx (hn h.p (by decide)), OwnR.fx h.q g.fx (hn h.q (by decide)), ⟨us, h1, OwnR.fx h2 g.fx (hn h2 (by decide)), fun i l u a b => (h3 i l u a b).imp (fun ho => ?_) id⟩, h.dis, g.fx.gr h.gr hr, hs,
    fun b hb => g.off b (OwnR.lt h.p b hb) (h.op b hb), fun b hb => g.off b (OwnR.lt h.q b hb) (h.oq b hb), fun b hb => g.off b (h2.lt b hb) (h.os b hb), fun z hz => ⟨g.fx.heap (h.e z hz).1 (h.sx.ne (h.e z hz).1 (hx z hz)), (h.e z hz).2⟩⟩
  refine ho.kept g.fx (fun k hk c fr e => ?_)
  injection hk with hk
  subst hk
  exact h.sx.ne e (by decide) rfl

theorem off_keep {row : Option Nat} {b : Nat} (hs : Sx cur r xs false false) (g : cur.grownBy cur' row) (hrow : ∀ b, row = some b → b ≠ r) (h : OffX cur r b) : OffX cur' r b := fun u hu => h u (by
  rw [← hu]
  exact (World.cell?_of_block (a := ⟨r, 0, none⟩) (g.block r hs.lt (fun e => hrow r e.symm rfl))).symm)
theorem Bun.addP {pv' : Value} {ds : List St} (h : Bun w cur r pv wv sv ps ws ls xs ex) (h1 : OwnR 28 4 w.heap.size cur' pv' (ps.map St.cs ++ ds.map St.cs)) (h2 : cur.grownBy cur' pv.ownBlock)
    (h3 : pv'.ownBlock = pv.ownBlock ∨ pv'.ownBlock = some cur.heap.size) : Bun w cur' r pv' wv sv (ps ++ ds) ws ls xs ex := by
  obtain ⟨us, a1, a2, a3⟩ := h.s.ex
  have hne : ∀ b, pv.ownBlock = some b → b ≠ r := fun b hb => by obtain ⟨_, c, hc⟩ := OwnR.blk h.p b hb; exact h.sx.ne hc (by decide)
  refine ⟨by unfold OwnS; rw [List.map_append]; exact h1, OwnR.keep h.q h2 (fun b hb e => h.dis b e hb), ⟨us, a1, OwnR.other a2 h.p h2 (by decide), fun i l u a b => (a3 i l u a b).imp (fun ho => ho.rowKept h2 h.p (by decide)) id⟩, fun b hb => ?_,
    Gr.trans2 h.gr (OwnR.below h.p h2 h.gr.size) (Nat.le_refl _), h.sx.grown h2 (fun b hb => ⟨hne b hb, h.op b hb⟩), fun b hb => ?_, fun b hb => off_keep h.sx h2 hne (h.oq b hb), fun b hb => off_keep h.sx h2 hne (h.os b hb), fun z hz => ?_⟩
  · rcases h3 with h3 | h3
    · rw [h3] at hb; exact h.dis b hb
    · rw [h3] at hb; injection hb with hb; subst hb; exact fun e => Nat.lt_irrefl _ (OwnR.lt h.q _ e)
  · rcases h3 with h3 | h3
    · rw [h3] at hb; exact off_keep h.sx h2 hne (h.op b hb)
    · rw [h3] at hb; injection hb with hb; subst hb; exact off_keep h.sx h2 hne (h.sx.offX _ (Nat.le_refl _))
  · obtain ⟨b1, b2, b3, b4⟩ := h.e z hz
    refine ⟨by rw [h2.block z.1 (lt_of_some b1) (fun e => b2 e.symm)]; exact b1, ?_, b3, b4⟩
    rcases h3 with h3 | h3
    · rw [h3]; exact b2
    · rw [h3]; intro e; injection e with e; have := lt_of_some b1; omega
theorem Bun.addQ {wv' : Value} {ds : List St} (h : Bun w cur r pv wv sv ps ws ls xs ex) (h1 : OwnR 28 4 w.heap.size cur' wv' (ws.map St.cs ++ ds.map St.cs)) (h2 : cur.grownBy cur' wv.ownBlock)
    (h3 : wv'.ownBlock = wv.ownBlock ∨ wv'.ownBlock = some cur.heap.size) : Bun w cur' r pv wv' sv ps (ws ++ ds) ls xs ex := (h.swap.addP h1 h2 h3).swap
theorem Bun.addS {sv' u : Value} {l : List Int} (h : Bun w cur r pv wv sv ps ws ls xs ex) (us : List Value) (a1 : us.length = ls.length) (a2 : OwnR 24 1 w.heap.size cur sv (us.map fun u => [u]))
    (a3 : ∀ (i : Nat) (l : List Int) (u : Value), ls[i]? = some l → us[i]? = some u → Own w.heap.size cur u l ∨ Rd w u l) (hu : Own w.heap.size cur u l)
    (h1 : OwnR 24 1 w.heap.size cur' sv' ((us.map fun u => [u]) ++ [[u]])) (h2 : cur.grownBy cur' sv.ownBlock) (h3 : sv'.ownBlock = sv.ownBlock ∨ sv'.ownBlock = some cur.heap.size) : Bun w cur' r pv wv sv' ps ws (ls ++ [l]) xs ex := by
  have hne : ∀ b, sv.ownBlock = some b → b ≠ r := fun b hb => by obtain ⟨_, c, hc⟩ := a2.blk b hb; exact h.sx.ne hc (by decide)
  have hk : ∀ {u l}, Own w.heap.size cur u l → Own w.heap.size cur' u l := fun ho => ho.rowKept h2 a2 (by decide)
  refine ⟨OwnR.other h.p a2 h2 (by decide), OwnR.other h.q a2 h2 (by decide), ⟨us ++ [u], by simp [a1], by rw [List.map_append]; exact h1, fun i l' u' a b => ?_⟩, h.dis,
    Gr.trans2 h.gr (a2.below h2 h.gr.size) (Nat.le_refl _), h.sx.grown h2 (fun b hb => ⟨hne b hb, h.os b hb⟩), fun b hb => off_keep h.sx h2 hne (h.op b hb), fun b hb => off_keep h.sx h2 hne (h.oq b hb), fun b hb => ?_, fun z hz => ?_⟩
  · by_cases hi : i < ls.length
    · rw [List.getElem?_append_left hi] at a
      rw [List.getElem?_append_left (by omega)] at b
      exact (a3 i l' u' a b).imp hk id
    · rw [List.getElem?_append_right (by omega)] at a
      rw [List.getElem?_append_right (by omega), a1] at b
      have h0 : i - ls.length = 0 := by have := (List.getElem?_eq_some_iff.1 a).1; simp at this; omega
      rw [h0] at a b
      simp only [List.getElem?_cons_zero, Option.some.injEq] at a b
      subst a; subst b
      exact .inl (hk hu)
  · rcases h3 with h3 | h3
    · rw [h3] at hb; exact off_keep h.sx h2 hne (h.os b hb)
    · rw [h3] at hb; injection hb with hb; subst hb; exact off_keep h.sx h2 hne (h.sx.offX _ (Nat.le_refl _))
  · obtain ⟨b1, b2, b3, b4⟩ := h.e z hz
    refine ⟨by rw [h2.block z.1 (lt_of_some b1) (fun e => b4 e.symm)]; exact b1, b2, b3, ?_⟩
    rcases h3 with h3 | h3
    · rw [h3]; exact b4
    · rw [h3]; intro e; injection e with e; have := lt_of_some b1; omega
end

theorem OwnS.exs {B : Nat} {w1 : World} {v : Value} {l : List St} (h : OwnS B w1 v l) : ∃ exs : List (Nat × List Value × TypeId), (∀ z ∈ exs, w1.heap[z.1]? = some (.cells z.2.1.toArray z.2.2 (0, 0)) ∧ B ≤ z.1 ∧ z.2.2 = 28) ∧
    ∀ cur : World, (∀ z ∈ exs, cur.heap[z.1]? = some (.cells z.2.1.toArray z.2.2 (0, 0))) → OwnS B cur v l := by
  obtain ⟨h0, h1, h2⟩ := id h
  rcases h2 with h2 | ⟨b, cap, arr, hv, hg, hh, r⟩
  · exact ⟨[], (fun z hz => by cases hz), fun cur _ => ⟨h0, h1, .inl h2⟩⟩
  · exact ⟨[(b, arr.toList, _)], (fun z hz => by rw [List.mem_singleton] at hz; subst hz; exact ⟨hh, hg, rfl⟩), fun cur hc => ⟨h0, h1, .inr ⟨b, cap, arr, hv, hg, by have := hc _ (List.mem_singleton.2 rfl); simpa using this, r⟩⟩⟩
theorem Own.exs {B : Nat} {w1 : World} {v : Value} {l : List Int} (h : Own B w1 v l) : ∃ exs : List (Nat × List Value × TypeId), (∀ z ∈ exs, w1.heap[z.1]? = some (.cells z.2.1.toArray z.2.2 (0, 0)) ∧ z.2.2 = 5) ∧
    ∀ cur : World, (∀ z ∈ exs, cur.heap[z.1]? = some (.cells z.2.1.toArray z.2.2 (0, 0))) → Own B cur v l := by
  obtain ⟨⟨h1, h2⟩, h3⟩ := id h
  rcases h2 with h2 | ⟨b, cap, arr, hv, hg, hh, r⟩
  · exact ⟨[], (fun z hz => by cases hz), fun cur _ => ⟨⟨h1, .inl h2⟩, h3⟩⟩
  · exact ⟨[(b, arr.toList, _)], (fun z hz => by rw [List.mem_singleton] at hz; subst hz; exact ⟨hh, rfl⟩), fun cur hc => ⟨⟨h1, .inr ⟨b, cap, arr, hv, hg, by have := hc _ (List.mem_singleton.2 rfl); simpa using this, r⟩⟩, h3⟩⟩

section
variable {w cur cur' : World} {r : Nat} {pv wv sv : Value} {ps ws : List St} {ls : List (List Int)} {xs : List Int} {ex : List (Nat × List Value × TypeId)}
theorem Bun.sub {ex' : List (Nat × List Value × TypeId)} (h : Bun w cur r pv wv sv ps ws ls xs ex) (hs : ∀ z ∈ ex', z ∈ ex) : Bun w cur r pv wv sv ps ws ls xs ex' :=
  ⟨h.p, h.q, h.s, h.dis, h.gr, h.sx, h.op, h.oq, h.os, fun z hz => h.e z (hs z hz)⟩
/-- Blocks of another kind are beside the rows. -/
theorem Bun.more {ex' : List (Nat × List Value × TypeId)} (h : Bun w cur r pv wv sv ps ws ls xs ex) (hs : ∀ z ∈ ex', cur.heap[z.1]? = some (.cells z.2.1.toArray z.2.2 (0, 0)) ∧ z.2.2 = 5) : Bun w cur r pv wv sv ps ws ls xs (ex' ++ ex) := by
  refine ⟨h.p, h.q, h.s, h.dis, h.gr, h.sx, h.op, h.oq, h.os, fun z hz => ?_⟩
  rcases List.mem_append.1 hz with hz | hz
  · obtain ⟨h1, h2⟩ := hs z hz
    obtain ⟨us, _, a2, _⟩ := h.s.ex
    have key : ∀ {T : TypeId} {sz : Nat} {v : Value} {cs : List (List Value)}, OwnR T sz w.heap.size cur v cs → T ≠ 5 → v.ownBlock ≠ some z.1 := fun ho hT e => by
      obtain ⟨_, c, hc⟩ := ho.blk _ e
      rw [h1] at hc
      simp only [Option.some.injEq, Obj.cells.injEq] at hc
      exact hT (hc.2.1.symm.trans h2)
    exact ⟨h1, key h.p (by decide), key h.q (by decide), key a2 (by decide)⟩
  · exact h.e z hz
theorem Bun.four (h : Bun w cur r pv wv sv ps ws ls xs ex) {K : Nat} {k sz : Int} {be co : Bool} (hk : (K, [Value.int .i64 k, .int .i64 sz, .bool be, .bool co], 28) ∈ ex) :
    cur.cell? ⟨K, 0, none⟩ = some (.int .i64 k) ∧ cur.cell? ⟨K, 1, none⟩ = some (.int .i64 sz) ∧ cur.cell? ⟨K, 2, none⟩ = some (.bool be) ∧ cur.cell? ⟨K, 3, none⟩ = some (.bool co) := by
  have h1 := (h.e _ hk).1
  exact ⟨(blk_cell h1 0).trans rfl, (blk_cell h1 1).trans rfl, (blk_cell h1 2).trans rfl, (blk_cell h1 3).trans rfl⟩
theorem Bun.cells (h : Bun w cur r pv wv sv ps ws ls xs ex) {K : Nat} {cs : List Value} {T : TypeId} (hk : (K, cs, T) ∈ ex) {ds : List Value} (hd : ds = cs) : ∀ j u, ds[j]? = some u → cur.cell? ((⟨K, 0, none⟩ : Addr).add j) = some u := by
  intro j u hj
  have h1 := (h.e _ hk).1
  rw [Lib.addr_add, Nat.zero_add, blk_cell h1, List.getElem?_toArray, ← hd]
  exact hj
/-- The reader has stopped. -/
theorem Bun.exit {q : List Int} {t o : Bool} (h : Bun w cur r pv wv sv ps ws ls xs ex) (hr : w.heap.size ≤ r) (g : Fl r cur cur') (_hs : Sx cur' r q t o) : OwnS w.heap.size cur' pv ps ∧ OwnS w.heap.size cur' wv ws ∧ ShR w cur' sv ls ∧ Gr w cur' := by
  obtain ⟨us, h1, h2, h3⟩ := h.s.ex
  have hn : ∀ {T : TypeId} {sz : Nat} {v : Value} {cs : List (List Value)}, OwnR T sz w.heap.size cur v cs → T ≠ 56 → ∀ b, v.ownBlock = some b → b ≠ r := fun ho hT b hb => by
    obtain ⟨_, c, hc⟩ := ho.blk b hb
    exact h.sx.ne hc hT
  refine ⟨OwnR.fx h.p g.fx (hn h.p (by decide)), OwnR.fx h.q g.fx (hn h.q (by decide)), ⟨us, h1, OwnR.fx h2 g.fx (hn h2 (by decide)), fun i l u a b => (h3 i l u a b).imp (fun ho => ?_) id⟩, g.fx.gr h.gr hr⟩
  refine ho.kept g.fx (fun k hk c fr e => ?_)
  injection hk with hk
  subst hk
  exact h.sx.ne e (by decide) rfl
end
theorem wp_append_rowB {T : TypeId} {sz bytes : Nat} {z : Value} {w : World} {t : TypeId} {o : Oper} {a : Act} {K : Act → World → Prop} {Q : Exit → Act → World → Prop} (s x : Operand)
    (ho : o.op = .call { callee := .builtin .append, args := #[s, x], argTypes := #[t, t] }) (hsl : Tryd.prog.underlying t = some (.slice T))
    (hinfo : (Tryd.prog.info? T).map (fun i => (i.zero, i.size, i.bytes)) = some (some z, sz, bytes)) (hzs : z.cells.size = sz) (hsz : 0 < sz) (hby : bytes ≤ 10000)
    {B : Nat} {v : Value} {cs : List (List Value)} (hs : a.eval s = v) (hown : OwnR T sz B w v cs) (ds : List (List Value)) (hd : ∀ c ∈ ds, c.length = sz ∧ ∀ u ∈ c, u.oneCell' = true)
    (A : Addr) (m c : Nat) (hx : a.eval x = .slice (some A) m c) (hm : ds.length = m) (hc : ∀ j u, ds.flatten[j]? = some u → w.cell? (A.add j) = some u) (hlim : cs.length + m ≤ 1000000) (hB : B ≤ w.heap.size)
    (h : ∀ v' w', OwnR T sz B w' v' (cs ++ ds) → w.grownBy w' v.ownBlock → (v'.ownBlock = v.ownBlock ∨ v'.ownBlock = some w.heap.size) → K (a.put o.dst v') w') : Oper.wp Tryd.prog o a w K Q := by
  obtain ⟨v', w', hrun, h2, h3, h4⟩ := run_append_rowB (ty := o.type) hsl hinfo hzs hsz hby hown ds hd A m c hm hc hlim hB
  unfold Oper.wp execOp
  simp only [ho, resolve, invoke, builtin, Sem.run_bind, Sem.run_pure, Result.andThen_ok, List.map_toArray, List.map_cons, List.map_nil, hs, hx, hrun]
  exact h v' w' h2 h3 h4
theorem u8sInfo : (Tryd.prog.info? 24).map (fun i => (i.zero, i.size, i.bytes)) = some (some (.slice none 0 0), 1, 24) := by kernel_rfl
theorem sl_one (p : Option Addr) (n c : Nat) : ∀ x ∈ [[Value.slice p n c]], x.length = 1 ∧ ∀ u ∈ x, u.oneCell' = true := by
  intro x hx
  rw [List.mem_singleton] at hx
  subst hx
  exact ⟨rfl, fun u hu => by rw [List.mem_singleton] at hu; subst hu; rfl⟩
theorem st_all (l : List St) : ∀ c ∈ l.map St.cs, c.length = 4 ∧ ∀ u ∈ c, u.oneCell' = true := by
  intro c hc
  obtain ⟨x, _, rfl⟩ := List.mem_map.1 hc
  exact st_one x _ (List.mem_singleton.2 rfl)

/-- A step, what it gives, how many bytes are shown ahead of it, and these. -/
structure Tr where
  x : St
  g : G
  n : Nat
  s : List Int
def pkSt (n : Nat) : St := ⟨9, (n : Nat), false, false⟩
def pkG (s : List Int) : G := ⟨true, s, [], 0, ⟨#[]⟩⟩
def wSt (ts : List Tr) : List St := ts.flatMap fun t => [pkSt t.n, t.x]
def wG (ts : List Tr) : List G := ts.flatMap fun t => [pkG t.s, t.g]
theorem wSt_snoc (ts : List Tr) (t : Tr) : wSt (ts ++ [t]) = wSt ts ++ [pkSt t.n, t.x] := by simp [wSt]
theorem wG_snoc (ts : List Tr) (t : Tr) : wG (ts ++ [t]) = wG ts ++ [pkG t.s, t.g] := by simp [wG]
theorem wSt_len (ts : List Tr) : (wSt ts).length = 2 * ts.length := by
  induction ts with
  | nil => rfl
  | cons t ts ih => simp only [wSt, List.flatMap_cons, List.length_append, List.length_cons, List.length_nil] at ih ⊢; omega
theorem wG_len (ts : List Tr) : (wG ts).length = 2 * ts.length := by
  induction ts with
  | nil => rfl
  | cons t ts ih => simp only [wG, List.flatMap_cons, List.length_append, List.length_cons, List.length_nil] at ih ⊢; omega
theorem wG_at : ∀ (ts : List Tr) (i : Nat) (hi : i < ts.length), (wG ts)[2 * i]? = some (pkG ts[i].s) ∧ (wG ts)[2 * i + 1]? = some ts[i].g
  | [], i, hi => by simp at hi
  | t :: ts, 0, _ => by simp [wG]
  | t :: ts, i + 1, hi => by
    have ih := wG_at ts i (by simpa using hi)
    have e : wG (t :: ts) = pkG t.s :: t.g :: wG ts := by simp [wG]
    rw [e, show 2 * (i + 1) = 2 * i + 1 + 1 by omega]
    simp only [List.getElem?_cons_succ, List.getElem_cons_succ]
    exact ih
theorem peek_does {big : Bool} {xs : List Int} (n : Nat) (hn : n ≤ xs.length) (hl : xs.length ≤ 2147483647) : Does big (pkSt n) xs (some (pkG (xs.take n), xs)) :=
  fun s ch E w hs => got_peek s big ch E xs xs _ n false false w hs hn rfl rfl (by rw [List.length_take]; omega)
end Go.Proofs.YtgkccbfepjgjoaaDoor
