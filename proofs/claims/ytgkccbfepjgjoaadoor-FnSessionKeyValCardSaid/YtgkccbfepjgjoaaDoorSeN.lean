/- A session that reads, as the thin package has it: its beginning, what is left of its input, the rows of its steps and of its answers. -/
import Derived.Test.YtgkccbfepjgjoaaDoorSeK
import Derived.Laws.AppendOwn
import Derived.Maps.AppendAt
namespace Go.Proofs.YtgkccbfepjgjoaaDoor
open Go Go.RowKit

theorem newSession (p : Option Addr) (n c : Nat) (w : World) : Calls Tryd.prog 37 #[.slice p n c] w fun e w' => e = .returned (.pointer (some ⟨w.heap.size, 0, none⟩)) ∧ w' = w.alloc (.cells (snCells (.slice p n c) 0 false 64) 81) := by
  unfold snCells
  go_enter Tryd.func37, Tryd.ntmps37
  go_wp2
  go_ret
  exact ⟨rfl, rfl⟩

theorem cut1 {w : World} {v : Value} {xs : List Int} (h : Rd w v xs) (i : Nat) (hin : i ≤ xs.length) :
    ∃ u, Rd w u (xs.drop i) ∧ (∀ s, LoV s v → LoV s u) ∧ ∀ w2, (Instr.slice 24 v (some (.int .i64 (i : Int))) none none).run Tryd.prog w2 = .ok u w2 := by
  by_cases h0 : 0 < xs.length
  · obtain ⟨b, o, c, rfl, hc, hm, hat⟩ := h.at' h0
    refine ⟨.slice (some ⟨b, cutOff o c i, none⟩) (xs.length - i) (c - i), ?_, ?_, fun w2 => run_cut1 u8 b o _ c i _ rfl hin w2⟩
    · unfold cutOff
      by_cases e : c = i
      · obtain rfl : xs.length = i := by omega
        rw [if_pos e, List.drop_length, Nat.sub_self]
        exact ⟨_, c - xs.length, rfl, Nat.zero_le _, by omega, (fun e => by cases e), Lib.BytesIn.nil _ _ _, fun x hx => by cases hx⟩
      · rw [if_neg e]
        exact (hat.drop i).rd (by rw [List.length_drop]) (by omega) (by simp only [maxLen] at hm ⊢; omega)
    · intro s hs a n' c' e
      injection e with e
      injection e with e
      subst e
      exact hs ⟨b, o, none⟩ _ _ rfl
  · obtain ⟨p, c, rfl, hc, hm, hp, hb, hby⟩ := h
    obtain rfl : xs = [] := List.eq_nil_of_length_eq_zero (by omega)
    simp only [List.length_nil] at hin
    obtain rfl : i = 0 := by omega
    obtain ⟨x, hi, hz, hz1, hz2⟩ := info_parts u8.info
    cases p with
    | none =>
      obtain rfl := hp rfl
      refine ⟨.slice none 0 0, Rd.nil w, fun _ h => h, fun w2 => ?_⟩
      simp [Instr.slice, Instr.sliceBounds, Instr.sliceBound, asIntOf, run_underlying u8.under, sizeOf, typeInfo, hi]
    | some a =>
      refine ⟨.slice (some a) 0 c, ⟨_, c, rfl, Nat.zero_le _, hm, (fun e => by cases e), Lib.BytesIn.nil _ _ _, fun x hx => by cases hx⟩, ?_, fun w2 => ?_⟩
      · intro s hs a' n' c' e
        injection e with e
        injection e with e
        subst e
        exact hs _ _ _ rfl
      have : (a.add 0) = a := by
        cases a with
        | mk b o s => cases s <;> rfl
      simp [Instr.slice, Instr.sliceBounds, Instr.sliceBound, asIntOf, run_underlying u8.under, sizeOf, typeInfo, hi, this]

theorem rest (s : Nat) (big : Bool) (ch : Int) (E : Value) (r : List Int) (w : World) (h : Ss w s big ch E r) :
    Calls Tryd.prog 39 #[.pointer (some ⟨s, 0, none⟩)] w fun e w' => ∃ u, e = .returned u ∧ Rd w' u r ∧ Gr w w' := by
  obtain ⟨v, xs, i, h1, rfl, h3, h4⟩ := h
  have s0 : w.cell? ⟨s, 0, none⟩ = some v := (blk_cell h1.blk 0).trans rfl
  have s4 : w.cell? ⟨s, 4, none⟩ = some (.int .i64 i) := (blk_cell h1.blk 4).trans rfl
  obtain ⟨u, hu, _, hcut⟩ := cut1 h1.rd i h1.le
  obtain ⟨p, c, hv, _⟩ := id h1.rd
  have HU := Lib.hid hu
  generalize xs.length = N at hv
  subst hv
  clear h1 hu
  go_enter Tryd.func39, Tryd.ntmps39
  go_wp2
  go_quiet (fail)
  go_wp2
  go_ret
  exact ⟨_, rfl, HU.out.gr ((Gr.refl w).drewN _), (Gr.refl w).drewN _⟩

/-- A step of a reader. -/
structure St where
  k : Int
  sz : Int
  be : Bool
  co : Bool
def St.cs (x : St) : List Value := [.int .i64 x.k, .int .i64 x.sz, .bool x.be, .bool x.co]
def St.val (x : St) : Value := .agg #[.int .i64 x.k, .int .i64 x.sz, .bool x.be, .bool x.co]

/-- The slice value v reads as the steps l. -/
def RdSt (w : World) (v : Value) (l : List St) : Prop :=
  ∃ p c, v = .slice p l.length c ∧ l.length ≤ c ∧ c ≤ maxLen ∧ (0 < l.length → ∃ b o, p = some ⟨b, o, none⟩ ∧ ∀ i (hi : i < l.length), w.cell? ⟨b, o + i * 4, none⟩ = some (.int .i64 l[i].k) ∧ w.cell? ⟨b, o + i * 4 + 1, none⟩ = some (.int .i64 l[i].sz) ∧ w.cell? ⟨b, o + i * 4 + 2, none⟩ = some (.bool l[i].be) ∧ w.cell? ⟨b, o + i * 4 + 3, none⟩ = some (.bool l[i].co))
theorem RdSt.gr {a w : World} {v : Value} {l : List St} (h : RdSt a v l) (g : Gr a w) : RdSt w v l := by
  obtain ⟨p, c, rfl, h1, h2, h3⟩ := h
  refine ⟨p, c, rfl, h1, h2, fun hn => ?_⟩
  obtain ⟨b, o, rfl, hc⟩ := h3 hn
  exact ⟨b, o, rfl, fun i hi => ⟨g.cell (hc i hi).1, g.cell (hc i hi).2.1, g.cell (hc i hi).2.2.1, g.cell (hc i hi).2.2.2⟩⟩

/-- The cells of an answer: its bytes lie in rows of their own. -/
def G.cs (g : G) (d o : Value) : List Value := [.bool g.ok, d, o, .int .i64 g.n, .string g.t]
def flatG : List G → List (Value × Value) → List Value
  | g :: gs, p :: ps => g.cs p.1 p.2 ++ flatG gs ps
  | _, _ => []
/-- A row of answers of the call's own. -/
def OwnG (B : Nat) (w : World) (v : Value) (gs : List G) : Prop :=
  ∃ ps : List (Value × Value), ps.length = gs.length ∧ w.ownsRow B 31 5 v gs.length (flatG gs ps) ∧
    ∀ (i : Nat) (g : G) (p : Value × Value), gs[i]? = some g → ps[i]? = some p → Own B w p.1 g.d ∧ Own B w p.2 g.o
theorem OwnG.nil (B : Nat) (w : World) : OwnG B w (.slice none 0 0) [] := ⟨[], rfl, World.ownsRow_nil _ _ _ _, fun i g p h => by simp at h⟩

/-- Bytes of the call's own stay where a row of answers is written. -/
theorem Own.kept {B : Nat} {a w : World} {v : Value} {xs : List Int} (r : Own B a v xs) {row : Option Nat} (h : a.grownBy w row) (hr : ∀ k, row = some k → ∀ c fr, a.heap[k]? ≠ some (.cells c 5 fr)) : Own B w v xs := by
  obtain ⟨⟨h1, h2⟩, h3⟩ := r
  refine ⟨⟨h1, ?_⟩, h3⟩
  rcases h2 with h2 | ⟨g, cap, cur, hv, hg, hh, r⟩
  · exact Or.inl h2
  · refine Or.inr ⟨g, cap, cur, hv, hg, ?_, r⟩
    rw [h.block g (lt_of_some hh) (fun e => hr g e.symm _ _ hh)]
    exact hh

theorem Own.below {B C : Nat} {a w : World} {v : Value} {xs : List Int} (r : Own B a v xs) (h : Below C a w) (hC : ∀ p n c, v = .slice (some p) n c → p.block < C) : Own B w v xs := by
  obtain ⟨⟨h1, h2⟩, h3⟩ := r
  refine ⟨⟨h1, ?_⟩, h3⟩
  rcases h2 with h2 | ⟨g, cap, cur, rfl, hg, hh, r⟩
  · exact Or.inl h2
  · exact Or.inr ⟨g, cap, cur, rfl, hg, (Below.block h g (hC _ _ _ rfl)).trans hh, r⟩

theorem OwnG.gr {B : Nat} {a w : World} {v : Value} {gs : List G} (h : OwnG B a v gs) (g : Gr a w) : OwnG B w v gs := by
  obtain ⟨ps, hl, ho, hi⟩ := h
  refine ⟨ps, hl, ?_, fun i g' p h1 h2 => ⟨(hi i g' p h1 h2).1.gr g, (hi i g' p h1 h2).2.gr g⟩⟩
  refine ⟨ho.1, ?_⟩
  rcases ho.2 with h2 | ⟨b, cap, cur, hv, hg, hh, r⟩
  · exact Or.inl h2
  · exact Or.inr ⟨b, cap, cur, hv, hg, g.heap hh, r⟩
theorem OwnG.fx {B s : Nat} {a w : World} {v : Value} {gs : List G} (h : OwnG B a v gs) (f : Fx s a w) (hs : s < B) : OwnG B w v gs := by
  obtain ⟨ps, hl, ho, hi⟩ := h
  refine ⟨ps, hl, ?_, fun i g' p h1 h2 => ⟨(hi i g' p h1 h2).1.fx f hs, (hi i g' p h1 h2).2.fx f hs⟩⟩
  refine ⟨ho.1, ?_⟩
  rcases ho.2 with h2 | ⟨b, cap, cur, hv, hg, hh, r⟩
  · exact Or.inl h2
  · exact Or.inr ⟨b, cap, cur, hv, hg, f.heap hh (by omega), r⟩
theorem OwnG.row {B : Nat} {w : World} {v : Value} {gs : List G} (h : OwnG B w v gs) : ∀ k, v.ownBlock = some k → B ≤ k ∧ ∃ c, w.heap[k]? = some (.cells c 31 (0, 0)) := by
  obtain ⟨ps, hl, ho, hi⟩ := h
  intro k hk
  rcases ho.2 with ⟨rfl, _⟩ | ⟨b, cap, cur, rfl, hg, hh, r⟩
  · cases hk
  · simp only [Value.ownBlock, Option.some.injEq] at hk
    subst hk
    exact ⟨hg, cur, hh⟩

theorem flatG_snoc : ∀ (gs : List G) (ps : List (Value × Value)) (g : G) (p : Value × Value), ps.length = gs.length → flatG (gs ++ [g]) (ps ++ [p]) = flatG gs ps ++ g.cs p.1 p.2
  | [], [], g, p, _ => by simp [flatG]
  | a :: gs, b :: ps, g, p, h => by
    simp only [List.cons_append, flatG]
    rw [flatG_snoc gs ps g p (by simpa using h), List.append_assoc]
  | [], _ :: _, _, _, h => by simp at h
  | _ :: _, [], _, _, h => by simp at h

theorem gotInfo : (Tryd.prog.info? 31).map (fun i => (i.zero, i.size, i.bytes)) = some (some zeroG, 5, 80) := by kernel_rfl

theorem run_append_got {w : World} {ty : TypeId} {B : Nat} {v : Value} {gs : List G} (hown : OwnG B w v gs) (g : G) (d o : Value) (H c : Nat)
    (hc : ∀ j u, (g.cs d o)[j]? = some u → w.cell? ⟨H, j, none⟩ = some u) (hd : Own B w d g.d) (ho : Own B w o g.o) (hlim : gs.length + 1 ≤ 1000000000) (hB : B ≤ w.heap.size) :
    ∃ v' w', (Builtin.append_ #[23, 23] ty #[v, .slice (some ⟨H, 0, none⟩) 1 c]).run Tryd.prog w = .ok v' w' ∧ OwnG B w' v' (gs ++ [g]) ∧ Below B w w' ∧ ∀ row, w.heap[row]? ≠ none → some row ≠ v.ownBlock → w'.heap[row]? = w.heap[row]? := by
  obtain ⟨ps, hl, hrow, hi⟩ := id hown
  obtain ⟨i, hi0, hz0, hz1, hz2⟩ := info_parts gotInfo
  have hdc : d.oneCell' = true := by obtain ⟨_, _, rfl, _⟩ := hd.rd; rfl
  have hoc : o.oneCell' = true := by obtain ⟨_, _, rfl, _⟩ := ho.rd; rfl
  obtain ⟨v', w', hrun, h2, h3, _, h5⟩ := run_append_own_at (P := Tryd.prog) w B 23 ty 31 i zeroG 5 80 Tryd.underlying23 hi0 hz0 hz1 hz2 rfl (by omega) v gs.length (flatG gs ps) hrow ⟨H, 0, none⟩ 1 c (g.cs d o) (by simp [G.cs]) (fun j u hu => by rw [Lib.addr_add, Nat.zero_add]; exact hc j u hu) (by
    intro u hu
    simp only [G.cs, List.mem_cons, List.not_mem_nil, or_false] at hu
    rcases hu with rfl | rfl | rfl | rfl | rfl
    · rfl
    · exact hdc
    · exact hoc
    · rfl
    · rfl) (by simp only [maxLen]; omega) (by omega) hB
  have htag : ∀ k, v.ownBlock = some k → ∀ c fr, w.heap[k]? ≠ some (.cells c 5 fr) := by
    intro k hk c fr e
    obtain ⟨_, c2, h⟩ := hown.row k hk
    rw [h] at e
    simp at e
  have hrb : ∀ k, v.ownBlock = some k → B ≤ k := fun k hk => (hown.row k hk).1
  refine ⟨v', w', hrun, ⟨ps ++ [(d, o)], by simp [hl], by rw [flatG_snoc _ _ _ _ hl, List.length_append]; exact h2, ?_⟩, Below.grown (Below.refl B w) h3 hB hrb, fun row hne hr => h3.block row (by
    rcases Nat.lt_or_ge row w.heap.size with h | h
    · exact h
    · exact absurd (Array.getElem?_eq_none h) hne) hr⟩
  intro j g' p h1 h4
  rcases Nat.lt_trichotomy j gs.length with hj | hj | hj
  · rw [List.getElem?_append_left hj] at h1
    rw [List.getElem?_append_left (by omega)] at h4
    exact ⟨(hi j g' p h1 h4).1.kept h3 htag, (hi j g' p h1 h4).2.kept h3 htag⟩
  · subst hj
    rw [List.getElem?_append_right (Nat.le_refl _), Nat.sub_self] at h1
    rw [List.getElem?_append_right (by omega), hl, Nat.sub_self] at h4
    simp at h1 h4
    subst h1; subst h4
    exact ⟨hd.kept h3 htag, ho.kept h3 htag⟩
  · rw [List.getElem?_append_right (by omega), List.getElem?_eq_none (by simp; omega)] at h1
    cases h1

theorem wpList_append_got {w : World} {ops : Array Oper} {rest : List Oper} {o : Oper} {a : Act} {Q : Exit → Act → World → Prop} (hgd : o.guard = none) (s x : Operand)
    (ho : o.op = .call { callee := .builtin .append, args := #[s, x], argTypes := #[23, 23] }) {B : Nat} {v : Value} {gs : List G} (hs : a.eval s = v) (hown : OwnG B w v gs)
    (g : G) (d o' : Value) (H c : Nat) (hx : a.eval x = .slice (some ⟨H, 0, none⟩) 1 c)
    (hc : ∀ j u, (g.cs d o')[j]? = some u → w.cell? ⟨H, j, none⟩ = some u) (hd : Own B w d g.d) (ho' : Own B w o' g.o) (hlim : gs.length + 1 ≤ 1000000000) (hB : B ≤ w.heap.size)
    (h : ∀ v' w', OwnG B w' v' (gs ++ [g]) → Below B w w' → (∀ row, w.heap[row]? ≠ none → some row ≠ v.ownBlock → w'.heap[row]? = w.heap[row]?) → wpList Tryd.prog ops Q rest (a.put o.dst v') w') : wpList Tryd.prog ops Q (o :: rest) a w := by
  obtain ⟨v', w', hrun, h2, h3, h4⟩ := run_append_got (ty := o.type) hown g d o' H c hc hd ho' hlim hB
  refine wpList_plain hgd fun K hK => ?_
  unfold Oper.wp execOp
  simp only [ho, resolve, invoke, builtin, Sem.run_bind, Sem.run_pure, Result.andThen_ok, List.map_toArray, List.map_cons, List.map_nil, hs, hx, hrun]
  exact hK _ _ (h v' w' h2 h3 h4)
end Go.Proofs.YtgkccbfepjgjoaaDoor
