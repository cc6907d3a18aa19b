/- Several texts in one (merge.py): SeN, SeO. -/
import Derived.Test.YtgkccbfepjgjoaaDoorSeMb
import Derived.Laws.AppendOwn
import Derived.Maps.AppendAt
import Derived.LoopTactic
/- A session that reads, as the thin package has it: its beginning, what is left of its input, the rows of its steps and of its answers. -/
namespace Go.Proofs.YtgkccbfepjgjoaaDoor
open Go Go.RowKit

theorem newSession (p : Option Addr) (n c : Nat) (w : World) : Calls Tryd.prog 37 #[.slice p n c] w fun e w' => e = .returned (.pointer (some ⟨w.heap.size, 0, none⟩)) ∧ w' = w.alloc (.cells (snCells (.slice p n c) 0 false 64) 81) := by
  unfold snCells
  go_enter Tryd.func37, Tryd.ntmps37
  go_wp2
  go_ret
  exact ⟨rfl, rfl⟩

theorem cut1 {w : World} {v : Value} {xs : List Int} (h : Rd w v xs) (i : Nat) (hin : i ≤ xs.length) :
    ∃ u, Rd w u (xs.drop i) ∧ (∀ s, LoV s v → LoV s u) ∧ ∀ w2, (Instr.slice 24 v (some (.int .i64 (i : Int))) none none).run Tryd.prog w2 = .ok u w2 := by
  by_cases h0 : 0 < xs.length
  · obtain ⟨b, o, c, rfl, hc, hm, hat⟩ := h.at' h0
    refine ⟨.slice (some ⟨b, cutOff o c i, none⟩) (xs.length - i) (c - i), ?_, ?_, fun w2 => run_cut1 u8 b o _ c i _ rfl hin w2⟩
    · unfold cutOff
      by_cases e : c = i
      · obtain rfl : xs.length = i := by omega
        rw [if_pos e, List.drop_length, Nat.sub_self]
        exact ⟨_, c - xs.length, rfl, Nat.zero_le _, by omega, (fun e => by cases e), Lib.BytesIn.nil _ _ _, fun x hx => by cases hx⟩
      · rw [if_neg e]
        exact (hat.drop i).rd (by rw [List.length_drop]) (by omega) (by simp only [maxLen] at hm ⊢; omega)
    · intro s hs a n' c' e
      injection e with e
      injection e with e
      subst e
      exact hs ⟨b, o, none⟩ _ _ rfl
  · obtain ⟨p, c, rfl, hc, hm, hp, hb, hby⟩ := h
    obtain rfl : xs = [] := List.eq_nil_of_length_eq_zero (by omega)
    simp only [List.length_nil] at hin
    obtain rfl : i = 0 := by omega
    obtain ⟨x, hi, hz, hz1, hz2⟩ := info_parts u8.info
    cases p with
    | none =>
      obtain rfl := hp rfl
      refine ⟨.slice none 0 0, Rd.nil w, fun _ h => h, fun w2 => ?_⟩
      simp [Instr.slice, Instr.sliceBounds, Instr.sliceBound, asIntOf, run_underlying u8.under, sizeOf, typeInfo, hi]
    | some a =>
      refine ⟨.slice (some a) 0 c, ⟨_, c, rfl, Nat.zero_le _, hm, (fun e => by cases e), Lib.BytesIn.nil _ _ _, fun x hx => by cases hx⟩, ?_, fun w2 => ?_⟩
      · intro s hs a' n' c' e
        injection e with e
        injection e with e
        subst e
        exact hs _ _ _ rfl
      have : (a.add 0) = a := by
        cases a with
        | mk b o s => cases s <;> rfl
      simp [Instr.slice, Instr.sliceBounds, Instr.sliceBound, asIntOf, run_underlying u8.under, sizeOf, typeInfo, hi, this]

theorem rest (s : Nat) (big : Bool) (ch : Int) (E : Value) (r : List Int) (w : World) (h : Ss w s big ch E r) :
    Calls Tryd.prog 39 #[.pointer (some ⟨s, 0, none⟩)] w fun e w' => ∃ u, e = .returned u ∧ Rd w' u r ∧ Gr w w' := by
  obtain ⟨v, xs, i, h1, rfl, h3, h4⟩ := h
  have s0 : w.cell? ⟨s, 0, none⟩ = some v := (blk_cell h1.blk 0).trans rfl
  have s4 : w.cell? ⟨s, 4, none⟩ = some (.int .i64 i) := (blk_cell h1.blk 4).trans rfl
  obtain ⟨u, hu, _, hcut⟩ := cut1 h1.rd i h1.le
  obtain ⟨p, c, hv, _⟩ := id h1.rd
  have HU := Lib.hid hu
  generalize xs.length = N at hv
  subst hv
  clear h1 hu
  go_enter Tryd.func39, Tryd.ntmps39
  go_wp2
  go_quiet (fail)
  go_wp2
  go_ret
  exact ⟨_, rfl, HU.out.gr ((Gr.refl w).drewN _), (Gr.refl w).drewN _⟩

/-- A step of a reader. -/
structure St where
  k : Int
  sz : Int
  be : Bool
  co : Bool
def St.cs (x : St) : List Value := [.int .i64 x.k, .int .i64 x.sz, .bool x.be, .bool x.co]
def St.val (x : St) : Value := .agg #[.int .i64 x.k, .int .i64 x.sz, .bool x.be, .bool x.co]

/-- The slice value v reads as the steps l. -/
def RdSt (w : World) (v : Value) (l : List St) : Prop :=
  ∃ p c, v = .slice p l.length c ∧ l.length ≤ c ∧ c ≤ maxLen ∧ (0 < l.length → ∃ b o, p = some ⟨b, o, none⟩ ∧ ∀ i (hi : i < l.length), w.cell? ⟨b, o + i * 4, none⟩ = some (.int .i64 l[i].k) ∧ w.cell? ⟨b, o + i * 4 + 1, none⟩ = some (.int .i64 l[i].sz) ∧ w.cell? ⟨b, o + i * 4 + 2, none⟩ = some (.bool l[i].be) ∧ w.cell? ⟨b, o + i * 4 + 3, none⟩ = some (.bool l[i].co))
theorem RdSt.gr {a w : World} {v : Value} {l : List St} (h : RdSt a v l) (g : Gr a w) : RdSt w v l := by
  obtain ⟨p, c, rfl, h1, h2, h3⟩ := h
  refine ⟨p, c, rfl, h1, h2, fun hn => ?_⟩
  obtain ⟨b, o, rfl, hc⟩ := h3 hn
  exact ⟨b, o, rfl, fun i hi => ⟨g.cell (hc i hi).1, g.cell (hc i hi).2.1, g.cell (hc i hi).2.2.1, g.cell (hc i hi).2.2.2⟩⟩

/-- The cells of an answer: its bytes lie in rows of their own. -/
def G.cs (g : G) (d o : Value) : List Value := [.bool g.ok, d, o, .int .i64 g.n, .string g.t]
def flatG : List G → List (Value × Value) → List Value
  | g :: gs, p :: ps => g.cs p.1 p.2 ++ flatG gs ps
  | _, _ => []
/-- A row of answers of the call's own. -/
def OwnG (B : Nat) (w : World) (v : Value) (gs : List G) : Prop :=
  ∃ ps : List (Value × Value), ps.length = gs.length ∧ w.ownsRow B 31 5 v gs.length (flatG gs ps) ∧
    ∀ (i : Nat) (g : G) (p : Value × Value), gs[i]? = some g → ps[i]? = some p → Own B w p.1 g.d ∧ Own B w p.2 g.o
theorem OwnG.nil (B : Nat) (w : World) : OwnG B w (.slice none 0 0) [] := ⟨[], rfl, World.ownsRow_nil _ _ _ _, fun i g p h => by simp at h⟩

/-- Bytes of the call's own stay where a row of answers is written. -/
theorem Own.kept {B : Nat} {a w : World} {v : Value} {xs : List Int} (r : Own B a v xs) {row : Option Nat} (h : a.grownBy w row) (hr : ∀ k, row = some k → ∀ c fr, a.heap[k]? ≠ some (.cells c 5 fr)) : Own B w v xs := by
  obtain ⟨⟨h1, h2⟩, h3⟩ := r
  refine ⟨⟨h1, ?_⟩, h3⟩
  rcases h2 with h2 | ⟨g, cap, cur, hv, hg, hh, r⟩
  · exact Or.inl h2
  · refine Or.inr ⟨g, cap, cur, hv, hg, ?_, r⟩
    rw [h.block g (lt_of_some hh) (fun e => hr g e.symm _ _ hh)]
    exact hh

theorem Own.below {B C : Nat} {a w : World} {v : Value} {xs : List Int} (r : Own B a v xs) (h : Below C a w) (hC : ∀ p n c, v = .slice (some p) n c → p.block < C) : Own B w v xs := by
  obtain ⟨⟨h1, h2⟩, h3⟩ := r
  refine ⟨⟨h1, ?_⟩, h3⟩
  rcases h2 with h2 | ⟨g, cap, cur, rfl, hg, hh, r⟩
  · exact Or.inl h2
  · exact Or.inr ⟨g, cap, cur, rfl, hg, (Below.block h g (hC _ _ _ rfl)).trans hh, r⟩

theorem OwnG.gr {B : Nat} {a w : World} {v : Value} {gs : List G} (h : OwnG B a v gs) (g : Gr a w) : OwnG B w v gs := by
  obtain ⟨ps, hl, ho, hi⟩ := h
  refine ⟨ps, hl, ?_, fun i g' p h1 h2 => ⟨(hi i g' p h1 h2).1.gr g, (hi i g' p h1 h2).2.gr g⟩⟩
  refine ⟨ho.1, ?_⟩
  rcases ho.2 with h2 | ⟨b, cap, cur, hv, hg, hh, r⟩
  · exact Or.inl h2
  · exact Or.inr ⟨b, cap, cur, hv, hg, g.heap hh, r⟩
theorem OwnG.fx {B s : Nat} {a w : World} {v : Value} {gs : List G} (h : OwnG B a v gs) (f : Fx s a w) (hs : s < B) : OwnG B w v gs := by
  obtain ⟨ps, hl, ho, hi⟩ := h
  refine ⟨ps, hl, ?_, fun i g' p h1 h2 => ⟨(hi i g' p h1 h2).1.fx f hs, (hi i g' p h1 h2).2.fx f hs⟩⟩
  refine ⟨ho.1, ?_⟩
  rcases ho.2 with h2 | ⟨b, cap, cur, hv, hg, hh, r⟩
  · exact Or.inl h2
  · exact Or.inr ⟨b, cap, cur, hv, hg, f.heap hh (by omega), r⟩
theorem OwnG.row {B : Nat} {w : World} {v : Value} {gs : List G} (h : OwnG B w v gs) : ∀ k, v.ownBlock = some k → B ≤ k ∧ ∃ c, w.heap[k]? = some (.cells c 31 (0, 0)) := by
  obtain ⟨ps, hl, ho, hi⟩ := h
  intro k hk
  rcases ho.2 with ⟨rfl, _⟩ | ⟨b, cap, cur, rfl, hg, hh, r⟩
  · cases hk
  · simp only [Value.ownBlock, Option.some.injEq] at hk
    subst hk
    exact ⟨hg, cur, hh⟩

theorem flatG_snoc : ∀ (gs : List G) (ps : List (Value × Value)) (g : G) (p : Value × Value), ps.length = gs.length → flatG (gs ++ [g]) (ps ++ [p]) = flatG gs ps ++ g.cs p.1 p.2
  | [], [], g, p, _ => by simp [flatG]
  | a :: gs, b :: ps, g, p, h => by
    simp only [List.cons_append, flatG]
    rw [flatG_snoc gs ps g p (by simpa using h), List.append_assoc]
  | [], _ :: _, _, _, h => by simp at h
  | _ :: _, [], _, _, h => by simp at h

theorem gotInfo : (Tryd.prog.info? 31).map (fun i => (i.zero, i.size, i.bytes)) = some (some zeroG, 5, 80) := by kernel_rfl

theorem run_append_got {w : World} {ty : TypeId} {B : Nat} {v : Value} {gs : List G} (hown : OwnG B w v gs) (g : G) (d o : Value) (H c : Nat)
    (hc : ∀ j u, (g.cs d o)[j]? = some u → w.cell? ⟨H, j, none⟩ = some u) (hd : Own B w d g.d) (ho : Own B w o g.o) (hlim : gs.length + 1 ≤ 1000000000) (hB : B ≤ w.heap.size) :
    ∃ v' w', (Builtin.append_ #[23, 23] ty #[v, .slice (some ⟨H, 0, none⟩) 1 c]).run Tryd.prog w = .ok v' w' ∧ OwnG B w' v' (gs ++ [g]) ∧ Below B w w' ∧ ∀ row, w.heap[row]? ≠ none → some row ≠ v.ownBlock → w'.heap[row]? = w.heap[row]? := by
  obtain ⟨ps, hl, hrow, hi⟩ := id hown
  obtain ⟨i, hi0, hz0, hz1, hz2⟩ := info_parts gotInfo
  have hdc : d.oneCell' = true := by obtain ⟨_, _, rfl, _⟩ := hd.rd; rfl
  have hoc : o.oneCell' = true := by obtain ⟨_, _, rfl, _⟩ := ho.rd; rfl
  obtain ⟨v', w', hrun, h2, h3, _, h5⟩ := run_append_own_at (P := Tryd.prog) w B 23 ty 31 i zeroG 5 80 Tryd.underlying23 hi0 hz0 hz1 hz2 rfl (by omega) v gs.length (flatG gs ps) hrow ⟨H, 0, none⟩ 1 c (g.cs d o) (by simp [G.cs]) (fun j u hu => by rw [Lib.addr_add, Nat.zero_add]; exact hc j u hu) (by
    intro u hu
    simp only [G.cs, List.mem_cons, List.not_mem_nil, or_false] at hu
    rcases hu with rfl | rfl | rfl | rfl | rfl
    · rfl
    · exact hdc
    · exact hoc
    · rfl
    · rfl) (by simp only [maxLen]; omega) (by omega) hB
  have htag : ∀ k, v.ownBlock = some k → ∀ c fr, w.heap[k]? ≠ some (.cells c 5 fr) := by
    intro k hk c fr e
    obtain ⟨_, c2, h⟩ := hown.row k hk
    rw [h] at e
    simp at e
  have hrb : ∀ k, v.ownBlock = some k → B ≤ k := fun k hk => (hown.row k hk).1
  refine ⟨v', w', hrun, ⟨ps ++ [(d, o)], by simp [hl], by rw [flatG_snoc _ _ _ _ hl, List.length_append]; exact h2, ?_⟩, Below.grown (Below.refl B w) h3 hB hrb, fun row hne hr => h3.block row (by
    rcases Nat.lt_or_ge row w.heap.size with h | h
    · exact h
    · exact absurd (Array.getElem?_eq_none h) hne) hr⟩
  intro j g' p h1 h4
  rcases Nat.lt_trichotomy j gs.length with hj | hj | hj
  · rw [List.getElem?_append_left hj] at h1
    rw [List.getElem?_append_left (by omega)] at h4
    exact ⟨(hi j g' p h1 h4).1.kept h3 htag, (hi j g' p h1 h4).2.kept h3 htag⟩
  · subst hj
    rw [List.getElem?_append_right (Nat.le_refl _), Nat.sub_self] at h1
    rw [List.getElem?_append_right (by omega), hl, Nat.sub_self] at h4
    simp at h1 h4
    subst h1; subst h4
    exact ⟨hd.kept h3 htag, ho.kept h3 htag⟩
  · rw [List.getElem?_append_right (by omega), List.getElem?_eq_none (by simp; omega)] at h1
    cases h1

theorem wpList_append_got {w : World} {ops : Array Oper} {rest : List Oper} {o : Oper} {a : Act} {Q : Exit → Act → World → Prop} (hgd : o.guard = none) (s x : Operand)
    (ho : o.op = .call { callee := .builtin .append, args := #[s, x], argTypes := #[23, 23] }) {B : Nat} {v : Value} {gs : List G} (hs : a.eval s = v) (hown : OwnG B w v gs)
    (g : G) (d o' : Value) (H c : Nat) (hx : a.eval x = .slice (some ⟨H, 0, none⟩) 1 c)
    (hc : ∀ j u, (g.cs d o')[j]? = some u → w.cell? ⟨H, j, none⟩ = some u) (hd : Own B w d g.d) (ho' : Own B w o' g.o) (hlim : gs.length + 1 ≤ 1000000000) (hB : B ≤ w.heap.size)
    (h : ∀ v' w', OwnG B w' v' (gs ++ [g]) → Below B w w' → (∀ row, w.heap[row]? ≠ none → some row ≠ v.ownBlock → w'.heap[row]? = w.heap[row]?) → wpList Tryd.prog ops Q rest (a.put o.dst v') w') : wpList Tryd.prog ops Q (o :: rest) a w := by
  obtain ⟨v', w', hrun, h2, h3, h4⟩ := run_append_got (ty := o.type) hown g d o' H c hc hd ho' hlim hB
  refine wpList_plain hgd fun K hK => ?_
  unfold Oper.wp execOp
  simp only [ho, resolve, invoke, builtin, Sem.run_bind, Sem.run_pure, Result.andThen_ok, List.map_toArray, List.map_cons, List.map_nil, hs, hx, hrun]
  exact hK _ _ (h v' w' h2 h3 h4)
end Go.Proofs.YtgkccbfepjgjoaaDoor

/- impl.SessionGet: the walk. -/
namespace Go.Proofs.YtgkccbfepjgjoaaDoor
open Go Go.RowKit

/-- A step of a reader does this, in any session. -/
def Does (big : Bool) (x : St) (r : List Int) (o : Option (G × List Int)) : Prop :=
  ∀ (s : Nat) (ch : Int) (E : Value) (w : World), Ss w s big ch E r → Calls Tryd.prog 38 #[.pointer (some ⟨s, 0, none⟩), x.val] w (RetG w s big ch E o)
def G.no : G := ⟨false, [], [], 0, ⟨#[]⟩⟩

/-- What steps give, up to the first error, and what is left. -/
inductive Runs (big : Bool) : List St → List Int → List G → Option (List Int) → Prop
  | nil (r) : Runs big [] r [] (some r)
  | torn {x l r} : Does big x r none → Runs big (x :: l) r [G.no] none
  | cons {x l r g r1 gs o} : Does big x r (some (g, r1)) → g.ok = true → Runs big l r1 gs o → Runs big (x :: l) r (g :: gs) o

def RetS (w : World) (gs : List G) (o : Option (List Int)) (e : Ending) (w' : World) : Prop :=
  ∃ gv lv left, e = .returned (.tuple #[gv, lv]) ∧ OwnG w.heap.size w' gv gs ∧ Own w.heap.size w' lv left ∧ (∀ r, o = some r → left = r) ∧ Gr w w'

theorem OwnG.mono {B B' : Nat} {w : World} {v : Value} {gs : List G} (h : OwnG B w v gs) (hB : B' ≤ B) : OwnG B' w v gs := by
  obtain ⟨ps, hl, ho, hi⟩ := h
  refine ⟨ps, hl, ⟨ho.1, ?_⟩, fun i g p h1 h2 => ⟨(hi i g p h1 h2).1.mono hB, (hi i g p h1 h2).2.mono hB⟩⟩
  rcases ho.2 with h2 | ⟨b, cap, cur, hv, hg, r⟩
  · exact Or.inl h2
  · exact Or.inr ⟨b, cap, cur, hv, Nat.le_trans hB hg, r⟩
theorem OwnG.lt {B : Nat} {w : World} {v : Value} {gs : List G} (h : OwnG B w v gs) : ∀ k, v.ownBlock = some k → k < w.heap.size := fun k hk => by
  obtain ⟨_, c, hc⟩ := h.row k hk
  exact lt_of_some hc

/-- The loop. -/
structure GInv (w : World) (B s n : Nat) (big : Bool) (E : Value) (steps : List St) (gs : List G) (o : Option (List Int)) (k : Nat) (ov : Value) (wr : World) : Prop where
  hk : k ≤ n
  main : ∃ gsd rc gs', OwnG B wr ov gsd ∧ Ss wr s big 64 E rc ∧ Runs big (steps.drop k) rc gs' o ∧ gs = gsd ++ gs' ∧ gsd.length = k
  gr : Gr w wr
  sz : B ≤ wr.heap.size

theorem OwnG.shape {B : Nat} {w : World} {v : Value} {gs : List G} (h : OwnG B w v gs) : ∃ p n c, v = .slice p n c := by
  obtain ⟨ps, _, ho, _⟩ := h
  rcases ho.2 with ⟨rfl, _⟩ | ⟨_, _, _, rfl, _⟩
  · exact ⟨_, _, _, rfl⟩
  · exact ⟨_, _, _, rfl⟩
theorem Gr.trans2 {B : Nat} {a b c : World} (h : Gr a b) (k : Below B b c) (hB : a.heap.size ≤ B) : Gr a c := Below.trans h (Below.mono k hB)
theorem box_kept {B : Nat} {w2 w' w3 : World} {ov : Value} {gsd : List G} {cs : Array Value} {T : TypeId} {fr : Nat × Nat} (hO : OwnG B w2 ov gsd) (hb : w'.heap[w2.heap.size]? = some (.cells cs T fr))
    (h3 : ∀ row, w'.heap[row]? ≠ none → some row ≠ ov.ownBlock → w3.heap[row]? = w'.heap[row]?) : w3.heap[w2.heap.size]? = some (.cells cs T fr) := by
  rw [h3 _ (by rw [hb]; simp) (fun e => by have := hO.lt _ e.symm; omega)]
  exact hb

set_option maxRecDepth 100000 in
set_option maxHeartbeats 2000000 in
theorem sessionGet (vin vl : Value) (inp : List Int) (steps : List St) (big : Bool) (gs : List G) (o : Option (List Int)) (E : Value) (w : World) (hE : EndE w E) (hin : Rd w vin inp) (hil : inp.length ≤ 1000000000)
    (hst : RdSt w vl steps) (hsl : steps.length ≤ 100000) (hr : Runs big steps inp gs o) :
    Calls Tryd.prog 13 #[vin, vl, .bool big] w (RetS w gs o) := by
  obtain ⟨pl, cl, rfl, hcl, hcm, hcells⟩ := id hst
  obtain ⟨n, hn⟩ : ∃ n, steps.length = n := ⟨_, rfl⟩
  rw [hn] at hsl hcl ⊢
  have hcm2 : cl ≤ 9223372036854775807 := by simp only [maxLen] at hcm; omega
  have HCL := fun w (h : Rd w vin inp) => Lib.hid (clone vin inp w h (by omega))
  have HIN := Lib.hid hin
  have HEE := Lib.hid hE
  have HNN := Lib.hid hn
  have HST := Lib.hid hst
  have HRR := Lib.hid hr
  have hEl : 3 < w.heap.size := World.block_lt_of_cell? w _ hE.2
  clear hin hE hn hst hr hcells hcm
  go_enter Tryd.func13, Tryd.ntmps13
  go_wp2_with (first
    | (go_at_call 16; go_must (refine (HCL _ HIN.out).out.mono ?_); rintro e w1 ⟨u1, rfl, ho1, hg1⟩; obtain ⟨p1, c1, rfl, _⟩ := id ho1.rd)
    | (go_at_call 37; go_must (refine (newSession _ _ _ _).mono ?_); rintro e w2 ⟨rfl, rfl⟩; have k5 := (blk_cell (heap_alloc_new w1 (.cells (snCells (.slice p1 inp.length c1) 0 false 64) 81)) 5).trans rfl; have f5 := blk_free (heap_alloc_new w1 (.cells (snCells (.slice p1 inp.length c1) 0 false 64) 81)) 5))
  have hcs : (snCells (.slice p1 inp.length c1) 0 false 64).setIfInBounds 5 (.bool big) = snCells (.slice p1 inp.length c1) 0 big 64 := by simp [snCells]
  rw [hcs]
  have hgW : Gr w (w1.alloc (.cells (snCells (.slice p1 inp.length c1) 0 big 64) 81)) := hg1.alloc _
  have hSs : Ss (w1.alloc (.cells (snCells (.slice p1 inp.length c1) 0 big 64) 81)) w1.heap.size big 64 E inp := by
    refine ⟨.slice p1 inp.length c1, inp, 0, ⟨heap_alloc_new w1 _, ho1.rd.gr ((Gr.refl w1).alloc _), ?_, Nat.zero_le _, by omega⟩, rfl, HEE.out.gr hgW, hg1.lt hEl⟩
    intro a m c e
    obtain ⟨⟨_, h2⟩, _⟩ := ho1
    rcases h2 with ⟨h3, _⟩ | ⟨g, cap, cur, hv, _, hh, _⟩
    · rw [h3] at e; cases e
    · rw [hv] at e
      injection e with e
      injection e with e
      subst e
      exact lt_of_some hh
  have hsB : w1.heap.size < (w1.alloc (.cells (snCells (.slice p1 inp.length c1) 0 big 64) 81)).heap.size := by simp
  have hws : w.heap.size ≤ w1.heap.size := hg1.size
  clear hcs ho1 hg1 k5 f5
  generalize w1.alloc (.cells (snCells (.slice p1 inp.length c1) 0 big 64) 81) = W at *
  generalize w1.heap.size = s at *
  obtain ⟨B, hB⟩ : ∃ B, W.heap.size = B := ⟨_, rfl⟩
  rw [hB] at hsB
  have HS := Lib.hid hSs
  have HG := Lib.hid hgW
  have HBB := Lib.hid hB
  clear hSs hgW hB
  go_loopw [9, 22] (fun ov i wr => ∃ k : Nat, i = .int .i64 k ∧ GInv w B s n big E steps gs o k ov wr) (fun _ i _ => n - (intOf i).toNat)
  case atStart => exact ⟨0, rfl, Nat.zero_le _, ⟨[], inp, gs, OwnG.nil _ _, HS.out, HRR.out, rfl, rfl⟩, HG.out, Nat.le_of_eq HBB.out.symm⟩
  case round =>
    obtain ⟨k, rfl, hk, ⟨gsd, rc, gs', hO, hs, hruns, hgs, hgl⟩, hgr, hsz⟩ := hrel
    by_cases hlt : k < n
    · have hkl : k < steps.length := by rw [HNN.out]; exact hlt
      have hdrop : steps.drop k = steps[k] :: steps.drop (k + 1) := List.drop_eq_getElem_cons hkl
      rw [hdrop] at hruns
      obtain ⟨pl2, cl2, hvl, _, _, hcells⟩ := HST.out.gr hgr
      injection hvl with hv1 hv2 hv3
      obtain ⟨b, lo, hpl, hc⟩ := hcells (by rw [HNN.out]; omega)
      rw [hpl] at hv1
      subst hv1
      obtain ⟨x0, x1, x2, x3⟩ := hc k hkl
      have HX := Lib.hid hdrop
      generalize steps[k] = x at *
      clear hcells hc hv2 hv3 hpl hdrop
      cases hruns with
      | torn hd =>
        have HD := Lib.hid (hd s 64 E (wr.alloc (.cells #[.int .i64 x.k, .int .i64 x.sz, .bool x.be, .bool x.co] 28)) (hs.gr ((Gr.refl wr).alloc _)))
        have HO := Lib.hid hO
        have HGS := Lib.hid hgs
        have HGR := Lib.hid hgr
        clear hd hs hO hgs hgr
        unfold St.val at HD
        go_wp2_with (first
          | (go_at_call 38; go_must (refine HD.out.mono ?_); rintro e w2 ⟨rfl, ⟨r1, hs1⟩, hf1⟩; unfold zeroG; have hl1 := hs1.len)
          | (at_builtin; go_must (refine wpList_append_got rfl _ _ rfl rfl ((((HO.out.gr ((Gr.refl wr).alloc _)).fx hf1 hsB).gr ((Gr.refl w2).alloc _)).gr ((Gr.refl _).alloc _)) G.no (.slice none 0 0) (.slice none 0 0) (w2.heap.size + 1) 1 rfl (fun j u hu => (blk_cell (heap_new_at (w2.alloc _) _ (by simp)) j).trans (by simpa [G.cs, G.no] using hu)) (Own.nil _ _) (Own.nil _ _) (by rw [hgl]; omega) (by have := hf1.size; simp at this ⊢; omega) ?_); intro v3 w3 hO3 hbel h3; have hb3 := box_kept ((HO.out.gr ((Gr.refl wr).alloc _)).fx hf1 hsB) (((Gr.refl _).alloc _).heap (heap_alloc_new w2 _)) h3; have kb := (blk_cell hb3 0).trans rfl; obtain ⟨pv3, nv3, cv3, rfl⟩ := hO3.shape)
          | (go_at_call 39; go_must (refine (rest s big 64 E r1 w3 (((hs1.gr ((Gr.refl w2).alloc _)).gr ((Gr.refl _).alloc _)).below hbel hsB)).mono ?_); rintro e w4 ⟨u4, rfl, hu4, hg4⟩)
          | (go_at_call 16; go_must (refine (clone u4 r1 w4 hu4 (by omega)).mono ?_); rintro e w5 ⟨u5, rfl, ho5, hg5⟩))
        go_ret2
        have hg2 : Gr w w2 := hf1.gr (HGR.out.alloc _) hws
        have hg3 : Gr w w3 := Gr.trans2 ((hg2.alloc _).alloc _) hbel (by omega)
        exact ⟨_, u5, r1, rfl, by rw [HGS.out]; exact ((hO3.gr hg4).gr hg5).mono (by omega), ho5.mono (hg3.trans hg4).size, (fun r e => by cases e), (hg3.trans hg4).trans hg5⟩
      | @cons _ _ _ g r1 gs2 _ hd hok hrest =>
        have HD := Lib.hid (hd s 64 E (wr.alloc (.cells #[.int .i64 x.k, .int .i64 x.sz, .bool x.be, .bool x.co] 28)) (hs.gr ((Gr.refl wr).alloc _)))
        have HO := Lib.hid hO
        have HGS := Lib.hid hgs
        have HGR := Lib.hid hgr
        have HOK := Lib.hid hok
        have HREST := Lib.hid hrest
        clear hd hs hO hgs hgr hok hrest
        unfold St.val at HD
        go_wp2_with (first
          | (go_at_call 38; go_must (refine HD.out.mono ?_); rintro e w2 ⟨dv, ov, rfl, hdv, hov, hs1, hf1⟩; have hzz := hf1.size; have hd3 := hdv.mono (B' := B) (by simp; omega); have ho3 := hov.mono (B' := B) (by simp; omega); clear hdv hov; obtain ⟨pd, cd, rfl, _⟩ := id hd3.rd; obtain ⟨po, co, rfl, _⟩ := id ho3.rd)
          | (at_builtin; go_must (refine wpList_append_got rfl _ _ rfl rfl ((((HO.out.gr ((Gr.refl wr).alloc _)).fx hf1 hsB).gr ((Gr.refl w2).alloc _)).gr ((Gr.refl _).alloc _)) g (.slice pd g.d.length cd) (.slice po g.o.length co) (w2.heap.size + 1) 1 rfl (fun j u hu => (blk_cell (heap_new_at (w2.alloc _) _ (by simp)) j).trans (by simpa [G.cs, HOK.out] using hu)) ((hd3.gr ((Gr.refl w2).alloc _)).gr ((Gr.refl _).alloc _)) ((ho3.gr ((Gr.refl w2).alloc _)).gr ((Gr.refl _).alloc _)) (by rw [hgl]; omega) (by have := hf1.size; simp at this ⊢; omega) ?_); intro v3 w3 hO3 hbel h3; have hb3 := box_kept ((HO.out.gr ((Gr.refl wr).alloc _)).fx hf1 hsB) (((Gr.refl _).alloc _).heap (heap_alloc_new w2 _)) h3; have kb := (blk_cell hb3 0).trans rfl; obtain ⟨pv3, nv3, cv3, rfl⟩ := hO3.shape))
        have hg2 : Gr w w2 := hf1.gr (HGR.out.alloc _) hws
        have hg3 : Gr w w3 := Gr.trans2 ((hg2.alloc _).alloc _) hbel (by omega)
        have hz3 := hbel.size
        go_roundw
        case rel => exact ⟨k + 1, by go_num, by omega, ⟨gsd ++ [g], r1, gs2, hO3, ((hs1.gr ((Gr.refl w2).alloc _)).gr ((Gr.refl _).alloc _)).below hbel hsB, HREST.out, by rw [HGS.out]; simp, by simp [hgl]⟩, hg3, by simp at hz3 hzz; omega⟩
        case measure => simp [intOf]; omega
    · obtain rfl : n = k := by omega
      rw [List.drop_of_length_le (by rw [HNN.out]; exact Nat.le_refl _)] at hruns
      cases hruns with
      | nil _ =>
        rw [List.append_nil] at hgs
        subst hgs
        have hl1 := hs.len
        obtain ⟨pv3, nv3, cv3, rfl⟩ := hO.shape
        go_wp2_with (first
          | (go_at_call 39; go_must (refine (rest s big 64 E rc wr hs).mono ?_); rintro e w4 ⟨u4, rfl, hu4, hg4⟩)
          | (go_at_call 16; go_must (refine (clone u4 rc w4 hu4 (by omega)).mono ?_); rintro e w5 ⟨u5, rfl, ho5, hg5⟩))
        go_ret2
        exact ⟨_, u5, rc, rfl, ((hO.gr hg4).gr hg5).mono (by omega), ho5.mono (hgr.trans hg4).size, (fun r e => by injection e), (hgr.trans hg4).trans hg5⟩
end Go.Proofs.YtgkccbfepjgjoaaDoor
