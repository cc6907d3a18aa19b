/- The words that the contracts of this seat share: a slice value that reads as given bytes, a slice of the call's own, and the frame 'nothing that was there has changed'. No condition: lemmas over every program. -/
import Derived.WalkKit
import Derived.WalkSpells
import Derived.WalkLawsBesides
import Derived.WalkSmall
import Derived.Deep.QuietTactic
import Derived.BigQuiet
import Derived.Lib.Hide
import Derived.Lib.Buffer
import Derived.Shelf.Bytes.SlSmallAll
import Derived.Maps.AppendAt
import Derived.Laws.OwnMore
import Derived.Laws.IdiomCopy
import Derived.Lib.Endian
namespace Go.Proofs.YtoachnjapfakdaaGreatDoor
open Go Go.RowKit

/-- Every number is a byte. -/
def Byt (xs : List Int) : Prop := ∀ x ∈ xs, 0 ≤ x ∧ x < 256

/-- The slice value v reads as the bytes xs, whatever its address. -/
def Rd (w : World) (v : Value) (xs : List Int) : Prop :=
  ∃ p c, v = .slice p xs.length c ∧ xs.length ≤ c ∧ c ≤ maxLen ∧ (p = none → c = 0) ∧ Lib.BytesIn w p xs.length xs ∧ Byt xs

/-- The slice value v is the call's own from block B on (or nil), and reads as the bytes xs. -/
def Own (B : Nat) (w : World) (v : Value) (xs : List Int) : Prop :=
  w.ownsRow B 5 1 v xs.length (xs.map (Value.int .u8)) ∧ Byt xs

/-- Nothing that was there has changed. -/
def Gr (w w' : World) : Prop := Below w.heap.size w w'

theorem Gr.refl (w : World) : Gr w w := Below.refl _ _
theorem Gr.trans {a b c : World} (h : Gr a b) (k : Gr b c) : Gr a c := Below.trans h (Below.mono k h.size)
theorem Gr.drew {a w : World} (h : Gr a w) : Gr a w.drew := Below.drew h
theorem Gr.drewN {a w : World} (h : Gr a w) (n : Nat) : Gr a (w.drewN n) := below_drewN h n
theorem Gr.alloc {a w : World} (h : Gr a w) (o : Obj) : Gr a (w.alloc o) := Below.alloc h h.size o
theorem Gr.setCell {a w : World} (h : Gr a w) {p : Addr} (hp : a.heap.size ≤ p.block) (u : Value) : Gr a (w.setCell p u) := Below.setCell h hp u
theorem Gr.of_below {a w : World} (h : Below a.heap.size a w) : Gr a w := h
theorem Gr.lt {a w : World} (h : Gr a w) {k : Nat} (hk : k < a.heap.size) : k < w.heap.size := Nat.lt_of_lt_of_le hk h.size
theorem Gr.block {a w : World} (h : Gr a w) {k : Nat} (hk : k < a.heap.size) : w.heap[k]? = a.heap[k]? := Below.block h k hk

theorem lt_of_some {w : World} {g : Nat} {o : Obj} (hg : w.heap[g]? = some o) : g < w.heap.size := Lib.lt_of_heap hg

/-- A block that is known whole is there still. -/
theorem Gr.heap {a w : World} (h : Gr a w) {k : Nat} {o : Obj} (hk : a.heap[k]? = some o) : w.heap[k]? = some o := by
  rw [h.block (lt_of_some hk)]; exact hk

theorem Gr.cell {a w : World} (h : Gr a w) {p : Addr} {v : Value} (hc : a.cell? p = some v) : w.cell? p = some v := by
  rw [Below.cell h (World.block_lt_of_cell? a p hc)]; exact hc

theorem Gr.bytesIn {a w : World} (h : Gr a w) {p : Option Addr} {n : Nat} {xs : List Int} (hb : Lib.BytesIn a p n xs) : Lib.BytesIn w p n xs := by
  intro hn
  obtain ⟨b, o, hp, hc⟩ := hb hn
  exact ⟨b, o, hp, fun i hi => h.cell (hc i hi)⟩

theorem Rd.gr {a w : World} {v : Value} {xs : List Int} (r : Rd a v xs) (h : Gr a w) : Rd w v xs := by
  obtain ⟨p, c, rfl, h1, h2, h3, h4, h5⟩ := r
  exact ⟨p, c, rfl, h1, h2, h3, h.bytesIn h4, h5⟩

theorem Own.gr {B : Nat} {a w : World} {v : Value} {xs : List Int} (r : Own B a v xs) (h : Gr a w) : Own B w v xs := by
  obtain ⟨⟨h1, h2⟩, h3⟩ := r
  refine ⟨⟨h1, ?_⟩, h3⟩
  rcases h2 with h2 | ⟨g, cap, cur, hv, hg, hh, r⟩
  · exact Or.inl h2
  · exact Or.inr ⟨g, cap, cur, hv, hg, h.heap hh, r⟩

theorem Own.mono {B B' : Nat} {w : World} {v : Value} {xs : List Int} (r : Own B w v xs) (h : B' ≤ B) : Own B' w v xs := by
  obtain ⟨⟨h1, h2⟩, h3⟩ := r
  refine ⟨⟨h1, ?_⟩, h3⟩
  rcases h2 with h2 | ⟨g, cap, cur, hv, hg, r⟩
  · exact Or.inl h2
  · exact Or.inr ⟨g, cap, cur, hv, Nat.le_trans h hg, r⟩

theorem bytesIn_of_row {w : World} {g : Nat} {cur : Array Value} {T : TypeId} {fr : Nat × Nat} {xs : List Int} (hg : w.heap[g]? = some (.cells cur T fr))
    (ht : cur.toList.take xs.length = xs.map (Value.int .u8)) : Lib.BytesIn w (some ⟨g, 0, none⟩) xs.length xs := by
  intro _
  refine ⟨g, 0, rfl, fun i hi => ?_⟩
  have h1 : (cur.toList.take xs.length)[i]? = some (.int .u8 (xs.getD i 0)) := by
    rw [ht, List.getElem?_map, List.getD_eq_getElem?_getD, List.getElem?_eq_getElem hi]; rfl
  have := Lib.cells_of_row hg xs.length i _ h1
  rwa [Lib.addr_add] at this

theorem Own.rd {B : Nat} {w : World} {v : Value} {xs : List Int} (r : Own B w v xs) : Rd w v xs := by
  obtain ⟨⟨h1, h2⟩, h3⟩ := r
  rcases h2 with ⟨rfl, hn⟩ | ⟨g, cap, cur, rfl, hg, hh, hc, hm, hs, ht⟩
  · obtain rfl : xs = [] := List.eq_nil_of_length_eq_zero hn
    exact ⟨none, 0, rfl, Nat.le_refl _, Nat.zero_le _, fun _ => rfl, Lib.BytesIn.nil _ _ _, h3⟩
  · exact ⟨_, cap, rfl, hc, hm, (fun h => by cases h), bytesIn_of_row hh (by simpa using ht), h3⟩

theorem Rd.byt {w : World} {v : Value} {xs : List Int} (r : Rd w v xs) : Byt xs := by obtain ⟨_, _, _, _, _, _, _, h⟩ := r; exact h
theorem Own.byt {B : Nat} {w : World} {v : Value} {xs : List Int} (r : Own B w v xs) : Byt xs := r.2
theorem Rd.len_le {w : World} {v : Value} {xs : List Int} (r : Rd w v xs) : xs.length ≤ maxLen := by obtain ⟨_, _, _, h1, h2, _⟩ := r; omega
theorem Rd.nil (w : World) : Rd w (.slice none 0 0) [] := ⟨none, 0, rfl, Nat.le_refl _, Nat.zero_le _, fun _ => rfl, Lib.BytesIn.nil _ _ _, fun _ h => by cases h⟩
theorem Own.nil (B : Nat) (w : World) : Own B w (.slice none 0 0) [] := ⟨World.ownsRow_nil _ _ _ _, fun _ h => by cases h⟩

theorem heap_new_at (w : World) (o : Obj) {k : Nat} (hk : k = w.heap.size) : (w.alloc o).heap[k]? = some o := by subst hk; exact heap_alloc_new w o

/-- A block that is known whole, its cells. -/
theorem blk_cell {w : World} {b : Nat} {cs : Array Value} {T : TypeId} {fr : Nat × Nat} (h : w.heap[b]? = some (.cells cs T fr)) (k : Nat) : w.cell? ⟨b, k, none⟩ = cs[k]? := by simp [World.cell?, h]
theorem blk_free {w : World} {b : Nat} {cs : Array Value} {T : TypeId} (h : w.heap[b]? = some (.cells cs T (0, 0))) (k : Nat) : w.frozen? ⟨b, k, none⟩ = false := by simp [World.frozen?, h]

/-- Block g is a row of bytes of the call's own: its first cells hold xs. -/
def OwnAt (w : World) (g cap : Nat) (xs : List Int) : Prop :=
  (∃ cur, w.heap[g]? = some (.cells cur 5 (0, 0)) ∧ cur.size = cap ∧ cur.toList.take xs.length = xs.map (Value.int .u8)) ∧ xs.length ≤ cap ∧ cap ≤ maxLen ∧ Byt xs

theorem Own.form {B : Nat} {w : World} {v : Value} {xs : List Int} (r : Own B w v xs) (hn : 0 < xs.length) : ∃ g cap, v = .slice (some ⟨g, 0, none⟩) xs.length cap ∧ B ≤ g ∧ OwnAt w g cap xs := by
  obtain ⟨⟨h1, h2⟩, h3⟩ := r
  rcases h2 with ⟨rfl, hn'⟩ | ⟨g, cap, cur, rfl, hg, hh, hc, hm, hs, ht⟩
  · omega
  · exact ⟨g, cap, rfl, hg, ⟨cur, hh, by simpa using hs, by simpa using ht⟩, hc, hm, h3⟩

theorem OwnAt.own {B : Nat} {w : World} {g cap : Nat} {xs : List Int} (r : OwnAt w g cap xs) (hB : B ≤ g) : Own B w (.slice (some ⟨g, 0, none⟩) xs.length cap) xs := by
  obtain ⟨⟨cur, hh, hs, ht⟩, hc, hm, h3⟩ := r
  exact ⟨⟨by simp, .inr ⟨g, cap, cur, rfl, hB, hh, hc, hm, by simpa using hs, by simpa using ht⟩⟩, h3⟩

theorem OwnAt.lt {w : World} {g cap : Nat} {xs : List Int} (r : OwnAt w g cap xs) : g < w.heap.size := by
  obtain ⟨⟨cur, hh, _⟩, _⟩ := r; exact lt_of_some hh
theorem OwnAt.byt {w : World} {g cap : Nat} {xs : List Int} (r : OwnAt w g cap xs) : Byt xs := r.2.2.2
theorem OwnAt.free {w : World} {g cap : Nat} {xs : List Int} (r : OwnAt w g cap xs) (k : Nat) : w.frozen? ⟨g, k, none⟩ = false := by
  obtain ⟨⟨cur, hh, _⟩, _⟩ := r; exact blk_free hh k
theorem OwnAt.cell {w : World} {g cap : Nat} {xs : List Int} (r : OwnAt w g cap xs) (k : Nat) (hk : k < xs.length) : w.cell? ⟨g, k, none⟩ = some (.int .u8 (xs.getD k 0)) := by
  obtain ⟨⟨cur, hh, _, ht⟩, _⟩ := r
  have h1 : (cur.toList.take xs.length)[k]? = some (.int .u8 (xs.getD k 0)) := by
    rw [ht, List.getElem?_map, List.getD_eq_getElem?_getD, List.getElem?_eq_getElem hk]; rfl
  have := Lib.cells_of_row hh xs.length k _ h1
  rwa [Lib.addr_add, Nat.zero_add] at this
theorem OwnAt.gr {a w : World} {g cap : Nat} {xs : List Int} (r : OwnAt a g cap xs) (h : Gr a w) : OwnAt w g cap xs := by
  obtain ⟨⟨cur, hh, h1⟩, h2⟩ := r; exact ⟨⟨cur, h.heap hh, h1⟩, h2⟩
theorem OwnAt.grown {a w : World} {g cap : Nat} {xs : List Int} {row : Option Nat} (r : OwnAt a g cap xs) (h : a.grownBy w row) (hne : some g ≠ row) : OwnAt w g cap xs := by
  obtain ⟨⟨cur, hh, h1⟩, h2⟩ := r; exact ⟨⟨cur, (h.block g (lt_of_some hh) hne).trans hh, h1⟩, h2⟩
theorem OwnAt.setCell {w : World} {g cap : Nat} {xs : List Int} (r : OwnAt w g cap xs) (k : Nat) (_hk : k < xs.length) (z : Int) (hz : 0 ≤ z ∧ z < 256) : OwnAt (w.setCell ⟨g, k, none⟩ (.int .u8 z)) g cap (xs.set k z) := by
  obtain ⟨⟨cur, hh, hs, ht⟩, h2, h3, h4⟩ := r
  refine ⟨⟨cur.setIfInBounds k (.int .u8 z), ?_, by simpa using hs, ?_⟩, by simpa using h2, h3, ?_⟩
  · simp [World.setCell, Array.getElem?_modify, hh]
  · simp only [List.length_set, Array.toList_setIfInBounds]
    rw [List.map_set, ← ht, List.take_set]
  · intro x hx
    rcases List.mem_or_eq_of_mem_set hx with h | h
    · exact h4 x h
    · subst h; exact hz
theorem OwnAt.setCell_far {w : World} {g cap : Nat} {xs : List Int} (r : OwnAt w g cap xs) {p : Addr} (hp : g ≠ p.block) (u : Value) : OwnAt (w.setCell p u) g cap xs := by
  obtain ⟨⟨cur, hh, h1⟩, h2⟩ := r; exact ⟨⟨cur, (Below.heap_setCell w p u g hp).trans hh, h1⟩, h2⟩
theorem OwnAt.alloc {w : World} {g cap : Nat} {xs : List Int} (r : OwnAt w g cap xs) (o : Obj) : OwnAt (w.alloc o) g cap xs := r.gr ((Gr.refl _).alloc o)
theorem OwnAt.drew {w : World} {g cap : Nat} {xs : List Int} (r : OwnAt w g cap xs) : OwnAt w.drew g cap xs := r
theorem OwnAt.drewN {w : World} {g cap : Nat} {xs : List Int} (r : OwnAt w g cap xs) (n : Nat) : OwnAt (w.drewN n) g cap xs := r
theorem OwnAt.rd {w : World} {g cap : Nat} {xs : List Int} (r : OwnAt w g cap xs) : Rd w (.slice (some ⟨g, 0, none⟩) xs.length cap) xs := (r.own (B := 0) (Nat.zero_le _)).rd

/-- A list with some of its places written. -/
def putAt (xs : List Int) (o : Nat) : List Int → List Int
  | [] => xs
  | z :: r => putAt (xs.set o z) (o + 1) r
theorem putAt_length (xs : List Int) (o : Nat) (zs : List Int) : (putAt xs o zs).length = xs.length := by
  induction zs generalizing xs o with
  | nil => rfl
  | cons z r ih => simp [putAt, ih]

theorem OwnAt.setCells {w : World} {g cap : Nat} {xs : List Int} (r : OwnAt w g cap xs) (o : Nat) (zs : List Int) (ho : o + zs.length ≤ xs.length) (hz : Byt zs) : OwnAt (w.setCells g o (zs.map (Value.int .u8))) g cap (putAt xs o zs) := by
  induction zs generalizing w xs o with
  | nil => exact r
  | cons z t ih =>
    simp only [List.length_cons] at ho
    exact ih (r.setCell o (by omega) z (hz z (by simp))) (o + 1) (by simp; omega) (fun x hx => hz x (by simp [hx]))
theorem Gr.setCells {a w : World} (h : Gr a w) {g : Nat} (hg : a.heap.size ≤ g) (o : Nat) (vs : List Value) : Gr a (w.setCells g o vs) := by
  induction vs generalizing w o with
  | nil => exact h
  | cons z t ih => exact ih (h.setCell (p := ⟨g, o, none⟩) hg z) (o + 1)

/-- Behind an append or a make: what was there below the call's own blocks is there still. -/
theorem Gr.grown {a w w' : World} {row : Option Nat} (h : Gr a w) (hg : w.grownBy w' row) (hr : ∀ k, row = some k → a.heap.size ≤ k) : Gr a w' := Below.grown h hg h.size hr
theorem Own.row {B : Nat} {w : World} {v : Value} {xs : List Int} (r : Own B w v xs) : ∀ k, v.ownBlock = some k → B ≤ k := fun k hk => (World.ownsRow.lt r.1 k hk).1

/-- What a program says of the type []uint8 (its number t). -/
structure U8 (P : Program) (t : TypeId) : Prop where
  under : P.underlying t = some (.slice 5)
  info : (P.info? 5).map (fun i => (i.zero, i.size, i.bytes)) = some (some (.int .u8 0), 1, 1)

theorem byt_append {xs ys : List Int} (h : Byt xs) (k : Byt ys) : Byt (xs ++ ys) := fun x hx => by
  rcases List.mem_append.1 hx with h' | h'
  · exact h x h'
  · exact k x h'
theorem byt_rep (n : Nat) : Byt (List.replicate n 0) := fun x hx => by rw [(List.mem_replicate.1 hx).2]; omega

section
variable {P : Program}
theorem run_append_nil {w : World} {t ty : TypeId} (L : U8 P t) {B : Nat} {v : Value} {xs : List Int} (hown : Own B w v xs) (c : Nat) : (Builtin.append_ #[t, t] ty #[v, .slice none 0 c]).run P w = .ok v w := by
  obtain ⟨i, hi, _, _, _⟩ := info_parts L.info
  rcases hown.1.2 with ⟨rfl, _⟩ | ⟨g, cap, cur, rfl, _, _, hnc, _⟩
  · simp [Builtin.append_, run_underlying L.under, sizeOf, typeInfo, hi, Builtin.lenOf, Builtin.firstCells]
  · simp [Builtin.append_, run_underlying L.under, sizeOf, typeInfo, hi, Builtin.lenOf, Builtin.firstCells, hnc, storeCells]

theorem one_cells (ys : List Int) : ∀ u ∈ ys.map (Value.int .u8), u.oneCell' = true := by
  intro u hu
  obtain ⟨z, _, rfl⟩ := List.mem_map.1 hu
  rfl

/-- append of bytes to a slice of the call's own; the source nil, empty or not. -/
theorem run_append_bytes {w : World} {t ty : TypeId} (L : U8 P t) {B : Nat} {v : Value} {xs : List Int} (hown : Own B w v xs) {u : Value} {ys : List Int} (hr : Rd w u ys)
    (hlim : xs.length + ys.length ≤ 140737488355328) (hB : B ≤ w.heap.size) :
    ∃ v' w', (Builtin.append_ #[t, t] ty #[v, u]).run P w = .ok v' w' ∧ Own B w' v' (xs ++ ys) ∧ w.grownBy w' v.ownBlock ∧ (v'.ownBlock = v.ownBlock ∨ v'.ownBlock = some w.heap.size) := by
  obtain ⟨i, hi, hz0, hz1, hz2⟩ := info_parts L.info
  obtain ⟨p, c, rfl, hc, hm, hnil, hb, hy⟩ := hr
  rcases p with _ | ad
  · have h0 : ys = [] := by
      rcases Nat.eq_zero_or_pos ys.length with h | h
      · exact List.eq_nil_of_length_eq_zero h
      · obtain ⟨b, o, e, _⟩ := hb h; cases e
    subst h0
    exact ⟨v, w, run_append_nil L hown c, by simpa using hown, World.grownBy.refl w _, .inl rfl⟩
  · have hcells : ∀ j u, (ys.map (Value.int .u8))[j]? = some u → w.cell? (ad.add j) = some u := by
      intro j u hu
      have hj : j < ys.length := by
        have := (List.getElem?_eq_some_iff.1 hu).1; simpa using this
      obtain ⟨b, o, e, hcc⟩ := hb (by omega)
      injection e with e
      subst e
      rw [Lib.addr_add, hcc j hj]
      rw [List.getElem?_map, List.getElem?_eq_getElem hj] at hu
      rw [List.getD_eq_getElem?_getD, List.getElem?_eq_getElem hj]
      simpa using hu
    obtain ⟨v', w', hrun, h2, h3, _, h5⟩ := run_append_own_at (P := P) w B t ty 5 i (.int .u8 0) 1 1 L.under hi hz0 hz1 hz2 rfl (by omega) v xs.length (xs.map (Value.int .u8)) hown.1 ad ys.length c (ys.map (Value.int .u8)) (by simp) hcells (one_cells ys) (by simp only [maxLen]; omega) (by omega) hB
    refine ⟨v', w', hrun, ⟨?_, byt_append hown.2 hy⟩, h3, h5⟩
    rw [List.length_append, List.map_append]; exact h2

theorem wp_append_bytes {w : World} {o : Oper} {a : Act} {K : Act → World → Prop} {Q : Exit → Act → World → Prop} {t : TypeId} (L : U8 P t) (s x : Operand)
    (ho : o.op = .call { callee := .builtin .append, args := #[s, x], argTypes := #[t, t] }) {B : Nat} {v : Value} {xs : List Int} (hs : a.eval s = v) (hown : Own B w v xs)
    {u : Value} {ys : List Int} (hx : a.eval x = u) (hr : Rd w u ys) (hlim : xs.length + ys.length ≤ 140737488355328) (hB : B ≤ w.heap.size)
    (h : ∀ v' w', Own B w' v' (xs ++ ys) → w.grownBy w' v.ownBlock → (v'.ownBlock = v.ownBlock ∨ v'.ownBlock = some w.heap.size) → K (a.put o.dst v') w') : o.wp P a w K Q := by
  obtain ⟨v', w', hrun, h2, h3, h4⟩ := run_append_bytes (ty := o.type) L hown hr hlim hB
  unfold Oper.wp execOp
  simp only [ho, resolve, invoke, builtin, Sem.run_bind, Sem.run_pure, Result.andThen_ok, List.map_toArray, List.map_cons, List.map_nil, hs, hx, hrun]
  exact h v' w' h2 h3 h4

theorem wpList_append_bytes {w : World} {ops : Array Oper} {rest : List Oper} {o : Oper} {a : Act} {Q : Exit → Act → World → Prop} {t : TypeId} (L : U8 P t) (hgd : o.guard = none) (s x : Operand)
    (ho : o.op = .call { callee := .builtin .append, args := #[s, x], argTypes := #[t, t] }) {B : Nat} {v : Value} {xs : List Int} (hs : a.eval s = v) (hown : Own B w v xs)
    {u : Value} {ys : List Int} (hx : a.eval x = u) (hr : Rd w u ys) (hlim : xs.length + ys.length ≤ 140737488355328) (hB : B ≤ w.heap.size)
    (h : ∀ v' w', Own B w' v' (xs ++ ys) → w.grownBy w' v.ownBlock → (v'.ownBlock = v.ownBlock ∨ v'.ownBlock = some w.heap.size) → wpList P ops Q rest (a.put o.dst v') w') : wpList P ops Q (o :: rest) a w :=
  wpList_plain hgd fun _ hK => wp_append_bytes L s x ho hs hown hx hr hlim hB fun v' w' h2 h3 h4 => hK _ _ (h v' w' h2 h3 h4)

/-- The same where all that was there ahead of the call (at the world w0) is to stay. -/
theorem wpList_append_gr {w0 w : World} {ops : Array Oper} {rest : List Oper} {o : Oper} {a : Act} {Q : Exit → Act → World → Prop} {t : TypeId} (L : U8 P t) (hgd : o.guard = none) (s x : Operand)
    (ho : o.op = .call { callee := .builtin .append, args := #[s, x], argTypes := #[t, t] }) (hw : Gr w0 w) {v : Value} {xs : List Int} (hs : a.eval s = v) (hown : Own w0.heap.size w v xs)
    {u : Value} {ys : List Int} (hx : a.eval x = u) (hr : Rd w u ys) (hlim : xs.length + ys.length ≤ 140737488355328)
    (h : ∀ v' w', Own w0.heap.size w' v' (xs ++ ys) → Gr w0 w' → wpList P ops Q rest (a.put o.dst v') w') : wpList P ops Q (o :: rest) a w :=
  wpList_append_bytes L hgd s x ho hs hown hx hr hlim hw.size fun v' w' h2 h3 _ => h v' w' h2 (hw.grown h3 hown.row)

/-- make([]byte, n). H: the number of the new block, as the walk spells it. -/
theorem wpList_make_gr {w0 w : World} {ops : Array Oper} {rest : List Oper} {o : Oper} {a : Act} {Q : Exit → Act → World → Prop} {t : TypeId} (L : U8 P t) (hgd : o.guard = none) (l c : Operand)
    (ho : o.op = Op.makeSlice t l c) (hw : Gr w0 w) (kl kc : IntKind) (L' C : Int) (n : Nat) (hl : a.eval l = .int kl L') (hc : a.eval c = .int kc C) (hL : L' = (n : Int)) (hC : C = (n : Int)) (hlim : n ≤ 140737488355328) (H : Nat) (hH : w.heap.size = H)
    (h : ∀ w', OwnAt w' H n (List.replicate n 0) → Gr w w' → Gr w0 w' → w0.heap.size ≤ H → wpList P ops Q rest (a.put o.dst (.slice (some ⟨H, 0, none⟩) n n)) w') : wpList P ops Q (o :: rest) a w := by
  subst hH
  obtain ⟨i, hi, hz0, hz1, hz2⟩ := info_parts L.info
  refine wpList_make_full w hgd l c t ho w.heap.size 5 i (.int .u8 0) 1 L.under hi hz0 hz1 kl kc L' C n hl hc hL hC (by rw [hz2]; omega) (by simp only [maxLen]; omega) (Nat.le_refl _) ?_
  intro w' hown hg
  have hgr : Gr w w' := (Gr.refl w).grown hg (fun k hk => by cases hk)
  refine h w' ?_ hgr (hw.trans hgr) hw.size
  have e : (madeCells (Value.int .u8 0).cells (n * 1)).toList = (List.replicate n (0 : Int)).map (Value.int .u8) := by
    rw [show (Value.int .u8 0).cells = #[Value.int .u8 0] from rfl, toList_madeCells_one, Nat.mul_one, List.map_replicate]
  rw [e] at hown
  rcases hown.2 with ⟨h1, _⟩ | ⟨g, cap, cur, hv, _, hh, h1, h2, h3, h4⟩
  · cases h1
  · injection hv with e1 e2 e3
    injection e1 with e1
    injection e1 with e1
    subst e1; subst e3
    exact ⟨⟨cur, hh, by simpa using h3, by simpa using h4⟩, by simp, h2, byt_rep n⟩
end

/-- A new block of bytes, read whole. -/
theorem Rd.new (w : World) (xs : List Int) (hb : Byt xs) (T : TypeId) (hm : xs.length ≤ maxLen) {fr : Nat × Nat} : Rd (w.alloc (.cells (xs.map (Value.int .u8)).toArray T fr)) (.slice (some ⟨w.heap.size, 0, none⟩) xs.length xs.length) xs :=
  ⟨_, _, rfl, Nat.le_refl _, hm, (fun h => by cases h), bytesIn_of_row (heap_alloc_new w _) (by simp only []; exact List.take_of_length_le (by simp)), hb⟩

/-- The same, the cells and the length as they are spelled. -/
theorem Rd.lit (w : World) (xs : List Int) (cs : Array Value) (n : Nat) (hb : Byt xs) (hn : xs.length = n) (hc : cs = (xs.map (Value.int .u8)).toArray) {T : TypeId} {fr : Nat × Nat} (hm : n ≤ maxLen) {H : Nat} (hH : w.heap.size = H) : Rd (w.alloc (.cells cs T fr)) (.slice (some ⟨H, 0, none⟩) n n) xs := by
  subst hc; subst hn; subst hH
  exact Rd.new w xs hb T hm

end Go.Proofs.YtoachnjapfakdaaGreatDoor
