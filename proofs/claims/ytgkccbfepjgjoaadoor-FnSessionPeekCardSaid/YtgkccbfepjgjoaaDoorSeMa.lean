/- Several texts in one (merge.py): RdAt, PkE, SeA, SeB, SeC, SeD, SeE. -/
import Derived.Test.YtgkccbfepjgjoaaDoorBase
import Derived.Test.YtgkccbfepjgjoaaDoorProg
import Derived.Test.YtgkccbfepjgjoaaDoorShelf
import Derived.LoopN
import Derived.Deep.AppendLies
import Derived.Lib.BufferOwn
import Derived.Lib.BufferWrite
import Derived.Deep.QuietTactic
import Derived.BigQuiet
import Derived.BigRegion
import Derived.Outline
import Derived.Laws.CopyOwn
import Derived.Lib.EndianZ
/- Readers: numbers out of bytes that lie at an address. -/
namespace Go.Proofs.YtgkccbfepjgjoaaDoor
open Go Go.RowKit

theorem blk_set {w : World} {b : Nat} {cs : Array Value} {T : TypeId} {fr : Nat × Nat} (h : w.heap[b]? = some (.cells cs T fr)) (i : Nat) (u : Value) : (w.setCell ⟨b, i, none⟩ u).heap[b]? = some (.cells (cs.setIfInBounds i u) T fr) := by
  simp [World.setCell, Array.getElem?_modify, h]

/-- From place o on block b holds the bytes xs. -/
structure RdAt (w : World) (b o : Nat) (xs : List Int) : Prop where
  cell : ∀ i, i < xs.length → w.cell? ⟨b, o + i, none⟩ = some (.int .u8 (xs.getD i 0))
  byt : Byt xs

theorem RdAt.gr {a w : World} {b o : Nat} {xs : List Int} (h : RdAt a b o xs) (g : Gr a w) : RdAt w b o xs := ⟨fun i hi => g.cell (h.cell i hi), h.byt⟩
theorem RdAt.drew {w : World} {b o : Nat} {xs : List Int} (h : RdAt w b o xs) : RdAt w.drew b o xs := h.gr (Gr.refl w).drew
theorem RdAt.drop {w : World} {b o : Nat} {xs : List Int} (h : RdAt w b o xs) (k : Nat) : RdAt w b (o + k) (xs.drop k) := by
  refine ⟨fun i hi => ?_, fun x hx => h.byt x (List.mem_of_mem_drop hx)⟩
  rw [List.length_drop] at hi
  have := h.cell (k + i) (by omega)
  rw [← Nat.add_assoc] at this
  rw [this]
  simp [List.getD_eq_getElem?_getD]
theorem RdAt.take {w : World} {b o : Nat} {xs : List Int} (h : RdAt w b o xs) (k : Nat) : RdAt w b o (xs.take k) := by
  refine ⟨fun i hi => ?_, fun x hx => h.byt x (List.mem_of_mem_take hx)⟩
  rw [List.length_take] at hi
  rw [h.cell i (by omega)]
  simp only [List.getD_eq_getElem?_getD]
  rw [List.getElem?_take_of_lt (by omega)]
theorem RdAt.rd {w : World} {b o n c : Nat} {xs : List Int} (h : RdAt w b o xs) (hn : xs.length = n) (hc : n ≤ c) (hm : c ≤ maxLen) : Rd w (.slice (some ⟨b, o, none⟩) n c) xs := by
  subst hn
  exact ⟨_, c, rfl, hc, hm, (fun e => by cases e), fun _ => ⟨b, o, rfl, h.cell⟩, h.byt⟩
theorem Rd.at' {w : World} {v : Value} {xs : List Int} (h : Rd w v xs) (hn : 0 < xs.length) : ∃ b o c, v = .slice (some ⟨b, o, none⟩) xs.length c ∧ xs.length ≤ c ∧ c ≤ maxLen ∧ RdAt w b o xs := by
  obtain ⟨p, c, rfl, hc, hm, _, hb, hby⟩ := h
  obtain ⟨b, o, rfl, hcell⟩ := hb hn
  exact ⟨b, o, c, rfl, hc, hm, hcell, hby⟩

theorem wf_byt {xs : List Int} (h : Byt xs) : ∀ z ∈ xs, (Lit.int .u8 z).wf = true := by
  intro z hz
  have := h z hz
  have e1 : IntKind.u8.min = 0 := rfl
  have e2 : IntKind.u8.max = 255 := rfl
  simp [Lit.wf, e1, e2]
  omega

/-- The number that the first two bytes spell, the most significant one first; and the first four. -/
def nat2 (xs : List Int) : Int := xs.getD 0 0 * 256 + xs.getD 1 0
def nat4 (xs : List Int) : Int := xs.getD 0 0 * 16777216 + xs.getD 1 0 * 65536 + xs.getD 2 0 * 256 + xs.getD 3 0
theorem byt_getD {xs : List Int} (h : Byt xs) (i : Nat) : 0 ≤ xs.getD i 0 ∧ xs.getD i 0 < 256 := by
  rw [List.getD_eq_getElem?_getD]
  cases e : xs[i]? with
  | none => simp
  | some x => exact h x (List.mem_of_getElem? e)
theorem nat2_bd {xs : List Int} (h : Byt xs) : 0 ≤ nat2 xs ∧ nat2 xs < 65536 := by
  have h0 := byt_getD h 0; have h1 := byt_getD h 1; unfold nat2; omega
theorem nat4_bd {xs : List Int} (h : Byt xs) : 0 ≤ nat4 xs ∧ nat4 xs < 4294967296 := by
  have h0 := byt_getD h 0; have h1 := byt_getD h 1; have h2 := byt_getD h 2; have h3 := byt_getD h 3; unfold nat4; omega
theorem u8 : U8 Tryd.prog 24 := ⟨Tryd.underlying24, by kernel_rfl⟩

/-- append of bytes, as a step of a region that draws its order. -/
theorem step_append_gr {P : Program} {w0 w : World} {ops : Array Oper} {o : Oper} {a : Act} {K : Act → World → Prop} {Q : Exit → Act → World → Prop} {E : Prop} {t : TypeId} (L : U8 P t) (hgd : o.guard = none) (s x : Operand)
    (ho : o.op = .call { callee := .builtin .append, args := #[s, x], argTypes := #[t, t] }) (hw : Gr w0 w) {v : Value} {xs : List Int} (hs : a.eval s = v) (hown : Own w0.heap.size w v xs)
    {u : Value} {ys : List Int} (hx : a.eval x = u) (hr : Rd w u ys) (hlim : xs.length + ys.length ≤ 140737488355328)
    (h : ∀ v' w', Own w0.heap.size w' v' (xs ++ ys) → Gr w0 w' → K (a.put o.dst v') w') :
    if Region.wanted o (yielded ops a.tmps) = true then Oper.wp P o a w K Q else E := by
  have hwd : Region.wanted o (yielded ops a.tmps) = true := by simp [Region.wanted, hgd]
  rw [if_pos hwd]
  exact wp_append_bytes L s x ho hs hown hx hr hlim hw.size fun v' w' h2 h3 _ => h v' w' h2 (hw.grown h3 hown.row)

end Go.Proofs.YtgkccbfepjgjoaaDoor

/- Contracts of bytes.Clone and bytes.Equal in this seat's words. -/
namespace Go.Proofs.YtgkccbfepjgjoaaDoor
open Go Go.RowKit

theorem bytesOf_eq {xs ys : List Int} (hx : Byt xs) (hy : Byt ys) : (Lib.bytesOf xs == Lib.bytesOf ys) = decide (xs = ys) := by
  by_cases h : xs = ys
  · subst h; simp
  · rw [decide_eq_false h]
    rw [beq_eq_false_iff_ne]
    intro e
    apply h
    have key : ∀ (l : List Int), Byt l → (Lib.bytesOf l).map (fun u => (u.toNat : Int)) = l := by
      intro l hl
      induction l with
      | nil => rfl
      | cons a t ih =>
        have := ih (fun x hx => hl x (by simp [hx]))
        have ha := hl a (by simp)
        simp only [Lib.bytesOf, List.map_cons] at this ⊢
        rw [this]
        congr 1
        simp
        omega
    rw [← key xs hx, ← key ys hy, e]

theorem equal (v u : Value) (xs ys : List Int) (w : World) (hx : Rd w v xs) (hy : Rd w u ys) :
    Calls Tryd.prog 17 #[v, u] w fun e w' => e = .returned (.bool (decide (xs = ys))) ∧ w = w' := by
  obtain ⟨p, c, rfl, _, _, _, hb, hbx⟩ := hx
  obtain ⟨q, d, rfl, _, _, _, hd, hby⟩ := hy
  refine (Tryd.bytes_Equal_all p q _ _ _ _ xs ys w rfl rfl hb hd).mono fun e w' => ?_
  rintro ⟨rfl, rfl⟩
  rw [bytesOf_eq hbx hby]
  exact ⟨rfl, rfl⟩

/-- bytes.Clone. -/
theorem clone (v : Value) (xs : List Int) (w : World) (h : Rd w v xs) (hl : xs.length ≤ 140737488355328) :
    Calls Tryd.prog 16 #[v] w fun e w' => ∃ u, e = .returned u ∧ Own w.heap.size w' u xs ∧ Gr w w' := by
  obtain ⟨p, c, rfl, _, _, hn, hb, hbx⟩ := h
  cases p with
  | none =>
    have : xs = [] := by
      rcases Nat.eq_zero_or_pos xs.length with h | h
      · exact List.eq_nil_of_length_eq_zero h
      · obtain ⟨_, _, e, _⟩ := hb h; cases e
    subst this
    refine (Tryd.bytes_Clone_nil _ _ w).mono fun e w' => ?_
    rintro ⟨rfl, rfl⟩
    exact ⟨_, rfl, Own.nil _ _, Gr.refl _⟩
  | some a =>
    refine (Tryd.bytes_Clone_at a _ c xs w rfl hl (fun i hi => ?_)).mono fun e w' => ?_
    · obtain ⟨b, o, e, hc⟩ := hb (by omega)
      injection e with e
      subst e
      rw [Lib.addr_add]
      exact hc i hi
    · rintro ⟨u, rfl, h1, _, h3⟩
      exact ⟨u, rfl, ⟨h1, hbx⟩, h3⟩
end Go.Proofs.YtgkccbfepjgjoaaDoor

/- A session's state, and the reader of so many bytes. -/
namespace Go.Proofs.YtgkccbfepjgjoaaDoor
open Go Go.RowKit

/-- All that was there is as it was, but for block s. -/
def Fx (s : Nat) (w w' : World) : Prop := w.grownBy w' (some s)
theorem Fx.refl (s : Nat) (w : World) : Fx s w w := ⟨rfl, rfl, rfl, Nat.le_refl _, fun _ _ _ => rfl⟩
theorem Fx.trans {s : Nat} {a b c : World} (h : Fx s a b) (k : Fx s b c) : Fx s a c := Lib.grownBy_trans h k
theorem Fx.alloc {s : Nat} {a w : World} (h : Fx s a w) (o : Obj) : Fx s a (w.alloc o) := h.trans (World.grownBy_alloc w o _)
theorem Fx.drew {s : Nat} {a w : World} (h : Fx s a w) : Fx s a w.drew := ⟨h.os, h.tape, h.output, h.size, h.block⟩
theorem Fx.drewN {s : Nat} {a w : World} (h : Fx s a w) (n : Nat) : Fx s a (w.drewN n) := ⟨h.os, h.tape, h.output, h.size, h.block⟩
theorem Fx.set {s : Nat} {a w : World} (h : Fx s a w) (i : Nat) (v : Value) : Fx s a (w.setCell ⟨s, i, none⟩ v) := h.trans (Lib.grownBy_setCell w s i v)
theorem Fx.of_gr {s : Nat} {w w' : World} (h : Gr w w') : Fx s w w' := Lib.grownBy_below (Fx.refl s w) h
theorem Fx.gr {s : Nat} {a w w' : World} (h : Fx s w w') (g : Gr a w) (hs : a.heap.size ≤ s) : Gr a w' := g.grown h fun k hk => by injection hk with hk; omega
theorem Fx.heap {s : Nat} {a w : World} (h : Fx s a w) {k : Nat} {o : Obj} (hk : a.heap[k]? = some o) (hne : k ≠ s) : w.heap[k]? = some o := by
  rw [h.block k (lt_of_some hk) (fun e => hne (by injection e))]; exact hk
theorem Fx.cell {s : Nat} {a w : World} (h : Fx s a w) {p : Addr} {v : Value} (hc : a.cell? p = some v) (hne : p.block ≠ s) : w.cell? p = some v :=
  World.grownBy.cell h hc (fun e => hne (by injection e))

/-- A slice lies in another block; in one ahead of it. -/
def OffV (s : Nat) (v : Value) : Prop := ∀ a n c, v = .slice (some a) n c → a.block ≠ s
def LoV (s : Nat) (v : Value) : Prop := ∀ a n c, v = .slice (some a) n c → a.block < s
theorem LoV.off {s t : Nat} {v : Value} (h : LoV s v) (ht : s ≤ t) : OffV t v := fun a n c e => by have := h a n c e; omega
theorem Rd.fx {s : Nat} {a w : World} {v : Value} {xs : List Int} (r : Rd a v xs) (h : Fx s a w) (ho : OffV s v) : Rd w v xs := by
  obtain ⟨p, c, rfl, h1, h2, h3, h4, h5⟩ := r
  refine ⟨p, c, rfl, h1, h2, h3, ?_, h5⟩
  intro hn
  obtain ⟨b, o, rfl, hc⟩ := h4 hn
  exact ⟨b, o, rfl, fun i hi => h.cell (hc i hi) (ho ⟨b, o, none⟩ _ _ rfl)⟩
theorem Rd.below {B : Nat} {a w : World} {v : Value} {xs : List Int} (r : Rd a v xs) (h : Below B a w) (ho : LoV B v) : Rd w v xs := by
  obtain ⟨p, c, rfl, h1, h2, h3, h4, h5⟩ := r
  refine ⟨p, c, rfl, h1, h2, h3, ?_, h5⟩
  intro hn
  obtain ⟨b, o, rfl, hc⟩ := h4 hn
  exact ⟨b, o, rfl, fun i hi => (Below.cell h (p := ⟨b, o + i, none⟩) (ho ⟨b, o, none⟩ _ _ rfl)).trans (hc i hi)⟩
theorem Own.fx {s B : Nat} {a w : World} {v : Value} {xs : List Int} (r : Own B a v xs) (h : Fx s a w) (hs : s < B) : Own B w v xs := by
  obtain ⟨⟨h1, h2⟩, h3⟩ := r
  refine ⟨⟨h1, ?_⟩, h3⟩
  rcases h2 with h2 | ⟨g, cap, cur, hv, hg, hh, r⟩
  · exact Or.inl h2
  · exact Or.inr ⟨g, cap, cur, hv, hg, h.heap hh (by omega), r⟩
theorem Own.off {s B : Nat} {a : World} {v : Value} {xs : List Int} (r : Own B a v xs) (hs : s < B) : OffV s v := by
  obtain ⟨⟨h1, h2⟩, h3⟩ := r
  rcases h2 with ⟨rfl, _⟩ | ⟨g, cap, cur, rfl, hg, _⟩
  · intro a n c e; cases e
  · intro a n c e
    injection e with e
    injection e with e
    subst e
    show g ≠ s
    omega

/-- Where a slice that is cut at k begins: at its very end it keeps its address. -/
def cutOff (o c k : Nat) : Nat := if c = k then o else o + k

theorem run_cut2 {P : Program} {t : TypeId} (L : U8 P t) (b o N c i n : Nat) (I J : Int) (hI : I = (i : Int)) (hJ : J = (i : Int) + n) (hin : i + n ≤ c) (w : World) :
    (Instr.slice t (.slice (some ⟨b, o, none⟩) N c) (some (.int .i64 I)) (some (.int .i64 J)) none).run P w = .ok (.slice (some ⟨b, cutOff o c i, none⟩) n (c - i)) w := by
  subst hI; subst hJ
  obtain ⟨x, hi, hz, hz1, hz2⟩ := info_parts L.info
  have e2 : (if c = i then some (⟨b, o, none⟩ : Addr) else some ((⟨b, o, none⟩ : Addr).add i)) = some ⟨b, cutOff o c i, none⟩ := by
    unfold cutOff
    rw [Lib.addr_add]
    split <;> rfl
  have hJ : ((i : Int) + n) = ((i + n : Nat) : Int) := by omega
  have e4 : Instr.sliceBound (.int .i64 ((i : Int) + n)) c .sliceAcap = pure (i + n) := by
    have h2 : (0 : Int) ≤ ((i : Int) + n) ∧ ((i : Int) + n) ≤ c := by omega
    have h3 : ((i : Int) + n).toNat = i + n := by omega
    simp [Instr.sliceBound, asIntOf, h2, h3]
  have e5 : Instr.sliceBound (.int .i64 (i : Int)) (i + n) .sliceB = pure i := by
    have h2 : (0 : Int) ≤ (i : Int) ∧ (i : Int) ≤ ((i + n : Nat) : Int) := by omega
    have h3 : ¬ (((i + n : Nat) : Int) < (i : Int)) := by omega
    simp [Instr.sliceBound, asIntOf]
    intro hh
    omega
  simp [Instr.slice, Instr.sliceBounds, e4, e5, run_underlying L.under, sizeOf, typeInfo, hi, hz1, e2]

/-- The cells of a session that reads: its input, nothing written, its place, its two settings. -/
def snCells (v : Value) (i : Nat) (big : Bool) (ch : Int) : Array Value := #[v, .slice none 0 0, .int .i64 0, .int .i8 0, .int .i64 i, .bool big, .int .i64 ch]

/-- A session at place i of the input xs. -/
structure Sn (w : World) (s : Nat) (v : Value) (xs : List Int) (i : Nat) (big : Bool) (ch : Int) : Prop where
  blk : w.heap[s]? = some (.cells (snCells v i big ch) 81 (0, 0))
  rd : Rd w v xs
  off : LoV s v
  le : i ≤ xs.length
  lim : xs.length ≤ 2147483647

theorem Sn.drewN {w : World} {s : Nat} {v : Value} {xs : List Int} {i : Nat} {big : Bool} {ch : Int} (h : Sn w s v xs i big ch) (n : Nat) : Sn (w.drewN n) s v xs i big ch :=
  ⟨h.blk, h.rd.gr ((Gr.refl w).drewN n), h.off, h.le, h.lim⟩
theorem Sn.gr {w w' : World} {s : Nat} {v : Value} {xs : List Int} {i : Nat} {big : Bool} {ch : Int} (h : Sn w s v xs i big ch) (g : Gr w w') : Sn w' s v xs i big ch :=
  ⟨g.heap h.blk, h.rd.gr g, h.off, h.le, h.lim⟩
theorem Sn.below {w w' : World} {s B : Nat} {v : Value} {xs : List Int} {i : Nat} {big : Bool} {ch : Int} (h : Sn w s v xs i big ch) (g : Below B w w') (hs : s < B) : Sn w' s v xs i big ch :=
  ⟨by rw [Below.block g s hs]; exact h.blk, h.rd.below g (fun a n c e => by have := h.off a n c e; omega), h.off, h.le, h.lim⟩
theorem Sn.at' {w : World} {s : Nat} {v : Value} {xs : List Int} {i : Nat} {big : Bool} {ch : Int} (h : Sn w s v xs i big ch) (j : Nat) (hj : j ≤ xs.length) : Sn (w.setCell ⟨s, 4, none⟩ (.int .i64 j)) s v xs j big ch := by
  refine ⟨?_, h.rd.fx ((Fx.refl s w).set 4 _) (h.off.off (Nat.le_refl _)), h.off, hj, h.lim⟩
  rw [blk_set h.blk]
  simp [snCells]

/-- The package's error at the input's end. -/
def EndE (w : World) (E : Value) : Prop := (∃ T p, E = .iface T (.pointer (some p))) ∧ w.cell? ⟨3, 0, none⟩ = some E
theorem EndE.gr {w w' : World} {E : Value} (h : EndE w E) (g : Gr w w') : EndE w' E := ⟨h.1, g.cell h.2⟩
theorem EndE.below {w w' : World} {E : Value} {B : Nat} (h : EndE w E) (g : Below B w w') (hs : 3 < B) : EndE w' E := ⟨h.1, by rw [Below.cell g hs]; exact h.2⟩
theorem EndE.fx {w w' : World} {E : Value} {s : Nat} (h : EndE w E) (g : Fx s w w') (hs : 3 ≠ s) : EndE w' E := ⟨h.1, g.cell h.2 hs⟩

theorem cut2 {w : World} {v : Value} {xs : List Int} (h : Rd w v xs) (i n : Nat) (hin : i + n ≤ xs.length) :
    ∃ u, Rd w u ((xs.drop i).take n) ∧ (∃ q d, u = .slice q n d) ∧ (∀ s, LoV s v → LoV s u) ∧
      ∀ w2, (Instr.slice 24 v (some (.int .i64 (i : Int))) (some (.int .i64 ((i : Int) + n))) none).run Tryd.prog w2 = .ok u w2 := by
  by_cases h0 : 0 < xs.length
  · obtain ⟨b, o, c, rfl, hc, hm, hat⟩ := h.at' h0
    refine ⟨.slice (some ⟨b, cutOff o c i, none⟩) n (c - i), ?_, ⟨_, _, rfl⟩, ?_, fun w2 => run_cut2 u8 b o _ c i n _ _ rfl rfl (by omega) w2⟩
    · unfold cutOff
      have hl : ((xs.drop i).take n).length = n := by rw [List.length_take, List.length_drop]; omega
      by_cases e : c = i
      · obtain rfl : n = 0 := by omega
        rw [if_pos e, List.take_zero]
        exact ⟨_, c - i, rfl, Nat.zero_le _, by omega, (fun e => by cases e), Lib.BytesIn.nil _ _ _, fun x hx => by cases hx⟩
      · rw [if_neg e]
        exact ((hat.drop i).take n).rd hl (by omega) (by simp only [maxLen] at hm ⊢; omega)
    · intro s hs a n' c' e
      injection e with e
      injection e with e
      subst e
      exact hs ⟨b, o, none⟩ _ _ rfl
  · obtain ⟨p, c, rfl, hc, hm, hp, hb, hby⟩ := h
    obtain rfl : xs = [] := List.eq_nil_of_length_eq_zero (by omega)
    simp only [List.length_nil] at hin
    obtain rfl : i = 0 := by omega
    obtain rfl : n = 0 := by omega
    cases p with
    | none =>
      obtain rfl := hp rfl
      refine ⟨.slice none 0 0, Rd.nil w, ⟨_, _, rfl⟩, fun _ h => h, fun w2 => ?_⟩
      obtain ⟨x, hi, hz, hz1, hz2⟩ := info_parts u8.info
      simp [Instr.slice, Instr.sliceBounds, Instr.sliceBound, asIntOf, run_underlying u8.under, sizeOf, typeInfo, hi]
    | some a =>
      refine ⟨.slice (some a) 0 c, ⟨_, c, rfl, Nat.zero_le _, hm, (fun e => by cases e), Lib.BytesIn.nil _ _ _, fun x hx => by cases hx⟩, ⟨_, _, rfl⟩, ?_, fun w2 => ?_⟩
      · intro s hs a' n' c' e
        injection e with e
        injection e with e
        subst e
        exact hs _ _ _ rfl
      obtain ⟨x, hi, hz, hz1, hz2⟩ := info_parts u8.info
      have : (a.add 0) = a := by
        cases a with
        | mk b o s => cases s <;> rfl
      simp [Instr.slice, Instr.sliceBounds, Instr.sliceBound, asIntOf, run_underlying u8.under, sizeOf, typeInfo, hi, this]

/-- So many bytes are read, and the place moves on. -/
theorem read_ok (s : Nat) (v : Value) (xs : List Int) (i n : Nat) (big : Bool) (ch : Int) (w : World) (h : Sn w s v xs i big ch) (hin : i + n ≤ xs.length) :
    Calls Tryd.prog 85 #[.pointer (some ⟨s, 0, none⟩), .int .i64 n] w fun e w' => ∃ u, e = .returned (.tuple #[u, .nilIface]) ∧ Rd w' u ((xs.drop i).take n) ∧ LoV s u ∧
      Sn w' s v xs (i + n) big ch ∧ Fx s w w' := by
  have s0 : w.cell? ⟨s, 0, none⟩ = some v := (blk_cell h.blk 0).trans rfl
  have s4 : w.cell? ⟨s, 4, none⟩ = some (.int .i64 i) := (blk_cell h.blk 4).trans rfl
  have f4 := blk_free h.blk 4
  obtain ⟨u, hu, ⟨q, d, rfl⟩, hoff, hcut⟩ := cut2 h.rd i n hin
  have hoff := hoff s h.off
  have hnn : ((i + n : Nat) : Int) = (i : Int) + n := by omega
  have HF : ∀ k, Hid (Sn ((w.drewN k).setCell ⟨s, 4, none⟩ (.int .i64 ((i : Int) + n))) s v xs (i + n) big ch) := fun k => Lib.hid (by rw [← hnn]; exact (h.drewN k).at' (i + n) hin)
  have HR : ∀ k, Hid (Rd ((w.drewN k).setCell ⟨s, 4, none⟩ (.int .i64 ((i : Int) + n))) (.slice q n d) ((xs.drop i).take n)) := fun k => Lib.hid (hu.fx (((Fx.refl s w).drewN k).set 4 _) (hoff.off (Nat.le_refl _)))
  obtain ⟨p, c, hv, hc, hm, _⟩ := h.rd
  have hlim := h.lim
  obtain ⟨N, hN⟩ : ∃ N, xs.length = N := ⟨_, rfl⟩
  rw [hN] at hv hin hlim
  have HO := Lib.hid hoff
  clear hN h hoff hu hc hm hnn
  subst hv
  have hw : IntKind.i64.wrap ((i : Int) + n) = (i : Int) + n := IntWalk.i64_in _ (by omega)
  have hcm : ¬ ((N : Int) < (i : Int) + n) := by omega
  go_enter Tryd.func85, Tryd.ntmps85
  go_wp2
  go_quiet (fail)
  go_wp2
  go_quiet (fail)
  go_wp2
  go_ret2
  exact ⟨_, rfl, (HR _).out, HO.out, (HF _).out, (((Fx.refl s w).drewN _).set 4 _)⟩

/-- Too few bytes are left: an error, and all is as it was. -/
theorem read_no (s : Nat) (v : Value) (xs : List Int) (i n : Nat) (big : Bool) (ch : Int) (E : Value) (w : World) (h : Sn w s v xs i big ch) (hE : EndE w E) (hin : xs.length < i + n) (hn : n ≤ 1152921504606846976) :
    Calls Tryd.prog 85 #[.pointer (some ⟨s, 0, none⟩), .int .i64 n] w fun e w' => e = .returned (.tuple #[.slice none 0 0, E]) ∧ ∃ k, w' = w.drewN k := by
  have s0 : w.cell? ⟨s, 0, none⟩ = some v := (blk_cell h.blk 0).trans rfl
  have s4 : w.cell? ⟨s, 4, none⟩ = some (.int .i64 i) := (blk_cell h.blk 4).trans rfl
  have hle := h.le
  obtain ⟨p, c, hv, hc, hm, _⟩ := h.rd
  have hlim := h.lim
  obtain ⟨N, hN⟩ : ∃ N, xs.length = N := ⟨_, rfl⟩
  rw [hN] at hv hin hlim hle
  clear hN h hc hm
  subst hv
  obtain ⟨⟨T, q, rfl⟩, hg⟩ := hE
  have hw : IntKind.i64.wrap ((i : Int) + n) = (i : Int) + n := IntWalk.i64_in _ (by omega)
  have hcm : (N : Int) < (i : Int) + n := by omega
  go_enter Tryd.func85, Tryd.ntmps85
  go_wp2
  go_quiet (fail)
  go_wp2
  go_quiet (fail)
  go_wp2
  go_ret2
  exact ⟨rfl, _, by simp; rfl⟩
end Go.Proofs.YtgkccbfepjgjoaaDoor

/- A session's readers of bytes: by what is left of its input. -/
namespace Go.Proofs.YtgkccbfepjgjoaaDoor
open Go Go.RowKit

/-- A session that reads: r is left of its input, of N bytes. -/
def Ss (w : World) (s : Nat) (big : Bool) (ch : Int) (E : Value) (r : List Int) : Prop :=
  ∃ v xs i, Sn w s v xs i big ch ∧ r = xs.drop i ∧ EndE w E ∧ 3 < s

section
variable {w w' : World} {s : Nat} {big : Bool} {ch : Int} {E : Value} {r : List Int}
theorem Ss.drewN (h : Ss w s big ch E r) (n : Nat) : Ss (w.drewN n) s big ch E r := by
  obtain ⟨v, xs, i, h1, h2, h3, h4⟩ := h
  exact ⟨v, xs, i, h1.drewN n, h2, h3.gr ((Gr.refl w).drewN n), h4⟩
theorem Ss.gr (h : Ss w s big ch E r) (g : Gr w w') : Ss w' s big ch E r := by
  obtain ⟨v, xs, i, h1, h2, h3, h4⟩ := h
  exact ⟨v, xs, i, h1.gr g, h2, h3.gr g, h4⟩
theorem Ss.below {B : Nat} (h : Ss w s big ch E r) (g : Below B w w') (hs : s < B) : Ss w' s big ch E r := by
  obtain ⟨v, xs, i, h1, h2, h3, h4⟩ := h
  exact ⟨v, xs, i, h1.below g hs, h2, h3.below g (by omega), h4⟩
theorem Ss.byt (h : Ss w s big ch E r) : Byt r := by
  obtain ⟨v, xs, i, h1, rfl, h3, h4⟩ := h
  exact fun x hx => h1.rd.byt x (List.mem_of_mem_drop hx)
theorem Ss.len (h : Ss w s big ch E r) : r.length ≤ 2147483647 := by
  obtain ⟨v, xs, i, h1, rfl, h3, h4⟩ := h
  have := h1.lim
  rw [List.length_drop]; omega
theorem Ss.lt (h : Ss w s big ch E r) : s < w.heap.size := by
  obtain ⟨v, xs, i, h1, _⟩ := h
  exact lt_of_some h1.blk
theorem Ss.big' (h : Ss w s big ch E r) : w.cell? ⟨s, 5, none⟩ = some (.bool big) := by
  obtain ⟨v, xs, i, h1, _⟩ := h
  exact (blk_cell h1.blk 5).trans rfl
theorem Ss.err (h : Ss w s big ch E r) : ∃ T p, E = .iface T (.pointer (some p)) := by
  obtain ⟨v, xs, i, h1, h2, h3, h4⟩ := h
  exact h3.1
end

/-- What a reader of bytes gives where the input suffices; and where it does not. -/
def RetOk (w : World) (s : Nat) (big : Bool) (ch : Int) (E : Value) (out r : List Int) (e : Ending) (w' : World) : Prop :=
  ∃ u, e = .returned (.tuple #[u, .nilIface]) ∧ Rd w' u out ∧ LoV s u ∧ Ss w' s big ch E r ∧ Fx s w w'
def RetNo (w : World) (s : Nat) (big : Bool) (ch : Int) (E : Value) (z : Value) (e : Ending) (w' : World) : Prop :=
  e = .returned (.tuple #[z, E]) ∧ (∃ r, Ss w' s big ch E r) ∧ Fx s w w'
/-- A number, and no error. -/
def RetV (w : World) (s : Nat) (big : Bool) (ch : Int) (E : Value) (z : Value) (r : List Int) (e : Ending) (w' : World) : Prop :=
  e = .returned (.tuple #[z, .nilIface]) ∧ Ss w' s big ch E r ∧ Fx s w w'

theorem rdS_ok (s : Nat) (big : Bool) (ch : Int) (E : Value) (r : List Int) (n : Nat) (w : World) (h : Ss w s big ch E r) (hn : n ≤ r.length) :
    Calls Tryd.prog 85 #[.pointer (some ⟨s, 0, none⟩), .int .i64 n] w (RetOk w s big ch E (r.take n) (r.drop n)) := by
  obtain ⟨v, xs, i, h1, rfl, h3, h4⟩ := h
  have hle := h1.le
  rw [List.length_drop] at hn
  refine (read_ok s v xs i n big ch w h1 (by omega)).mono fun e w' => ?_
  rintro ⟨u, rfl, hu, ho, hs, hf⟩
  exact ⟨u, rfl, hu, ho, ⟨v, xs, i + n, hs, by rw [List.drop_drop], h3.fx hf (Nat.ne_of_lt h4), h4⟩, hf⟩

theorem rdS_no (s : Nat) (big : Bool) (ch : Int) (E : Value) (r : List Int) (n : Nat) (w : World) (h : Ss w s big ch E r) (hn : r.length < n) (hb : n ≤ 1152921504606846976) :
    Calls Tryd.prog 85 #[.pointer (some ⟨s, 0, none⟩), .int .i64 n] w (RetNo w s big ch E (.slice none 0 0)) := by
  have hh := h
  obtain ⟨v, xs, i, h1, rfl, h3, h4⟩ := h
  have hle := h1.le
  rw [List.length_drop] at hn
  refine (read_no s v xs i n big ch E w h1 h3 (by omega) hb).mono fun e w' => ?_
  rintro ⟨rfl, k, rfl⟩
  exact ⟨rfl, ⟨_, hh.drewN k⟩, (Fx.refl s w).drewN k⟩

theorem rd_one {w : World} {u : Value} {b : Int} (h : Rd w u [b]) : ∃ a o c, u = .slice (some ⟨a, o, none⟩) 1 c ∧ 1 ≤ c ∧ c ≤ 9223372036854775807 ∧ w.cell? ⟨a, o, none⟩ = some (.int .u8 b) := by
  obtain ⟨a, o, c, rfl, hc, hm, hat⟩ := h.at' (by simp)
  simp only [maxLen] at hm
  exact ⟨a, o, c, rfl, hc, by omega, by simpa using hat.cell 0 (by simp)⟩

theorem getBytes_ok (s : Nat) (big : Bool) (ch : Int) (E : Value) (r : List Int) (n : Nat) (w : World) (h : Ss w s big ch E r) (hn : n ≤ r.length) :
    Calls Tryd.prog 64 #[.pointer (some ⟨s, 0, none⟩), .int .i64 n] w (RetOk w s big ch E (r.take n) (r.drop n)) := by
  have H := Lib.hid (rdS_ok s big ch E r n w h hn)
  clear h
  go_enter Tryd.func64, Tryd.ntmps64
  go_wp2_with (first | (go_at_call 85; go_must (refine H.out.mono ?_); rintro e w1 ⟨u, rfl, hr⟩))
  go_ret2
  exact ⟨u, rfl, hr⟩
theorem getBytes_no (s : Nat) (big : Bool) (ch : Int) (E : Value) (r : List Int) (n : Nat) (w : World) (h : Ss w s big ch E r) (hn : r.length < n) (hb : n ≤ 1152921504606846976) :
    Calls Tryd.prog 64 #[.pointer (some ⟨s, 0, none⟩), .int .i64 n] w (RetNo w s big ch E (.slice none 0 0)) := by
  have H := Lib.hid (rdS_no s big ch E r n w h hn hb)
  clear h
  go_enter Tryd.func64, Tryd.ntmps64
  go_wp2_with (first | (go_at_call 85; go_must (refine H.out.mono ?_); rintro e w1 ⟨rfl, hr⟩))
  go_ret2
  exact ⟨rfl, hr⟩

theorem getByte_ok (s : Nat) (big : Bool) (ch : Int) (E : Value) (b : Int) (r : List Int) (w : World) (h : Ss w s big ch E (b :: r)) :
    Calls Tryd.prog 63 #[.pointer (some ⟨s, 0, none⟩)] w (RetV w s big ch E (.int .u8 b) r) := by
  have H := Lib.hid (show Calls Tryd.prog 85 #[.pointer (some ⟨s, 0, none⟩), .int .i64 1] w (RetOk w s big ch E [b] r) from rdS_ok s big ch E (b :: r) 1 w h (by simp))
  clear h
  go_enter Tryd.func63, Tryd.ntmps63
  go_wp2_with (first | (go_at_call 85; go_must (refine H.out.mono ?_); rintro e w1 ⟨u, rfl, hr, ho, hs, hf⟩; obtain ⟨b1, o1, c1, rfl, hc1, hm1, c0⟩ := rd_one hr))
  go_ret2
  exact ⟨rfl, hs, hf⟩
theorem getByte_no (s : Nat) (big : Bool) (ch : Int) (E : Value) (w : World) (h : Ss w s big ch E []) :
    Calls Tryd.prog 63 #[.pointer (some ⟨s, 0, none⟩)] w (RetNo w s big ch E (.int .u8 0)) := by
  have H := Lib.hid (rdS_no s big ch E [] 1 w h (by simp) (by omega))
  obtain ⟨T, p, rfl⟩ := h.err
  clear h
  go_enter Tryd.func63, Tryd.ntmps63
  go_wp2_with (first | (go_at_call 85; go_must (refine H.out.mono ?_); rintro e w1 ⟨rfl, hr⟩))
  go_ret2
  exact ⟨rfl, hr⟩

/-- To peek takes nothing. -/
theorem peek_ok (s : Nat) (big : Bool) (ch : Int) (E : Value) (r : List Int) (n : Nat) (w : World) (h : Ss w s big ch E r) (hn : n ≤ r.length) :
    Calls Tryd.prog 73 #[.pointer (some ⟨s, 0, none⟩), .int .i64 n] w (RetOk w s big ch E (r.take n) r) := by
  obtain ⟨v, xs, i, h1, rfl, h3, h4⟩ := h
  have hle := h1.le
  rw [List.length_drop] at hn
  have H := Lib.hid (read_ok s v xs i n big ch w h1 (by omega))
  have s4 : w.cell? ⟨s, 4, none⟩ = some (.int .i64 i) := (blk_cell h1.blk 4).trans rfl
  have HE := Lib.hid h3
  clear h1 h3
  go_enter Tryd.func73, Tryd.ntmps73
  go_wp2_with (first | (go_at_call 85; go_must (refine H.out.mono ?_); rintro e w1 ⟨u, rfl, hu, ho, hs, hf⟩; have z4 : w1.cell? ⟨s, 4, none⟩ = some (.int .i64 ((i + n : Nat) : Int)) := (blk_cell hs.blk 4).trans rfl; have f4 := blk_free hs.blk 4))
  go_ret2
  have hf2 := hf.set 4 (.int .i64 (i : Int))
  exact ⟨u, rfl, hu.fx ((Fx.refl s w1).set 4 _) (ho.off (Nat.le_refl _)), ho, ⟨v, xs, i, hs.at' i hle, rfl, HE.out.fx hf2 (Nat.ne_of_lt h4), h4⟩, hf2⟩
theorem peek_no (s : Nat) (big : Bool) (ch : Int) (E : Value) (r : List Int) (n : Nat) (w : World) (h : Ss w s big ch E r) (hn : r.length < n) (hb : n ≤ 1152921504606846976) :
    Calls Tryd.prog 73 #[.pointer (some ⟨s, 0, none⟩), .int .i64 n] w (RetNo w s big ch E (.slice none 0 0)) := by
  obtain ⟨v, xs, i, h1, rfl, h3, h4⟩ := h
  have hle := h1.le
  rw [List.length_drop] at hn
  have H := Lib.hid (read_no s v xs i n big ch E w h1 h3 (by omega) hb)
  have s4 : w.cell? ⟨s, 4, none⟩ = some (.int .i64 i) := (blk_cell h1.blk 4).trans rfl
  have f4 := blk_free h1.blk 4
  have HE := Lib.hid h3
  have HS := Lib.hid h1
  obtain ⟨⟨T, p, rfl⟩, _⟩ := h3
  clear h1
  go_enter Tryd.func73, Tryd.ntmps73
  go_wp2_with (first | (go_at_call 85; go_must (refine H.out.mono ?_); rintro e w1 ⟨rfl, k, rfl⟩))
  go_ret2
  have hf2 := ((Fx.refl s w).drewN k).set 4 (.int .i64 (i : Int))
  exact ⟨rfl, ⟨_, v, xs, i, (HS.out.drewN k).at' i hle, rfl, HE.out.fx hf2 (Nat.ne_of_lt h4), h4⟩, hf2⟩
end Go.Proofs.YtgkccbfepjgjoaaDoor

/- A session's readers of numbers. -/
namespace Go.Proofs.YtgkccbfepjgjoaaDoor
open Go Go.RowKit

theorem run_cut1 {P : Program} {t : TypeId} (L : U8 P t) (b o n c k : Nat) (K : Int) (hK : K = (k : Int)) (hk : k ≤ n) (w : World) :
    (Instr.slice t (.slice (some ⟨b, o, none⟩) n c) (some (.int .i64 K)) none none).run P w = .ok (.slice (some ⟨b, cutOff o c k, none⟩) (n - k) (c - k)) w := by
  subst hK
  obtain ⟨i, hi, hz, hz1, hz2⟩ := info_parts L.info
  have h1 : (0 : Int) ≤ k ∧ (k : Int) ≤ n := by omega
  have e3 : (if c = k then some (⟨b, o, none⟩ : Addr) else some ((⟨b, o, none⟩ : Addr).add k)) = some ⟨b, cutOff o c k, none⟩ := by
    unfold cutOff
    rw [Lib.addr_add]
    split <;> rfl
  have e4 : Instr.sliceBound (.int .i64 k) n .sliceB = pure k := by simp [Instr.sliceBound, asIntOf, h1]
  simp [Instr.slice, Instr.sliceBounds, e4, run_underlying L.under, sizeOf, typeInfo, hi, hz1, e3]

theorem beFromZ_zeros (k : Nat) (l : List Int) : Lib.beFromZ 0 (List.replicate k 0 ++ l) = Lib.beFromZ 0 l := by
  induction k with
  | zero => rfl
  | succ k ih => rw [List.replicate_succ, List.cons_append, Lib.beFromZ]; simpa using ih
theorem leZ_zeros (k : Nat) : Lib.leZ (List.replicate k 0) = 0 := by
  induction k with
  | zero => rfl
  | succ k ih => rw [List.replicate_succ, Lib.leZ, ih]; rfl
theorem leZ_append (l : List Int) (k : Nat) : Lib.leZ (l ++ List.replicate k 0) = Lib.leZ l := by
  induction l with
  | nil => exact leZ_zeros k
  | cons a t ih => rw [List.cons_append, Lib.leZ, Lib.leZ, ih]

/-- The number that bytes spell, as the program has it. -/
def numV (bigE : Bool) (l : List Int) : Int := wrap64 (if bigE = true then Lib.beZ l else Lib.leZ l)

/-- Eight bytes, of which some are filled. -/
def tempL (bigE : Bool) (l : List Int) : List Int := if bigE = true then List.replicate (8 - l.length) 0 ++ l else l ++ List.replicate (8 - l.length) 0
theorem tempL_length (bigE : Bool) (l : List Int) (h : l.length ≤ 8) : (tempL bigE l).length = 8 := by
  unfold tempL; split <;> simp <;> omega
theorem tempL_byt (bigE : Bool) {l : List Int} (h : Byt l) : Byt (tempL bigE l) := by
  unfold tempL; split
  · exact byt_append (byt_rep _) h
  · exact byt_append h (byt_rep _)
theorem temp_be (l : List Int) (h : l.length ≤ 8) : Lib.beZ ((tempL true l).take 8) = Lib.beZ l := by
  rw [List.take_of_length_le (by rw [tempL_length _ _ h]; exact Nat.le_refl _)]
  exact beFromZ_zeros _ _
theorem temp_le (l : List Int) (h : l.length ≤ 8) : Lib.leZ ((tempL false l).take 8) = Lib.leZ l := by
  rw [List.take_of_length_le (by rw [tempL_length _ _ h]; exact Nat.le_refl _)]
  exact leZ_append _ _

theorem splice_be (l : List Int) (h : l.length ≤ 8) : splice ((List.replicate 8 (0 : Int)).map (Value.int .u8)) (8 - l.length) (l.map (Value.int .u8)) = (tempL true l).map (Value.int .u8) := by
  unfold splice tempL
  rw [if_pos rfl, List.map_append, List.map_replicate, List.map_replicate, List.take_replicate, List.drop_replicate, Nat.min_eq_left (by omega), List.length_map]
  rw [show 8 - (8 - l.length + l.length) = 0 by omega, List.replicate_zero, List.append_nil]
theorem splice_le (l : List Int) (_h : l.length ≤ 8) : splice ((List.replicate 8 (0 : Int)).map (Value.int .u8)) 0 (l.map (Value.int .u8)) = (tempL false l).map (Value.int .u8) := by
  unfold splice tempL
  rw [if_neg (by simp), List.map_append, List.map_replicate, List.map_replicate, List.take_zero, List.nil_append, List.drop_replicate, List.length_map]
  rw [Nat.zero_add]

theorem ownAt_cur {w : World} {g : Nat} {xs : List Int} (h : OwnAt w g xs.length xs) : w.heap[g]? = some (.cells (xs.map (Value.int .u8)).toArray 5 (0, 0)) := by
  obtain ⟨⟨cur, hh, hs, ht⟩, _⟩ := h
  rw [hh]
  congr 2
  apply Array.ext'
  rw [← ht, List.take_of_length_le (by rw [Array.length_toList]; omega)]

/-- 'copy' of bytes into a whole row of the call's own. -/
theorem rdAt_of_heap {w : World} {g : Nat} {xs : List Int} {T : TypeId} (h : w.heap[g]? = some (.cells (xs.map (Value.int .u8)).toArray T (0, 0))) (hb : Byt xs) : RdAt w g 0 xs := by
  refine ⟨fun i hi => ?_, hb⟩
  rw [Nat.zero_add, blk_cell h i]
  simp [List.getD_eq_getElem?_getD, hi]

theorem u8size : (Tryd.prog.info? 5).map (·.size) = some 1 := by kernel_rfl
theorem src_cells {w : World} {b o : Nat} {xs : List Int} (h : RdAt w b o xs) : ∀ j v, (xs.map (Value.int .u8))[j]? = some v → w.cell? ((⟨b, o, none⟩ : Addr).add j) = some v := by
  intro j u hu
  have hj : j < xs.length := by have := (List.getElem?_eq_some_iff.1 hu).1; simpa using this
  rw [Lib.addr_add, h.cell j hj]
  rw [List.getElem?_map, List.getElem?_eq_getElem hj] at hu
  rw [List.getD_eq_getElem?_getD, List.getElem?_eq_getElem hj]
  simpa using hu

theorem copy8 (w0 w : World) (g off n m c b o : Nat) (xs l : List Int) (ty : TypeId) (h0 : Gr w0 w) (hg0 : w0.heap.size ≤ g) (hg : w.heap[g]? = some (.cells (xs.map (Value.int .u8)).toArray 5 (0, 0))) (hr : RdAt w b o l) (hl : l.length = n) (hfit : off + n ≤ xs.length) :
    ∃ w', (Builtin.copy_ #[24, 24] ty #[.slice (some ⟨g, off, none⟩) n m, .slice (some ⟨b, o, none⟩) n c]).run Tryd.prog w = .ok (goInt n) w' ∧
      w'.heap[g]? = some (.cells (splice (xs.map (Value.int .u8)) off (l.map (Value.int .u8))).toArray 5 (0, 0)) ∧ Gr w0 w' := by
  have := run_copy_row (P := Tryd.prog) w 24 24 ty 5 g off n m ⟨b, o, none⟩ n c (xs.map (Value.int .u8)).toArray 5 (l.map (Value.int .u8)) Tryd.underlying24 u8size hg (by rw [List.length_map, hl]; exact (Nat.min_self n).symm) (src_cells hr) (by simp; omega) (one_cells _)
  rw [List.length_map, hl] at this
  refine ⟨_, this, ?_, below_setRow h0 hg0 _⟩
  rw [setRow_heap w g _ _ _ _ hg]
  simp [splice, hl]

set_option maxRecDepth 100000 in
/-- A number of n bytes, the most significant one first. -/
theorem int64_be (s : Nat) (big : Bool) (ch : Int) (E : Value) (r : List Int) (n : Nat) (w : World) (h : Ss w s big ch E r) (h1 : 1 ≤ n) (h8 : n ≤ 8) (hn : n ≤ r.length) :
    Calls Tryd.prog 68 #[.pointer (some ⟨s, 0, none⟩), .int .i64 n, .bool false, .bool true] w (RetV w s big ch E (.int .i64 (numV true (r.take n))) (r.drop n)) := by
  have hlen : (r.take n).length = n := by rw [List.length_take]; omega
  have hbyt : Byt (r.take n) := fun x hx => h.byt x (List.mem_of_mem_take hx)
  have H := Lib.hid (rdS_ok s big ch E r n w h hn)
  have hv : numV true (r.take n) = wrap64 (Lib.beZ ((tempL true (r.take n)).take 8)) := by rw [temp_be _ (by omega)]; rfl
  rw [hv]
  have hsp := splice_be (r.take n) (by omega)
  have htl := tempL_length true (r.take n) (by omega)
  have htb := tempL_byt true hbyt
  rw [hlen] at hsp
  have hsl := fun (b : Nat) (w : World) => run_cut1 (P := Tryd.prog) u8 b 0 8 8 (8 - n) (8 - (n : Int)) (by omega) (by omega) w
  have hco : cutOff 0 8 (8 - n) = 8 - n := by unfold cutOff; rw [if_neg (by omega)]; omega
  rw [hco, show 8 - (8 - n) = n by omega] at hsl
  generalize r.take n = l at *
  generalize r.drop n = r' at *
  generalize tempL true l = tl at *
  have HSP := Lib.hid hsp
  have HLEN := Lib.hid hlen
  have HTL := Lib.hid htl
  clear h hv hco hsp hlen htl
  have i1 : (1 : Int) ≤ n := by omega
  have i8 : (n : Int) ≤ 8 := by omega
  go_enter Tryd.func68, Tryd.ntmps68
  go_wp2_with (first
    | (go_at_call 85; go_must (refine H.out.mono ?_); rintro e w1 ⟨u, rfl, hu, ho, hs, hf⟩; obtain ⟨ub, uo, uc, hu1, huc, hum, hat⟩ := hu.at' (by rw [HLEN.out]; omega); rw [HLEN.out] at hu1; subst hu1)
    | (at_make; go_must (refine wpList_make_gr Go.Proofs.YtgkccbfepjgjoaaDoor.u8 rfl _ _ rfl (Gr.refl w1) .i64 .i64 8 8 8 rfl rfl rfl rfl (by omega) _ rfl ?_); intro w2 ho2 hg2 hg2' hb2; obtain ⟨w3, hcp, hk3, hg3⟩ := copy8 w1 w2 w1.heap.size (8 - n) n n uc ub uo (List.replicate 8 0) l 3 hg2' (Nat.le_refl _) (ownAt_cur (xs := List.replicate 8 0) ho2) (hat.gr hg2) HLEN.out (by simp; omega); rw [HSP.out] at hk3; have hat3 := rdAt_of_heap hk3 htb))
  go_wp2_with (first
    | (go_at_call 86; go_must (refine (Tryd.binary_BE_Uint64_z ⟨w1.heap.size, 0, none⟩ 8 8 tl w3 (Nat.le_refl _) (by rw [HTL.out]; exact Nat.le_refl _) (fun i hi => by rw [Lib.addr_add]; exact hat3.cell i hi) (wf_byt htb)).mono ?_); rintro e w4 ⟨rfl, hg4⟩))
  go_ret2
  have hg := hg3.trans hg4
  exact ⟨rfl, hs.gr hg, hf.trans (Fx.of_gr hg)⟩
end Go.Proofs.YtgkccbfepjgjoaaDoor

/- A session's readers of numbers, in their other cases. Printed by gen_sed.py. -/
namespace Go.Proofs.YtgkccbfepjgjoaaDoor
open Go Go.RowKit

theorem and_lo : ∀ b : Fin 128, bits .and .i64 (b.val : Int) 128 = 0 := by decide +kernel
theorem and_hi : ∀ b : Fin 128, bits .and .i64 ((b.val : Int) + 128) 128 = 128 ∧ bits .and .i64 ((b.val : Int) + 128) 127 = (b.val : Int) := by decide +kernel
theorem and128_lo (b : Int) (h0 : 0 ≤ b) (h1 : b < 128) : bits .and .i64 b 128 = 0 := by
  have := and_lo ⟨b.toNat, by omega⟩
  rwa [Int.toNat_of_nonneg h0] at this
theorem and128_hi (b : Int) (h0 : 128 ≤ b) (h1 : b < 256) : bits .and .i64 b 128 = 128 ∧ bits .and .i64 b 127 = b - 128 := by
  have := and_hi ⟨(b - 128).toNat, by omega⟩
  simp only [Int.toNat_of_nonneg (show 0 ≤ b - 128 by omega)] at this
  rwa [show b - 128 + 128 = b by omega] at this

/-- A compressed number's value: behind its first byte. -/
def pkV (b : Int) (l : List Int) : Int := if b % 128 = 0 then 0 else if 128 ≤ b then wrap64 (-numV true l) else numV true l

set_option maxRecDepth 100000 in
/-- A number of n bytes, the least significant one first. -/
theorem int64_le (s : Nat) (big : Bool) (ch : Int) (E : Value) (r : List Int) (n : Nat) (w : World) (h : Ss w s big ch E r) (h1 : 1 ≤ n) (h8 : n ≤ 8) (hn : n ≤ r.length) :
    Calls Tryd.prog 68 #[.pointer (some ⟨s, 0, none⟩), .int .i64 n, .bool false, .bool false] w (RetV w s big ch E (.int .i64 (numV false (r.take n))) (r.drop n)) := by
  have hbyt : Byt (r.take n) := fun x hx => h.byt x (List.mem_of_mem_take hx)
  have H := Lib.hid (rdS_ok s big ch E r n w h hn)
  have hlen : (r.take n).length = n := by rw [List.length_take]; omega
  have hv : numV false (r.take n) = wrap64 (Lib.leZ ((tempL false (r.take n)).take 8)) := by rw [temp_le _ (by omega)]; rfl
  have hsp := splice_le (r.take n) (by omega)
  have htl := tempL_length false (r.take n) (by omega)
  have htb := tempL_byt false hbyt
  rw [hv]
  generalize r.take n = l at *
  generalize r.drop n = r' at *
  generalize tempL false l = tl at *
  have HSP := Lib.hid hsp
  have HLEN := Lib.hid hlen
  have HTL := Lib.hid htl
  clear h hv hsp hlen htl
  have i1 : (1 : Int) ≤ n := by omega
  have i8 : (n : Int) ≤ 8 := by omega
  go_enter Tryd.func68, Tryd.ntmps68
  go_wp2_with (first
    | (go_at_call 85; go_must (refine H.out.mono ?_); rintro e w1 ⟨u, rfl, hu, ho, hs, hf⟩; obtain ⟨ub, uo, uc, hu1, huc, hum, hat⟩ := hu.at' (by rw [HLEN.out]; omega); rw [HLEN.out] at hu1; subst hu1)
    | (at_make; go_must (refine wpList_make_gr Go.Proofs.YtgkccbfepjgjoaaDoor.u8 rfl _ _ rfl (Gr.refl w1) .i64 .i64 8 8 8 rfl rfl rfl rfl (by omega) _ rfl ?_); intro w2 ho2 hg2 hg2' hb2; obtain ⟨w3, hcp, hk3, hg3⟩ := copy8 w1 w2 w1.heap.size (0) n 8 uc ub uo (List.replicate 8 0) l 3 hg2' (Nat.le_refl _) (ownAt_cur (xs := List.replicate 8 0) ho2) (hat.gr hg2) HLEN.out (by simp; omega); rw [HSP.out] at hk3; have hat3 := rdAt_of_heap hk3 htb))
  go_wp2_with (first
    | (go_at_call 87; go_must (refine (Tryd.binary_LE_Uint64_z ⟨w1.heap.size, 0, none⟩ 8 8 tl w3 (Nat.le_refl _) (by rw [HTL.out]; exact Nat.le_refl _) (fun i hi => by rw [Lib.addr_add]; exact hat3.cell i hi) (wf_byt htb)).mono ?_); rintro e w4 ⟨rfl, hg4⟩))
  go_ret2
  have hg := hg3.trans hg4
  exact ⟨rfl, hs.gr hg, hf.trans (Fx.of_gr hg)⟩

theorem int64_no (s : Nat) (big : Bool) (ch : Int) (E : Value) (r : List Int) (n : Nat) (be : Bool) (w : World) (h : Ss w s big ch E r) (h1 : 1 ≤ n) (h8 : n ≤ 8) (hn : r.length < n) :
    Calls Tryd.prog 68 #[.pointer (some ⟨s, 0, none⟩), .int .i64 n, .bool false, .bool be] w (RetNo w s big ch E (.int .i64 0)) := by
  have H := Lib.hid (rdS_no s big ch E r n w h hn (by omega))
  obtain ⟨T, p, rfl⟩ := h.err
  have i1 : (1 : Int) ≤ n := by omega
  have i8 : (n : Int) ≤ 8 := by omega
  clear h hn
  go_enter Tryd.func68, Tryd.ntmps68
  go_wp2_with (first
    | (go_at_call 85; go_must (refine H.out.mono ?_); rintro e w1 ⟨rfl, hs, hf⟩))
  go_ret2
  exact ⟨rfl, hs, hf⟩

theorem int64_pk_no (s : Nat) (big : Bool) (ch : Int) (E : Value) (n : Int) (be : Bool) (w : World) (h : Ss w s big ch E []) :
    Calls Tryd.prog 68 #[.pointer (some ⟨s, 0, none⟩), .int .i64 n, .bool true, .bool be] w (RetNo w s big ch E (.int .i64 0)) := by
  have H := Lib.hid (rdS_no s big ch E [] 1 w h (by simp) (by omega))
  obtain ⟨T, p, rfl⟩ := h.err
  clear h
  go_enter Tryd.func68, Tryd.ntmps68
  go_wp2_with (first
    | (go_at_call 85; go_must (refine H.out.mono ?_); rintro e w1 ⟨rfl, hs, hf⟩))
  go_ret2
  exact ⟨rfl, hs, hf⟩

theorem pk_zero_lo (s : Nat) (big : Bool) (ch : Int) (E : Value) (n : Int) (be : Bool) (b : Int) (r : List Int) (w : World) (h : Ss w s big ch E (b :: r)) (h0 : 0 ≤ b) (hb : b < 128) (hk : b = 0) :
    Calls Tryd.prog 68 #[.pointer (some ⟨s, 0, none⟩), .int .i64 n, .bool true, .bool be] w (RetV w s big ch E (.int .i64 0) r) := by
  have ha := and128_lo b h0 hb
  have H1 := Lib.hid (show Calls Tryd.prog 85 #[.pointer (some ⟨s, 0, none⟩), .int .i64 1] w (RetOk w s big ch E [b] r) from rdS_ok s big ch E (b :: r) 1 w h (by simp))
  obtain rfl : b = 0 := by omega
  clear h
  go_enter Tryd.func68, Tryd.ntmps68
  go_wp2_with (first
    | (go_at_call 85; go_must (with_reducible refine H1.out.mono ?_); rintro e w0 ⟨u0, rfl, hu0, ho0, hs0, hf0⟩; obtain ⟨b1, o1, c1, rfl, hc1, hm1, k0⟩ := rd_one hu0; clear H1))
  go_ret2
  exact ⟨rfl, hs0, hf0⟩

set_option maxRecDepth 100000 in
theorem pk_short_lo (s : Nat) (big : Bool) (ch : Int) (E : Value) (n : Int) (be : Bool) (b : Int) (r : List Int) (w : World) (h : Ss w s big ch E (b :: r)) (h0 : 0 ≤ b) (hb : b < 128) (m : Nat) (hk : b = (m : Int)) (h1 : 1 ≤ m) (hr : r.length < m) :
    Calls Tryd.prog 68 #[.pointer (some ⟨s, 0, none⟩), .int .i64 n, .bool true, .bool be] w (RetNo w s big ch E (.int .i64 0)) := by
  have ha := and128_lo b h0 hb
  have H1 := Lib.hid (show Calls Tryd.prog 85 #[.pointer (some ⟨s, 0, none⟩), .int .i64 1] w (RetOk w s big ch E [b] r) from rdS_ok s big ch E (b :: r) 1 w h (by simp))
  have H := fun w0 hs0 => Lib.hid (rdS_no s big ch E r m w0 hs0 hr (by omega))
  obtain ⟨T, p, rfl⟩ := h.err
  obtain rfl : b = (m : Int) := by omega
  clear h hr
  have i1 : (1 : Int) ≤ m := by omega
  have i8 : (m : Int) ≤ 128 := by omega
  go_enter Tryd.func68, Tryd.ntmps68
  go_wp2_with (first
    | (go_at_call 85; refine (H _ hs0).out.mono ?_; rintro e w1 ⟨rfl, hs, hf⟩)
    | (go_at_call 85; go_must (with_reducible refine H1.out.mono ?_); rintro e w0 ⟨u0, rfl, hu0, ho0, hs0, hf0⟩; obtain ⟨b1, o1, c1, rfl, hc1, hm1, k0⟩ := rd_one hu0; clear H1))
  go_ret2
  exact ⟨rfl, hs, hf0.trans hf⟩

set_option maxRecDepth 100000 in
theorem pk_ok_lo (s : Nat) (big : Bool) (ch : Int) (E : Value) (n : Int) (be : Bool) (b : Int) (r : List Int) (w : World) (h : Ss w s big ch E (b :: r)) (h0 : 0 ≤ b) (hb : b < 128) (m : Nat) (hk : b = (m : Int)) (h1 : 1 ≤ m) (h8 : m ≤ 8) (hr : m ≤ r.length) :
    Calls Tryd.prog 68 #[.pointer (some ⟨s, 0, none⟩), .int .i64 n, .bool true, .bool be] w (RetV w s big ch E (.int .i64 (numV true (r.take m))) (r.drop m)) := by
  have ha := and128_lo b h0 hb
  have hbyt : Byt (r.take m) := fun x hx => h.byt x (List.mem_cons_of_mem _ (List.mem_of_mem_take hx))
  have H1 := Lib.hid (show Calls Tryd.prog 85 #[.pointer (some ⟨s, 0, none⟩), .int .i64 1] w (RetOk w s big ch E [b] r) from rdS_ok s big ch E (b :: r) 1 w h (by simp))
  have H := fun w0 hs0 => Lib.hid (rdS_ok s big ch E r m w0 hs0 hr)
  have hlen : (r.take m).length = m := by rw [List.length_take]; omega
  have hv : numV true (r.take m) = wrap64 (Lib.beZ ((tempL true (r.take m)).take 8)) := by rw [temp_be _ (by omega)]; rfl
  have hsp := splice_be (r.take m) (by omega)
  have htl := tempL_length true (r.take m) (by omega)
  have htb := tempL_byt true hbyt
  rw [hlen] at hsp
  have hsl := fun (b : Nat) (w : World) => run_cut1 (P := Tryd.prog) u8 b 0 8 8 (8 - m) (8 - (m : Int)) (by omega) (by omega) w
  have hco : cutOff 0 8 (8 - m) = 8 - m := by unfold cutOff; rw [if_neg (by omega)]; omega
  rw [hco, show 8 - (8 - m) = m by omega] at hsl
  rw [hv]
  generalize r.take m = l at *
  generalize r.drop m = r' at *
  generalize tempL true l = tl at *
  have HSP := Lib.hid hsp
  have HLEN := Lib.hid hlen
  have HTL := Lib.hid htl
  obtain rfl : b = (m : Int) := by omega
  clear h hv hco hsp hlen htl hr
  have i1 : (1 : Int) ≤ m := by omega
  have i8 : (m : Int) ≤ 8 := by omega
  go_enter Tryd.func68, Tryd.ntmps68
  go_wp2_with (first
    | (go_at_call 85; refine (H _ hs0).out.mono ?_; rintro e w1 ⟨u, rfl, hu, ho, hs, hf⟩; obtain ⟨ub, uo, uc, hu1, huc, hum, hat⟩ := hu.at' (by rw [HLEN.out]; omega); rw [HLEN.out] at hu1; subst hu1)
    | (go_at_call 85; go_must (with_reducible refine H1.out.mono ?_); rintro e w0 ⟨u0, rfl, hu0, ho0, hs0, hf0⟩; obtain ⟨b1, o1, c1, rfl, hc1, hm1, k0⟩ := rd_one hu0; clear H1)
    | (at_make; go_must (refine wpList_make_gr Go.Proofs.YtgkccbfepjgjoaaDoor.u8 rfl _ _ rfl (Gr.refl w1) .i64 .i64 8 8 8 rfl rfl rfl rfl (by omega) _ rfl ?_); intro w2 ho2 hg2 hg2' hb2; obtain ⟨w3, hcp, hk3, hg3⟩ := copy8 w1 w2 w1.heap.size (8 - m) m m uc ub uo (List.replicate 8 0) l 3 hg2' (Nat.le_refl _) (ownAt_cur (xs := List.replicate 8 0) ho2) (hat.gr hg2) HLEN.out (by simp; omega); rw [HSP.out] at hk3; have hat3 := rdAt_of_heap hk3 htb))
  go_wp2_with (first
    | (go_at_call 86; go_must (refine (Tryd.binary_BE_Uint64_z ⟨w1.heap.size, 0, none⟩ 8 8 tl w3 (Nat.le_refl _) (by rw [HTL.out]; exact Nat.le_refl _) (fun i hi => by rw [Lib.addr_add]; exact hat3.cell i hi) (wf_byt htb)).mono ?_); rintro e w4 ⟨rfl, hg4⟩))
  go_ret2
  have hg := hg3.trans hg4
  exact ⟨rfl, hs.gr hg, hf0.trans (hf.trans (Fx.of_gr hg))⟩

theorem pk_zero_hi (s : Nat) (big : Bool) (ch : Int) (E : Value) (n : Int) (be : Bool) (b : Int) (r : List Int) (w : World) (h : Ss w s big ch E (b :: r)) (hb : 128 ≤ b) (h1' : b < 256) (hk : b - 128 = 0) :
    Calls Tryd.prog 68 #[.pointer (some ⟨s, 0, none⟩), .int .i64 n, .bool true, .bool be] w (RetV w s big ch E (.int .i64 0) r) := by
  have h0 : 0 ≤ b := by omega
  obtain ⟨ha, ha2⟩ := and128_hi b hb h1'
  have H1 := Lib.hid (show Calls Tryd.prog 85 #[.pointer (some ⟨s, 0, none⟩), .int .i64 1] w (RetOk w s big ch E [b] r) from rdS_ok s big ch E (b :: r) 1 w h (by simp))
  obtain rfl : b = 128 := by omega
  clear h
  go_enter Tryd.func68, Tryd.ntmps68
  go_wp2_with (first
    | (go_at_call 85; go_must (with_reducible refine H1.out.mono ?_); rintro e w0 ⟨u0, rfl, hu0, ho0, hs0, hf0⟩; obtain ⟨b1, o1, c1, rfl, hc1, hm1, k0⟩ := rd_one hu0; clear H1))
  go_ret2
  exact ⟨rfl, hs0, hf0⟩

set_option maxRecDepth 100000 in
theorem pk_short_hi (s : Nat) (big : Bool) (ch : Int) (E : Value) (n : Int) (be : Bool) (b : Int) (r : List Int) (w : World) (h : Ss w s big ch E (b :: r)) (hb : 128 ≤ b) (h1' : b < 256) (m : Nat) (hk : b - 128 = (m : Int)) (h1 : 1 ≤ m) (hr : r.length < m) :
    Calls Tryd.prog 68 #[.pointer (some ⟨s, 0, none⟩), .int .i64 n, .bool true, .bool be] w (RetNo w s big ch E (.int .i64 0)) := by
  have h0 : 0 ≤ b := by omega
  obtain ⟨ha, ha2⟩ := and128_hi b hb h1'
  have H1 := Lib.hid (show Calls Tryd.prog 85 #[.pointer (some ⟨s, 0, none⟩), .int .i64 1] w (RetOk w s big ch E [b] r) from rdS_ok s big ch E (b :: r) 1 w h (by simp))
  have H := fun w0 hs0 => Lib.hid (rdS_no s big ch E r m w0 hs0 hr (by omega))
  obtain ⟨T, p, rfl⟩ := h.err
  obtain rfl : b = (m : Int) + 128 := by omega
  clear h hr
  have i1 : (1 : Int) ≤ m := by omega
  have i8 : (m : Int) ≤ 128 := by omega
  go_enter Tryd.func68, Tryd.ntmps68
  go_wp2_with (first
    | (go_at_call 85; refine (H _ hs0).out.mono ?_; rintro e w1 ⟨rfl, hs, hf⟩)
    | (go_at_call 85; go_must (with_reducible refine H1.out.mono ?_); rintro e w0 ⟨u0, rfl, hu0, ho0, hs0, hf0⟩; obtain ⟨b1, o1, c1, rfl, hc1, hm1, k0⟩ := rd_one hu0; clear H1))
  go_ret2
  exact ⟨rfl, hs, hf0.trans hf⟩

set_option maxRecDepth 100000 in
theorem pk_ok_hi (s : Nat) (big : Bool) (ch : Int) (E : Value) (n : Int) (be : Bool) (b : Int) (r : List Int) (w : World) (h : Ss w s big ch E (b :: r)) (hb : 128 ≤ b) (h1' : b < 256) (m : Nat) (hk : b - 128 = (m : Int)) (h1 : 1 ≤ m) (h8 : m ≤ 8) (hr : m ≤ r.length) :
    Calls Tryd.prog 68 #[.pointer (some ⟨s, 0, none⟩), .int .i64 n, .bool true, .bool be] w (RetV w s big ch E (.int .i64 (wrap64 (-numV true (r.take m)))) (r.drop m)) := by
  have h0 : 0 ≤ b := by omega
  obtain ⟨ha, ha2⟩ := and128_hi b hb h1'
  have hbyt : Byt (r.take m) := fun x hx => h.byt x (List.mem_cons_of_mem _ (List.mem_of_mem_take hx))
  have H1 := Lib.hid (show Calls Tryd.prog 85 #[.pointer (some ⟨s, 0, none⟩), .int .i64 1] w (RetOk w s big ch E [b] r) from rdS_ok s big ch E (b :: r) 1 w h (by simp))
  have H := fun w0 hs0 => Lib.hid (rdS_ok s big ch E r m w0 hs0 hr)
  have hlen : (r.take m).length = m := by rw [List.length_take]; omega
  have hv : numV true (r.take m) = wrap64 (Lib.beZ ((tempL true (r.take m)).take 8)) := by rw [temp_be _ (by omega)]; rfl
  have hsp := splice_be (r.take m) (by omega)
  have htl := tempL_length true (r.take m) (by omega)
  have htb := tempL_byt true hbyt
  rw [hlen] at hsp
  have hsl := fun (b : Nat) (w : World) => run_cut1 (P := Tryd.prog) u8 b 0 8 8 (8 - m) (8 - (m : Int)) (by omega) (by omega) w
  have hco : cutOff 0 8 (8 - m) = 8 - m := by unfold cutOff; rw [if_neg (by omega)]; omega
  rw [hco, show 8 - (8 - m) = m by omega] at hsl
  rw [hv]
  generalize r.take m = l at *
  generalize r.drop m = r' at *
  generalize tempL true l = tl at *
  have HSP := Lib.hid hsp
  have HLEN := Lib.hid hlen
  have HTL := Lib.hid htl
  obtain rfl : b = (m : Int) + 128 := by omega
  clear h hv hco hsp hlen htl hr
  have i1 : (1 : Int) ≤ m := by omega
  have i8 : (m : Int) ≤ 8 := by omega
  go_enter Tryd.func68, Tryd.ntmps68
  go_wp2_with (first
    | (go_at_call 85; refine (H _ hs0).out.mono ?_; rintro e w1 ⟨u, rfl, hu, ho, hs, hf⟩; obtain ⟨ub, uo, uc, hu1, huc, hum, hat⟩ := hu.at' (by rw [HLEN.out]; omega); rw [HLEN.out] at hu1; subst hu1)
    | (go_at_call 85; go_must (with_reducible refine H1.out.mono ?_); rintro e w0 ⟨u0, rfl, hu0, ho0, hs0, hf0⟩; obtain ⟨b1, o1, c1, rfl, hc1, hm1, k0⟩ := rd_one hu0; clear H1)
    | (at_make; go_must (refine wpList_make_gr Go.Proofs.YtgkccbfepjgjoaaDoor.u8 rfl _ _ rfl (Gr.refl w1) .i64 .i64 8 8 8 rfl rfl rfl rfl (by omega) _ rfl ?_); intro w2 ho2 hg2 hg2' hb2; obtain ⟨w3, hcp, hk3, hg3⟩ := copy8 w1 w2 w1.heap.size (8 - m) m m uc ub uo (List.replicate 8 0) l 3 hg2' (Nat.le_refl _) (ownAt_cur (xs := List.replicate 8 0) ho2) (hat.gr hg2) HLEN.out (by simp; omega); rw [HSP.out] at hk3; have hat3 := rdAt_of_heap hk3 htb))
  go_wp2_with (first
    | (go_at_call 86; go_must (refine (Tryd.binary_BE_Uint64_z ⟨w1.heap.size, 0, none⟩ 8 8 tl w3 (Nat.le_refl _) (by rw [HTL.out]; exact Nat.le_refl _) (fun i hi => by rw [Lib.addr_add]; exact hat3.cell i hi) (wf_byt htb)).mono ?_); rintro e w4 ⟨rfl, hg4⟩))
  go_ret2
  have hg := hg3.trans hg4
  exact ⟨rfl, hs.gr hg, hf0.trans (hf.trans (Fx.of_gr hg))⟩

end Go.Proofs.YtgkccbfepjgjoaaDoor

/- A session's readers of numbers, by one word each: what is read, or none. -/
namespace Go.Proofs.YtgkccbfepjgjoaaDoor
open Go Go.RowKit

/-- What a reader of a number gives: the number and what is left; or an error. -/
def RetO (w : World) (s : Nat) (big : Bool) (ch : Int) (E : Value) (o : Option (Int × List Int)) (e : Ending) (w' : World) : Prop :=
  match o with
  | some (z, r) => RetV w s big ch E (.int .i64 z) r e w'
  | none => RetNo w s big ch E (.int .i64 0) e w'
theorem RetO.cases {w : World} {s : Nat} {big : Bool} {ch : Int} {E : Value} {o : Option (Int × List Int)} {e : Ending} {w' : World} (h : RetO w s big ch E o e w') :
    (∃ z r, o = some (z, r) ∧ RetV w s big ch E (.int .i64 z) r e w') ∨ (o = none ∧ RetNo w s big ch E (.int .i64 0) e w') := by
  cases o with
  | none => exact .inr ⟨rfl, h⟩
  | some p => exact .inl ⟨p.1, p.2, rfl, h⟩

/-- A compressed number of the input. -/
def rdPk : List Int → Option (Int × List Int)
  | [] => none
  | b :: r => if (b % 128).toNat ≤ r.length then some (pkV b (r.take (b % 128).toNat), r.drop (b % 128).toNat) else none
/-- It is no longer than eight bytes. -/
def PkShort : List Int → Prop
  | [] => True
  | b :: _ => b % 128 ≤ 8
/-- A number of n bytes. -/
def rdNum (n : Nat) (be : Bool) (r : List Int) : Option (Int × List Int) := if n ≤ r.length then some (numV be (r.take n), r.drop n) else none

theorem wrap64_bd (n : Int) : -9223372036854775808 ≤ wrap64 n ∧ wrap64 n ≤ 9223372036854775807 := by unfold wrap64; omega
theorem numV_bd (be : Bool) (l : List Int) : -9223372036854775808 ≤ numV be l ∧ numV be l ≤ 9223372036854775807 := wrap64_bd _
theorem pkV_bd (b : Int) (l : List Int) : -9223372036854775808 ≤ pkV b l ∧ pkV b l ≤ 9223372036854775807 := by
  unfold pkV
  split
  · omega
  · split
    · exact wrap64_bd _
    · exact numV_bd _ _
theorem rdPk_bd {r r' : List Int} {z : Int} (h : rdPk r = some (z, r')) : -9223372036854775808 ≤ z ∧ z ≤ 9223372036854775807 := by
  cases r with
  | nil => cases h
  | cons b t =>
    simp only [rdPk] at h
    split at h
    · injection h with h
      injection h with h _
      subst h
      exact pkV_bd _ _
    · cases h
theorem rdNum_bd {n : Nat} {be : Bool} {r r' : List Int} {z : Int} (h : rdNum n be r = some (z, r')) : -9223372036854775808 ≤ z ∧ z ≤ 9223372036854775807 := by
  simp only [rdNum] at h
  split at h
  · injection h with h
    injection h with h _
    subst h
    exact numV_bd _ _
  · cases h

theorem int64_pk (s : Nat) (big : Bool) (ch : Int) (E : Value) (n : Int) (be : Bool) (r : List Int) (w : World) (h : Ss w s big ch E r) (hs : PkShort r) :
    Calls Tryd.prog 68 #[.pointer (some ⟨s, 0, none⟩), .int .i64 n, .bool true, .bool be] w (RetO w s big ch E (rdPk r)) := by
  cases r with
  | nil => exact int64_pk_no s big ch E n be w h
  | cons b t =>
    have hb := h.byt b (by simp)
    have hs : b % 128 ≤ 8 := hs
    obtain ⟨m, hm⟩ : ∃ m : Nat, b % 128 = (m : Int) := ⟨(b % 128).toNat, by omega⟩
    have hmt : (b % 128).toNat = m := by omega
    simp only [rdPk, hmt]
    by_cases h0 : m = 0
    · subst h0
      rw [if_pos (Nat.zero_le _), List.take_zero, List.drop_zero]
      have hp : pkV b [] = 0 := by unfold pkV; rw [if_pos (by omega)]
      rw [hp]
      by_cases hlo : b < 128
      · exact pk_zero_lo s big ch E n be b t w h hb.1 hlo (by omega)
      · exact pk_zero_hi s big ch E n be b t w h (by omega) (by omega) (by omega)
    · by_cases hr : m ≤ t.length
      · rw [if_pos hr]
        by_cases hlo : b < 128
        · have hp : pkV b (t.take m) = numV true (t.take m) := by unfold pkV; rw [if_neg (by omega), if_neg (by omega)]
          rw [hp]
          exact pk_ok_lo s big ch E n be b t w h hb.1 hlo m (by omega) (by omega) (by omega) hr
        · have hp : pkV b (t.take m) = wrap64 (-numV true (t.take m)) := by unfold pkV; rw [if_neg (by omega), if_pos (by omega)]
          rw [hp]
          exact pk_ok_hi s big ch E n be b t w h (by omega) (by omega) m (by omega) (by omega) (by omega) hr
      · rw [if_neg hr]
        by_cases hlo : b < 128
        · exact pk_short_lo s big ch E n be b t w h hb.1 hlo m (by omega) (by omega) (by omega)
        · exact pk_short_hi s big ch E n be b t w h (by omega) (by omega) m (by omega) (by omega) (by omega)

theorem int64_num (s : Nat) (big : Bool) (ch : Int) (E : Value) (n : Nat) (be : Bool) (r : List Int) (w : World) (h : Ss w s big ch E r) (h1 : 1 ≤ n) (h8 : n ≤ 8) :
    Calls Tryd.prog 68 #[.pointer (some ⟨s, 0, none⟩), .int .i64 n, .bool false, .bool be] w (RetO w s big ch E (rdNum n be r)) := by
  unfold rdNum
  by_cases hn : n ≤ r.length
  · rw [if_pos hn]
    cases be
    · exact int64_le s big ch E r n w h h1 h8 hn
    · exact int64_be s big ch E r n w h h1 h8 hn
  · rw [if_neg hn]
    exact int64_no s big ch E r n be w h h1 h8 (by omega)

theorem getInt (s : Nat) (big : Bool) (ch : Int) (E : Value) (n : Int) (co be : Bool) (o : Option (Int × List Int)) (w : World) (hE : ∃ T p, E = .iface T (.pointer (some p)))
    (ho : ∀ z r, o = some (z, r) → -9223372036854775808 ≤ z ∧ z ≤ 9223372036854775807)
    (h : Calls Tryd.prog 68 #[.pointer (some ⟨s, 0, none⟩), .int .i64 n, .bool co, .bool be] w (RetO w s big ch E o)) :
    Calls Tryd.prog 69 #[.pointer (some ⟨s, 0, none⟩), .int .i64 n, .bool co, .bool be] w (RetO w s big ch E o) := by
  have H := Lib.hid h
  obtain ⟨T, p, rfl⟩ := hE
  clear h
  cases o with
  | none =>
    go_enter Tryd.func69, Tryd.ntmps69
    go_wp2_with (first | (go_at_call 68; go_must (refine H.out.mono ?_); rintro e w1 ⟨rfl, hs, hf⟩))
    go_ret2
    exact ⟨rfl, hs, hf⟩
  | some q =>
    obtain ⟨z, r⟩ := q
    obtain ⟨z0, z1⟩ := ho z r rfl
    clear ho
    go_enter Tryd.func69, Tryd.ntmps69
    go_wp2_with (first | (go_at_call 68; go_must (refine H.out.mono ?_); rintro e w1 ⟨rfl, hs, hf⟩))
    go_ret2
    exact ⟨rfl, hs, hf⟩

theorem getInt_pk (s : Nat) (big : Bool) (ch : Int) (E : Value) (n : Int) (be : Bool) (r : List Int) (w : World) (h : Ss w s big ch E r) (hs : PkShort r) :
    Calls Tryd.prog 69 #[.pointer (some ⟨s, 0, none⟩), .int .i64 n, .bool true, .bool be] w (RetO w s big ch E (rdPk r)) :=
  getInt s big ch E n true be _ w h.err (fun _ _ e => rdPk_bd e) (int64_pk s big ch E n be r w h hs)
theorem getInt_num (s : Nat) (big : Bool) (ch : Int) (E : Value) (n : Nat) (be : Bool) (r : List Int) (w : World) (h : Ss w s big ch E r) (h1 : 1 ≤ n) (h8 : n ≤ 8) :
    Calls Tryd.prog 69 #[.pointer (some ⟨s, 0, none⟩), .int .i64 n, .bool false, .bool be] w (RetO w s big ch E (rdNum n be r)) :=
  getInt s big ch E n false be _ w h.err (fun _ _ e => rdNum_bd e) (int64_num s big ch E n be r w h h1 h8)
end Go.Proofs.YtgkccbfepjgjoaaDoor
