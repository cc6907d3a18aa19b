/- A session's state, and the reader of so many bytes. -/
import Derived.Test.YtgkccbfepjgjoaaDoorRdAt
import Derived.Lib.BufferOwn
import Derived.Lib.BufferWrite
import Derived.Deep.QuietTactic
import Derived.BigQuiet
import Derived.BigRegion
import Derived.Outline
namespace Go.Proofs.YtgkccbfepjgjoaaDoor
open Go Go.RowKit

/-- All that was there is as it was, but for block s. -/
def Fx (s : Nat) (w w' : World) : Prop := w.grownBy w' (some s)
theorem Fx.refl (s : Nat) (w : World) : Fx s w w := ⟨rfl, rfl, rfl, Nat.le_refl _, fun _ _ _ => rfl⟩
theorem Fx.trans {s : Nat} {a b c : World} (h : Fx s a b) (k : Fx s b c) : Fx s a c := Lib.grownBy_trans h k
theorem Fx.alloc {s : Nat} {a w : World} (h : Fx s a w) (o : Obj) : Fx s a (w.alloc o) := h.trans (World.grownBy_alloc w o _)
theorem Fx.drew {s : Nat} {a w : World} (h : Fx s a w) : Fx s a w.drew := ⟨h.os, h.tape, h.output, h.size, h.block⟩
theorem Fx.drewN {s : Nat} {a w : World} (h : Fx s a w) (n : Nat) : Fx s a (w.drewN n) := ⟨h.os, h.tape, h.output, h.size, h.block⟩
theorem Fx.set {s : Nat} {a w : World} (h : Fx s a w) (i : Nat) (v : Value) : Fx s a (w.setCell ⟨s, i, none⟩ v) := h.trans (Lib.grownBy_setCell w s i v)
theorem Fx.of_gr {s : Nat} {w w' : World} (h : Gr w w') : Fx s w w' := Lib.grownBy_below (Fx.refl s w) h
theorem Fx.gr {s : Nat} {a w w' : World} (h : Fx s w w') (g : Gr a w) (hs : a.heap.size ≤ s) : Gr a w' := g.grown h fun k hk => by injection hk with hk; omega
theorem Fx.heap {s : Nat} {a w : World} (h : Fx s a w) {k : Nat} {o : Obj} (hk : a.heap[k]? = some o) (hne : k ≠ s) : w.heap[k]? = some o := by
  rw [h.block k (lt_of_some hk) (fun e => hne (by injection e))]; exact hk
theorem Fx.cell {s : Nat} {a w : World} (h : Fx s a w) {p : Addr} {v : Value} (hc : a.cell? p = some v) (hne : p.block ≠ s) : w.cell? p = some v :=
  World.grownBy.cell h hc (fun e => hne (by injection e))

/-- A slice lies in another block; in one ahead of it. -/
def OffV (s : Nat) (v : Value) : Prop := ∀ a n c, v = .slice (some a) n c → a.block ≠ s
def LoV (s : Nat) (v : Value) : Prop := ∀ a n c, v = .slice (some a) n c → a.block < s
theorem LoV.off {s t : Nat} {v : Value} (h : LoV s v) (ht : s ≤ t) : OffV t v := fun a n c e => by have := h a n c e; omega
theorem Rd.fx {s : Nat} {a w : World} {v : Value} {xs : List Int} (r : Rd a v xs) (h : Fx s a w) (ho : OffV s v) : Rd w v xs := by
  obtain ⟨p, c, rfl, h1, h2, h3, h4, h5⟩ := r
  refine ⟨p, c, rfl, h1, h2, h3, ?_, h5⟩
  intro hn
  obtain ⟨b, o, rfl, hc⟩ := h4 hn
  exact ⟨b, o, rfl, fun i hi => h.cell (hc i hi) (ho ⟨b, o, none⟩ _ _ rfl)⟩
theorem Rd.below {B : Nat} {a w : World} {v : Value} {xs : List Int} (r : Rd a v xs) (h : Below B a w) (ho : LoV B v) : Rd w v xs := by
  obtain ⟨p, c, rfl, h1, h2, h3, h4, h5⟩ := r
  refine ⟨p, c, rfl, h1, h2, h3, ?_, h5⟩
  intro hn
  obtain ⟨b, o, rfl, hc⟩ := h4 hn
  exact ⟨b, o, rfl, fun i hi => (Below.cell h (p := ⟨b, o + i, none⟩) (ho ⟨b, o, none⟩ _ _ rfl)).trans (hc i hi)⟩
theorem Own.fx {s B : Nat} {a w : World} {v : Value} {xs : List Int} (r : Own B a v xs) (h : Fx s a w) (hs : s < B) : Own B w v xs := by
  obtain ⟨⟨h1, h2⟩, h3⟩ := r
  refine ⟨⟨h1, ?_⟩, h3⟩
  rcases h2 with h2 | ⟨g, cap, cur, hv, hg, hh, r⟩
  · exact Or.inl h2
  · exact Or.inr ⟨g, cap, cur, hv, hg, h.heap hh (by omega), r⟩
theorem Own.off {s B : Nat} {a : World} {v : Value} {xs : List Int} (r : Own B a v xs) (hs : s < B) : OffV s v := by
  obtain ⟨⟨h1, h2⟩, h3⟩ := r
  rcases h2 with ⟨rfl, _⟩ | ⟨g, cap, cur, rfl, hg, _⟩
  · intro a n c e; cases e
  · intro a n c e
    injection e with e
    injection e with e
    subst e
    show g ≠ s
    omega

/-- Where a slice that is cut at k begins: at its very end it keeps its address. -/
def cutOff (o c k : Nat) : Nat := if c = k then o else o + k

theorem run_cut2 {P : Program} {t : TypeId} (L : U8 P t) (b o N c i n : Nat) (I J : Int) (hI : I = (i : Int)) (hJ : J = (i : Int) + n) (hin : i + n ≤ c) (w : World) :
    (Instr.slice t (.slice (some ⟨b, o, none⟩) N c) (some (.int .i64 I)) (some (.int .i64 J)) none).run P w = .ok (.slice (some ⟨b, cutOff o c i, none⟩) n (c - i)) w := by
  subst hI; subst hJ
  obtain ⟨x, hi, hz, hz1, hz2⟩ := info_parts L.info
  have e2 : (if c = i then some (⟨b, o, none⟩ : Addr) else some ((⟨b, o, none⟩ : Addr).add i)) = some ⟨b, cutOff o c i, none⟩ := by
    unfold cutOff
    rw [Lib.addr_add]
    split <;> rfl
  have hJ : ((i : Int) + n) = ((i + n : Nat) : Int) := by omega
  have e4 : Instr.sliceBound (.int .i64 ((i : Int) + n)) c .sliceAcap = pure (i + n) := by
    have h2 : (0 : Int) ≤ ((i : Int) + n) ∧ ((i : Int) + n) ≤ c := by omega
    have h3 : ((i : Int) + n).toNat = i + n := by omega
    simp [Instr.sliceBound, asIntOf, h2, h3]
  have e5 : Instr.sliceBound (.int .i64 (i : Int)) (i + n) .sliceB = pure i := by
    have h2 : (0 : Int) ≤ (i : Int) ∧ (i : Int) ≤ ((i + n : Nat) : Int) := by omega
    have h3 : ¬ (((i + n : Nat) : Int) < (i : Int)) := by omega
    simp [Instr.sliceBound, asIntOf]
    intro hh
    omega
  simp [Instr.slice, Instr.sliceBounds, e4, e5, run_underlying L.under, sizeOf, typeInfo, hi, hz1, e2]

/-- The cells of a session that reads: its input, nothing written, its place, its two settings. -/
def snCells (v : Value) (i : Nat) (big : Bool) (ch : Int) : Array Value := #[v, .slice none 0 0, .int .i64 0, .int .i8 0, .int .i64 i, .bool big, .int .i64 ch]

/-- A session at place i of the input xs. -/
structure Sn (w : World) (s : Nat) (v : Value) (xs : List Int) (i : Nat) (big : Bool) (ch : Int) : Prop where
  blk : w.heap[s]? = some (.cells (snCells v i big ch) 81 (0, 0))
  rd : Rd w v xs
  off : LoV s v
  le : i ≤ xs.length
  lim : xs.length ≤ 2147483647

theorem Sn.drewN {w : World} {s : Nat} {v : Value} {xs : List Int} {i : Nat} {big : Bool} {ch : Int} (h : Sn w s v xs i big ch) (n : Nat) : Sn (w.drewN n) s v xs i big ch :=
  ⟨h.blk, h.rd.gr ((Gr.refl w).drewN n), h.off, h.le, h.lim⟩
theorem Sn.gr {w w' : World} {s : Nat} {v : Value} {xs : List Int} {i : Nat} {big : Bool} {ch : Int} (h : Sn w s v xs i big ch) (g : Gr w w') : Sn w' s v xs i big ch :=
  ⟨g.heap h.blk, h.rd.gr g, h.off, h.le, h.lim⟩
theorem Sn.below {w w' : World} {s B : Nat} {v : Value} {xs : List Int} {i : Nat} {big : Bool} {ch : Int} (h : Sn w s v xs i big ch) (g : Below B w w') (hs : s < B) : Sn w' s v xs i big ch :=
  ⟨by rw [Below.block g s hs]; exact h.blk, h.rd.below g (fun a n c e => by have := h.off a n c e; omega), h.off, h.le, h.lim⟩
theorem Sn.at' {w : World} {s : Nat} {v : Value} {xs : List Int} {i : Nat} {big : Bool} {ch : Int} (h : Sn w s v xs i big ch) (j : Nat) (hj : j ≤ xs.length) : Sn (w.setCell ⟨s, 4, none⟩ (.int .i64 j)) s v xs j big ch := by
  refine ⟨?_, h.rd.fx ((Fx.refl s w).set 4 _) (h.off.off (Nat.le_refl _)), h.off, hj, h.lim⟩
  rw [blk_set h.blk]
  simp [snCells]

/-- The package's error at the input's end. -/
def EndE (w : World) (E : Value) : Prop := (∃ T p, E = .iface T (.pointer (some p))) ∧ w.cell? ⟨3, 0, none⟩ = some E
theorem EndE.gr {w w' : World} {E : Value} (h : EndE w E) (g : Gr w w') : EndE w' E := ⟨h.1, g.cell h.2⟩
theorem EndE.below {w w' : World} {E : Value} {B : Nat} (h : EndE w E) (g : Below B w w') (hs : 3 < B) : EndE w' E := ⟨h.1, by rw [Below.cell g hs]; exact h.2⟩
theorem EndE.fx {w w' : World} {E : Value} {s : Nat} (h : EndE w E) (g : Fx s w w') (hs : 3 ≠ s) : EndE w' E := ⟨h.1, g.cell h.2 hs⟩

theorem cut2 {w : World} {v : Value} {xs : List Int} (h : Rd w v xs) (i n : Nat) (hin : i + n ≤ xs.length) :
    ∃ u, Rd w u ((xs.drop i).take n) ∧ (∃ q d, u = .slice q n d) ∧ (∀ s, LoV s v → LoV s u) ∧
      ∀ w2, (Instr.slice 24 v (some (.int .i64 (i : Int))) (some (.int .i64 ((i : Int) + n))) none).run Tryd.prog w2 = .ok u w2 := by
  by_cases h0 : 0 < xs.length
  · obtain ⟨b, o, c, rfl, hc, hm, hat⟩ := h.at' h0
    refine ⟨.slice (some ⟨b, cutOff o c i, none⟩) n (c - i), ?_, ⟨_, _, rfl⟩, ?_, fun w2 => run_cut2 u8 b o _ c i n _ _ rfl rfl (by omega) w2⟩
    · unfold cutOff
      have hl : ((xs.drop i).take n).length = n := by rw [List.length_take, List.length_drop]; omega
      by_cases e : c = i
      · obtain rfl : n = 0 := by omega
        rw [if_pos e, List.take_zero]
        exact ⟨_, c - i, rfl, Nat.zero_le _, by omega, (fun e => by cases e), Lib.BytesIn.nil _ _ _, fun x hx => by cases hx⟩
      · rw [if_neg e]
        exact ((hat.drop i).take n).rd hl (by omega) (by simp only [maxLen] at hm ⊢; omega)
    · intro s hs a n' c' e
      injection e with e
      injection e with e
      subst e
      exact hs ⟨b, o, none⟩ _ _ rfl
  · obtain ⟨p, c, rfl, hc, hm, hp, hb, hby⟩ := h
    obtain rfl : xs = [] := List.eq_nil_of_length_eq_zero (by omega)
    simp only [List.length_nil] at hin
    obtain rfl : i = 0 := by omega
    obtain rfl : n = 0 := by omega
    cases p with
    | none =>
      obtain rfl := hp rfl
      refine ⟨.slice none 0 0, Rd.nil w, ⟨_, _, rfl⟩, fun _ h => h, fun w2 => ?_⟩
      obtain ⟨x, hi, hz, hz1, hz2⟩ := info_parts u8.info
      simp [Instr.slice, Instr.sliceBounds, Instr.sliceBound, asIntOf, run_underlying u8.under, sizeOf, typeInfo, hi]
    | some a =>
      refine ⟨.slice (some a) 0 c, ⟨_, c, rfl, Nat.zero_le _, hm, (fun e => by cases e), Lib.BytesIn.nil _ _ _, fun x hx => by cases hx⟩, ⟨_, _, rfl⟩, ?_, fun w2 => ?_⟩
      · intro s hs a' n' c' e
        injection e with e
        injection e with e
        subst e
        exact hs _ _ _ rfl
      obtain ⟨x, hi, hz, hz1, hz2⟩ := info_parts u8.info
      have : (a.add 0) = a := by
        cases a with
        | mk b o s => cases s <;> rfl
      simp [Instr.slice, Instr.sliceBounds, Instr.sliceBound, asIntOf, run_underlying u8.under, sizeOf, typeInfo, hi, this]

/-- So many bytes are read, and the place moves on. -/
theorem read_ok (s : Nat) (v : Value) (xs : List Int) (i n : Nat) (big : Bool) (ch : Int) (w : World) (h : Sn w s v xs i big ch) (hin : i + n ≤ xs.length) :
    Calls Tryd.prog 85 #[.pointer (some ⟨s, 0, none⟩), .int .i64 n] w fun e w' => ∃ u, e = .returned (.tuple #[u, .nilIface]) ∧ Rd w' u ((xs.drop i).take n) ∧ LoV s u ∧
      Sn w' s v xs (i + n) big ch ∧ Fx s w w' := by
  have s0 : w.cell? ⟨s, 0, none⟩ = some v := (blk_cell h.blk 0).trans rfl
  have s4 : w.cell? ⟨s, 4, none⟩ = some (.int .i64 i) := (blk_cell h.blk 4).trans rfl
  have f4 := blk_free h.blk 4
  obtain ⟨u, hu, ⟨q, d, rfl⟩, hoff, hcut⟩ := cut2 h.rd i n hin
  have hoff := hoff s h.off
  have hnn : ((i + n : Nat) : Int) = (i : Int) + n := by omega
  have HF : ∀ k, Hid (Sn ((w.drewN k).setCell ⟨s, 4, none⟩ (.int .i64 ((i : Int) + n))) s v xs (i + n) big ch) := fun k => Lib.hid (by rw [← hnn]; exact (h.drewN k).at' (i + n) hin)
  have HR : ∀ k, Hid (Rd ((w.drewN k).setCell ⟨s, 4, none⟩ (.int .i64 ((i : Int) + n))) (.slice q n d) ((xs.drop i).take n)) := fun k => Lib.hid (hu.fx (((Fx.refl s w).drewN k).set 4 _) (hoff.off (Nat.le_refl _)))
  obtain ⟨p, c, hv, hc, hm, _⟩ := h.rd
  have hlim := h.lim
  obtain ⟨N, hN⟩ : ∃ N, xs.length = N := ⟨_, rfl⟩
  rw [hN] at hv hin hlim
  have HO := Lib.hid hoff
  clear hN h hoff hu hc hm hnn
  subst hv
  have hw : IntKind.i64.wrap ((i : Int) + n) = (i : Int) + n := IntWalk.i64_in _ (by omega)
  have hcm : ¬ ((N : Int) < (i : Int) + n) := by omega
  go_enter Tryd.func85, Tryd.ntmps85
  go_wp2
  go_quiet (fail)
  go_wp2
  go_quiet (fail)
  go_wp2
  go_ret2
  exact ⟨_, rfl, (HR _).out, HO.out, (HF _).out, (((Fx.refl s w).drewN _).set 4 _)⟩

/-- Too few bytes are left: an error, and all is as it was. -/
theorem read_no (s : Nat) (v : Value) (xs : List Int) (i n : Nat) (big : Bool) (ch : Int) (E : Value) (w : World) (h : Sn w s v xs i big ch) (hE : EndE w E) (hin : xs.length < i + n) (hn : n ≤ 1152921504606846976) :
    Calls Tryd.prog 85 #[.pointer (some ⟨s, 0, none⟩), .int .i64 n] w fun e w' => e = .returned (.tuple #[.slice none 0 0, E]) ∧ ∃ k, w' = w.drewN k := by
  have s0 : w.cell? ⟨s, 0, none⟩ = some v := (blk_cell h.blk 0).trans rfl
  have s4 : w.cell? ⟨s, 4, none⟩ = some (.int .i64 i) := (blk_cell h.blk 4).trans rfl
  have hle := h.le
  obtain ⟨p, c, hv, hc, hm, _⟩ := h.rd
  have hlim := h.lim
  obtain ⟨N, hN⟩ : ∃ N, xs.length = N := ⟨_, rfl⟩
  rw [hN] at hv hin hlim hle
  clear hN h hc hm
  subst hv
  obtain ⟨⟨T, q, rfl⟩, hg⟩ := hE
  have hw : IntKind.i64.wrap ((i : Int) + n) = (i : Int) + n := IntWalk.i64_in _ (by omega)
  have hcm : (N : Int) < (i : Int) + n := by omega
  go_enter Tryd.func85, Tryd.ntmps85
  go_wp2
  go_quiet (fail)
  go_wp2
  go_quiet (fail)
  go_wp2
  go_ret2
  exact ⟨rfl, _, by simp; rfl⟩
end Go.Proofs.YtgkccbfepjgjoaaDoor
