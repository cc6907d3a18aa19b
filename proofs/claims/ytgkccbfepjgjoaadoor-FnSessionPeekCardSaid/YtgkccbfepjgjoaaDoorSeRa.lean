/- The reference's reader: take. -/
import Derived.Test.YtgkccbfepjgjoaaDoorSeMe
import Derived.Test.YtgkccbfepjgjoaaDoorSeMg
namespace Go.Proofs.YtgkccbfepjgjoaaDoor
open Go Go.RowKit

/-- The reference's reader at block r: what is left of its input, is it torn, is it open. -/
def Sx (w : World) (r : Nat) (xs : List Int) (t o : Bool) : Prop :=
  ∃ v, w.heap[r]? = some (.cells #[v, .bool t, .bool o] 56 (0, 0)) ∧ Rd w v xs ∧ OffV r v ∧ LoV w.heap.size v ∧ xs.length ≤ 2147483647
theorem Sx.gr {w w' : World} {r : Nat} {xs : List Int} {t o : Bool} (h : Sx w r xs t o) (g : Gr w w') : Sx w' r xs t o := by
  obtain ⟨v, h1, h2, h3, h5, h4⟩ := h
  exact ⟨v, g.heap h1, h2.gr g, h3, fun a n c e => Nat.lt_of_lt_of_le (h5 a n c e) g.size, h4⟩
theorem Sx.lt {w : World} {r : Nat} {xs : List Int} {t o : Bool} (h : Sx w r xs t o) : r < w.heap.size := by obtain ⟨v, h1, _⟩ := h; exact lt_of_some h1
/-- What is left of the input lies in no block s. -/
def OffX (w : World) (r s : Nat) : Prop := ∀ v, w.cell? ⟨r, 0, none⟩ = some v → OffV s v
theorem Sx.offX {w : World} {r : Nat} {xs : List Int} {t o : Bool} (h : Sx w r xs t o) (s : Nat) (hs : w.heap.size ≤ s) : OffX w r s := by
  obtain ⟨v, h1, _, _, h5, _⟩ := h
  intro v' hv
  rw [(blk_cell h1 0).trans rfl] at hv
  injection hv with hv
  subst hv
  exact h5.off hs
theorem Sx.below {w w' : World} {r B : Nat} {xs : List Int} {t o : Bool} (h : Sx w r xs t o) (g : Below B w w') (hr : r < B) (hB : ∀ s, B ≤ s → OffX w r s) : Sx w' r xs t o := by
  obtain ⟨v, h1, h2, h3, h5, h4⟩ := h
  refine ⟨v, by rw [Below.block g r hr]; exact h1, h2.below g (fun a n c e => ?_), h3, fun a n c e => Nat.lt_of_lt_of_le (h5 a n c e) g.size, h4⟩
  rcases Nat.lt_or_ge a.block B with hl | hl
  · exact hl
  · exact absurd rfl (hB a.block hl v ((blk_cell h1 0).trans rfl) a n c e)
/-- All but the reader is kept; what is left of its input lies where it lay. -/
structure Fk (r : Nat) (w w' : World) : Prop where
  fx : Fx r w w'
  off : ∀ s, OffX w r s → OffX w' r s
theorem Fk.refl (r : Nat) (w : World) : Fk r w w := ⟨Fx.refl r w, fun _ h => h⟩
theorem Fk.trans {r : Nat} {a b c : World} (h : Fk r a b) (k : Fk r b c) : Fk r a c := ⟨h.fx.trans k.fx, fun s hs => k.off s (h.off s hs)⟩
theorem Fk.size {r : Nat} {a b : World} (h : Fk r a b) : a.heap.size ≤ b.heap.size := h.fx.size
theorem OffX.gr {w w' : World} {r s : Nat} (h : OffX w r s) (g : Gr w w') (hr : r < w.heap.size) : OffX w' r s := fun v hv => h v (by rw [← World.cell?_of_block (a := ⟨r, 0, none⟩) (g.block hr)]; exact hv)
theorem Fk.of_gr {r : Nat} {w w' : World} (g : Gr w w') (hr : r < w.heap.size) : Fk r w w' := ⟨Fx.of_gr g, fun _ h => h.gr g hr⟩
theorem Fk.drewN {r : Nat} {a w : World} (h : Fk r a w) (n : Nat) : Fk r a (w.drewN n) := ⟨h.fx.drewN n, fun s hs => h.off s hs⟩
theorem Fk.set {r : Nat} {a w : World} (h : Fk r a w) {cs : Array Value} {T : TypeId} {fr : Nat × Nat} (hb : w.heap[r]? = some (.cells cs T fr)) (i : Nat) (hi : i ≠ 0) (v : Value) : Fk r a (w.setCell ⟨r, i, none⟩ v) :=
  ⟨h.fx.set i v, fun s hs u hu => h.off s hs u (by
    rw [blk_cell (blk_set hb i v) 0] at hu
    rw [blk_cell hb 0, ← hu, Array.getElem?_setIfInBounds, if_neg hi])⟩
theorem Fk.below {r B : Nat} {a w w' : World} (h : Fk r a w) (g : Below B w w') (hB : a.heap.size ≤ B) (hr : r < B) : Fk r a w' :=
  ⟨h.fx.below g hB, fun s hs u hu => h.off s hs u (by rw [← World.cell?_of_block (a := ⟨r, 0, none⟩) (Below.block g r hr)]; exact hu)⟩
/-- Where a slice lies. -/
def BlkV (Q : Nat → Prop) (v : Value) : Prop := ∀ a n c, v = .slice (some a) n c → Q a.block
theorem cutH {w : World} {v : Value} {xs : List Int} (h : Rd w v xs) (n : Nat) (hin : n ≤ xs.length) :
    ∃ u, Rd w u (xs.take n) ∧ (∀ Q, BlkV Q v → BlkV Q u) ∧ ∀ w2, (Instr.slice 24 v none (some (.int .i64 (n : Nat))) none).run Tryd.prog w2 = .ok u w2 := by
  by_cases h0 : 0 < xs.length
  · obtain ⟨b, o, c, rfl, hc, hm, hat⟩ := h.at' h0
    refine ⟨.slice (some ⟨b, o, none⟩) n c, (hat.take n).rd (by rw [List.length_take]; omega) (by omega) hm, ?_, fun w2 => run_cutH (P := Tryd.prog) Go.Proofs.YtgkccbfepjgjoaaDoor.u8 b o _ c n _ rfl (by omega) w2⟩
    intro r hr a n' c' e
    injection e with e1 e2 e3
    injection e1 with e1
    subst e1
    exact hr _ _ _ rfl
  · obtain ⟨p, c, rfl, hc, hm, hp, hb, hby⟩ := h
    obtain rfl : xs = [] := List.eq_nil_of_length_eq_zero (by omega)
    obtain rfl : n = 0 := by simpa using hin
    refine ⟨.slice p 0 c, ⟨p, c, rfl, Nat.zero_le _, hm, hp, hb, hby⟩, ?_, fun w2 => ?_⟩
    · intro r hr a n' c' e
      injection e with e1 e2 e3
      subst e1
      exact hr _ _ _ rfl
    · obtain ⟨x, hi, hz, hz1, hz2⟩ := info_parts Go.Proofs.YtgkccbfepjgjoaaDoor.u8.info
      cases p with
      | none =>
        obtain rfl := hp rfl
        simp [Instr.slice, Instr.sliceBounds, Instr.sliceBound, asIntOf, run_underlying Go.Proofs.YtgkccbfepjgjoaaDoor.u8.under, sizeOf, typeInfo, hi]
      | some a =>
        have : (a.add 0) = a := by
          cases a with
          | mk b o s => cases s <;> rfl
        simp [Instr.slice, Instr.sliceBounds, Instr.sliceBound, asIntOf, run_underlying Go.Proofs.YtgkccbfepjgjoaaDoor.u8.under, sizeOf, typeInfo, hi, this]

theorem cut1o {w : World} {v : Value} {xs : List Int} (h : Rd w v xs) (i : Nat) (hin : i ≤ xs.length) :
    ∃ u, Rd w u (xs.drop i) ∧ (∀ Q, BlkV Q v → BlkV Q u) ∧ ∀ w2, (Instr.slice 24 v (some (.int .i64 (i : Int))) none none).run Tryd.prog w2 = .ok u w2 := by
  by_cases h0 : 0 < xs.length
  · obtain ⟨b, o, c, rfl, hc, hm, hat⟩ := h.at' h0
    refine ⟨.slice (some ⟨b, cutOff o c i, none⟩) (xs.length - i) (c - i), ?_, ?_, fun w2 => run_cut1 Go.Proofs.YtgkccbfepjgjoaaDoor.u8 b o _ c i _ rfl hin w2⟩
    · unfold cutOff
      by_cases e : c = i
      · obtain rfl : xs.length = i := by omega
        rw [if_pos e, List.drop_length, Nat.sub_self]
        exact ⟨_, c - xs.length, rfl, Nat.zero_le _, by omega, (fun e => by cases e), Lib.BytesIn.nil _ _ _, fun x hx => by cases hx⟩
      · rw [if_neg e]
        exact (hat.drop i).rd (by rw [List.length_drop]) (by omega) (by simp only [maxLen] at hm ⊢; omega)
    · intro s hs a n' c' e
      injection e with e
      injection e with e
      subst e
      exact hs ⟨b, o, none⟩ _ _ rfl
  · obtain ⟨p, c, rfl, hc, hm, hp, hb, hby⟩ := h
    obtain rfl : xs = [] := List.eq_nil_of_length_eq_zero (by omega)
    simp only [List.length_nil] at hin
    obtain rfl : i = 0 := by omega
    obtain ⟨x, hi, hz, hz1, hz2⟩ := info_parts Go.Proofs.YtgkccbfepjgjoaaDoor.u8.info
    cases p with
    | none =>
      obtain rfl := hp rfl
      refine ⟨.slice none 0 0, Rd.nil w, fun _ h => h, fun w2 => ?_⟩
      simp [Instr.slice, Instr.sliceBounds, Instr.sliceBound, asIntOf, run_underlying Go.Proofs.YtgkccbfepjgjoaaDoor.u8.under, sizeOf, typeInfo, hi]
    | some a =>
      refine ⟨.slice (some a) 0 c, ⟨_, c, rfl, Nat.zero_le _, hm, (fun e => by cases e), Lib.BytesIn.nil _ _ _, fun x hx => by cases hx⟩, ?_, fun w2 => ?_⟩
      · intro s hs a' n' c' e
        injection e with e
        injection e with e
        subst e
        exact hs _ _ _ rfl
      have : (a.add 0) = a := by
        cases a with
        | mk b o s => cases s <;> rfl
      simp [Instr.slice, Instr.sliceBounds, Instr.sliceBound, asIntOf, run_underlying Go.Proofs.YtgkccbfepjgjoaaDoor.u8.under, sizeOf, typeInfo, hi, this]

/-- What 'take' gives. -/
def RetTk (w : World) (r : Nat) (l xs : List Int) (e : Ending) (w' : World) : Prop := ∃ u, e = .returned u ∧ Rd w' u l ∧ OffV r u ∧ LoV w'.heap.size u ∧ (∀ s, OffX w r s → OffV s u) ∧ Sx w' r xs false false ∧ Fk r w w'
def RetTn (w : World) (r : Nat) (z : Value) (o : Bool) (e : Ending) (w' : World) : Prop := e = .returned z ∧ (∃ xs, Sx w' r xs true o) ∧ Fk r w w'

set_option maxRecDepth 100000 in
theorem take_ok (r : Nat) (xs : List Int) (n : Nat) (w : World) (h : Sx w r xs false false) (hn : n ≤ xs.length) :
    Calls Tryd.prog 50 #[.pointer (some ⟨r, 0, none⟩), .int .i64 (n : Nat)] w (RetTk w r (xs.take n) (xs.drop n)) := by
  have HX := h
  obtain ⟨v, hb, hv, ho, hz, hl⟩ := h
  have c0 : w.cell? ⟨r, 0, none⟩ = some v := (blk_cell hb 0).trans rfl
  have c1 : w.cell? ⟨r, 1, none⟩ = some (.bool false) := (blk_cell hb 1).trans rfl
  have c2 : w.cell? ⟨r, 2, none⟩ = some (.bool false) := (blk_cell hb 2).trans rfl
  have f0 := blk_free hb 0
  obtain ⟨u, hu, huo, hcu⟩ := cutH hv n hn
  obtain ⟨v2, hv2, hvo, hcv⟩ := cut1o hv n hn
  obtain ⟨q2, c2', rfl, _⟩ := id hv2
  obtain ⟨M, hM⟩ : ∃ M, (xs.drop n).length = M := ⟨_, rfl⟩
  have hsz : (w.setCell ⟨r, 0, none⟩ (.slice q2 M c2')).heap.size = w.heap.size := by simp
  have hu2 : OffV r u := huo (· ≠ r) ho
  have hv3 : OffV r (.slice q2 (xs.drop n).length c2') := hvo (· ≠ r) ho
  have hbk : (w.setCell ⟨r, 0, none⟩ (.slice q2 (xs.drop n).length c2')).heap[r]? = some (.cells #[.slice q2 (xs.drop n).length c2', .bool false, .bool false] 56 (0, 0)) := by rw [blk_set hb]; simp
  have HF := Lib.hid (show RetTk w r (xs.take n) (xs.drop n) (.returned u) (w.setCell ⟨r, 0, none⟩ (.slice q2 (xs.drop n).length c2')) from
    ⟨u, rfl, hu.fx ((Fx.refl r w).set 0 _) hu2, hu2, (by rw [hM, hsz]; exact huo (· < w.heap.size) hz), fun s hs => huo (· ≠ s) (hs v c0),
      ⟨_, hbk, hv2.fx ((Fx.refl r w).set 0 _) hv3, hv3, (by rw [hM, hsz, ← hM]; exact hvo (· < w.heap.size) hz), by rw [List.length_drop]; omega⟩,
      ⟨(Fx.refl r w).set 0 _, fun s hs v' hv' => by
        rw [(blk_cell hbk 0).trans rfl] at hv'
        injection hv' with hv'
        subst hv'
        exact hvo (· ≠ s) (hs v c0)⟩⟩)
  obtain ⟨p, c, rfl, hc, hm, _⟩ := hv
  have hi : (n : Int) ≤ (xs.length : Nat) := by omega
  obtain ⟨N, hN⟩ : ∃ N, xs.length = N := ⟨_, rfl⟩
  rw [hM] at hcv HF
  rw [hN] at hcu hcv c0 hi hc
  clear hM
  clear hN hu hv2 hb hm hl ho huo hvo hn hbk hu2 hv3 hsz hz HX
  go_enter Tryd.func50, Tryd.ntmps50
  go_wp2
  go_ret
  exact HF.out

set_option maxRecDepth 100000 in
theorem take_no (r : Nat) (xs : List Int) (n : Nat) (w : World) (h : Sx w r xs false false) (hn : xs.length < n) :
    Calls Tryd.prog 50 #[.pointer (some ⟨r, 0, none⟩), .int .i64 (n : Nat)] w (RetTn w r (.slice none 0 0) false) := by
  obtain ⟨v, hb, hv, ho, hz, hl⟩ := h
  have c0 : w.cell? ⟨r, 0, none⟩ = some v := (blk_cell hb 0).trans rfl
  have c1 : w.cell? ⟨r, 1, none⟩ = some (.bool false) := (blk_cell hb 1).trans rfl
  have c2 : w.cell? ⟨r, 2, none⟩ = some (.bool false) := (blk_cell hb 2).trans rfl
  have f1 := blk_free hb 1
  have HF := Lib.hid (show RetTn w r (.slice none 0 0) false (.returned (.slice none 0 0)) (w.setCell ⟨r, 1, none⟩ (.bool true)) from
    ⟨rfl, ⟨xs, v, by rw [blk_set hb]; simp, hv.fx ((Fx.refl r w).set 1 _) ho, ho, by simpa using hz, hl⟩, (Fk.refl r w).set hb 1 (by decide) _⟩)
  obtain ⟨p, c, rfl, hc, hm, _⟩ := hv
  have hi : ((xs.length : Nat) : Int) < (n : Int) := by omega
  have hn0 : (0 : Int) ≤ (n : Int) := by omega
  generalize xs.length = N at *
  clear hb hm hl ho hz
  go_enter Tryd.func50, Tryd.ntmps50
  go_wp2
  go_ret
  exact HF.out

set_option maxRecDepth 100000 in
theorem take_torn (r : Nat) (xs : List Int) (n : Int) (o : Bool) (w : World) (h : Sx w r xs true o) :
    Calls Tryd.prog 50 #[.pointer (some ⟨r, 0, none⟩), .int .i64 n] w (RetTn w r (.slice none 0 0) o) := by
  obtain ⟨v, hb, hv, ho, hz, hl⟩ := h
  have c1 : w.cell? ⟨r, 1, none⟩ = some (.bool true) := (blk_cell hb 1).trans rfl
  have f1 := blk_free hb 1
  have HF := Lib.hid (show RetTn w r (.slice none 0 0) o (.returned (.slice none 0 0)) (w.setCell ⟨r, 1, none⟩ (.bool true)) from
    ⟨rfl, ⟨xs, v, by rw [blk_set hb]; simp, hv.fx ((Fx.refl r w).set 1 _) ho, ho, by simpa using hz, hl⟩, (Fk.refl r w).set hb 1 (by decide) _⟩)
  clear hb hl ho hv hz
  go_enter Tryd.func50, Tryd.ntmps50
  go_wp2
  go_ret
  exact HF.out
end Go.Proofs.YtgkccbfepjgjoaaDoor
