/- The reference's reader: a step, its words; bytes. -/
import Derived.Test.YtgkccbfepjgjoaaDoorSeRf
namespace Go.Proofs.YtgkccbfepjgjoaaDoor
open Go Go.RowKit

theorem Sx.fx {w w' : World} {r k : Nat} {xs : List Int} {t o : Bool} (h : Sx w r xs t o) (g : Fx k w w') (hr : r ≠ k) (hx : OffX w r k) : Sx w' r xs t o := by
  obtain ⟨v, h1, h2, h3, h5, h4⟩ := h
  exact ⟨v, g.heap h1 hr, h2.fx g (hx v ((blk_cell h1 0).trans rfl)), h3, fun a n c e => Nat.lt_of_lt_of_le (h5 a n c e) g.size, h4⟩
theorem OffX.fx {w w' : World} {r k s : Nat} (h : OffX w r s) (g : Fx k w w') (hr : r ≠ k) (hl : r < w.heap.size) : OffX w' r s := fun v hv => h v (by
  rw [← hv]
  exact (World.cell?_of_block (a := ⟨r, 0, none⟩) (g.block r hl (fun e => hr (by injection e)))).symm)
/-- All but the reader is kept; what is left of its input lies in none of the blocks that there were, but where it lay. -/
structure Fl (r : Nat) (w w' : World) : Prop where
  fx : Fx r w w'
  off : ∀ s, s < w.heap.size → OffX w r s → OffX w' r s
theorem Fk.fl {r : Nat} {w w' : World} (h : Fk r w w') : Fl r w w' := ⟨h.fx, fun s _ hs => h.off s hs⟩
theorem Fl.trans {r : Nat} {a b c : World} (h : Fl r a b) (k : Fl r b c) : Fl r a c := ⟨h.fx.trans k.fx, fun s hl hs => k.off s (Nat.lt_of_lt_of_le hl h.fx.size) (h.off s hl hs)⟩

/-- In the midst of a step: the reader, and the two rows of bytes that are given. -/
structure Mid (w X : World) (r : Nat) (q : List Int) (t o : Bool) (dv ov : Value) (l ol : List Int) : Prop where
  sx : Sx X r q t o
  fl : Fl r w X
  o1 : OffX X r (w.heap.size + 1)
  o2 : OffX X r (w.heap.size + 1 + 1)
  d : Rd X dv l
  e : Rd X ov ol
  dr : OffV r dv
  er : OffV r ov
  d1 : OffV (w.heap.size + 1) dv
  d2 : OffV (w.heap.size + 1 + 1) dv
  e1 : OffV (w.heap.size + 1) ov
  e2 : OffV (w.heap.size + 1 + 1) ov
  da : ∀ s, s < w.heap.size → OffX w r s → OffV s dv ∧ OffV s ov
theorem Mid.set {w X : World} {r : Nat} {q : List Int} {t o : Bool} {dv ov : Value} {l ol : List Int} (h : Mid w X r q t o dv ov l ol) (hr : r < w.heap.size) (k : Nat) (hk : k = w.heap.size + 1 ∨ k = w.heap.size + 1 + 1) (i : Nat) (v : Value) :
    Mid w (X.setCell ⟨k, i, none⟩ v) r q t o dv ov l ol := by
  have hrX := h.sx.lt
  have f : Fx k X (X.setCell ⟨k, i, none⟩ v) := (Fx.refl k X).set i v
  have hne : r ≠ k := by omega
  have hox : OffX X r k := by rcases hk with rfl | rfl; exact h.o1; exact h.o2
  have hdk : OffV k dv := by rcases hk with rfl | rfl; exact h.d1; exact h.d2
  have hek : OffV k ov := by rcases hk with rfl | rfl; exact h.e1; exact h.e2
  exact ⟨h.sx.fx f hne hox, ⟨h.fl.fx.below ((Below.refl w.heap.size X).setCell (p := ⟨k, i, none⟩) (by show w.heap.size ≤ k; omega) v) (Nat.le_refl _), fun s hs ho => (h.fl.off s hs ho).fx f hne hrX⟩,
    h.o1.fx f hne hrX, h.o2.fx f hne hrX, h.d.fx f hdk, h.e.fx f hek, h.dr, h.er, h.d1, h.d2, h.e1, h.e2, h.da⟩
/-- The world in which a step makes its first call. -/
def boxW (w : World) (k sz : Int) (be co : Bool) : World := ((w.alloc (.cells #[.int .i64 k, .int .i64 sz, .bool be, .bool co] 28)).alloc (.cells zeroCs 31)).alloc (.cells zeroCs 31)
theorem boxW_gr (w : World) (k sz : Int) (be co : Bool) : Gr w (boxW w k sz be co) := (((Gr.refl w).alloc _).alloc _).alloc _
theorem boxW_size (w : World) (k sz : Int) (be co : Bool) : (boxW w k sz be co).heap.size = w.heap.size + 1 + 1 + 1 := by simp [boxW]
theorem Mid.mk' {w W X : World} {r : Nat} {xs q : List Int} {t o t' o' : Bool} {dv ov : Value} {l ol : List Int} (h : Sx w r xs t' o') (g : Gr w W) (hz : w.heap.size + 1 + 1 < W.heap.size) (hf : Fk r W X) (hs : Sx X r q t o)
    (hd : Rd X dv l) (he : Rd X ov ol) (hdr : OffV r dv) (her : OffV r ov) (hdx : ∀ s, s < W.heap.size → OffX W r s → OffV s dv) (hex : ∀ s, s < W.heap.size → OffX W r s → OffV s ov) : Mid w X r q t o dv ov l ol := by
  have h1 := (h.offX (w.heap.size + 1) (by omega)).gr g h.lt
  have h2 := (h.offX (w.heap.size + 1 + 1) (by omega)).gr g h.lt
  exact ⟨hs, (Fk.of_gr g h.lt).fl.trans hf.fl, hf.off _ h1, hf.off _ h2, hd, he, hdr, her, hdx _ (by omega) h1, hdx _ hz h2, hex _ (by omega) h1, hex _ hz h2,
    fun s hs ho => ⟨hdx s (by omega) (ho.gr g h.lt), hex s (by omega) (ho.gr g h.lt)⟩⟩

/-- What a step gives: P of what it gives, what is left, is the reader torn, is it open. -/
def RetR (P : G → List Int → Bool → Bool → Prop) (w : World) (r : Nat) (e : Ending) (w' : World) : Prop :=
  ∃ (g : G) (dv ov : Value) (q : List Int) (t o : Bool), e = .returned (.agg #[.bool g.ok, dv, ov, .int .i64 g.n, .string g.t]) ∧ Rd w' dv g.d ∧ Rd w' ov g.o ∧ OffV r dv ∧ OffV r ov ∧
    (∀ s, s < w.heap.size → OffX w r s → OffV s dv ∧ OffV s ov) ∧ Sx w' r q t o ∧ Fl r w w' ∧ P g q t o
theorem Mid.ret {P : G → List Int → Bool → Bool → Prop} {w X : World} {r : Nat} {q : List Int} {t o : Bool} {dv ov : Value} {l ol : List Int} (h : Mid w X r q t o dv ov l ol) (n : Int) (b : ByteArray) (hP : P ⟨true, l, ol, n, b⟩ q t o) :
    RetR P w r (.returned (.agg #[.bool true, dv, ov, .int .i64 n, .string b])) X := ⟨⟨true, l, ol, n, b⟩, dv, ov, q, t, o, rfl, h.d, h.e, h.dr, h.er, h.da, h.sx, h.fl, hP⟩
theorem Mid.no {P : G → List Int → Bool → Bool → Prop} {w X : World} {r : Nat} {q : List Int} {t o : Bool} {dv ov : Value} {l ol : List Int} (h : Mid w X r q t o dv ov l ol) (hP : P G.no q t o) :
    RetR P w r (.returned zeroG) X := ⟨G.no, .slice none 0 0, .slice none 0 0, q, t, o, rfl, Rd.nil _, Rd.nil _, offV_nil r, offV_nil r, fun s _ _ => ⟨offV_nil s, offV_nil s⟩, h.sx, h.fl, hP⟩


theorem Mid.stepN {w X X' : World} {r : Nat} {q q' : List Int} {t o t' o' : Bool} {dv ov : Value} {l ol : List Int} (h : Mid w X r q t o dv ov l ol) (f : Fk r X X') (hs : Sx X' r q' t' o') : Mid w X' r q' t' o' dv ov l ol :=
  ⟨hs, h.fl.trans f.fl, f.off _ h.o1, f.off _ h.o2, h.d.fx f.fx h.dr, h.e.fx f.fx h.er, h.dr, h.er, h.d1, h.d2, h.e1, h.e2, h.da⟩
theorem Mid.step {w X X' : World} {r : Nat} {q q' : List Int} {t o t' o' : Bool} {dv ov u : Value} {l ol l' : List Int} (h : Mid w X r q t o dv ov l ol) (hz : w.heap.size + 1 + 1 < X.heap.size) (f : Fk r X X') (hs : Sx X' r q' t' o')
    (hu : Rd X' u l') (hr : OffV r u) (hx : ∀ s, s < X.heap.size → OffX X r s → OffV s u) : Mid w X' r q' t' o' dv u l l' :=
  ⟨hs, h.fl.trans f.fl, f.off _ h.o1, f.off _ h.o2, h.d.fx f.fx h.dr, hu, h.dr, hr, h.d1, h.d2, hx _ (by omega) h.o1, hx _ hz h.o2,
    fun s hl ho => ⟨(h.da s hl ho).1, hx s (by omega) (h.fl.off s hl ho)⟩⟩
/-- What was left is left again. -/
theorem Mid.back {w X : World} {r : Nat} {q xs : List Int} {t o : Bool} {dv ov v : Value} {l ol : List Int} (h : Mid w X r q t o dv ov l ol) (hw : Sx w r xs false false) (hv : w.cell? ⟨r, 0, none⟩ = some v) :
    Mid w (X.setCell ⟨r, 0, none⟩ v) r xs t o dv ov l ol := by
  obtain ⟨v', h1, h2, h3, h5, h4⟩ := id hw
  rw [(blk_cell h1 0).trans rfl] at hv
  injection hv with hv
  subst hv
  have hl := hw.lt
  obtain ⟨v2, k1, _⟩ := h.sx
  have f : Fx r X (X.setCell ⟨r, 0, none⟩ v') := (Fx.refl r X).set 0 _
  have hb : (X.setCell ⟨r, 0, none⟩ v').heap[r]? = some (.cells #[v', .bool t, .bool o] 56 (0, 0)) := by rw [blk_set k1]; simp
  have hoff : ∀ s, OffV s v' → OffX (X.setCell ⟨r, 0, none⟩ v') r s := fun s hs u hu => by
    rw [(blk_cell hb 0).trans rfl] at hu
    injection hu with hu
    subst hu
    exact hs
  exact ⟨⟨v', hb, h2.fx (h.fl.fx.trans f) h3, h3, fun a n c e => Nat.lt_of_lt_of_le (h5 a n c e) (h.fl.fx.trans f).size, h4⟩,
    ⟨h.fl.fx.trans f, fun s _ ho => hoff s (ho v' ((blk_cell h1 0).trans rfl))⟩, hoff _ (h5.off (by omega)), hoff _ (h5.off (by omega)), h.d.fx f h.dr, h.e.fx f h.er, h.dr, h.er, h.d1, h.d2, h.e1, h.e2, h.da⟩
/-- The reader is open. -/
theorem Mid.open' {w X : World} {r : Nat} {q : List Int} {t o : Bool} {dv ov : Value} {l ol : List Int} (h : Mid w X r q t o dv ov l ol) : Mid w (X.setCell ⟨r, 2, none⟩ (.bool true)) r q t true dv ov l ol := by
  have f := (Fk.refl r X).open' h.sx
  exact h.stepN f h.sx.open'

theorem Own.lo {B : Nat} {w : World} {v : Value} {xs : List Int} (h : Own B w v xs) : LoV w.heap.size v := by
  intro a n c e
  obtain ⟨⟨_, h2⟩, _⟩ := h
  rcases h2 with ⟨h3, _⟩ | ⟨g, cap, cur, hv, _, hh, _⟩
  · rw [h3] at e; cases e
  · rw [hv] at e
    injection e with e
    injection e with e
    subst e
    exact lt_of_some hh
/-- What is left is a new row. -/
theorem Mid.move {w X Y : World} {r : Nat} {q q' : List Int} {t o : Bool} {dv ov v : Value} {l ol : List Int} (h : Mid w X r q t o dv ov l ol) (hz : w.heap.size + 1 + 1 < X.heap.size) (g : Gr X Y) (ho : Own X.heap.size Y v q') (hl : q'.length ≤ 2147483647) :
    Mid w (Y.setCell ⟨r, 0, none⟩ v) r q' t o dv ov l ol := by
  have hr := h.sx.lt
  obtain ⟨v2, k1, _⟩ := (h.sx.gr g)
  have f : Fx r Y (Y.setCell ⟨r, 0, none⟩ v) := (Fx.refl r Y).set 0 _
  have fx : Fx r X (Y.setCell ⟨r, 0, none⟩ v) := (Fx.of_gr g).trans f
  have hb : (Y.setCell ⟨r, 0, none⟩ v).heap[r]? = some (.cells #[v, .bool t, .bool o] 56 (0, 0)) := by rw [blk_set k1]; simp
  have hoff : ∀ s, s < X.heap.size → OffX (Y.setCell ⟨r, 0, none⟩ v) r s := fun s hs u hu => by
    rw [(blk_cell hb 0).trans rfl] at hu
    injection hu with hu
    subst hu
    exact ho.off hs
  exact ⟨⟨v, hb, ho.rd.fx f (ho.off hr), ho.off hr, fun a n c e => Nat.lt_of_lt_of_le (ho.lo a n c e) f.size, hl⟩, ⟨h.fl.fx.trans fx, fun s hs _ => hoff s (by omega)⟩, hoff _ (by omega), hoff _ hz,
    h.d.fx fx h.dr, h.e.fx fx h.er, h.dr, h.er, h.d1, h.d2, h.e1, h.e2, h.da⟩

set_option maxRecDepth 100000 in
theorem index_found (v : Value) (l : List Int) (k : Nat) (w : World) (h : Rd w v l) (hz : ZAt l k) :
    Calls Tryd.prog 55 #[v, .int .u8 0] w fun e w' => e = .returned (.int .i64 k) ∧ w = w' := by
  obtain ⟨hk, h0, hne⟩ := hz
  obtain ⟨b, o, c, rfl, hc, hm, hat⟩ := h.at' (by omega)
  obtain ⟨n, hn⟩ : ∃ n, l.length = n := ⟨_, rfl⟩
  rw [hn] at hk hc ⊢
  have hcm : c ≤ 9223372036854775807 := by simp only [maxLen] at hm; omega
  have HN := Lib.hid hn
  have HE := Lib.hid hne
  have HAT := Lib.hid hat
  have H0 := Lib.hid h0
  clear hn hne hat h0
  go_enter Tryd.func55, Tryd.ntmps55
  go_wp2
  go_loop [8] (fun i => ∃ j : Nat, i = .int .i64 j ∧ j ≤ k) (fun i => ((n : Int) - intOf i).toNat)
  case atStart => exact ⟨0, rfl, Nat.zero_le _⟩
  case round =>
    obtain ⟨j, rfl, hj⟩ := hrel
    have kc := HAT.out.cell j (by rw [HN.out]; omega)
    by_cases e : j = k
    · subst e
      rw [H0.out] at kc
      go_wp2
      go_ret
      exact ⟨rfl, rfl⟩
    · have hx := HE.out j (by omega)
      have hx2 : ((0 : Int) == l.getD j 0) = false := by rw [beq_eq_false_iff_ne]; exact fun e => hx e.symm
      have HX := Lib.hid hx
      generalize l.getD j 0 = x at *
      clear hx HX
      go_wp2
      go_round
      case rel => exact ⟨j + 1, by go_num, by omega⟩
      case measure => simp [intOf]; omega

theorem index_none (v : Value) (l : List Int) (w : World) (h : Rd w v l) (hne : ∀ j, j < l.length → l.getD j 0 ≠ 0) :
    Calls Tryd.prog 55 #[v, .int .u8 0] w fun e w' => e = .returned (.int .i64 (-1)) ∧ w = w' := by
  obtain ⟨n, hn⟩ : ∃ n, l.length = n := ⟨_, rfl⟩
  by_cases h0 : n = 0
  · obtain rfl : l = [] := List.eq_nil_of_length_eq_zero (by omega)
    obtain ⟨p, c, rfl, _⟩ := h
    go_enter Tryd.func55, Tryd.ntmps55
    go_wp2
    refine wp_loop_rounds 1 ?_
    rw [rounds_succ]
    go_wp2
    go_ret
    exact ⟨rfl, rfl⟩
  · obtain ⟨b, o, c, rfl, hc, hm, hat⟩ := h.at' (by omega)
    rw [hn] at hc hne ⊢
    have hcm : c ≤ 9223372036854775807 := by simp only [maxLen] at hm; omega
    have HN := Lib.hid hn
    have HE := Lib.hid hne
    have HAT := Lib.hid hat
    clear hn hne hat
    go_enter Tryd.func55, Tryd.ntmps55
    go_wp2
    go_loop [8] (fun i => ∃ j : Nat, i = .int .i64 j ∧ j ≤ n) (fun i => ((n : Int) - intOf i).toNat)
    case atStart => exact ⟨0, rfl, Nat.zero_le _⟩
    case round =>
      obtain ⟨j, rfl, hj⟩ := hrel
      by_cases e : j < n
      · have kc := HAT.out.cell j (by rw [HN.out]; omega)
        have hx := HE.out j e
        have hx2 : ((0 : Int) == l.getD j 0) = false := by rw [beq_eq_false_iff_ne]; exact fun e => hx e.symm
        have HX := Lib.hid hx
        generalize l.getD j 0 = x at *
        clear hx HX
        go_wp2
        go_round
        case rel => exact ⟨j + 1, by go_num, by omega⟩
        case measure => simp [intOf]; omega
      · go_wp2
        go_ret
        exact ⟨rfl, rfl⟩
end Go.Proofs.YtgkccbfepjgjoaaDoor
