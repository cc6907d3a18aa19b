/- laws.sessionLive. -/
import Derived.Test.YtgkccbfepjgjoaaDoorSeMg
import Derived.Test.YtgkccbfepjgjoaaDoorSeMe
import Derived.Test.YtgkccbfepjgjoaaDoorSeMc
import Derived.Test.YtgkccbfepjgjoaaDoorSeMd
import Derived.Test.YtgkccbfepjgjoaaDoorSeM
namespace Go.Proofs.YtgkccbfepjgjoaaDoor
open Go Go.RowKit

theorem RdPt.one {w : World} {H : Nat} (x : Pt) (dv ov : Value) {T : TypeId} {fr : Nat × Nat} (h : w.heap[H]? = some (.cells #[.int .i64 x.k, dv, ov, .int .i64 x.n, .int .u64 x.u, .int .u8 x.sz, .int .u8 x.fl, .bool x.be, .bool x.co] T fr)) (hd : Rd w dv x.d) (ho : Rd w ov x.o) : RdPt w (.slice (some ⟨H, 0, none⟩) 1 1) [x] := by
  refine ⟨_, 1, rfl, Nat.le_refl _, by simp [maxLen], fun _ => ⟨H, 0, rfl, fun i hi => ?_⟩⟩
  obtain rfl : i = 0 := by simp at hi; omega
  exact ⟨dv, ov, hd, ho, (blk_cell h 0).trans rfl, (blk_cell h 1).trans rfl, (blk_cell h 2).trans rfl, (blk_cell h 3).trans rfl, (blk_cell h 4).trans rfl, (blk_cell h 5).trans rfl, (blk_cell h 6).trans rfl, (blk_cell h 7).trans rfl, (blk_cell h 8).trans rfl⟩
theorem RdSt.one {w : World} {H : Nat} (x : St) {T : TypeId} {fr : Nat × Nat} (h : w.heap[H]? = some (.cells #[.int .i64 x.k, .int .i64 x.sz, .bool x.be, .bool x.co] T fr)) : RdSt w (.slice (some ⟨H, 0, none⟩) 1 1) [x] := by
  refine ⟨_, 1, rfl, Nat.le_refl _, by simp [maxLen], fun _ => ⟨H, 0, rfl, fun i hi => ?_⟩⟩
  obtain rfl : i = 0 := by simp at hi; omega
  exact ⟨(blk_cell h 0).trans rfl, (blk_cell h 1).trans rfl, (blk_cell h 2).trans rfl, (blk_cell h 3).trans rfl⟩

/-- One answer lies in this row. -/
structure OneG (w : World) (b : Nat) (g : G) (d o : Value) : Prop where
  c0 : w.cell? ⟨b, 0, none⟩ = some (.bool g.ok)
  c1 : w.cell? ⟨b, 1, none⟩ = some d
  c2 : w.cell? ⟨b, 2, none⟩ = some o
  c3 : w.cell? ⟨b, 3, none⟩ = some (.int .i64 g.n)
  c4 : w.cell? ⟨b, 4, none⟩ = some (.string g.t)
  rd : Rd w d g.d
  ro : Rd w o g.o
theorem OneG.gr {a w : World} {b : Nat} {g : G} {d o : Value} (h : OneG a b g d o) (k : Gr a w) : OneG w b g d o := ⟨k.cell h.c0, k.cell h.c1, k.cell h.c2, k.cell h.c3, k.cell h.c4, h.rd.gr k, h.ro.gr k⟩
theorem OwnG.one {B : Nat} {w : World} {v : Value} {g : G} (h : OwnG B w v [g]) : ∃ b cap d o, v = .slice (some ⟨b, 0, none⟩) 1 cap ∧ 1 ≤ cap ∧ cap ≤ 9223372036854775807 ∧ OneG w b g d o := by
  obtain ⟨ps, hl, ho, hi⟩ := h
  obtain ⟨p, rfl⟩ : ∃ p, ps = [p] := by
    match ps, hl with
    | [p], _ => exact ⟨p, rfl⟩
  obtain ⟨hd, hoo⟩ := hi 0 g p rfl rfl
  obtain ⟨h1, h2⟩ := ho
  rcases h2 with ⟨_, h0⟩ | ⟨b, cap, cur, rfl, hg, hh, h3, h4, h5, h6⟩
  · simp at h0
  · have hc : ∀ k u, (g.cs p.1 p.2)[k]? = some u → w.cell? ⟨b, k, none⟩ = some u := by
      intro k u hk
      have hk5 : k < 5 := by have := (List.getElem?_eq_some_iff.1 hk).1; simpa [G.cs] using this
      rw [blk_cell hh, ← Array.getElem?_toList]
      have : (cur.toList.take 5)[k]? = some u := by
        simp [flatG] at h6
        rw [h6]; exact hk
      rwa [List.getElem?_take_of_lt hk5] at this
    exact ⟨b, cap, p.1, p.2, rfl, h3, by simp only [maxLen] at h4; omega, hc 0 _ rfl, hc 1 _ rfl, hc 2 _ rfl, hc 3 _ rfl, hc 4 _ rfl, hd.rd, hoo.rd⟩
theorem OwnG.len {B : Nat} {w : World} {v : Value} {gs : List G} (h : OwnG B w v gs) : ∃ p c, v = .slice p gs.length c := by
  obtain ⟨ps, _, ho, _⟩ := h
  rcases ho.2 with ⟨rfl, h0⟩ | ⟨_, _, _, rfl, _⟩
  · exact ⟨_, _, by rw [List.eq_nil_of_length_eq_zero h0]; rfl⟩
  · exact ⟨_, _, rfl⟩

/-- What a law returns. -/
def RetT (w : World) (e : Ending) (w' : World) : Prop := e = .returned (.bool true) ∧ Gr w w'

theorem byt_of {l : List Int} (h : l.all (fun x => decide (0 ≤ x ∧ x < 256)) = true) : Byt l := fun x hx => by simpa using List.all_eq_true.1 h x hx

theorem equal_same (v u : Value) (xs : List Int) (w : World) (hx : Rd w v xs) (hy : Rd w u xs) : Calls Tryd.prog 17 #[v, u] w fun e w' => e = .returned (.bool true) ∧ w = w' := by
  have h := equal v u xs xs w hx hy
  rwa [decide_eq_true rfl] at h

set_option maxRecDepth 100000 in
set_option maxHeartbeats 4000000 in
theorem sessionLive (E : Value) (w : World) (hE : EndE w E) : Calls Tryd.prog 14 #[] w (RetT w) := by
  have HE := Lib.hid hE
  have hput : PutAll false 64 [⟨1, [7, 8], [], 0, 0, 0, 0, false, false⟩] [2, 7, 8] := PutAll.cons (out := [2, 7, 8]) (outs := []) (Puts.clr rfl fun s xs v w hs hv ha hx => putClr_short s false 64 xs [7, 8] v w hs hv ha (by simp) (by omega)) PutAll.nil
  have hrun : Runs false [⟨2, 0, false, false⟩] [2, 7, 8, 9] [⟨true, [7, 8], [], 0, ⟨#[]⟩⟩] (some [9]) :=
    Runs.cons (fun s ch E w h => got_clr s false ch E [2, 7, 8, 9] [9] [7, 8] 0 false false w h (Clr.one (t := [7, 8, 9]) (n := 2) (by omega) (by omega) (by simp)) (by simp) (by omega)) rfl (Runs.nil _)
  have HP := fun W v h => Lib.hid (sessionPut v [⟨1, [7, 8], [], 0, 0, 0, 0, false, false⟩] false 64 [2, 7, 8] W h (by simp) (by simp) hput (by simp))
  have HG := fun W u v hE hu hv => Lib.hid (sessionGet u v [2, 7, 8, 9] [⟨2, 0, false, false⟩] false _ _ E W hE hu (by simp) hv (by simp) hrun)
  clear hE hput hrun
  go_enter Tryd.func14, Tryd.ntmps14
  go_wp2_with (first
    | (go_at_call 15; go_must (refine (HP _ _ (RdPt.one ⟨1, [7, 8], [], 0, 0, 0, 0, false, false⟩ _ _ (heap_new_at _ _ (by simp)) ((Rd.lit w [7, 8] _ 2 (byt_of (by decide)) rfl (by rfl) (by simp [maxLen]) rfl).gr ((Gr.refl _).alloc _)) (Rd.nil _))).out.mono ?_); rintro e w2 ⟨u2, rfl, ho2, hg2⟩; have hG := ((((Gr.refl w).alloc _).alloc _).trans hg2))
    | (go_at_call 13; go_must (refine (HG _ _ _ (HE.out.gr ((hG.alloc _).alloc _)) ((Rd.lit w2 [2, 7, 8, 9] _ 4 (byt_of (by decide)) rfl (by rfl) (by simp [maxLen]) rfl).gr ((Gr.refl _).alloc _)) (RdSt.one ⟨2, 0, false, false⟩ (heap_new_at _ _ (by simp)))).out.mono ?_); rintro e w3 ⟨u3, u4, l3, rfl, hO3, ho3, hl3, hg3⟩; obtain rfl := hl3 _ rfl; have hr2 := (ho2.rd.gr ((((Gr.refl w2).alloc _).alloc _).trans hg3)); have hG := ((hG.alloc _).alloc _).trans hg3; obtain ⟨gb, gc, gd, go, rfl, hgc, hgm, c0, c1, c2, c3, c4, rd3, ro3⟩ := hO3.one; have gl := World.block_lt_of_cell? w3 _ c0)
    | (go_at_call 17; have _t := hr2; go_must (refine (equal_same _ _ [2, 7, 8] _ (hr2.gr ((Gr.refl _).alloc _)) (Rd.lit w3 [2, 7, 8] _ 3 (byt_of (by decide)) rfl (by rfl) (by simp [maxLen]) rfl)).mono ?_); rintro e w4 ⟨rfl, rfl⟩; clear hr2)
    | (go_at_call 17; have _t := rd3; go_must (refine (equal_same _ _ [7, 8] _ (rd3.gr (((Gr.refl _).alloc _).alloc _)) (Rd.lit _ [7, 8] _ 2 (byt_of (by decide)) rfl (by rfl) (by simp [maxLen]) (by simp))).mono ?_); rintro e w4 ⟨rfl, rfl⟩; clear rd3)
    | (go_at_call 17; have _t := ho3; go_must (refine (equal_same _ _ [9] _ (ho3.rd.gr ((((Gr.refl _).alloc _).alloc _).alloc _)) (Rd.lit _ [9] _ 1 (byt_of (by decide)) rfl (by rfl) (by simp [maxLen]) (by simp))).mono ?_); rintro e w4 ⟨rfl, rfl⟩))
  go_ret
  exact ⟨rfl, ((hG.alloc _).alloc _).alloc _⟩
end Go.Proofs.YtgkccbfepjgjoaaDoor
