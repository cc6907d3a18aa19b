/- laws.sessionPuts: the walk. -/
import Derived.Test.YtgkccbfepjgjoaaDoorSeOs
import Derived.Deep.RegionHeld3
namespace Go.Proofs.YtgkccbfepjgjoaaDoor
open Go Go.RowKit

theorem Gr.set9 {a w : World} (h : Gr a w) {b : Nat} (hb : a.heap.size ≤ b) (v0 v1 v2 v3 v4 v5 v6 v7 v8 : Value) : Gr a ((((((((((w).setCell ⟨b, 0, none⟩ v0).setCell ⟨b, 1, none⟩ v1).setCell ⟨b, 2, none⟩ v2).setCell ⟨b, 3, none⟩ v3).setCell ⟨b, 4, none⟩ v4).setCell ⟨b, 5, none⟩ v5).setCell ⟨b, 6, none⟩ v6).setCell ⟨b, 7, none⟩ v7).setCell ⟨b, 8, none⟩ v8) := by
  have h0 := Gr.setCell h (p := ⟨b, 0, none⟩) hb v0
  have h1 := Gr.setCell h0 (p := ⟨b, 1, none⟩) hb v1
  have h2 := Gr.setCell h1 (p := ⟨b, 2, none⟩) hb v2
  have h3 := Gr.setCell h2 (p := ⟨b, 3, none⟩) hb v3
  have h4 := Gr.setCell h3 (p := ⟨b, 4, none⟩) hb v4
  have h5 := Gr.setCell h4 (p := ⟨b, 5, none⟩) hb v5
  have h6 := Gr.setCell h5 (p := ⟨b, 6, none⟩) hb v6
  have h7 := Gr.setCell h6 (p := ⟨b, 7, none⟩) hb v7
  have h8 := Gr.setCell h7 (p := ⟨b, 8, none⟩) hb v8
  exact h8
theorem array9 {α : Type} {cs : Array α} (h : cs.size = 9) : ∃ a0 a1 a2 a3 a4 a5 a6 a7 a8, cs = #[a0, a1, a2, a3, a4, a5, a6, a7, a8] := by
  obtain ⟨l⟩ := cs
  match l, h with
  | [a0, a1, a2, a3, a4, a5, a6, a7, a8], _ => exact ⟨a0, a1, a2, a3, a4, a5, a6, a7, a8, rfl⟩
theorem heap_set9 {w : World} {b : Nat} {cs : Array Value} {T : TypeId} (h : w.heap[b]? = some (.cells cs T (0, 0))) (hs : cs.size = 9) (v0 v1 v2 v3 v4 v5 v6 v7 v8 : Value) : ((((((((((w).setCell ⟨b, 0, none⟩ v0).setCell ⟨b, 1, none⟩ v1).setCell ⟨b, 2, none⟩ v2).setCell ⟨b, 3, none⟩ v3).setCell ⟨b, 4, none⟩ v4).setCell ⟨b, 5, none⟩ v5).setCell ⟨b, 6, none⟩ v6).setCell ⟨b, 7, none⟩ v7).setCell ⟨b, 8, none⟩ v8).heap[b]? = some (.cells #[v0, v1, v2, v3, v4, v5, v6, v7, v8] T (0, 0)) := by
  have e := blk_set (blk_set (blk_set (blk_set (blk_set (blk_set (blk_set (blk_set (blk_set h 0 v0) 1 v1) 2 v2) 3 v3) 4 v4) 5 v5) 6 v6) 7 v7) 8 v8
  obtain ⟨a0, a1, a2, a3, a4, a5, a6, a7, a8, rfl⟩ := array9 hs
  simpa using e
theorem Own.set {B : Nat} {w : World} {v : Value} {xs : List Int} (r : Own B w v xs) {b : Nat} {cs : Array Value} {T : TypeId} (h : w.heap[b]? = some (.cells cs T (0, 0))) (hT : T ≠ 5) (i : Nat) (u : Value) : Own B (w.setCell ⟨b, i, none⟩ u) v xs :=
  r.kept (Lib.grownBy_setCell w b i u) (fun k hk c fr e => by
    injection hk with hk
    subst hk
    rw [h] at e
    simp only [Option.some.injEq, Obj.cells.injEq] at e
    exact hT e.2.1)
theorem Own.set9 {B : Nat} {w : World} {v : Value} {xs : List Int} (r : Own B w v xs) {b : Nat} {cs : Array Value} {T : TypeId} (h : w.heap[b]? = some (.cells cs T (0, 0))) (hT : T ≠ 5) (v0 v1 v2 v3 v4 v5 v6 v7 v8 : Value) : Own B ((((((((((w).setCell ⟨b, 0, none⟩ v0).setCell ⟨b, 1, none⟩ v1).setCell ⟨b, 2, none⟩ v2).setCell ⟨b, 3, none⟩ v3).setCell ⟨b, 4, none⟩ v4).setCell ⟨b, 5, none⟩ v5).setCell ⟨b, 6, none⟩ v6).setCell ⟨b, 7, none⟩ v7).setCell ⟨b, 8, none⟩ v8) v xs := by
  have r0 := Own.set r h hT 0 v0
  have h0 := blk_set h 0 v0
  have r1 := Own.set r0 h0 hT 1 v1
  have h1 := blk_set h0 1 v1
  have r2 := Own.set r1 h1 hT 2 v2
  have h2 := blk_set h1 2 v2
  have r3 := Own.set r2 h2 hT 3 v3
  have h3 := blk_set h2 3 v3
  have r4 := Own.set r3 h3 hT 4 v4
  have h4 := blk_set h3 4 v4
  have r5 := Own.set r4 h4 hT 5 v5
  have h5 := blk_set h4 5 v5
  have r6 := Own.set r5 h5 hT 6 v6
  have h6 := blk_set h5 6 v6
  have r7 := Own.set r6 h6 hT 7 v7
  have h7 := blk_set h6 7 v7
  have r8 := Own.set r7 h7 hT 8 v8
  have h8 := blk_set h7 8 v8
  exact r8
theorem numOf_63 (x : Sp) (h : x.k % 6 = 2) : numOf x < 9223372036854775808 := by
  unfold numOf
  rw [if_pos h]
  rcases szOf_cases x.z with h | h | h | h <;> rw [h] <;> omega

theorem one_pt {B : Nat} {w : World} {a b : Value} {x : Sp} (h1 : Own B w a x.d) (h2 : Own B w b x.o) : ∀ (i : Nat) (y : Pt) (p : Value × Value), [ptOf x][i]? = some y → [(a, b)][i]? = some p → Own B w p.1 y.d ∧ Own B w p.2 y.o
  | 0, y, p, e1, e2 => by
    simp only [List.getElem?_cons_zero, Option.some.injEq] at e1 e2
    subst e1; subst e2
    exact ⟨h1, h2⟩
  | i + 1, y, p, e1, e2 => by simp at e1
theorem cells_new {W : World} {arr : Array Value} {T : TypeId} {H : Nat} {ds : List Value} (hH : W.heap.size = H) (hz : ds = arr.toList) : ∀ j u, ds[j]? = some u → (W.alloc (.cells arr T)).cell? ((⟨H, 0, none⟩ : Addr).add j) = some u := by
  intro j u hj
  subst hH
  rw [Lib.addr_add, Nat.zero_add, blk_cell (heap_alloc_new W _), ← Array.getElem?_toList, ← hz]
  exact hj

def RetPts (w : World) (l : List Pt) (e : Ending) (w' : World) : Prop := ∃ u, e = .returned u ∧ OwnP w.heap.size w' u l ∧ Gr w w'

set_option maxRecDepth 100000 in
set_option maxHeartbeats 40000000 in
theorem sessionPuts (v : Value) (l : List Sp) (w : World) (h : RdSp w v l) (hl20 : l.length ≤ 20) (hb : ∀ x ∈ l, x.d.length ≤ 1000 ∧ x.o.length ≤ 1000) :
    Calls Tryd.prog 33 #[v] w (RetPts w (l.map ptOf)) := by
  obtain ⟨p, c, rfl, hlc, hcm, hcells⟩ := h
  obtain ⟨n, hn⟩ : ∃ n, l.length = n := ⟨_, rfl⟩
  have hcm2 : c ≤ 9223372036854775807 := by simp only [maxLen] at hcm; omega
  have HN := Lib.hid hn
  have HC := Lib.hid hcells
  have HB := Lib.hid hb
  rw [hn] at hlc hl20 ⊢
  clear hn hcells hcm hb
  go_enter Tryd.func33, Tryd.ntmps33
  go_wp2
  go_loopw [11, 3] (fun i ov wr => ∃ j : Nat, i = .int .i64 j ∧ j ≤ n ∧ OwnP w.heap.size wr ov ((l.take j).map ptOf) ∧ Gr w wr) (fun i _ _ => ((n : Int) - intOf i).toNat)
  case atStart => exact ⟨0, rfl, Nat.zero_le _, OwnP.nil _ _, Gr.refl _⟩
  case round =>
    obtain ⟨j, rfl, hj, hown, hgr⟩ := hrel
    by_cases e : j < n
    · obtain ⟨b, o, rfl, hc⟩ := HC.out (by rw [HN.out]; omega)
      have hjl : j < l.length := by rw [HN.out]; exact e
      obtain ⟨dv, ov, k1, k2, k3, hok⟩ := hc j hjl
      have hsn : (l.take (j + 1)).map ptOf = (l.take j).map ptOf ++ [ptOf l[j]] := by rw [List.take_succ_eq_append_getElem hjl, List.map_append]; rfl
      have hlens := HB.out l[j] (List.getElem_mem hjl)
      have htk : ((l.take j).map ptOf).length ≤ 20 := by rw [List.length_map, List.length_take]; omega
      have k1 := k1.gr hgr
      have k2 := k2.gr hgr
      have k3 := k3.gr hgr
      generalize l[j] = x at *
      have HSZ := fun W => Lib.hid (sessionSize x dv ov W hok)
      obtain ⟨hk256, hz256, hn64, hf256⟩ := hok
      obtain ⟨hd1000, ho1000⟩ := hlens
      obtain ⟨c0, c1, c2, c3, c4, c5, c6, c7⟩ := k1
      obtain ⟨pd, cd, rfl, _⟩ := id k2
      obtain ⟨po, co, rfl, _⟩ := id k3
      have K2 := Lib.hid k2
      have K3 := Lib.hid k3
      have HSN := Lib.hid hsn
      have HTK := Lib.hid htk
      have HOW := Lib.hid hown
      have HGR := Lib.hid hgr
      clear hc hjl hsn htk hown hgr k2 k3
      go_wp2_with (first
        | (go_at_call 20; go_must (refine (HSZ _).out.mono ?_); rintro e w2 ⟨rfl, hg2⟩))
      have hb1 := hg2.heap (heap_alloc_new wr _)
      have hG2 := ((Gr.refl wr).alloc _).trans hg2
      have HB1 := Lib.hid hb1
      have KC := fun W (g : Gr w2 W) => Lib.hid (And.intro (blk_cell (g.heap hb1) 0) (And.intro (blk_cell (g.heap hb1) 3) (And.intro (blk_cell (g.heap hb1) 4) (And.intro (blk_cell (g.heap hb1) 5) (And.intro (blk_cell (g.heap hb1) 6) (blk_cell (g.heap hb1) 7))))))
      simp at KC
      have HG2 := Lib.hid hG2
      clear hg2 hG2 hb1 c0 c1 c2 c3 c4 c5 c6 c7
      have hG := (Gr.refl w2).drew
      obtain ⟨K, hK⟩ : ∃ K, x.k % 6 = K := ⟨_, rfl⟩
      have hK6 : K < 6 := by omega
      have ht : ((x.k : Nat) : Int).tmod 6 = (K : Int) := by rw [Int.tmod_eq_emod_of_nonneg (by omega)]; omega
      have hwK : IntKind.i64.wrap ((K : Nat) : Int) = (K : Int) := IntWalk.i64_in _ (by omega)
      have hwK8 : IntKind.u8.wrap ((K : Nat) : Int) = (K : Int) := by rw [IntKind.wrap_u8]; omega
      have HK := Lib.hid hK
      clear hK
      have tok1 : True := trivial
      have s0 : w2.heap.size ≤ w2.heap.size := Nat.le_refl _
      have hH1 : wr.heap.size < w2.heap.size := lt_of_some HB1.out
      go_region_held3 (fun w' => w'.cell? ⟨wr.heap.size, 0, none⟩ = some (.int .u8 (x.k : Nat)) ∧ w'.cell? ⟨wr.heap.size, 3, none⟩ = some (.bool x.be) ∧ w'.cell? ⟨wr.heap.size, 4, none⟩ = some (.bool x.co) ∧ w'.cell? ⟨wr.heap.size, 5, none⟩ = some (.int .u8 (x.fl : Nat)) ∧ w'.cell? ⟨wr.heap.size, 6, none⟩ = some (.slice pd x.d.length cd) ∧ w'.cell? ⟨wr.heap.size, 7, none⟩ = some (.slice po x.o.length co)) (first | (with_reducible exact (KC _ hG).out) | (with_reducible exact (KC _ (hG.alloc _)).out) | (with_reducible exact (KC _ ((Gr.refl w2).alloc _).drew).out) | (with_reducible exact (KC _ (Gr.set9 hG (by first | exact s0 | exact s3 | exact s4) _ _ _ _ _ _ _ _ _)).out) | (with_reducible exact (KC _ (Gr.set9 (hG.alloc _) (by first | exact s4 | exact s3 | exact s0) _ _ _ _ _ _ _ _ _)).out))
        ((first
          | (go_at_call 16; have _t := tok1; go_must (refine (clone (.slice pd x.d.length cd) x.d _ ((K2.out.gr HG2.out).gr (by first | exact hG | exact hG.alloc _ | exact ((Gr.refl w2).alloc _).drew)) (by omega)).mono ?_); rintro e w3 ⟨u3, rfl, ho3, hg3⟩; have hG : Gr w2 w3 := (by first | exact hG.trans hg3 | exact (hG.alloc _).trans hg3 | exact (((Gr.refl w2).alloc _).drew).trans hg3); have s3 := hG.size; clear tok1 _t; have HO3 := Lib.hid (ho3.mono (show w.heap.size ≤ _ from by have := HGR.out.size; have := HG2.out.size; (try simp); omega)); obtain ⟨p3, c3, rfl, _⟩ := id ho3.rd; clear ho3; (try have hz := hg3.heap (heap_alloc_new w2 _)))
          | (go_at_call 16; go_must (refine (clone (.slice po x.o.length co) x.o _ ((K3.out.gr HG2.out).gr (by first | exact hG | exact hG.alloc _ | exact ((Gr.refl w2).alloc _).drew)) (by omega)).mono ?_); rintro e w4 ⟨u4, rfl, ho4, hg4⟩; have hG : Gr w2 w4 := (by first | exact hG.trans hg4 | exact (hG.alloc _).trans hg4); have s4 := hG.size; have HO4 := Lib.hid (ho4.mono (show w.heap.size ≤ _ from by have := HGR.out.size; have := HG2.out.size; (try simp); omega)); have HO3 := Lib.hid (HO3.out.gr (by first | exact hg4 | exact ((Gr.refl w3).alloc _).trans hg4)); obtain ⟨p4, c4, rfl, _⟩ := id ho4.rd; clear ho4; (try (first | (have hz := hg4.heap hz) | (have hz := hg4.heap (heap_alloc_new w3 _)))); (try (have y0 := blk_cell hz 0; have y1 := blk_cell hz 1; have y2 := blk_cell hz 2; have y3 := blk_cell hz 3; have y4 := blk_cell hz 4; have y5 := blk_cell hz 5; have y6 := blk_cell hz 6; have y7 := blk_cell hz 7; have y8 := blk_cell hz 8; have f0 := blk_free hz 0; have f1 := blk_free hz 1; have f2 := blk_free hz 2; have f3 := blk_free hz 3; have f4 := blk_free hz 4; have f5 := blk_free hz 5; have f6 := blk_free hz 6; have f7 := blk_free hz 7; have f8 := blk_free hz 8; simp at y0 y1 y2 y3 y4 y5 y6 y7 y8)))))
      all_goals
       have hT : 38 ≠ 5 := by decide
       first
        | (have hbk := heap_set9 (b := w3.heap.size) hz rfl (.int .i64 (K : Nat)) (.slice p3 x.d.length c3) (.slice p4 x.o.length c4) (.int .i64 0) (.int .u64 0) (.int .u8 (szOf x.z : Nat)) (.int .u8 (x.fl : Nat)) (.bool x.be) (.bool x.co); have hGX := Gr.set9 hG (b := w3.heap.size) s3 (.int .i64 (K : Nat)) (.slice p3 x.d.length c3) (.slice p4 x.o.length c4) (.int .i64 0) (.int .u64 0) (.int .u8 (szOf x.z : Nat)) (.int .u8 (x.fl : Nat)) (.bool x.be) (.bool x.co); have HX3 := Lib.hid (HO3.out.set9 (b := w3.heap.size) hz hT (.int .i64 (K : Nat)) (.slice p3 x.d.length c3) (.slice p4 x.o.length c4) (.int .i64 0) (.int .u64 0) (.int .u8 (szOf x.z : Nat)) (.int .u8 (x.fl : Nat)) (.bool x.be) (.bool x.co)); have HX4 := Lib.hid (HO4.out.set9 (b := w3.heap.size) hz hT (.int .i64 (K : Nat)) (.slice p3 x.d.length c3) (.slice p4 x.o.length c4) (.int .i64 0) (.int .u64 0) (.int .u8 (szOf x.z : Nat)) (.int .u8 (x.fl : Nat)) (.bool x.be) (.bool x.co)); generalize (((((((((w4.setCell ⟨w3.heap.size, 0, none⟩ (.int .i64 (K : Nat))).setCell ⟨w3.heap.size, 1, none⟩ (.slice p3 x.d.length c3)).setCell ⟨w3.heap.size, 2, none⟩ (.slice p4 x.o.length c4)).setCell ⟨w3.heap.size, 3, none⟩ (.int .i64 0)).setCell ⟨w3.heap.size, 4, none⟩ (.int .u64 0)).setCell ⟨w3.heap.size, 5, none⟩ (.int .u8 (szOf x.z : Nat))).setCell ⟨w3.heap.size, 6, none⟩ (.int .u8 (x.fl : Nat))).setCell ⟨w3.heap.size, 7, none⟩ (.bool x.be)).setCell ⟨w3.heap.size, 8, none⟩ (.bool x.co)) = X at hbk hGX HX3 HX4 ⊢; have hH3 : wr.heap.size ≤ w3.heap.size := Nat.le_trans HG2.out.size s3; generalize w3.heap.size = H2 at hbk hH3 ⊢)
        | (have hbk := heap_set9 (b := w2.heap.size) hz rfl (.int .i64 (K : Nat)) (.slice p3 x.d.length c3) (.slice p4 x.o.length c4) (.int .i64 0) (.int .u64 0) (.int .u8 (szOf x.z : Nat)) (.int .u8 (x.fl : Nat)) (.bool x.be) (.bool x.co); have hGX := Gr.set9 hG (b := w2.heap.size) s0 (.int .i64 (K : Nat)) (.slice p3 x.d.length c3) (.slice p4 x.o.length c4) (.int .i64 0) (.int .u64 0) (.int .u8 (szOf x.z : Nat)) (.int .u8 (x.fl : Nat)) (.bool x.be) (.bool x.co); have HX3 := Lib.hid (HO3.out.set9 (b := w2.heap.size) hz hT (.int .i64 (K : Nat)) (.slice p3 x.d.length c3) (.slice p4 x.o.length c4) (.int .i64 0) (.int .u64 0) (.int .u8 (szOf x.z : Nat)) (.int .u8 (x.fl : Nat)) (.bool x.be) (.bool x.co)); have HX4 := Lib.hid (HO4.out.set9 (b := w2.heap.size) hz hT (.int .i64 (K : Nat)) (.slice p3 x.d.length c3) (.slice p4 x.o.length c4) (.int .i64 0) (.int .u64 0) (.int .u8 (szOf x.z : Nat)) (.int .u8 (x.fl : Nat)) (.bool x.be) (.bool x.co)); generalize (((((((((w4.setCell ⟨w2.heap.size, 0, none⟩ (.int .i64 (K : Nat))).setCell ⟨w2.heap.size, 1, none⟩ (.slice p3 x.d.length c3)).setCell ⟨w2.heap.size, 2, none⟩ (.slice p4 x.o.length c4)).setCell ⟨w2.heap.size, 3, none⟩ (.int .i64 0)).setCell ⟨w2.heap.size, 4, none⟩ (.int .u64 0)).setCell ⟨w2.heap.size, 5, none⟩ (.int .u8 (szOf x.z : Nat))).setCell ⟨w2.heap.size, 6, none⟩ (.int .u8 (x.fl : Nat))).setCell ⟨w2.heap.size, 7, none⟩ (.bool x.be)).setCell ⟨w2.heap.size, 8, none⟩ (.bool x.co)) = X at hbk hGX HX3 HX4 ⊢; have hH3 : wr.heap.size ≤ w2.heap.size := Nat.le_trans HG2.out.size s0; generalize w2.heap.size = H2 at hbk hH3 ⊢)
        | (have hbk := heap_alloc_new w4 (.cells #[.int .i64 (K : Nat), .slice p3 x.d.length c3, .slice p4 x.o.length c4, .int .i64 0, .int .u64 0, .int .u8 (szOf x.z : Nat), .int .u8 (x.fl : Nat), .bool x.be, .bool x.co] 38); have hGX := hG.alloc (.cells #[.int .i64 (K : Nat), .slice p3 x.d.length c3, .slice p4 x.o.length c4, .int .i64 0, .int .u64 0, .int .u8 (szOf x.z : Nat), .int .u8 (x.fl : Nat), .bool x.be, .bool x.co] 38); have HX3 := Lib.hid (HO3.out.gr ((Gr.refl w4).alloc (.cells #[.int .i64 (K : Nat), .slice p3 x.d.length c3, .slice p4 x.o.length c4, .int .i64 0, .int .u64 0, .int .u8 (szOf x.z : Nat), .int .u8 (x.fl : Nat), .bool x.be, .bool x.co] 38))); have HX4 := Lib.hid (HO4.out.gr ((Gr.refl w4).alloc (.cells #[.int .i64 (K : Nat), .slice p3 x.d.length c3, .slice p4 x.o.length c4, .int .i64 0, .int .u64 0, .int .u8 (szOf x.z : Nat), .int .u8 (x.fl : Nat), .bool x.be, .bool x.co] 38))); generalize w4.alloc (.cells #[.int .i64 (K : Nat), .slice p3 x.d.length c3, .slice p4 x.o.length c4, .int .i64 0, .int .u64 0, .int .u8 (szOf x.z : Nat), .int .u8 (x.fl : Nat), .bool x.be, .bool x.co] 38) = X at hbk hGX HX3 HX4 ⊢; have hH3 : wr.heap.size ≤ w4.heap.size := Nat.le_trans HG2.out.size s4; generalize w4.heap.size = H2 at hbk hH3 ⊢)
       clear HO3 HO4
       have y0 := blk_cell hbk 0
       have y1 := blk_cell hbk 1
       have y2 := blk_cell hbk 2
       have y3 := blk_cell hbk 3
       have y4 := blk_cell hbk 4
       have y5 := blk_cell hbk 5
       have y6 := blk_cell hbk 6
       have y7 := blk_cell hbk 7
       have y8 := blk_cell hbk 8
       have f3 := blk_free hbk 3
       have f4 := blk_free hbk 4
       simp at y0 y1 y2 y3 y4 y5 y6 y7 y8
       have GX := Lib.hid (HG2.out.trans hGX)
       have HBK := Lib.hid hbk
       clear hbk hGX ht hwK hwK8
       rcases (by omega : K = 2 ∨ K = 3 ∨ (K ≠ 2 ∧ K ≠ 3)) with hc | hc | ⟨hc2, hc3⟩
       · have HZ := Lib.hid (show (List.zipWith Pt.cs [ptOf x] [(.slice p3 x.d.length c3, .slice p4 x.o.length c4)]).flatten = [.int .i64 (K : Nat), .slice p3 x.d.length c3, .slice p4 x.o.length c4, (.int .i64 (numOf x : Nat)), (.int .u64 0), .int .u8 (szOf x.z : Nat), .int .u8 (x.fl : Nat), .bool x.be, .bool x.co] by simp [Pt.cs, ptOf, HK.out, hc])
         have q2 : ((K : Int) == 2) = true := by simp [hc]
         have q3 : ((K : Int) == 3) = false := by simp [hc]
         have iw : IntKind.i64.wrap ((numOf x : Nat) : Int) = (numOf x : Nat) := IntWalk.i64_in _ (by have := numOf_63 x (by rw [HK.out]; exact hc); omega)
         clear hc
         have GW := Lib.hid (GX.out.setCell (p := ⟨H2, 3, none⟩) hH3 (.int .i64 (numOf x : Nat)))
         have O3 := Lib.hid (HX3.out.set HBK.out hT 3 (.int .i64 (numOf x : Nat)))
         have O4 := Lib.hid (HX4.out.set HBK.out hT 3 (.int .i64 (numOf x : Nat)))
         go_wp2_with (first
           | (at_builtin; go_must (refine wpList_append_pt rfl _ _ rfl (B := w.heap.size) rfl (HOW.out.gr (GW.out.alloc _)) [ptOf x] [(.slice p3 x.d.length c3, .slice p4 x.o.length c4)] rfl (one_pt (O3.out.gr ((Gr.refl _).alloc _)) (O4.out.gr ((Gr.refl _).alloc _))) ⟨X.heap.size, 0, none⟩ 1 1 rfl rfl (cells_new (by first | rfl | simp) HZ.out) (by have := HTK.out; omega) (by have := HGR.out.size; have := GX.out.size; simp; omega) ?_); intro v5 w5 ho5 hg5; have HO5 := Lib.hid ho5; have HG5 := Lib.hid hg5; clear ho5 hg5))
         go_roundw
         case rel => exact ⟨j + 1, by go_num, by omega, by rw [HSN.out]; exact HO5.out, Below.trans (HGR.out.trans (GW.out.alloc _)) HG5.out⟩
         case measure => simp [intOf]; omega
       · have HZ := Lib.hid (show (List.zipWith Pt.cs [ptOf x] [(.slice p3 x.d.length c3, .slice p4 x.o.length c4)]).flatten = [.int .i64 (K : Nat), .slice p3 x.d.length c3, .slice p4 x.o.length c4, (.int .i64 0), (.int .u64 (numOf x : Nat)), .int .u8 (szOf x.z : Nat), .int .u8 (x.fl : Nat), .bool x.be, .bool x.co] by simp [Pt.cs, ptOf, HK.out, hc])
         have q2 : ((K : Int) == 2) = false := by simp [hc]
         have q3 : ((K : Int) == 3) = true := by simp [hc]
         clear hc
         have GW := Lib.hid (GX.out.setCell (p := ⟨H2, 4, none⟩) hH3 (.int .u64 (numOf x : Nat)))
         have O3 := Lib.hid (HX3.out.set HBK.out hT 4 (.int .u64 (numOf x : Nat)))
         have O4 := Lib.hid (HX4.out.set HBK.out hT 4 (.int .u64 (numOf x : Nat)))
         go_wp2_with (first
           | (at_builtin; go_must (refine wpList_append_pt rfl _ _ rfl (B := w.heap.size) rfl (HOW.out.gr (GW.out.alloc _)) [ptOf x] [(.slice p3 x.d.length c3, .slice p4 x.o.length c4)] rfl (one_pt (O3.out.gr ((Gr.refl _).alloc _)) (O4.out.gr ((Gr.refl _).alloc _))) ⟨X.heap.size, 0, none⟩ 1 1 rfl rfl (cells_new (by first | rfl | simp) HZ.out) (by have := HTK.out; omega) (by have := HGR.out.size; have := GX.out.size; simp; omega) ?_); intro v5 w5 ho5 hg5; have HO5 := Lib.hid ho5; have HG5 := Lib.hid hg5; clear ho5 hg5))
         go_roundw
         case rel => exact ⟨j + 1, by go_num, by omega, by rw [HSN.out]; exact HO5.out, Below.trans (HGR.out.trans (GW.out.alloc _)) HG5.out⟩
         case measure => simp [intOf]; omega
       · have HZ := Lib.hid (show (List.zipWith Pt.cs [ptOf x] [(.slice p3 x.d.length c3, .slice p4 x.o.length c4)]).flatten = [.int .i64 (K : Nat), .slice p3 x.d.length c3, .slice p4 x.o.length c4, (.int .i64 0), (.int .u64 0), .int .u8 (szOf x.z : Nat), .int .u8 (x.fl : Nat), .bool x.be, .bool x.co] by simp [Pt.cs, ptOf, HK.out, hc2, hc3])
         have q2 : ((K : Int) == 2) = false := beq_eq_false_iff_ne.2 (by omega)
         have q3 : ((K : Int) == 3) = false := beq_eq_false_iff_ne.2 (by omega)
         clear hc2 hc3
         have GW := GX
         have O3 := HX3
         have O4 := HX4
         go_wp2_with (first
           | (at_builtin; go_must (refine wpList_append_pt rfl _ _ rfl (B := w.heap.size) rfl (HOW.out.gr (GW.out.alloc _)) [ptOf x] [(.slice p3 x.d.length c3, .slice p4 x.o.length c4)] rfl (one_pt (O3.out.gr ((Gr.refl _).alloc _)) (O4.out.gr ((Gr.refl _).alloc _))) ⟨X.heap.size, 0, none⟩ 1 1 rfl rfl (cells_new (by first | rfl | simp) HZ.out) (by have := HTK.out; omega) (by have := HGR.out.size; have := GX.out.size; simp; omega) ?_); intro v5 w5 ho5 hg5; have HO5 := Lib.hid ho5; have HG5 := Lib.hid hg5; clear ho5 hg5))
         go_roundw
         case rel => exact ⟨j + 1, by go_num, by omega, by rw [HSN.out]; exact HO5.out, Below.trans (HGR.out.trans (GW.out.alloc _)) HG5.out⟩
         case measure => simp [intOf]; omega
    · obtain rfl : n = j := by omega
      rw [List.take_of_length_le (by rw [HN.out]; exact Nat.le_refl _)] at hown
      have HOW := Lib.hid hown
      have HGR := Lib.hid hgr
      clear hown hgr
      go_wp2
      go_ret
      exact ⟨_, rfl, HOW.out, HGR.out⟩
end Go.Proofs.YtgkccbfepjgjoaaDoor
