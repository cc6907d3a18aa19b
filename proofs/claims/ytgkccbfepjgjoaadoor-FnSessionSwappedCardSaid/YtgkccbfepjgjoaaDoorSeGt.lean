/- laws.sessionGets: the steps that read parts. Printed by gen_gt.py. -/
import Derived.Test.YtgkccbfepjgjoaaDoorSePv
namespace Go.Proofs.YtgkccbfepjgjoaaDoor
open Go Go.RowKit

/-- The step that reads a part. -/
def gtOf (x : Sp) : St :=
  if x.k % 6 = 0 then ⟨1, (x.d.length : Nat), false, false⟩ else if x.k % 6 = 1 then ⟨2, 0, false, false⟩
  else if x.k % 6 = 2 then ⟨4, (szOf x.z : Nat), x.be, x.co⟩ else if x.k % 6 = 3 then ⟨4, (szOf x.z : Nat), x.be, x.co && decide (1 < ((szOf x.z : Nat) : Int))⟩
  else if x.k % 6 = 4 then ⟨6, 0, false, false⟩ else ⟨8, 0, false, false⟩
/-- A row of steps of the call's own. -/
def OwnS (B : Nat) (w : World) (v : Value) (l : List St) : Prop := OwnR 28 4 B w v (l.map St.cs)
theorem OwnS.rd {B : Nat} {w : World} {v : Value} {l : List St} (h : OwnS B w v l) : RdSt w v l := by
  by_cases hn : 0 < l.length
  · obtain ⟨b, cap, rfl, hc1, hc2, _, _, hat⟩ := OwnR.at' h (by rw [List.length_map]; exact hn)
    rw [List.length_map] at hc1 ⊢
    refine ⟨_, cap, rfl, hc1, hc2, fun _ => ⟨b, 0, rfl, fun i hi => ?_⟩⟩
    have hx : (l.map St.cs)[i]? = some (St.cs l[i]) := by rw [List.getElem?_map, List.getElem?_eq_getElem hi]; rfl
    have hc := fun j u => hat i j _ u hx
    have e : 0 + i * 4 = i * 4 := by omega
    rw [e]
    exact ⟨hc 0 _ rfl, hc 1 _ rfl, hc 2 _ rfl, hc 3 _ rfl⟩
  · obtain rfl : l = [] := List.eq_nil_of_length_eq_zero (by omega)
    obtain ⟨p, c, rfl, hc1, hc2, _⟩ := OwnR.shape h
    exact ⟨p, c, rfl, hc1, hc2, fun h => absurd h (by simp)⟩
theorem stInfo : (Tryd.prog.info? 28).map (fun i => (i.zero, i.size, i.bytes)) = some (some (.agg #[.int .i64 0, .int .i64 0, .bool false, .bool false]), 4, 24) := by kernel_rfl
theorem st_one (x : St) : ∀ c ∈ [St.cs x], c.length = 4 ∧ ∀ u ∈ c, u.oneCell' = true := by
  intro c hc
  simp only [List.mem_singleton] at hc
  subst hc
  refine ⟨rfl, fun u hu => ?_⟩
  simp only [St.cs, List.mem_cons, List.not_mem_nil, or_false] at hu
  rcases hu with rfl | rfl | rfl | rfl <;> rfl
def RetSts (w : World) (l : List St) (e : Ending) (w' : World) : Prop := ∃ u, e = .returned u ∧ OwnS w.heap.size w' u l ∧ Gr w w'

set_option maxRecDepth 100000 in
set_option maxHeartbeats 4000000 in
theorem sessionGets (v : Value) (l : List Sp) (w : World) (h : RdSp w v l) (hl20 : l.length ≤ 20) :
    Calls Tryd.prog 35 #[v] w (RetSts w (l.map gtOf)) := by
  obtain ⟨p, c, rfl, hlc, hcm, hcells⟩ := h
  obtain ⟨n, hn⟩ : ∃ n, l.length = n := ⟨_, rfl⟩
  have hcm2 : c ≤ 9223372036854775807 := by simp only [maxLen] at hcm; omega
  have HN := Lib.hid hn
  have HC := Lib.hid hcells
  rw [hn] at hlc hl20 ⊢
  clear hn hcells hcm
  go_enter Tryd.func35, Tryd.ntmps35
  go_wp2
  go_loopw [10, 3] (fun i ov wr => ∃ j : Nat, i = .int .i64 j ∧ j ≤ n ∧ OwnS w.heap.size wr ov ((l.take j).map gtOf) ∧ Gr w wr) (fun i _ _ => ((n : Int) - intOf i).toNat)
  case atStart => exact ⟨0, rfl, Nat.zero_le _, OwnR.nil _ _ _ _, Gr.refl _⟩
  case round =>
    obtain ⟨j, rfl, hj, hown, hgr⟩ := hrel
    by_cases e : j < n
    · obtain ⟨b, o, rfl, hc⟩ := HC.out (by rw [HN.out]; omega)
      have hjl : j < l.length := by rw [HN.out]; exact e
      obtain ⟨dv, ov, k1, k2, k3, hok⟩ := hc j hjl
      have hsn : (l.take (j + 1)).map gtOf = (l.take j).map gtOf ++ [gtOf l[j]] := by rw [List.take_succ_eq_append_getElem hjl, List.map_append]; rfl
      have htk : (((l.take j).map gtOf).map St.cs).length ≤ 20 := by rw [List.length_map, List.length_map, List.length_take]; omega
      have k1 := k1.gr hgr
      have k2 := k2.gr hgr
      have k3 := k3.gr hgr
      generalize l[j] = x at *
      have HSZ := fun W => Lib.hid (sessionSize x dv ov W hok)
      obtain ⟨hk256, hz256, hn64, hf256⟩ := hok
      obtain ⟨c0, c1, c2, c3, c4, c5, c6, c7⟩ := k1
      obtain ⟨pd, cd, rfl, _, hcd, _⟩ := id k2
      obtain ⟨po, co, rfl, _⟩ := id k3
      have HSN := Lib.hid hsn
      have HTK := Lib.hid htk
      have HOW := Lib.hid hown
      have HGR := Lib.hid hgr
      have hsz := szOf_cases x.z
      have tok1 : True := trivial
      clear hc hjl hsn htk hown hgr k2 k3 hcd
      rcases (by omega : x.k % 6 = 0 ∨ x.k % 6 = 1 ∨ x.k % 6 = 2 ∨ x.k % 6 = 3 ∨ x.k % 6 = 4 ∨ x.k % 6 = 5) with hk | hk | hk | hk | hk | hk
      · have hki : (x.k : Int) % 6 = 0 := by omega
        have HZ := Lib.hid (show [St.cs (gtOf x)].flatten = [.int .i64 1, .int .i64 (x.d.length : Nat), .bool false, .bool false] by simp [St.cs, gtOf, hk])
        have HD := Lib.hid (st_one (gtOf x))
        clear hk
        go_wp2_with (first
          | (go_at_call 20; have _t := tok1; go_must (refine (HSZ _).out.mono ?_); rintro e w2 ⟨rfl, hg2⟩; have hb1 := hg2.heap (heap_alloc_new wr _); have hG2 := ((Gr.refl wr).alloc _).trans hg2; have x0 := blk_cell hb1 0; have x3 := blk_cell hb1 3; have x4 := blk_cell hb1 4; have x6 := blk_cell hb1 6; simp at x0 x3 x4 x6; have HG2 := Lib.hid hG2; have hH1 := lt_of_some hb1; clear hb1 hg2 hG2 tok1 _t)
          | (at_builtin; go_must (refine wpList_append_row rfl _ _ rfl Tryd.underlying29 stInfo rfl (by decide) (by decide) (B := w.heap.size) rfl (OwnR.gr HOW.out (HG2.out.alloc _)) [St.cs (gtOf x)] HD.out ⟨w2.heap.size, 0, none⟩ 1 1 rfl rfl (cells_new (by first | rfl | simp) HZ.out) (by have := HTK.out; omega) (by have := HGR.out.size; have := HG2.out.size; simp; omega) ?_); intro v5 w5 ho5 hg5; have HG5 := Lib.hid (Below.trans (HGR.out.trans (HG2.out.alloc _)) ((OwnR.gr HOW.out (HG2.out.alloc _)).below hg5 (by have := HGR.out.size; have := HG2.out.size; simp; omega))); have HO5 := Lib.hid ho5; clear ho5 hg5))
        go_roundw
        case rel => exact ⟨j + 1, by go_num, by omega, by rw [HSN.out]; unfold OwnS; rw [List.map_append]; exact HO5.out, HG5.out⟩
        case measure => simp [intOf]; omega
      · have hki : (x.k : Int) % 6 = 1 := by omega
        have HZ := Lib.hid (show [St.cs (gtOf x)].flatten = [.int .i64 2, .int .i64 0, .bool false, .bool false] by simp [St.cs, gtOf, hk])
        have HD := Lib.hid (st_one (gtOf x))
        clear hk
        go_wp2_with (first
          | (go_at_call 20; have _t := tok1; go_must (refine (HSZ _).out.mono ?_); rintro e w2 ⟨rfl, hg2⟩; have hb1 := hg2.heap (heap_alloc_new wr _); have hG2 := ((Gr.refl wr).alloc _).trans hg2; have x0 := blk_cell hb1 0; have x3 := blk_cell hb1 3; have x4 := blk_cell hb1 4; have x6 := blk_cell hb1 6; simp at x0 x3 x4 x6; have HG2 := Lib.hid hG2; have hH1 := lt_of_some hb1; clear hb1 hg2 hG2 tok1 _t)
          | (at_builtin; go_must (refine wpList_append_row rfl _ _ rfl Tryd.underlying29 stInfo rfl (by decide) (by decide) (B := w.heap.size) rfl (OwnR.gr HOW.out (HG2.out.alloc _)) [St.cs (gtOf x)] HD.out ⟨w2.heap.size, 0, none⟩ 1 1 rfl rfl (cells_new (by first | rfl | simp) HZ.out) (by have := HTK.out; omega) (by have := HGR.out.size; have := HG2.out.size; simp; omega) ?_); intro v5 w5 ho5 hg5; have HG5 := Lib.hid (Below.trans (HGR.out.trans (HG2.out.alloc _)) ((OwnR.gr HOW.out (HG2.out.alloc _)).below hg5 (by have := HGR.out.size; have := HG2.out.size; simp; omega))); have HO5 := Lib.hid ho5; clear ho5 hg5))
        go_roundw
        case rel => exact ⟨j + 1, by go_num, by omega, by rw [HSN.out]; unfold OwnS; rw [List.map_append]; exact HO5.out, HG5.out⟩
        case measure => simp [intOf]; omega
      · cases hco : x.co
        · have hki : (x.k : Int) % 6 = 2 := by omega
          have HZ := Lib.hid (show [St.cs (gtOf x)].flatten = [.int .i64 4, .int .i64 (szOf x.z : Nat), .bool x.be, .bool false] by simp [St.cs, gtOf, hk, hco])
          have HD := Lib.hid (st_one (gtOf x))
          have iz : (szOf x.z : Int) ≤ 8 := by omega
          clear hk
          have HCO := Lib.hid hco
          clear hco
          go_wp2_with (first
            | (go_at_call 20; have _t := tok1; go_must (refine (HSZ _).out.mono ?_); rintro e w2 ⟨rfl, hg2⟩; have hb1 := hg2.heap (heap_alloc_new wr _); have hG2 := ((Gr.refl wr).alloc _).trans hg2; have x0 := blk_cell hb1 0; have x3 := blk_cell hb1 3; have x4 := blk_cell hb1 4; have x6 := blk_cell hb1 6; simp at x0 x3 x4 x6; rw [HCO.out] at x4; have HG2 := Lib.hid hG2; have hH1 := lt_of_some hb1; clear hb1 hg2 hG2 tok1 _t)
            | (at_builtin; go_must (refine wpList_append_row rfl _ _ rfl Tryd.underlying29 stInfo rfl (by decide) (by decide) (B := w.heap.size) rfl (OwnR.gr HOW.out (HG2.out.alloc _)) [St.cs (gtOf x)] HD.out ⟨w2.heap.size, 0, none⟩ 1 1 rfl rfl (cells_new (by first | rfl | simp) HZ.out) (by have := HTK.out; omega) (by have := HGR.out.size; have := HG2.out.size; simp; omega) ?_); intro v5 w5 ho5 hg5; have HG5 := Lib.hid (Below.trans (HGR.out.trans (HG2.out.alloc _)) ((OwnR.gr HOW.out (HG2.out.alloc _)).below hg5 (by have := HGR.out.size; have := HG2.out.size; simp; omega))); have HO5 := Lib.hid ho5; clear ho5 hg5))
          go_roundw
          case rel => exact ⟨j + 1, by go_num, by omega, by rw [HSN.out]; unfold OwnS; rw [List.map_append]; exact HO5.out, HG5.out⟩
          case measure => simp [intOf]; omega
        · have hki : (x.k : Int) % 6 = 2 := by omega
          have HZ := Lib.hid (show [St.cs (gtOf x)].flatten = [.int .i64 4, .int .i64 (szOf x.z : Nat), .bool x.be, .bool true] by simp [St.cs, gtOf, hk, hco])
          have HD := Lib.hid (st_one (gtOf x))
          have iz : (szOf x.z : Int) ≤ 8 := by omega
          clear hk
          have HCO := Lib.hid hco
          clear hco
          go_wp2_with (first
            | (go_at_call 20; have _t := tok1; go_must (refine (HSZ _).out.mono ?_); rintro e w2 ⟨rfl, hg2⟩; have hb1 := hg2.heap (heap_alloc_new wr _); have hG2 := ((Gr.refl wr).alloc _).trans hg2; have x0 := blk_cell hb1 0; have x3 := blk_cell hb1 3; have x4 := blk_cell hb1 4; have x6 := blk_cell hb1 6; simp at x0 x3 x4 x6; rw [HCO.out] at x4; have HG2 := Lib.hid hG2; have hH1 := lt_of_some hb1; clear hb1 hg2 hG2 tok1 _t)
            | (at_builtin; go_must (refine wpList_append_row rfl _ _ rfl Tryd.underlying29 stInfo rfl (by decide) (by decide) (B := w.heap.size) rfl (OwnR.gr HOW.out (HG2.out.alloc _)) [St.cs (gtOf x)] HD.out ⟨w2.heap.size, 0, none⟩ 1 1 rfl rfl (cells_new (by first | rfl | simp) HZ.out) (by have := HTK.out; omega) (by have := HGR.out.size; have := HG2.out.size; simp; omega) ?_); intro v5 w5 ho5 hg5; have HG5 := Lib.hid (Below.trans (HGR.out.trans (HG2.out.alloc _)) ((OwnR.gr HOW.out (HG2.out.alloc _)).below hg5 (by have := HGR.out.size; have := HG2.out.size; simp; omega))); have HO5 := Lib.hid ho5; clear ho5 hg5))
          go_roundw
          case rel => exact ⟨j + 1, by go_num, by omega, by rw [HSN.out]; unfold OwnS; rw [List.map_append]; exact HO5.out, HG5.out⟩
          case measure => simp [intOf]; omega
      · cases hco : x.co
        · have hki : (x.k : Int) % 6 = 3 := by omega
          have HZ := Lib.hid (show [St.cs (gtOf x)].flatten = [.int .i64 4, .int .i64 (szOf x.z : Nat), .bool x.be, .bool false] by simp [St.cs, gtOf, hk, hco])
          have HD := Lib.hid (st_one (gtOf x))
          have iz : (szOf x.z : Int) ≤ 8 := by omega
          clear hk
          have HCO := Lib.hid hco
          clear hco
          go_wp2_with (first
            | (go_at_call 20; have _t := tok1; go_must (refine (HSZ _).out.mono ?_); rintro e w2 ⟨rfl, hg2⟩; have hb1 := hg2.heap (heap_alloc_new wr _); have hG2 := ((Gr.refl wr).alloc _).trans hg2; have x0 := blk_cell hb1 0; have x3 := blk_cell hb1 3; have x4 := blk_cell hb1 4; have x6 := blk_cell hb1 6; simp at x0 x3 x4 x6; rw [HCO.out] at x4; have HG2 := Lib.hid hG2; have hH1 := lt_of_some hb1; clear hb1 hg2 hG2 tok1 _t)
            | (at_builtin; go_must (refine wpList_append_row rfl _ _ rfl Tryd.underlying29 stInfo rfl (by decide) (by decide) (B := w.heap.size) rfl (OwnR.gr HOW.out (HG2.out.alloc _)) [St.cs (gtOf x)] HD.out ⟨w2.heap.size, 0, none⟩ 1 1 rfl rfl (cells_new (by first | rfl | simp) HZ.out) (by have := HTK.out; omega) (by have := HGR.out.size; have := HG2.out.size; simp; omega) ?_); intro v5 w5 ho5 hg5; have HG5 := Lib.hid (Below.trans (HGR.out.trans (HG2.out.alloc _)) ((OwnR.gr HOW.out (HG2.out.alloc _)).below hg5 (by have := HGR.out.size; have := HG2.out.size; simp; omega))); have HO5 := Lib.hid ho5; clear ho5 hg5))
          go_roundw
          case rel => exact ⟨j + 1, by go_num, by omega, by rw [HSN.out]; unfold OwnS; rw [List.map_append]; exact HO5.out, HG5.out⟩
          case measure => simp [intOf]; omega
        · have hki : (x.k : Int) % 6 = 3 := by omega
          have HZ := Lib.hid (show [St.cs (gtOf x)].flatten = [.int .i64 4, .int .i64 (szOf x.z : Nat), .bool x.be, .bool (decide (1 < ((szOf x.z : Nat) : Int)))] by simp [St.cs, gtOf, hk, hco])
          have HD := Lib.hid (st_one (gtOf x))
          have iz : (szOf x.z : Int) ≤ 8 := by omega
          clear hk
          have HCO := Lib.hid hco
          clear hco
          go_wp2_with (first
            | (go_at_call 20; have _t := tok1; go_must (refine (HSZ _).out.mono ?_); rintro e w2 ⟨rfl, hg2⟩; have hb1 := hg2.heap (heap_alloc_new wr _); have hG2 := ((Gr.refl wr).alloc _).trans hg2; have x0 := blk_cell hb1 0; have x3 := blk_cell hb1 3; have x4 := blk_cell hb1 4; have x6 := blk_cell hb1 6; simp at x0 x3 x4 x6; rw [HCO.out] at x4; have HG2 := Lib.hid hG2; have hH1 := lt_of_some hb1; clear hb1 hg2 hG2 tok1 _t)
            | (at_builtin; go_must (refine wpList_append_row rfl _ _ rfl Tryd.underlying29 stInfo rfl (by decide) (by decide) (B := w.heap.size) rfl (OwnR.gr HOW.out (HG2.out.alloc _)) [St.cs (gtOf x)] HD.out ⟨w2.heap.size, 0, none⟩ 1 1 rfl rfl (cells_new (by first | rfl | simp) HZ.out) (by have := HTK.out; omega) (by have := HGR.out.size; have := HG2.out.size; simp; omega) ?_); intro v5 w5 ho5 hg5; have HG5 := Lib.hid (Below.trans (HGR.out.trans (HG2.out.alloc _)) ((OwnR.gr HOW.out (HG2.out.alloc _)).below hg5 (by have := HGR.out.size; have := HG2.out.size; simp; omega))); have HO5 := Lib.hid ho5; clear ho5 hg5))
          go_roundw
          case rel => exact ⟨j + 1, by go_num, by omega, by rw [HSN.out]; unfold OwnS; rw [List.map_append]; exact HO5.out, HG5.out⟩
          case measure => simp [intOf]; omega
      · have hki : (x.k : Int) % 6 = 4 := by omega
        have HZ := Lib.hid (show [St.cs (gtOf x)].flatten = [.int .i64 6, .int .i64 0, .bool false, .bool false] by simp [St.cs, gtOf, hk])
        have HD := Lib.hid (st_one (gtOf x))
        clear hk
        go_wp2_with (first
          | (go_at_call 20; have _t := tok1; go_must (refine (HSZ _).out.mono ?_); rintro e w2 ⟨rfl, hg2⟩; have hb1 := hg2.heap (heap_alloc_new wr _); have hG2 := ((Gr.refl wr).alloc _).trans hg2; have x0 := blk_cell hb1 0; have x3 := blk_cell hb1 3; have x4 := blk_cell hb1 4; have x6 := blk_cell hb1 6; simp at x0 x3 x4 x6; have HG2 := Lib.hid hG2; have hH1 := lt_of_some hb1; clear hb1 hg2 hG2 tok1 _t)
          | (at_builtin; go_must (refine wpList_append_row rfl _ _ rfl Tryd.underlying29 stInfo rfl (by decide) (by decide) (B := w.heap.size) rfl (OwnR.gr HOW.out (HG2.out.alloc _)) [St.cs (gtOf x)] HD.out ⟨w2.heap.size, 0, none⟩ 1 1 rfl rfl (cells_new (by first | rfl | simp) HZ.out) (by have := HTK.out; omega) (by have := HGR.out.size; have := HG2.out.size; simp; omega) ?_); intro v5 w5 ho5 hg5; have HG5 := Lib.hid (Below.trans (HGR.out.trans (HG2.out.alloc _)) ((OwnR.gr HOW.out (HG2.out.alloc _)).below hg5 (by have := HGR.out.size; have := HG2.out.size; simp; omega))); have HO5 := Lib.hid ho5; clear ho5 hg5))
        go_roundw
        case rel => exact ⟨j + 1, by go_num, by omega, by rw [HSN.out]; unfold OwnS; rw [List.map_append]; exact HO5.out, HG5.out⟩
        case measure => simp [intOf]; omega
      · have hki : (x.k : Int) % 6 = 5 := by omega
        have HZ := Lib.hid (show [St.cs (gtOf x)].flatten = [.int .i64 8, .int .i64 0, .bool false, .bool false] by simp [St.cs, gtOf, hk])
        have HD := Lib.hid (st_one (gtOf x))
        clear hk
        go_wp2_with (first
          | (go_at_call 20; have _t := tok1; go_must (refine (HSZ _).out.mono ?_); rintro e w2 ⟨rfl, hg2⟩; have hb1 := hg2.heap (heap_alloc_new wr _); have hG2 := ((Gr.refl wr).alloc _).trans hg2; have x0 := blk_cell hb1 0; have x3 := blk_cell hb1 3; have x4 := blk_cell hb1 4; have x6 := blk_cell hb1 6; simp at x0 x3 x4 x6; have HG2 := Lib.hid hG2; have hH1 := lt_of_some hb1; clear hb1 hg2 hG2 tok1 _t)
          | (at_builtin; go_must (refine wpList_append_row rfl _ _ rfl Tryd.underlying29 stInfo rfl (by decide) (by decide) (B := w.heap.size) rfl (OwnR.gr HOW.out (HG2.out.alloc _)) [St.cs (gtOf x)] HD.out ⟨w2.heap.size, 0, none⟩ 1 1 rfl rfl (cells_new (by first | rfl | simp) HZ.out) (by have := HTK.out; omega) (by have := HGR.out.size; have := HG2.out.size; simp; omega) ?_); intro v5 w5 ho5 hg5; have HG5 := Lib.hid (Below.trans (HGR.out.trans (HG2.out.alloc _)) ((OwnR.gr HOW.out (HG2.out.alloc _)).below hg5 (by have := HGR.out.size; have := HG2.out.size; simp; omega))); have HO5 := Lib.hid ho5; clear ho5 hg5))
        go_roundw
        case rel => exact ⟨j + 1, by go_num, by omega, by rw [HSN.out]; unfold OwnS; rw [List.map_append]; exact HO5.out, HG5.out⟩
        case measure => simp [intOf]; omega
    · obtain rfl : n = j := by omega
      rw [List.take_of_length_le (by rw [HN.out]; exact Nat.le_refl _)] at hown
      have HOW := Lib.hid hown
      have HGR := Lib.hid hgr
      clear hown hgr
      go_wp2
      go_ret
      exact ⟨_, rfl, HOW.out, HGR.out⟩
end Go.Proofs.YtgkccbfepjgjoaaDoor
