/- The steps that the laws ask for: rows of them, opened; laws.sessionAsks. -/
import Derived.Test.YtgkccbfepjgjoaaDoorSeRj
import Derived.Test.YtgkccbfepjgjoaaDoorSeMl
namespace Go.Proofs.YtgkccbfepjgjoaaDoor
open Go Go.RowKit Go.ChangeShapes Go.WideShapes Go.ChangeAt Go.Deep

/-- A step by small numbers. -/
structure Ak where
  k : Nat
  z : Nat
  be : Bool
  co : Bool
def Ak.cs (x : Ak) : List Value := [.int .u8 (x.k : Nat), .int .u8 (x.z : Nat), .bool x.be, .bool x.co]
/-- The slice value v reads as the steps l. -/
def RdAk (w : World) (v : Value) (l : List Ak) : Prop :=
  ∃ p c, v = .slice p l.length c ∧ l.length ≤ c ∧ c ≤ maxLen ∧ (0 < l.length → ∃ b o, p = some ⟨b, o, none⟩ ∧ ∀ i (hi : i < l.length), (∀ j u, (l[i].cs)[j]? = some u → w.cell? ⟨b, o + i * 4 + j, none⟩ = some u) ∧ l[i].k < 256 ∧ l[i].z < 256)
theorem RdAk.gr {a w : World} {v : Value} {l : List Ak} (h : RdAk a v l) (g : Gr a w) : RdAk w v l := by
  obtain ⟨p, c, rfl, h1, h2, h3⟩ := h
  refine ⟨p, c, rfl, h1, h2, fun hn => ?_⟩
  obtain ⟨b, o, rfl, hc⟩ := h3 hn
  exact ⟨b, o, rfl, fun i hi => ⟨fun j u hj => g.cell ((hc i hi).1 j u hj), (hc i hi).2⟩⟩
theorem cells_ak : Tryd.prog.cellsOf 90 = 4 := by kernel_rfl

set_option maxRecDepth 100000 in
theorem open_ak {H : Type} {enc : TypeId × Value → H} {w : World} {base fuel : Nat} {spare : Nat → Bool} {held : Bool} {cs : List Value} {x : DataW H × List MemPlace}
    (h : DataW.trod enc Tryd.prog w base spare held fuel 90 cs = some x) : ∃ s : Ak, cs = s.cs ∧ s.k < 256 ∧ s.z < 256 := by
  obtain ⟨hl, hf⟩ := open_cells Tryd.underlying90 (by kernel_rfl) h
  rw [cells_ak] at hl
  match cs, hl with
  | [c0, c1, c3, c4], _ =>
    clear h hl
    obtain ⟨_, _, h0⟩ := hf 0 _ c0 rfl rfl
    obtain ⟨n0, e0, _, w0⟩ := DataW.trod_int Tryd.underlying5 h0
    obtain ⟨_, _, h1⟩ := hf 1 _ c1 rfl rfl
    obtain ⟨n1, e1, _, w1⟩ := DataW.trod_int Tryd.underlying5 h1
    obtain ⟨_, _, h3⟩ := hf 2 _ c3 rfl rfl
    obtain ⟨b3, e3, _⟩ := DataW.trod_bool Tryd.underlying4 h3
    obtain ⟨_, _, h4⟩ := hf 3 _ c4 rfl rfl
    obtain ⟨b4, e4, _⟩ := DataW.trod_bool Tryd.underlying4 h4
    simp only [List.cons.injEq, and_true] at e0 e1 e3 e4
    subst e0 e1 e3 e4
    have b0 := bounds_u8 w0
    have b1 := bounds_u8 w1
    refine ⟨⟨n0.toNat, n1.toNat, b3, b4⟩, ?_, by show n0.toNat < 256; omega, by show n1.toNat < 256; omega⟩
    show [Value.int .u8 n0, .int .u8 n1, .bool b3, .bool b4] = [.int .u8 (n0.toNat : Nat), .int .u8 (n1.toNat : Nat), .bool b3, .bool b4]
    rw [Int.toNat_of_nonneg (by omega), Int.toNat_of_nonneg (by omega)]

set_option maxRecDepth 100000 in
theorem open_asks {H : Type} {enc : TypeId × Value → H} {w : World} {base : Nat} {spare : Nat → Bool} {held : Bool} {r : Reach} {b0 : Nat} {v : Value} {d : DataW H} {p : List MemPlace}
    (hv : Value.okWide Tryd.prog w r b0 53 v) (h : DataW.Trod enc Tryd.prog w base spare held 53 v d p) : ∃ l, RdAk w v l := by
  obtain ⟨a0, len, cap, rfl⟩ := okWide_slice Tryd.underlying53 hv
  obtain ⟨fuel, hf⟩ := h
  rcases DataW.trod_slice Tryd.underlying53 hf with ⟨e, _⟩ | ⟨a, len', cap', elems, rest, n, _, e, _, _, hl, hm, hlen, hel, _, _⟩
  · have : (Value.slice a0 len cap) = .slice none 0 0 := by simpa [Value.cells] using e
    rw [this]
    exact ⟨[], none, 0, rfl, Nat.le_refl _, Nat.zero_le _, fun h => absurd h (by simp)⟩
  · have : (Value.slice a0 len cap) = .slice (some a) len' cap' := by simpa [Value.cells] using e
    rw [this]
    have each : ∀ i, i < len' → ∃ s : Ak, (∀ j u, s.cs[j]? = some u → w.cell? ((a.add (i * 4)).add j) = some u) ∧ s.k < 256 ∧ s.z < 256 := by
      intro i hi
      have h1 := hel i hi
      rw [cells_ak, List.getElem?_eq_getElem (by omega)] at h1
      obtain ⟨cs, hcs, htr⟩ := Option.bind_eq_some_iff.1 h1
      obtain ⟨s, rfl, hk, hz⟩ := open_ak htr
      obtain ⟨_, hcl, hat⟩ := World.cells?_some hcs
      refine ⟨s, fun j u hj => ?_, hk, hz⟩
      have : j < 4 := (List.getElem?_eq_some_iff.1 hj).1
      rw [hat j this]
      exact hj
    obtain ⟨l, hll, hq⟩ := list_of_each len' each
    refine ⟨l, some a, cap', by rw [hll], by omega, hm, fun hn => ?_⟩
    obtain ⟨b, o, s⟩ := a
    have hs : s = none := by
      obtain ⟨h0, _⟩ := hq 0 hn
      have h0 := h0 0 _ rfl
      cases s with
      | none => rfl
      | some z =>
        simp only [Addr.add, World.cell?] at h0
        split at h0 <;> simp at h0
    subst hs
    refine ⟨b, o, rfl, fun i hi => ?_⟩
    obtain ⟨k1, k2⟩ := hq i hi
    simp only [Lib.addr_add] at k1
    exact ⟨k1, k2⟩

theorem cells_new {W : World} {arr : Array Value} {T : TypeId} {H : Nat} {ds : List Value} (hH : W.heap.size = H) (hz : ds = arr.toList) : ∀ j u, ds[j]? = some u → (W.alloc (.cells arr T)).cell? ((⟨H, 0, none⟩ : Addr).add j) = some u := by
  intro j u hj
  subst hH
  rw [Lib.addr_add, Nat.zero_add, blk_cell (heap_alloc_new W _), ← Array.getElem?_toList, ← hz]
  exact hj


/-- The step that is asked for. -/
def askOf (x : Ak) : St := ⟨(x.k % 10 : Nat), if x.k % 10 = 4 ∨ x.k % 10 = 5 then ((if x.z % 4 = 0 then 1 else if x.z % 4 = 1 then 2 else if x.z % 4 = 2 then 4 else 8 : Nat) : Int) else (x.z : Nat), x.be, x.co⟩
theorem askOf_ask (x : Ak) (hz : x.z < 256) : (askOf x).Ask := by
  unfold St.Ask askOf
  simp only
  have h10 : x.k % 10 < 10 := Nat.mod_lt _ (by omega)
  by_cases h : x.k % 10 = 4 ∨ x.k % 10 = 5
  · rw [if_pos h]
    by_cases h0 : x.z % 4 = 0
    · rw [if_pos h0]; omega
    · rw [if_neg h0]
      by_cases h1 : x.z % 4 = 1
      · rw [if_pos h1]; omega
      · rw [if_neg h1]
        by_cases h2 : x.z % 4 = 2
        · rw [if_pos h2]; omega
        · rw [if_neg h2]; omega
  · rw [if_neg h]; omega

/-- A row of steps of the call's own. -/
def OwnS (B : Nat) (w : World) (v : Value) (l : List St) : Prop := OwnR 28 4 B w v (l.map St.cs)
theorem OwnS.rd {B : Nat} {w : World} {v : Value} {l : List St} (h : OwnS B w v l) : RdSt w v l := by
  by_cases hn : 0 < l.length
  · obtain ⟨b, cap, rfl, hc1, hc2, _, _, hat⟩ := OwnR.at' h (by rw [List.length_map]; exact hn)
    rw [List.length_map] at hc1 ⊢
    refine ⟨_, cap, rfl, hc1, hc2, fun _ => ⟨b, 0, rfl, fun i hi => ?_⟩⟩
    have hx : (l.map St.cs)[i]? = some (St.cs l[i]) := by rw [List.getElem?_map, List.getElem?_eq_getElem hi]; rfl
    have hc := fun j u => hat i j _ u hx
    have e : 0 + i * 4 = i * 4 := by omega
    rw [e]
    exact ⟨hc 0 _ rfl, hc 1 _ rfl, hc 2 _ rfl, hc 3 _ rfl⟩
  · obtain rfl : l = [] := List.eq_nil_of_length_eq_zero (by omega)
    obtain ⟨p, c, rfl, hc1, hc2, _⟩ := OwnR.shape h
    exact ⟨p, c, rfl, hc1, hc2, fun h => absurd h (by simp)⟩
theorem stInfo : (Tryd.prog.info? 28).map (fun i => (i.zero, i.size, i.bytes)) = some (some (.agg #[.int .i64 0, .int .i64 0, .bool false, .bool false]), 4, 24) := by kernel_rfl
theorem st_one (x : St) : ∀ c ∈ [St.cs x], c.length = 4 ∧ ∀ u ∈ c, u.oneCell' = true := by
  intro c hc
  simp only [List.mem_singleton] at hc
  subst hc
  refine ⟨rfl, fun u hu => ?_⟩
  simp only [St.cs, List.mem_cons, List.not_mem_nil, or_false] at hu
  rcases hu with rfl | rfl | rfl | rfl <;> rfl
def RetSts (w : World) (l : List St) (e : Ending) (w' : World) : Prop := ∃ u, e = .returned u ∧ OwnS w.heap.size w' u l ∧ Gr w w'

set_option maxRecDepth 100000 in
set_option maxHeartbeats 4000000 in
theorem sessionAsks (v : Value) (l : List Ak) (w : World) (h : RdAk w v l) (hl30 : l.length ≤ 30) :
    Calls Tryd.prog 24 #[v] w (RetSts w (l.map askOf)) := by
  obtain ⟨p, c, rfl, hlc, hcm, hcells⟩ := h
  obtain ⟨n, hn⟩ : ∃ n, l.length = n := ⟨_, rfl⟩
  have hcm2 : c ≤ 9223372036854775807 := by simp only [maxLen] at hcm; omega
  have HN := Lib.hid hn
  have HC := Lib.hid hcells
  rw [hn] at hlc hl30 ⊢
  clear hn hcells hcm
  go_enter Tryd.func24, Tryd.ntmps24
  go_wp2
  go_loopw [9, 3] (fun i ov wr => ∃ j : Nat, i = .int .i64 j ∧ j ≤ n ∧ OwnS w.heap.size wr ov ((l.take j).map askOf) ∧ Gr w wr) (fun i _ _ => ((n : Int) - intOf i).toNat)
  case atStart => exact ⟨0, rfl, Nat.zero_le _, OwnR.nil _ _ _ _, Gr.refl _⟩
  case round =>
    obtain ⟨j, rfl, hj, hown, hgr⟩ := hrel
    by_cases e : j < n
    · obtain ⟨b, o, rfl, hc⟩ := HC.out (by rw [HN.out]; omega)
      have hjl : j < l.length := by rw [HN.out]; exact e
      obtain ⟨k1, hk256, hz256⟩ := hc j hjl
      have hsn : (l.take (j + 1)).map askOf = (l.take j).map askOf ++ [askOf l[j]] := by rw [List.take_succ_eq_append_getElem hjl, List.map_append]; rfl
      have htk : (((l.take j).map askOf).map St.cs).length ≤ 30 := by rw [List.length_map, List.length_map, List.length_take]; omega
      have c0 := hgr.cell (k1 0 _ rfl)
      have c1 := hgr.cell (k1 1 _ rfl)
      have c2 := hgr.cell (k1 2 _ rfl)
      have c3 := hgr.cell (k1 3 _ rfl)
      rw [Nat.add_zero] at c0
      clear k1
      generalize l[j] = x at *
      obtain ⟨xk, xz, be, co⟩ := x
      simp only at hk256 hz256 c0 c1 c2 c3
      have HSN := Lib.hid hsn
      have HTK := Lib.hid htk
      have HOW := Lib.hid hown
      have HGR := Lib.hid hgr
      have hsz := hgr.size
      have hwK : IntKind.i64.wrap (xz : Int) = xz := IntWalk.i64_in _ (by omega)
      clear hc hjl hsn htk hown hgr
      by_cases h45 : xk % 10 = 4 ∨ xk % 10 = 5
      · rcases h45 with h45 | h45 <;> rcases (by omega : xz % 4 = 0 ∨ xz % 4 = 1 ∨ xz % 4 = 2 ∨ xz % 4 = 3) with hz | hz | hz | hz
        · have HZ := Lib.hid (show [St.cs (askOf ⟨xk, xz, be, co⟩)].flatten = [.int .i64 4, .int .i64 1, .bool be, .bool co] by simp [St.cs, askOf, h45, hz])
          have HD := Lib.hid (st_one (askOf ⟨xk, xz, be, co⟩))
          have hki : (xk : Int) % 10 = 4 := by omega
          have hzi : (xz : Int) % 4 = 0 := by omega
          clear h45 hz
          go_wp2_with (first
            | (at_builtin; go_must (refine wpList_append_row rfl _ _ rfl Tryd.underlying29 stInfo rfl (by decide) (by decide) (B := w.heap.size) rfl (OwnR.gr HOW.out (((((Gr.refl wr).alloc _).alloc _).alloc _).alloc _)) [St.cs (askOf ⟨xk, xz, be, co⟩)] HD.out ⟨wr.heap.size + 1 + 1 + 1, 0, none⟩ 1 1 rfl rfl (cells_new (by first | rfl | simp) HZ.out) (by have := HTK.out; omega) (by have := HGR.out.size; simp; omega) ?_); intro v5 w5 ho5 hg5; have HO5 := Lib.hid ho5; have HG5 := Lib.hid (show Gr w w5 from Gr.trans2 (HGR.out.trans (((((Gr.refl wr).alloc _).alloc _).alloc _).alloc _)) ((OwnR.gr HOW.out (((((Gr.refl wr).alloc _).alloc _).alloc _).alloc _)).below hg5 (by simp; omega)) (Nat.le_refl _)); clear ho5 hg5))
          go_roundw
          case rel => exact ⟨j + 1, by go_num, by omega, by rw [HSN.out]; unfold OwnS; rw [List.map_append]; exact HO5.out, HG5.out⟩
          case measure => simp [intOf]; omega
        · have HZ := Lib.hid (show [St.cs (askOf ⟨xk, xz, be, co⟩)].flatten = [.int .i64 4, .int .i64 2, .bool be, .bool co] by simp [St.cs, askOf, h45, hz])
          have HD := Lib.hid (st_one (askOf ⟨xk, xz, be, co⟩))
          have hki : (xk : Int) % 10 = 4 := by omega
          have hzi : (xz : Int) % 4 = 1 := by omega
          clear h45 hz
          go_wp2_with (first
            | (at_builtin; go_must (refine wpList_append_row rfl _ _ rfl Tryd.underlying29 stInfo rfl (by decide) (by decide) (B := w.heap.size) rfl (OwnR.gr HOW.out (((((Gr.refl wr).alloc _).alloc _).alloc _).alloc _)) [St.cs (askOf ⟨xk, xz, be, co⟩)] HD.out ⟨wr.heap.size + 1 + 1 + 1, 0, none⟩ 1 1 rfl rfl (cells_new (by first | rfl | simp) HZ.out) (by have := HTK.out; omega) (by have := HGR.out.size; simp; omega) ?_); intro v5 w5 ho5 hg5; have HO5 := Lib.hid ho5; have HG5 := Lib.hid (show Gr w w5 from Gr.trans2 (HGR.out.trans (((((Gr.refl wr).alloc _).alloc _).alloc _).alloc _)) ((OwnR.gr HOW.out (((((Gr.refl wr).alloc _).alloc _).alloc _).alloc _)).below hg5 (by simp; omega)) (Nat.le_refl _)); clear ho5 hg5))
          go_roundw
          case rel => exact ⟨j + 1, by go_num, by omega, by rw [HSN.out]; unfold OwnS; rw [List.map_append]; exact HO5.out, HG5.out⟩
          case measure => simp [intOf]; omega
        · have HZ := Lib.hid (show [St.cs (askOf ⟨xk, xz, be, co⟩)].flatten = [.int .i64 4, .int .i64 4, .bool be, .bool co] by simp [St.cs, askOf, h45, hz])
          have HD := Lib.hid (st_one (askOf ⟨xk, xz, be, co⟩))
          have hki : (xk : Int) % 10 = 4 := by omega
          have hzi : (xz : Int) % 4 = 2 := by omega
          clear h45 hz
          go_wp2_with (first
            | (at_builtin; go_must (refine wpList_append_row rfl _ _ rfl Tryd.underlying29 stInfo rfl (by decide) (by decide) (B := w.heap.size) rfl (OwnR.gr HOW.out (((((Gr.refl wr).alloc _).alloc _).alloc _).alloc _)) [St.cs (askOf ⟨xk, xz, be, co⟩)] HD.out ⟨wr.heap.size + 1 + 1 + 1, 0, none⟩ 1 1 rfl rfl (cells_new (by first | rfl | simp) HZ.out) (by have := HTK.out; omega) (by have := HGR.out.size; simp; omega) ?_); intro v5 w5 ho5 hg5; have HO5 := Lib.hid ho5; have HG5 := Lib.hid (show Gr w w5 from Gr.trans2 (HGR.out.trans (((((Gr.refl wr).alloc _).alloc _).alloc _).alloc _)) ((OwnR.gr HOW.out (((((Gr.refl wr).alloc _).alloc _).alloc _).alloc _)).below hg5 (by simp; omega)) (Nat.le_refl _)); clear ho5 hg5))
          go_roundw
          case rel => exact ⟨j + 1, by go_num, by omega, by rw [HSN.out]; unfold OwnS; rw [List.map_append]; exact HO5.out, HG5.out⟩
          case measure => simp [intOf]; omega
        · have HZ := Lib.hid (show [St.cs (askOf ⟨xk, xz, be, co⟩)].flatten = [.int .i64 4, .int .i64 8, .bool be, .bool co] by simp [St.cs, askOf, h45, hz])
          have HD := Lib.hid (st_one (askOf ⟨xk, xz, be, co⟩))
          have hki : (xk : Int) % 10 = 4 := by omega
          have hzi : (xz : Int) % 4 = 3 := by omega
          clear h45 hz
          go_wp2_with (first
            | (at_builtin; go_must (refine wpList_append_row rfl _ _ rfl Tryd.underlying29 stInfo rfl (by decide) (by decide) (B := w.heap.size) rfl (OwnR.gr HOW.out (((((Gr.refl wr).alloc _).alloc _).alloc _).alloc _)) [St.cs (askOf ⟨xk, xz, be, co⟩)] HD.out ⟨wr.heap.size + 1 + 1 + 1, 0, none⟩ 1 1 rfl rfl (cells_new (by first | rfl | simp) HZ.out) (by have := HTK.out; omega) (by have := HGR.out.size; simp; omega) ?_); intro v5 w5 ho5 hg5; have HO5 := Lib.hid ho5; have HG5 := Lib.hid (show Gr w w5 from Gr.trans2 (HGR.out.trans (((((Gr.refl wr).alloc _).alloc _).alloc _).alloc _)) ((OwnR.gr HOW.out (((((Gr.refl wr).alloc _).alloc _).alloc _).alloc _)).below hg5 (by simp; omega)) (Nat.le_refl _)); clear ho5 hg5))
          go_roundw
          case rel => exact ⟨j + 1, by go_num, by omega, by rw [HSN.out]; unfold OwnS; rw [List.map_append]; exact HO5.out, HG5.out⟩
          case measure => simp [intOf]; omega
        · have HZ := Lib.hid (show [St.cs (askOf ⟨xk, xz, be, co⟩)].flatten = [.int .i64 5, .int .i64 1, .bool be, .bool co] by simp [St.cs, askOf, h45, hz])
          have HD := Lib.hid (st_one (askOf ⟨xk, xz, be, co⟩))
          have hki : (xk : Int) % 10 = 5 := by omega
          have hzi : (xz : Int) % 4 = 0 := by omega
          clear h45 hz
          go_wp2_with (first
            | (at_builtin; go_must (refine wpList_append_row rfl _ _ rfl Tryd.underlying29 stInfo rfl (by decide) (by decide) (B := w.heap.size) rfl (OwnR.gr HOW.out (((((Gr.refl wr).alloc _).alloc _).alloc _).alloc _)) [St.cs (askOf ⟨xk, xz, be, co⟩)] HD.out ⟨wr.heap.size + 1 + 1 + 1, 0, none⟩ 1 1 rfl rfl (cells_new (by first | rfl | simp) HZ.out) (by have := HTK.out; omega) (by have := HGR.out.size; simp; omega) ?_); intro v5 w5 ho5 hg5; have HO5 := Lib.hid ho5; have HG5 := Lib.hid (show Gr w w5 from Gr.trans2 (HGR.out.trans (((((Gr.refl wr).alloc _).alloc _).alloc _).alloc _)) ((OwnR.gr HOW.out (((((Gr.refl wr).alloc _).alloc _).alloc _).alloc _)).below hg5 (by simp; omega)) (Nat.le_refl _)); clear ho5 hg5))
          go_roundw
          case rel => exact ⟨j + 1, by go_num, by omega, by rw [HSN.out]; unfold OwnS; rw [List.map_append]; exact HO5.out, HG5.out⟩
          case measure => simp [intOf]; omega
        · have HZ := Lib.hid (show [St.cs (askOf ⟨xk, xz, be, co⟩)].flatten = [.int .i64 5, .int .i64 2, .bool be, .bool co] by simp [St.cs, askOf, h45, hz])
          have HD := Lib.hid (st_one (askOf ⟨xk, xz, be, co⟩))
          have hki : (xk : Int) % 10 = 5 := by omega
          have hzi : (xz : Int) % 4 = 1 := by omega
          clear h45 hz
          go_wp2_with (first
            | (at_builtin; go_must (refine wpList_append_row rfl _ _ rfl Tryd.underlying29 stInfo rfl (by decide) (by decide) (B := w.heap.size) rfl (OwnR.gr HOW.out (((((Gr.refl wr).alloc _).alloc _).alloc _).alloc _)) [St.cs (askOf ⟨xk, xz, be, co⟩)] HD.out ⟨wr.heap.size + 1 + 1 + 1, 0, none⟩ 1 1 rfl rfl (cells_new (by first | rfl | simp) HZ.out) (by have := HTK.out; omega) (by have := HGR.out.size; simp; omega) ?_); intro v5 w5 ho5 hg5; have HO5 := Lib.hid ho5; have HG5 := Lib.hid (show Gr w w5 from Gr.trans2 (HGR.out.trans (((((Gr.refl wr).alloc _).alloc _).alloc _).alloc _)) ((OwnR.gr HOW.out (((((Gr.refl wr).alloc _).alloc _).alloc _).alloc _)).below hg5 (by simp; omega)) (Nat.le_refl _)); clear ho5 hg5))
          go_roundw
          case rel => exact ⟨j + 1, by go_num, by omega, by rw [HSN.out]; unfold OwnS; rw [List.map_append]; exact HO5.out, HG5.out⟩
          case measure => simp [intOf]; omega
        · have HZ := Lib.hid (show [St.cs (askOf ⟨xk, xz, be, co⟩)].flatten = [.int .i64 5, .int .i64 4, .bool be, .bool co] by simp [St.cs, askOf, h45, hz])
          have HD := Lib.hid (st_one (askOf ⟨xk, xz, be, co⟩))
          have hki : (xk : Int) % 10 = 5 := by omega
          have hzi : (xz : Int) % 4 = 2 := by omega
          clear h45 hz
          go_wp2_with (first
            | (at_builtin; go_must (refine wpList_append_row rfl _ _ rfl Tryd.underlying29 stInfo rfl (by decide) (by decide) (B := w.heap.size) rfl (OwnR.gr HOW.out (((((Gr.refl wr).alloc _).alloc _).alloc _).alloc _)) [St.cs (askOf ⟨xk, xz, be, co⟩)] HD.out ⟨wr.heap.size + 1 + 1 + 1, 0, none⟩ 1 1 rfl rfl (cells_new (by first | rfl | simp) HZ.out) (by have := HTK.out; omega) (by have := HGR.out.size; simp; omega) ?_); intro v5 w5 ho5 hg5; have HO5 := Lib.hid ho5; have HG5 := Lib.hid (show Gr w w5 from Gr.trans2 (HGR.out.trans (((((Gr.refl wr).alloc _).alloc _).alloc _).alloc _)) ((OwnR.gr HOW.out (((((Gr.refl wr).alloc _).alloc _).alloc _).alloc _)).below hg5 (by simp; omega)) (Nat.le_refl _)); clear ho5 hg5))
          go_roundw
          case rel => exact ⟨j + 1, by go_num, by omega, by rw [HSN.out]; unfold OwnS; rw [List.map_append]; exact HO5.out, HG5.out⟩
          case measure => simp [intOf]; omega
        · have HZ := Lib.hid (show [St.cs (askOf ⟨xk, xz, be, co⟩)].flatten = [.int .i64 5, .int .i64 8, .bool be, .bool co] by simp [St.cs, askOf, h45, hz])
          have HD := Lib.hid (st_one (askOf ⟨xk, xz, be, co⟩))
          have hki : (xk : Int) % 10 = 5 := by omega
          have hzi : (xz : Int) % 4 = 3 := by omega
          clear h45 hz
          go_wp2_with (first
            | (at_builtin; go_must (refine wpList_append_row rfl _ _ rfl Tryd.underlying29 stInfo rfl (by decide) (by decide) (B := w.heap.size) rfl (OwnR.gr HOW.out (((((Gr.refl wr).alloc _).alloc _).alloc _).alloc _)) [St.cs (askOf ⟨xk, xz, be, co⟩)] HD.out ⟨wr.heap.size + 1 + 1 + 1, 0, none⟩ 1 1 rfl rfl (cells_new (by first | rfl | simp) HZ.out) (by have := HTK.out; omega) (by have := HGR.out.size; simp; omega) ?_); intro v5 w5 ho5 hg5; have HO5 := Lib.hid ho5; have HG5 := Lib.hid (show Gr w w5 from Gr.trans2 (HGR.out.trans (((((Gr.refl wr).alloc _).alloc _).alloc _).alloc _)) ((OwnR.gr HOW.out (((((Gr.refl wr).alloc _).alloc _).alloc _).alloc _)).below hg5 (by simp; omega)) (Nat.le_refl _)); clear ho5 hg5))
          go_roundw
          case rel => exact ⟨j + 1, by go_num, by omega, by rw [HSN.out]; unfold OwnS; rw [List.map_append]; exact HO5.out, HG5.out⟩
          case measure => simp [intOf]; omega
      · obtain ⟨K, hK⟩ : ∃ K, xk % 10 = K := ⟨_, rfl⟩
        have hK10 : K < 10 := by omega
        have HZ := Lib.hid (show [St.cs (askOf ⟨xk, xz, be, co⟩)].flatten = [.int .i64 (K : Nat), .int .i64 (xz : Nat), .bool be, .bool co] by
          unfold askOf
          simp only [hK] at h45 ⊢
          rw [if_neg h45]
          simp [St.cs])
        have HD := Lib.hid (st_one (askOf ⟨xk, xz, be, co⟩))
        have hki : (xk : Int) % 10 = (K : Int) := by omega
        rw [hK] at h45
        have b4 : ((K : Int) == 4) = false := beq_eq_false_iff_ne.2 (by omega)
        have b5 : ((K : Int) == 5) = false := beq_eq_false_iff_ne.2 (by omega)
        have hwk : IntKind.i64.wrap (K : Int) = K := IntWalk.i64_in _ (by omega)
        clear h45 hK
        go_wp2_with (first
          | (at_builtin; go_must (refine wpList_append_row rfl _ _ rfl Tryd.underlying29 stInfo rfl (by decide) (by decide) (B := w.heap.size) rfl (OwnR.gr HOW.out ((((Gr.refl wr).alloc _).alloc _).alloc _)) [St.cs (askOf ⟨xk, xz, be, co⟩)] HD.out ⟨wr.heap.size + 1 + 1, 0, none⟩ 1 1 rfl rfl (cells_new (by first | rfl | simp) HZ.out) (by have := HTK.out; omega) (by have := HGR.out.size; simp; omega) ?_); intro v5 w5 ho5 hg5; have HO5 := Lib.hid ho5; have HG5 := Lib.hid (show Gr w w5 from Gr.trans2 (HGR.out.trans ((((Gr.refl wr).alloc _).alloc _).alloc _)) ((OwnR.gr HOW.out ((((Gr.refl wr).alloc _).alloc _).alloc _)).below hg5 (by simp; omega)) (Nat.le_refl _)); clear ho5 hg5))
        go_roundw
        case rel => exact ⟨j + 1, by go_num, by omega, by rw [HSN.out]; unfold OwnS; rw [List.map_append]; exact HO5.out, HG5.out⟩
        case measure => simp [intOf]; omega
    · obtain rfl : n = j := by omega
      rw [show l.take n = l by rw [← HN.out, List.take_length]] at hown
      obtain ⟨p3, c3, rfl, _⟩ := OwnR.shape hown
      have HO := Lib.hid hown
      have HGR := Lib.hid hgr
      clear hown hgr
      go_wp2
      go_ret
      exact ⟨_, rfl, HO.out, HGR.out⟩
end Go.Proofs.YtgkccbfepjgjoaaDoor
