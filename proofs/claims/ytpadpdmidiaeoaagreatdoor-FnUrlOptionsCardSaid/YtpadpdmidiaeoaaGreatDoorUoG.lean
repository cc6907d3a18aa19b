/- Options of an address: rows of them as an argument; the map that impl.options makes. -/
import Derived.Test.YtpadpdmidiaeoaaGreatDoorUoF
import Derived.Test.YtpadpdmidiaeoaaGreatDoorLaw
import Derived.Maps.StringElems
import Derived.StringKeys
import Derived.Sort.MapsRangeIn
import Derived.Deep.Fields
namespace Go.Proofs.YtpadpdmidiaeoaaGreatDoor
open Go Go.RowKit Go.Lib Go.ChangeShapes Go.WideShapes Go.ChangeAt Go.Deep Go.Maps

/-- An option. -/
structure Op where
  n : List UInt8
  v : List UInt8
  deriving DecidableEq
def Op.cs (x : Op) : List Value := [.string (bs x.n), .string (bs x.v)]
/-- The slice value v reads as the options l. -/
def RdO (w : World) (v : Value) (l : List Op) : Prop :=
  ∃ p c, v = .slice p l.length c ∧ l.length ≤ c ∧ c ≤ maxLen ∧ (0 < l.length → ∃ b o, p = some ⟨b, o, none⟩ ∧ ∀ i (hi : i < l.length), w.cell? ⟨b, o + i * 2, none⟩ = some (.string (bs l[i].n)) ∧ w.cell? ⟨b, o + i * 2 + 1, none⟩ = some (.string (bs l[i].v)))
theorem RdO.gr {a w : World} {v : Value} {l : List Op} (h : RdO a v l) (g : Gr a w) : RdO w v l := by
  obtain ⟨p, c, rfl, h1, h2, h3⟩ := h
  refine ⟨p, c, rfl, h1, h2, fun hn => ?_⟩
  obtain ⟨b, o, rfl, hc⟩ := h3 hn
  exact ⟨b, o, rfl, fun i hi => ⟨g.cell (hc i hi).1, g.cell (hc i hi).2⟩⟩
theorem list_of_each {α : Type} {Q : Nat → α → Prop} : ∀ n, (∀ i, i < n → ∃ x, Q i x) → ∃ l : List α, l.length = n ∧ ∀ i (hi : i < l.length), Q i l[i]
  | 0, _ => ⟨[], rfl, fun i hi => absurd hi (Nat.not_lt_zero _)⟩
  | n + 1, h => by
    obtain ⟨l, hl, hq⟩ := list_of_each n (fun i hi => h i (by omega))
    obtain ⟨x, hx⟩ := h n (by omega)
    refine ⟨l ++ [x], by simp [hl], fun i hi => ?_⟩
    by_cases hil : i < l.length
    · rw [List.getElem_append_left hil]; exact hq i hil
    · simp at hi
      obtain rfl : i = n := by omega
      rw [List.getElem_append_right (by omega)]
      simpa using hx

section
variable {H : Type} {enc : TypeId × Value → H} {P : Program} {w : World} {base : Nat} {spare : Nat → Bool} {held : Bool}
/-- A struct of one-cell fields out of its cells: each field's own reading. -/
theorem open_cells {t : TypeId} {fs : Array Field} {fuel : Nat} {cs : List Value} {x : DataW H × List MemPlace} (hs : P.underlying t = some (.struct fs)) (hone : oneCellFields P fs = true)
    (h : DataW.trod enc P w base spare held fuel t cs = some x) : cs.length = P.cellsOf t ∧ ∀ (j : Nat) (f : Field) (c : Value), fs[j]? = some f → cs[j]? = some c → ∃ n y, DataW.trod enc P w base spare held n f.type [c] = some y := by
  obtain ⟨xs, n, _, _, hl, hxl, hf⟩ := DataW.trod_struct hs h
  refine ⟨hl, fun j f c hj hc => ?_⟩
  obtain ⟨ho, hk⟩ := hone_of hone j f hj
  have h1 := hf j f hj
  rw [ho, hk] at h1
  obtain ⟨hcl, hcv⟩ := List.getElem?_eq_some_iff.1 hc
  rw [List.drop_eq_getElem_cons hcl] at h1
  have hjl : j < fs.size := (Array.getElem?_eq_some_iff.1 hj).1
  rw [List.getElem?_eq_getElem (by omega)] at h1
  exact ⟨n, _, by rw [← hcv]; exact h1⟩
end

theorem cells_op : Tryz.prog.cellsOf 30 = 2 := by kernel_rfl

set_option maxRecDepth 100000 in
theorem open_op {H : Type} {enc : TypeId × Value → H} {w : World} {base fuel : Nat} {spare : Nat → Bool} {held : Bool} {cs : List Value} {x : DataW H × List MemPlace}
    (h : DataW.trod enc Tryz.prog w base spare held fuel 30 cs = some x) : ∃ s : Op, cs = s.cs := by
  obtain ⟨hl, hf⟩ := open_cells Tryz.underlying30 (by kernel_rfl) h
  rw [cells_op] at hl
  match cs, hl with
  | [c0, c1], _ =>
    clear h hl
    obtain ⟨_, _, h0⟩ := hf 0 _ c0 rfl rfl
    obtain ⟨p, e0, _⟩ := DataW.trod_string Tryz.underlying9 h0
    obtain ⟨_, _, h1⟩ := hf 1 _ c1 rfl rfl
    obtain ⟨a, e1, _⟩ := DataW.trod_string Tryz.underlying9 h1
    simp only [List.cons.injEq, and_true] at e0 e1
    subst e0 e1
    exact ⟨⟨p.data.toList, a.data.toList⟩, by simp only [Op.cs, bs_of]⟩

set_option maxRecDepth 100000 in
theorem open_ops {H : Type} {enc : TypeId × Value → H} {w : World} {base : Nat} {spare : Nat → Bool} {held : Bool} {r : Reach} {b0 : Nat} {v : Value} {d : DataW H} {p : List MemPlace}
    (hv : Value.okWide Tryz.prog w r b0 23 v) (h : DataW.Trod enc Tryz.prog w base spare held 23 v d p) : ∃ l, RdO w v l := by
  obtain ⟨a0, len, cap, rfl⟩ := okWide_slice Tryz.underlying23 hv
  obtain ⟨fuel, hf⟩ := h
  rcases DataW.trod_slice Tryz.underlying23 hf with ⟨e, _⟩ | ⟨a, len', cap', elems, rest, n, _, e, _, _, hl, hm, hlen, hel, _, _⟩
  · have : (Value.slice a0 len cap) = .slice none 0 0 := by simpa [Value.cells] using e
    rw [this]
    exact ⟨[], none, 0, rfl, Nat.le_refl _, Nat.zero_le _, fun h => absurd h (by simp)⟩
  · have : (Value.slice a0 len cap) = .slice (some a) len' cap' := by simpa [Value.cells] using e
    rw [this]
    have each : ∀ i, i < len' → ∃ s : Op, (∀ j u, s.cs[j]? = some u → w.cell? ((a.add (i * 2)).add j) = some u) := by
      intro i hi
      have h1 := hel i hi
      rw [cells_op, List.getElem?_eq_getElem (by omega)] at h1
      obtain ⟨cs, hcs, htr⟩ := Option.bind_eq_some_iff.1 h1
      obtain ⟨s, rfl⟩ := open_op htr
      obtain ⟨_, hcl, hat⟩ := World.cells?_some hcs
      refine ⟨s, fun j u hj => ?_⟩
      have : j < 2 := (List.getElem?_eq_some_iff.1 hj).1
      rw [hat j this]
      exact hj
    obtain ⟨l, hll, hq⟩ := list_of_each len' each
    refine ⟨l, some a, cap', by rw [hll], by omega, hm, fun hn => ?_⟩
    obtain ⟨b, o, s⟩ := a
    have hs : s = none := by
      have h0 := hq 0 hn
      have h0 := h0 0 _ rfl
      cases s with
      | none => rfl
      | some z =>
        simp only [Addr.add, World.cell?] at h0
        split at h0 <;> simp at h0
    subst hs
    refine ⟨b, o, rfl, fun i hi => ?_⟩
    have k1 := hq i hi
    simp only [Lib.addr_add] at k1
    exact ⟨k1 0 _ rfl, k1 1 _ rfl⟩

/-! ### The map -/
def keyD (x : Op) : Lit := .string x.n
/-- The map that the options make, one after the other. -/
def dOf (l : List Op) : DataW Unit := l.foldl (fun D x => D.put (keyD x) (.lit (.string x.v))) (.map [])
theorem dOf_snoc (l : List Op) (x : Op) : dOf (l ++ [x]) = (dOf l).put (keyD x) (.lit (.string x.v)) := by simp [dOf]
theorem dOf_map (l : List Op) : IsMap (dOf l) := by
  have : ∀ (l : List Op) (D : DataW Unit), IsMap D → IsMap (l.foldl (fun D x => D.put (keyD x) (.lit (.string x.v))) D) := by
    intro l
    induction l with
    | nil => exact fun D h => h
    | cons x l ih => exact fun D h => ih _ (h.put _ _)
  exact this l _ isMap_empty
theorem snoc_ind {α : Type} {P : List α → Prop} (h0 : P []) (h1 : ∀ l x, P l → P (l ++ [x])) (l : List α) : P l := by
  have : ∀ n, ∀ l : List α, l.length = n → P l := by
    intro n
    induction n with
    | zero => intro l hl; rw [List.eq_nil_of_length_eq_zero hl]; exact h0
    | succ n ih =>
      intro l hl
      rcases List.eq_nil_or_concat l with rfl | ⟨l', x, rfl⟩
      · exact h0
      · rw [List.concat_eq_append] at *
        exact h1 l' x (ih l' (by simpa using hl))
  exact this _ l rfl
/-- A key is there just if an option has this name. -/
theorem dOf_has (l : List Op) (kl : Lit) : Maps.has (dOf l) kl = true ↔ ∃ x ∈ l, kl = keyD x := by
  induction l using snoc_ind with
  | h0 => simp [dOf, Maps.has]
  | h1 l x ih =>
    rw [dOf_snoc]
    by_cases e : kl = keyD x
    · subst e
      rw [has_put_same (dOf_map l) (show WideAt.IsKeyLit (keyD x) from trivial)]
      exact ⟨fun _ => ⟨x, by simp, rfl⟩, fun _ => rfl⟩
    · rw [has_put_other e, ih]
      constructor
      · rintro ⟨y, hy, rfl⟩; exact ⟨y, by simp [hy], rfl⟩
      · rintro ⟨y, hy, rfl⟩
        rcases List.mem_append.1 hy with hy | hy
        · exact ⟨y, hy, rfl⟩
        · rw [List.mem_singleton] at hy; subst hy; exact absurd rfl e
/-- Of options of different names each has its value. -/
theorem dOf_at (l : List Op) (hd : (l.map Op.n).Nodup) (x : Op) (hx : x ∈ l) (z : DataW Unit) : (dOf l).atKey (keyD x) z = .lit (.string x.v) := by
  induction l using snoc_ind with
  | h0 => cases hx
  | h1 l y ih =>
    rw [List.map_append, List.nodup_append] at hd
    obtain ⟨hd1, _, hd3⟩ := hd
    rw [dOf_snoc]
    by_cases e : keyD x = keyD y
    · have hxy : x = y := by
        rcases List.mem_append.1 hx with hx | hx
        · exact absurd (by injection e with e) (hd3 x.n (List.mem_map.2 ⟨x, hx, rfl⟩) y.n (by simp))
        · simpa using hx
      subst hxy
      rw [atKey_put_same (dOf_map l) (show WideAt.IsKeyLit (keyD x) from trivial)]
    · rw [atKey_put_other e]
      refine ih hd1 ?_
      rcases List.mem_append.1 hx with hx | hx
      · exact hx
      · rw [List.mem_singleton] at hx; subst hx; exact absurd rfl e

theorem keyS : Keyed Tryz.prog 9 := string_keyed Tryz.underlying9
/-- Block b is the map of the options. -/
def OwnM (w : World) (b n : Nat) (l : List Op) : Prop := w.ownsMap Tryz.prog 9 (plainElem (H := Unit) Tryz.prog 9) b n (dOf l)

set_option maxRecDepth 100000 in
set_option maxHeartbeats 2000000 in
theorem options (v : Value) (l : List Op) (w : World) (h : RdO w v l) (h0 : 0 < l.length) (h20 : l.length ≤ 20) (hf : ∀ x ∈ l, x.n.length ≤ 1000 ∧ x.v.length ≤ 1000) :
    Calls Tryz.prog 24 #[v] w fun e w' => e = .returned (.map (some w.heap.size)) ∧ OwnM w' w.heap.size 20 l ∧ Gr w w' := by
  obtain ⟨p, c, rfl, hlc, hcm, hcells⟩ := h
  obtain ⟨b, o, rfl, hc⟩ := hcells h0
  obtain ⟨n, hn⟩ : ∃ n, l.length = n := ⟨_, rfl⟩
  obtain ⟨H, hH⟩ : ∃ H, w.heap.size = H := ⟨_, rfl⟩
  have hcm2 : c ≤ 9223372036854775807 := by simp only [maxLen] at hcm; omega
  have HN := Lib.hid hn
  have HC := Lib.hid hc
  have HF := Lib.hid hf
  have HH := Lib.hid hH
  have hmm := @run_makeMap Tryz.prog
  have I0 : Hid (OwnM (w.alloc (.map #[] 0)) H 0 []) := by have := World.ownsMap_made w Tryz.prog 9 (plainElem (H := Unit) Tryz.prog 9); rw [hH] at this; exact this
  rw [hn] at hlc h0 h20 ⊢
  rw [hH]
  have hn0 : ((n : Int) == 0) = false := by simp; omega
  clear hn hc hcells hcm hf
  go_enter Tryz.func24, Tryz.ntmps24
  go_wp2
  go_loopw [12] (fun i wr => ∃ k : Nat, i = .int .i64 k ∧ k ≤ n ∧ Hid (OwnM wr H k (l.take k)) ∧ Hid (Gr w wr)) (fun i _ => ((n : Int) - intOf i).toNat)
  case atStart => exact ⟨0, rfl, Nat.zero_le _, by simpa using I0, (Gr.refl w).alloc _⟩
  case round =>
    obtain ⟨k, rfl, hk, HO, HGR⟩ := hrel
    by_cases e : k < n
    · have hkl : k < l.length := by rw [HN.out]; exact e
      have c0 := HGR.out.cell (HC.out k hkl).1
      have c1 := HGR.out.cell (HC.out k hkl).2
      have htk : l.take (k + 1) = l.take k ++ [l[k]] := List.take_succ_eq_append_getElem hkl
      have hfx := HF.out _ (List.getElem_mem hkl)
      have HTK := Lib.hid htk
      generalize l[k] = x at *
      clear htk hkl hmm
      have hk1 : keyOf Tryz.prog 9 (.string (bs x.n)) = some (keyD x) := WideMaps.keyOf_string_mk Tryz.underlying9 (by rw [bs_size]; simp only [maxLen]; omega)
      have hv1 : plainElem (H := Unit) Tryz.prog 9 (.string (bs x.v)) = some (.lit (.string x.v), []) := plainElem_string Tryz.underlying9 (by rw [bs_size]; simp only [maxLen]; omega)
      have HK1 := Lib.hid hk1
      have HV1 := Lib.hid hv1
      obtain ⟨X, hX⟩ : ∃ X, bs x.n = X := ⟨_, rfl⟩
      obtain ⟨Y, hY⟩ : ∃ Y, bs x.v = Y := ⟨_, rfl⟩
      rw [hX] at c0 HK1
      rw [hY] at c1 HV1
      clear hk1 hv1 hX hY hfx
      go_wp2_with (first
        | (at_mapUpdate; refine wpList_mapUpdate_own _ rfl _ _ _ 49 rfl 9 9 keyS Tryz.underlying49 (plainElem (H := Unit) Tryz.prog 9) H k _ rfl (by have := HO.out; exact World.ownsMap.alloc this _) (by unfold maxLen; omega) _ _ _ rfl rfl HK1.out _ [] HV1.out ?_; intro w1 hown1 hgrow1))
      clear c0 c1
      have HR : Hid (Gr w w1) := Gr.grown (HGR.out.alloc _) hgrow1 (fun j ej => by cases ej; exact Nat.le_of_eq HH.out)
      have HW : Hid (OwnM w1 H (k + 1) (l.take (k + 1))) := by rw [HTK.out]; unfold OwnM; rw [dOf_snoc]; exact hown1
      clear hown1 hgrow1
      go_roundw
      case rel => exact ⟨k + 1, by go_num, by omega, HW, HR⟩
      case measure => simp [intOf]; omega
    · obtain rfl : k = n := by omega
      have HO2 : Hid (OwnM wr H 20 l) := by
        have := HO.out
        rw [show l.take k = l from List.take_of_length_le (by rw [HN.out]; exact Nat.le_refl _)] at this
        exact World.ownsMap.mono this h20
      clear HO
      go_wp2
      go_ret
      exact ⟨rfl, HO2.out, HGR.out⟩
end Go.Proofs.YtpadpdmidiaeoaaGreatDoor
