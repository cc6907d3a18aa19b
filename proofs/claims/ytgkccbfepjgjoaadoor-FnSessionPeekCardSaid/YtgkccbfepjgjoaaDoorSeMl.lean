/- Several texts in one (merge.py): SeSp, SeSq, SeOr. -/
import Derived.Test.YtgkccbfepjgjoaaDoorSeV
import Derived.Test.YtgkccbfepjgjoaaDoorSeYb
import Derived.Deep.Fields
import Derived.Test.YtgkccbfepjgjoaaDoorSeMe
/- The parts of a message, as the laws have them: rows of them, opened; is none too long. -/
namespace Go.Proofs.YtgkccbfepjgjoaaDoor
open Go Go.RowKit Go.ChangeShapes Go.WideShapes Go.ChangeAt Go.Deep

/-- A part of a message. -/
structure Sp where
  k : Nat
  z : Nat
  n : Nat
  be : Bool
  co : Bool
  fl : Nat
  d : List Int
  o : List Int
structure Sp.Ok (x : Sp) : Prop where
  k : x.k < 256
  z : x.z < 256
  n : x.n < 18446744073709551616
  fl : x.fl < 256
def Sp.val (x : Sp) (dv ov : Value) : Value := .agg #[.int .u8 (x.k : Nat), .int .u8 (x.z : Nat), .int .u64 (x.n : Nat), .bool x.be, .bool x.co, .int .u8 (x.fl : Nat), dv, ov]
/-- A part lies in this row, from place k on. -/
structure SpAt (w : World) (b k : Nat) (x : Sp) (dv ov : Value) : Prop where
  c0 : w.cell? ⟨b, k, none⟩ = some (.int .u8 (x.k : Nat))
  c1 : w.cell? ⟨b, k + 1, none⟩ = some (.int .u8 (x.z : Nat))
  c2 : w.cell? ⟨b, k + 2, none⟩ = some (.int .u64 (x.n : Nat))
  c3 : w.cell? ⟨b, k + 3, none⟩ = some (.bool x.be)
  c4 : w.cell? ⟨b, k + 4, none⟩ = some (.bool x.co)
  c5 : w.cell? ⟨b, k + 5, none⟩ = some (.int .u8 (x.fl : Nat))
  c6 : w.cell? ⟨b, k + 6, none⟩ = some dv
  c7 : w.cell? ⟨b, k + 7, none⟩ = some ov
theorem SpAt.gr {a w : World} {b k : Nat} {x : Sp} {dv ov : Value} (h : SpAt a b k x dv ov) (g : Gr a w) : SpAt w b k x dv ov :=
  ⟨g.cell h.c0, g.cell h.c1, g.cell h.c2, g.cell h.c3, g.cell h.c4, g.cell h.c5, g.cell h.c6, g.cell h.c7⟩
/-- The slice value v reads as the parts l. -/
def RdSp (w : World) (v : Value) (l : List Sp) : Prop :=
  ∃ p c, v = .slice p l.length c ∧ l.length ≤ c ∧ c ≤ maxLen ∧ (0 < l.length → ∃ b o, p = some ⟨b, o, none⟩ ∧ ∀ i (hi : i < l.length), ∃ dv ov, SpAt w b (o + i * 8) l[i] dv ov ∧ Rd w dv l[i].d ∧ Rd w ov l[i].o ∧ l[i].Ok)
theorem RdSp.gr {a w : World} {v : Value} {l : List Sp} (h : RdSp a v l) (g : Gr a w) : RdSp w v l := by
  obtain ⟨p, c, rfl, h1, h2, h3⟩ := h
  refine ⟨p, c, rfl, h1, h2, fun hn => ?_⟩
  obtain ⟨b, o, rfl, hc⟩ := h3 hn
  refine ⟨b, o, rfl, fun i hi => ?_⟩
  obtain ⟨dv, ov, k1, k2, k3, k4⟩ := hc i hi
  exact ⟨dv, ov, k1.gr g, k2.gr g, k3.gr g, k4⟩

section
variable {H : Type} {enc : TypeId × Value → H} {P : Program} {w : World} {base : Nat} {spare : Nat → Bool} {held : Bool}
/-- A struct of one-cell fields out of its cells: each field's own reading. -/
theorem open_cells {t : TypeId} {fs : Array Field} {fuel : Nat} {cs : List Value} {x : DataW H × List MemPlace} (hs : P.underlying t = some (.struct fs)) (hone : oneCellFields P fs = true)
    (h : DataW.trod enc P w base spare held fuel t cs = some x) : cs.length = P.cellsOf t ∧ ∀ (j : Nat) (f : Field) (c : Value), fs[j]? = some f → cs[j]? = some c → ∃ n y, DataW.trod enc P w base spare held n f.type [c] = some y := by
  obtain ⟨xs, n, _, _, hl, hxl, hf⟩ := DataW.trod_struct hs h
  refine ⟨hl, fun j f c hj hc => ?_⟩
  obtain ⟨ho, hk⟩ := hone_of hone j f hj
  have h1 := hf j f hj
  rw [ho, hk] at h1
  obtain ⟨hcl, hcv⟩ := List.getElem?_eq_some_iff.1 hc
  rw [List.drop_eq_getElem_cons hcl] at h1
  have hjl : j < fs.size := (Array.getElem?_eq_some_iff.1 hj).1
  rw [List.getElem?_eq_getElem (by omega)] at h1
  exact ⟨n, _, by rw [← hcv]; exact h1⟩
end

theorem cells_sp : Tryd.prog.cellsOf 48 = 8 := by kernel_rfl

set_option maxRecDepth 100000 in
theorem open_sp {H : Type} {enc : TypeId × Value → H} {w : World} {base fuel : Nat} {spare : Nat → Bool} {held : Bool} {cs : List Value} {x : DataW H × List MemPlace}
    (h : DataW.trod enc Tryd.prog w base spare held fuel 48 cs = some x) : ∃ (s : Sp) (dv ov : Value), cs = [.int .u8 (s.k : Nat), .int .u8 (s.z : Nat), .int .u64 (s.n : Nat), .bool s.be, .bool s.co, .int .u8 (s.fl : Nat), dv, ov] ∧ Rd w dv s.d ∧ Rd w ov s.o ∧ s.Ok := by
  obtain ⟨hl, hf⟩ := open_cells Tryd.underlying48 (by kernel_rfl) h
  rw [cells_sp] at hl
  match cs, hl with
  | [c0, c1, c2, c3, c4, c5, c6, c7], _ =>
    clear h hl
    obtain ⟨_, _, h0⟩ := hf 0 _ c0 rfl rfl
    obtain ⟨n0, e0, _, w0⟩ := DataW.trod_int Tryd.underlying5 h0
    obtain ⟨_, _, h1⟩ := hf 1 _ c1 rfl rfl
    obtain ⟨n1, e1, _, w1⟩ := DataW.trod_int Tryd.underlying5 h1
    obtain ⟨_, _, h2⟩ := hf 2 _ c2 rfl rfl
    obtain ⟨n2, e2, _, w2⟩ := DataW.trod_int Tryd.underlying36 h2
    obtain ⟨_, _, h3⟩ := hf 3 _ c3 rfl rfl
    obtain ⟨b3, e3, _⟩ := DataW.trod_bool Tryd.underlying4 h3
    obtain ⟨_, _, h4⟩ := hf 4 _ c4 rfl rfl
    obtain ⟨b4, e4, _⟩ := DataW.trod_bool Tryd.underlying4 h4
    obtain ⟨_, _, h5⟩ := hf 5 _ c5 rfl rfl
    obtain ⟨n5, e5, _, w5⟩ := DataW.trod_int Tryd.underlying5 h5
    obtain ⟨_, _, h6⟩ := hf 6 _ c6 rfl rfl
    obtain ⟨v6, x6, e6, r6⟩ := open_bytes_cell h6
    obtain ⟨_, _, h7⟩ := hf 7 _ c7 rfl rfl
    obtain ⟨v7, x7, e7, r7⟩ := open_bytes_cell h7
    simp only [List.cons.injEq, and_true] at e0 e1 e2 e3 e4 e5 e6 e7
    subst e0 e1 e2 e3 e4 e5 e6 e7
    have b0 := bounds_u8 w0
    have b1 := bounds_u8 w1
    have b2 := bounds_u64 w2
    have b5 := bounds_u8 w5
    refine ⟨⟨n0.toNat, n1.toNat, n2.toNat, b3, b4, n5.toNat, x6, x7⟩, c6, c7, ?_, r6, r7, ⟨by show n0.toNat < 256; omega, by show n1.toNat < 256; omega, by show n2.toNat < _; omega, by show n5.toNat < 256; omega⟩⟩
    show [Value.int .u8 n0, .int .u8 n1, .int .u64 n2, .bool b3, .bool b4, .int .u8 n5, c6, c7] = [.int .u8 (n0.toNat : Nat), .int .u8 (n1.toNat : Nat), .int .u64 (n2.toNat : Nat), .bool b3, .bool b4, .int .u8 (n5.toNat : Nat), c6, c7]
    rw [Int.toNat_of_nonneg (by omega), Int.toNat_of_nonneg (by omega), Int.toNat_of_nonneg (by omega), Int.toNat_of_nonneg (by omega)]

set_option maxRecDepth 100000 in
theorem open_parts {H : Type} {enc : TypeId × Value → H} {w : World} {base : Nat} {spare : Nat → Bool} {held : Bool} {r : Reach} {b0 : Nat} {v : Value} {d : DataW H} {p : List MemPlace}
    (hv : Value.okWide Tryd.prog w r b0 65 v) (h : DataW.Trod enc Tryd.prog w base spare held 65 v d p) : ∃ l, RdSp w v l := by
  obtain ⟨a0, len, cap, rfl⟩ := okWide_slice Tryd.underlying65 hv
  obtain ⟨fuel, hf⟩ := h
  rcases DataW.trod_slice Tryd.underlying65 hf with ⟨e, _⟩ | ⟨a, len', cap', elems, rest, n, _, e, _, _, hl, hm, hlen, hel, _, _⟩
  · have : (Value.slice a0 len cap) = .slice none 0 0 := by simpa [Value.cells] using e
    rw [this]
    exact ⟨[], none, 0, rfl, Nat.le_refl _, Nat.zero_le _, fun h => absurd h (by simp)⟩
  · have : (Value.slice a0 len cap) = .slice (some a) len' cap' := by simpa [Value.cells] using e
    rw [this]
    have each : ∀ i, i < len' → ∃ s : Sp, ∃ dv ov, (∀ j u, [Value.int .u8 (s.k : Nat), .int .u8 (s.z : Nat), .int .u64 (s.n : Nat), .bool s.be, .bool s.co, .int .u8 (s.fl : Nat), dv, ov][j]? = some u → w.cell? ((a.add (i * 8)).add j) = some u) ∧ Rd w dv s.d ∧ Rd w ov s.o ∧ s.Ok := by
      intro i hi
      have h1 := hel i hi
      rw [cells_sp, List.getElem?_eq_getElem (by omega)] at h1
      obtain ⟨cs, hcs, htr⟩ := Option.bind_eq_some_iff.1 h1
      obtain ⟨s, dv, ov, rfl, hr1, hr2, hok⟩ := open_sp htr
      obtain ⟨_, hcl, hat⟩ := World.cells?_some hcs
      refine ⟨s, dv, ov, fun j u hj => ?_, hr1, hr2, hok⟩
      have : j < 8 := (List.getElem?_eq_some_iff.1 hj).1
      rw [hat j this]
      exact hj
    obtain ⟨l, hll, hq⟩ := list_of_each len' each
    refine ⟨l, some a, cap', by rw [hll], by omega, hm, fun hn => ?_⟩
    obtain ⟨b, o, s⟩ := a
    have hs : s = none := by
      obtain ⟨dv, ov, h0, _⟩ := hq 0 hn
      have h0 := h0 0 _ rfl
      cases s with
      | none => rfl
      | some z =>
        simp only [Addr.add, World.cell?] at h0
        split at h0 <;> simp at h0
    subst hs
    refine ⟨b, o, rfl, fun i hi => ?_⟩
    obtain ⟨dv, ov, k1, k2, k3, k4⟩ := hq i hi
    simp only [Lib.addr_add] at k1
    exact ⟨dv, ov, ⟨k1 0 _ rfl, k1 1 _ rfl, k1 2 _ rfl, k1 3 _ rfl, k1 4 _ rfl, k1 5 _ rfl, k1 6 _ rfl, k1 7 _ rfl⟩, k2, k3, k4⟩

set_option maxRecDepth 100000 in
theorem fits12 (x : Sp) (dv ov : Value) (w : World) (hd : Rd w dv x.d) (ho : Rd w ov x.o) :
    Calls Tryd.prog 58 #[x.val dv ov] w fun e w' => e = .returned (.bool (decide (x.d.length ≤ 2147483647 ∧ x.o.length ≤ 2147483647))) ∧ Gr w w' := by
  unfold Sp.val
  obtain ⟨p, c, rfl, _⟩ := id hd
  obtain ⟨q, c2, rfl, _⟩ := id ho
  obtain ⟨n, hn⟩ : ∃ n, x.d.length = n := ⟨_, rfl⟩
  obtain ⟨m, hm⟩ : ∃ m, x.o.length = m := ⟨_, rfl⟩
  rw [hn, hm]
  clear hd ho hn hm
  by_cases h1 : 2147483647 < n
  · rw [decide_eq_false (by omega)]
    go_enter Tryd.func58, Tryd.ntmps58
    go_wp2
    go_ret
    exact ⟨rfl, (Gr.refl _).alloc _⟩
  · by_cases h2 : 2147483647 < m
    · rw [decide_eq_false (by omega)]
      have h1 : n ≤ 2147483647 := by omega
      go_enter Tryd.func58, Tryd.ntmps58
      go_wp2
      go_ret
      exact ⟨rfl, (Gr.refl _).alloc _⟩
    · rw [decide_eq_true (by omega)]
      have h1 : n ≤ 2147483647 := by omega
      have h2 : m ≤ 2147483647 := by omega
      go_enter Tryd.func58, Tryd.ntmps58
      go_wp2
      go_ret
      exact ⟨rfl, (Gr.refl _).alloc _⟩
end Go.Proofs.YtgkccbfepjgjoaaDoor

/- Are parts few and short; a number's size and value. Printed by gen_sesq.py. -/
namespace Go.Proofs.YtgkccbfepjgjoaaDoor
open Go Go.RowKit

/-- A bool, and nothing that was there has changed. -/
def RetBB (w : World) (b : Bool) (e : Ending) (w' : World) : Prop := e = .returned (.bool b) ∧ Gr w w'
def Fit (x : Sp) : Bool := decide (x.d.length ≤ 2147483647 ∧ x.o.length ≤ 2147483647)

set_option maxRecDepth 100000 in
theorem fits11 (v : Value) (l : List Sp) (w : World) (h : RdSp w v l) : Calls Tryd.prog 30 #[v] w (RetBB w (decide (l.length ≤ 2147483647) && l.all Fit)) := by
  obtain ⟨p, c, rfl, hlc, hcm, hcells⟩ := h
  obtain ⟨n, hn⟩ : ∃ n, l.length = n := ⟨_, rfl⟩
  have hcm2 : c ≤ 9223372036854775807 := by simp only [maxLen] at hcm; omega
  have HN := Lib.hid hn
  have HC := Lib.hid hcells
  rw [hn] at hlc ⊢
  clear hn hcells hcm
  by_cases hbig : 2147483647 < n
  · rw [show decide (n ≤ 2147483647) = false from decide_eq_false (by omega), Bool.false_and]
    clear HC HN
    go_enter Tryd.func30, Tryd.ntmps30
    go_wp2
    go_ret
    exact ⟨rfl, Gr.refl _⟩
  · rw [show decide (n ≤ 2147483647) = true from decide_eq_true (by omega), Bool.true_and]
    generalize hr : l.all Fit = R
    have HR := Lib.hid hr
    clear hr
    go_enter Tryd.func30, Tryd.ntmps30
    go_wp2
    go_loopw [10] (fun i wr => ∃ j : Nat, i = .int .i64 j ∧ j ≤ n ∧ (l.take j).all Fit = true ∧ Gr w wr) (fun i _ => ((n : Int) - intOf i).toNat)
    case atStart => exact ⟨0, rfl, Nat.zero_le _, by simp, Gr.refl _⟩
    case round =>
      obtain ⟨j, rfl, hj, hall, hgr⟩ := hrel
      by_cases e : j < n
      · obtain ⟨b, o, rfl, hc⟩ := HC.out (by rw [HN.out]; omega)
        have hjl : j < l.length := by rw [HN.out]; exact e
        obtain ⟨dv, ov, k1, k2, k3, _⟩ := hc j hjl
        have hsn : (l.take (j + 1)).all Fit = ((l.take j).all Fit && Fit l[j]) := by rw [List.take_succ_eq_append_getElem hjl, List.all_append]; simp
        have hmem : l[j] ∈ l := List.getElem_mem hjl
        have k1 := k1.gr hgr
        have k2 := k2.gr hgr
        have k3 := k3.gr hgr
        generalize l[j] = x at *
        have HF := fun W (g : Gr w W) (hd : Rd W dv x.d) (ho : Rd W ov x.o) => Lib.hid (fits12 x dv ov W hd ho)
        obtain ⟨c0, c1, c2, c3, c4, c5, c6, c7⟩ := k1
        obtain ⟨pd, cd, rfl, _⟩ := id k2
        obtain ⟨po, co, rfl, _⟩ := id k3
        have K2 := Lib.hid k2
        have K3 := Lib.hid k3
        have HSN := Lib.hid hsn
        have HM := Lib.hid hmem
        have HAL := Lib.hid hall
        have HGR := Lib.hid hgr
        clear hc hjl hsn hmem hall hgr k2 k3
        by_cases hf : Fit x = true
        · have HFX := Lib.hid hf
          have hd := of_decide_eq_true hf
          rw [decide_eq_true hd] at HF
          clear hf hd
          go_wp2_with (first
            | (go_at_call 58; go_must (refine (HF _ (HGR.out.alloc _) (K2.out.gr ((Gr.refl _).alloc _)) (K3.out.gr ((Gr.refl _).alloc _))).out.mono ?_); rintro e w2 ⟨rfl, hg2⟩))
          go_roundw
          case rel => exact ⟨j + 1, by go_num, by omega, by rw [HSN.out, HAL.out, HFX.out]; rfl, (HGR.out.alloc _).trans hg2⟩
          case measure => simp [intOf]; omega
        · have hf : Fit x = false := by simpa using hf
          have hd := of_decide_eq_false hf
          rw [decide_eq_false hd] at HF
          have hR : R = false := by
            rw [← HR.out, ← Bool.not_eq_true, List.all_eq_true]
            intro hh
            rw [hh x HM.out] at hf
            cases hf
          subst hR
          clear hf hd
          go_wp2_with (first
            | (go_at_call 58; go_must (refine (HF _ (HGR.out.alloc _) (K2.out.gr ((Gr.refl _).alloc _)) (K3.out.gr ((Gr.refl _).alloc _))).out.mono ?_); rintro e w2 ⟨rfl, hg2⟩))
          go_ret
          exact ⟨rfl, (HGR.out.alloc _).trans hg2⟩
      · obtain rfl : n = j := by omega
        rw [List.take_of_length_le (by rw [HN.out]; exact Nat.le_refl _), HR.out] at hall
        subst hall
        have HGR := Lib.hid hgr
        clear hgr
        go_wp2
        go_ret
        exact ⟨rfl, HGR.out⟩

/-- A part with more than 1000 bytes. -/
def Bad (x : Sp) : Bool := decide (1000 < x.d.length) || decide (1000 < x.o.length)

set_option maxRecDepth 100000 in
theorem fitsFn (x : Sp) (dv ov : Value) (w : World) (hd : Rd w dv x.d) (ho : Rd w ov x.o) :
    Calls Tryd.prog 60 #[x.val dv ov] w (RetBB w (Bad x)) := by
  unfold Sp.val Bad
  obtain ⟨p, c, rfl, _⟩ := id hd
  obtain ⟨q, c2, rfl, _⟩ := id ho
  generalize x.d.length = n at *
  generalize x.o.length = m at *
  clear hd ho
  have e1 : decide ((1000 : Int) < (n : Int)) = decide (1000 < n) := by rw [decide_eq_decide]; omega
  have e2 : decide ((1000 : Int) < (m : Int)) = decide (1000 < m) := by rw [decide_eq_decide]; omega
  rw [← e1, ← e2]
  clear e1 e2
  go_enter Tryd.func60, Tryd.ntmps60
  go_wp2
  all_goals
    go_ret
    exact ⟨rfl, (Gr.refl _).alloc _⟩

/-- The place of the first such part, or -1. -/
def RetIx (w : World) (b : Bool) (e : Ending) (w' : World) : Prop := ∃ z : Int, e = .returned (.int .i64 z) ∧ b = decide (0 ≤ z) ∧ Gr w w'

set_option maxRecDepth 100000 in
theorem indexFn (v : Value) (l : List Sp) (w : World) (h : RdSp w v l) :
    Calls Tryd.prog 84 #[v, .func (.func 60) #[] #[]] w (RetIx w (l.any Bad)) := by
  obtain ⟨p, c, rfl, hlc, hcm, hcells⟩ := h
  obtain ⟨n, hn⟩ : ∃ n, l.length = n := ⟨_, rfl⟩
  have hcm2 : c ≤ 9223372036854775807 := by simp only [maxLen] at hcm; omega
  have HN := Lib.hid hn
  have HC := Lib.hid hcells
  rw [hn] at hlc ⊢
  generalize hr : l.any Bad = R
  have HR := Lib.hid hr
  clear hr
  clear hn hcells hcm
  go_enter Tryd.func84, Tryd.ntmps84
  go_wp2
  go_loopw [8] (fun i wr => ∃ j : Nat, i = .int .i64 j ∧ j ≤ n ∧ (l.take j).any Bad = false ∧ Gr w wr) (fun i _ => ((n : Int) - intOf i).toNat)
  case atStart => exact ⟨0, rfl, Nat.zero_le _, by simp, Gr.refl _⟩
  case round =>
    obtain ⟨j, rfl, hj, hall, hgr⟩ := hrel
    by_cases e : j < n
    · obtain ⟨b, o, rfl, hc⟩ := HC.out (by rw [HN.out]; omega)
      have hjl : j < l.length := by rw [HN.out]; exact e
      obtain ⟨dv, ov, k1, k2, k3, _⟩ := hc j hjl
      have hsn : (l.take (j + 1)).any Bad = ((l.take j).any Bad || Bad l[j]) := by rw [List.take_succ_eq_append_getElem hjl, List.any_append]; simp
      have hmem : l[j] ∈ l := List.getElem_mem hjl
      have k1 := k1.gr hgr
      have k2 := k2.gr hgr
      have k3 := k3.gr hgr
      generalize l[j] = x at *
      have HF := fun W (hd : Rd W dv x.d) (ho : Rd W ov x.o) => Lib.hid (fitsFn x dv ov W hd ho)
      obtain ⟨c0, c1, c2, c3, c4, c5, c6, c7⟩ := k1
      obtain ⟨pd, cd, rfl, _⟩ := id k2
      obtain ⟨po, co, rfl, _⟩ := id k3
      have K2 := Lib.hid k2
      have K3 := Lib.hid k3
      have HSN := Lib.hid hsn
      have HM := Lib.hid hmem
      have HAL := Lib.hid hall
      have HGR := Lib.hid hgr
      clear hc hjl hsn hmem hall hgr k2 k3
      generalize hf : Bad x = B at *
      have HFX := Lib.hid hf
      clear hf
      cases B
      · go_wp2_with (first
          | (go_at_call 60; go_must (refine (HF _ K2.out K3.out).out.mono ?_); rintro e w2 ⟨rfl, hg2⟩))
        go_roundw
        case rel => exact ⟨j + 1, by go_num, by omega, by rw [HSN.out, HAL.out]; rfl, HGR.out.trans hg2⟩
        case measure => simp [intOf]; omega
      · have hR : R = true := by
          rw [← HR.out, List.any_eq_true]
          exact ⟨x, HM.out, HFX.out⟩
        subst hR
        go_wp2_with (first
          | (go_at_call 60; go_must (refine (HF _ K2.out K3.out).out.mono ?_); rintro e w2 ⟨rfl, hg2⟩))
        go_ret
        exact ⟨_, rfl, (decide_eq_true (by omega)).symm, HGR.out.trans hg2⟩
    · obtain rfl : n = j := by omega
      rw [List.take_of_length_le (by rw [HN.out]; exact Nat.le_refl _), HR.out] at hall
      subst hall
      have HGR := Lib.hid hgr
      clear hgr
      go_wp2
      go_ret
      exact ⟨_, rfl, (decide_eq_false (by omega)).symm, HGR.out⟩

set_option maxRecDepth 100000 in
theorem containsFn (v : Value) (l : List Sp) (w : World) (h : RdSp w v l) :
    Calls Tryd.prog 59 #[v, .func (.func 60) #[] #[]] w (RetBB w (l.any Bad)) := by
  have HI := Lib.hid (indexFn v l w h)
  obtain ⟨p, c, rfl, _⟩ := h
  generalize l.any Bad = R at *
  go_enter Tryd.func59, Tryd.ntmps59
  go_wp2_with (first
    | (go_at_call 84; go_must (refine HI.out.mono ?_); rintro e w2 ⟨z, rfl, hz, hg2⟩; have HZ := Lib.hid hz; clear hz))
  go_ret
  exact ⟨by rw [HZ.out]; first | rfl | (congr 2; rw [Bool.eq_iff_iff]; simp), hg2⟩

set_option maxRecDepth 100000 in
theorem sessionFits (v : Value) (l : List Sp) (w : World) (h : RdSp w v l) :
    Calls Tryd.prog 31 #[v] w (RetBB w (decide (l.length ≤ 20) && !l.any Bad)) := by
  have HI := Lib.hid (containsFn v l w h)
  obtain ⟨p, c, rfl, hlc, hcm, hcells⟩ := h
  have hcm2 : c ≤ 9223372036854775807 := by simp only [maxLen] at hcm; omega
  clear hcells
  generalize l.any Bad = R at *
  generalize l.length = n at *
  clear hcm
  by_cases hn : n ≤ 20
  · rw [decide_eq_true hn, Bool.true_and]
    go_enter Tryd.func31, Tryd.ntmps31
    go_wp2_with (first
      | (go_at_call 59; go_must (refine HI.out.mono ?_); rintro e w2 ⟨rfl, hg2⟩))
    go_ret
    exact ⟨rfl, hg2⟩
  · rw [decide_eq_false hn, Bool.false_and]
    have hn : 20 < n := by omega
    go_enter Tryd.func31, Tryd.ntmps31
    go_wp2_with fail
    go_ret
    exact ⟨rfl, Gr.refl _⟩

set_option maxRecDepth 100000 in
theorem sessionChunk (c : Nat) (h : c < 256) (w : World) : Calls Tryd.prog 32 #[.int .u8 (c : Nat)] w fun e w' => e = .returned (.int .i64 (c % 252 + 1 : Nat)) ∧ w = w' := by
  have h1 : ((c % 252 + 1 : Nat) : Int) = (c : Int) % 252 + 1 := by omega
  rw [h1]
  clear h1
  go_enter Tryd.func32, Tryd.ntmps32
  go_wp2
  go_ret
  exact ⟨rfl, rfl⟩

theorem maskN (k : Nat) (hk : k < 64) (a : Int) (h0 : 0 ≤ a) (h1 : a < 18446744073709551616) : bits .and .u64 a (2 ^ k - 1) = a % 2 ^ k := bits_mask .u64 64 (by decide) wraps_u64 k (by omega) a h0 h1
theorem mask7 (a : Int) (h0 : 0 ≤ a) (h1 : a < 18446744073709551616) : bits .and .u64 a 127 = a % 128 := maskN 7 (by decide) a h0 h1
theorem mask15 (a : Int) (h0 : 0 ≤ a) (h1 : a < 18446744073709551616) : bits .and .u64 a 32767 = a % 32768 := maskN 15 (by decide) a h0 h1
theorem mask31 (a : Int) (h0 : 0 ≤ a) (h1 : a < 18446744073709551616) : bits .and .u64 a 2147483647 = a % 2147483648 := maskN 31 (by decide) a h0 h1
theorem mask63 (a : Int) (h0 : 0 ≤ a) (h1 : a < 18446744073709551616) : bits .and .u64 a 9223372036854775807 = a % 9223372036854775808 := maskN 63 (by decide) a h0 h1

/-- A part's number, of its size; with a sign it is not negative. -/
def numOf (x : Sp) : Nat := if x.k % 6 = 2 then x.n % 256 ^ szOf x.z % (256 ^ szOf x.z / 2) else x.n % 256 ^ szOf x.z
theorem szOf_cases (z : Nat) : szOf z = 1 ∨ szOf z = 2 ∨ szOf z = 4 ∨ szOf z = 8 := by unfold szOf; (repeat' split) <;> omega
theorem numOf_lt (x : Sp) : numOf x < 256 ^ szOf x.z := by
  unfold numOf
  rcases szOf_cases x.z with h | h | h | h <;> rw [h] <;> split <;> omega

set_option maxRecDepth 100000 in
set_option maxHeartbeats 1000000 in
theorem sessionSize (x : Sp) (dv ov : Value) (w : World) (hx : x.Ok) :
    Calls Tryd.prog 20 #[x.val dv ov] w fun e w' => e = .returned (.tuple #[.int .u8 (szOf x.z : Nat), .int .u64 (numOf x : Nat)]) ∧ Gr w w' := by
  obtain ⟨hk, hz, hn, _⟩ := hx
  unfold Sp.val numOf
  generalize x.k = k at *
  generalize x.z = z at *
  generalize x.n = a at *
  generalize x.be = be at *
  generalize x.co = co at *
  generalize x.fl = fl at *
  rcases (by omega : z % 4 = 0 ∨ z % 4 = 1 ∨ z % 4 = 2 ∨ z % 4 = 3) with hz4 | hz4 | hz4 | hz4 <;> by_cases hk6 : k % 6 = 2
  · have hzi : (z : Int) % 4 = 0 := by omega
    have hs : szOf z = 1 := by simp [szOf, hz4]
    have hki : (k : Int) % 6 = 2 := by omega
    have hv : ((a % 256 ^ 1 % (256 ^ 1 / 2) : Nat) : Int) = (a : Int) % 256 % 128 := by omega
    rw [hs, if_pos hk6, hv]
    have m1 := mask8 a (by omega) (by omega)
    have m2 := mask7 ((a : Int) % 256) (by omega) (by omega)
    clear hs hv hz4 hk6
    go_enter Tryd.func20, Tryd.ntmps20
    go_wp2
    go_ret2
    exact ⟨by first | rfl | simp, ((Gr.refl w).alloc _).alloc _⟩
  · have hzi : (z : Int) % 4 = 0 := by omega
    have hs : szOf z = 1 := by simp [szOf, hz4]
    have hki : ((k : Int) % 6 == 2) = false := beq_eq_false_iff_ne.2 (by omega)
    have hv : ((a % 256 ^ 1 : Nat) : Int) = (a : Int) % 256 := by omega
    rw [hs, if_neg hk6, hv]
    have m1 := mask8 a (by omega) (by omega)
    clear hs hv hz4 hk6
    go_enter Tryd.func20, Tryd.ntmps20
    go_wp2
    go_ret2
    exact ⟨by first | rfl | simp, ((Gr.refl w).alloc _).alloc _⟩
  · have hzi : (z : Int) % 4 = 1 := by omega
    have hs : szOf z = 2 := by simp [szOf, hz4]
    have hki : (k : Int) % 6 = 2 := by omega
    have hv : ((a % 256 ^ 2 % (256 ^ 2 / 2) : Nat) : Int) = (a : Int) % 65536 % 32768 := by omega
    rw [hs, if_pos hk6, hv]
    have m1 := mask16 a (by omega) (by omega)
    have m2 := mask15 ((a : Int) % 65536) (by omega) (by omega)
    clear hs hv hz4 hk6
    go_enter Tryd.func20, Tryd.ntmps20
    go_wp2
    go_ret2
    exact ⟨by first | rfl | simp, ((Gr.refl w).alloc _).alloc _⟩
  · have hzi : (z : Int) % 4 = 1 := by omega
    have hs : szOf z = 2 := by simp [szOf, hz4]
    have hki : ((k : Int) % 6 == 2) = false := beq_eq_false_iff_ne.2 (by omega)
    have hv : ((a % 256 ^ 2 : Nat) : Int) = (a : Int) % 65536 := by omega
    rw [hs, if_neg hk6, hv]
    have m1 := mask16 a (by omega) (by omega)
    clear hs hv hz4 hk6
    go_enter Tryd.func20, Tryd.ntmps20
    go_wp2
    go_ret2
    exact ⟨by first | rfl | simp, ((Gr.refl w).alloc _).alloc _⟩
  · have hzi : (z : Int) % 4 = 2 := by omega
    have hs : szOf z = 4 := by simp [szOf, hz4]
    have hki : (k : Int) % 6 = 2 := by omega
    have hv : ((a % 256 ^ 4 % (256 ^ 4 / 2) : Nat) : Int) = (a : Int) % 4294967296 % 2147483648 := by omega
    rw [hs, if_pos hk6, hv]
    have m1 := mask32 a (by omega) (by omega)
    have m2 := mask31 ((a : Int) % 4294967296) (by omega) (by omega)
    clear hs hv hz4 hk6
    go_enter Tryd.func20, Tryd.ntmps20
    go_wp2
    go_ret2
    exact ⟨by first | rfl | simp, ((Gr.refl w).alloc _).alloc _⟩
  · have hzi : (z : Int) % 4 = 2 := by omega
    have hs : szOf z = 4 := by simp [szOf, hz4]
    have hki : ((k : Int) % 6 == 2) = false := beq_eq_false_iff_ne.2 (by omega)
    have hv : ((a % 256 ^ 4 : Nat) : Int) = (a : Int) % 4294967296 := by omega
    rw [hs, if_neg hk6, hv]
    have m1 := mask32 a (by omega) (by omega)
    clear hs hv hz4 hk6
    go_enter Tryd.func20, Tryd.ntmps20
    go_wp2
    go_ret2
    exact ⟨by first | rfl | simp, ((Gr.refl w).alloc _).alloc _⟩
  · have hzi : (z : Int) % 4 = 3 := by omega
    have hs : szOf z = 8 := by simp [szOf, hz4]
    have hki : (k : Int) % 6 = 2 := by omega
    have hv : ((a % 256 ^ 8 % (256 ^ 8 / 2) : Nat) : Int) = (a : Int) % 18446744073709551616 % 9223372036854775808 := by omega
    rw [hs, if_pos hk6, hv]
    have m2 := mask63 a (by omega) (by omega)
    rw [show (a : Int) % 18446744073709551616 = a by omega]
    clear hs hv hz4 hk6
    go_enter Tryd.func20, Tryd.ntmps20
    go_wp2
    go_ret2
    exact ⟨by first | rfl | simp, ((Gr.refl w).alloc _).alloc _⟩
  · have hzi : (z : Int) % 4 = 3 := by omega
    have hs : szOf z = 8 := by simp [szOf, hz4]
    have hki : ((k : Int) % 6 == 2) = false := beq_eq_false_iff_ne.2 (by omega)
    have hv : ((a % 256 ^ 8 : Nat) : Int) = (a : Int) % 18446744073709551616 := by omega
    rw [hs, if_neg hk6, hv]
    rw [show (a : Int) % 18446744073709551616 = a by omega]
    clear hs hv hz4 hk6
    go_enter Tryd.func20, Tryd.ntmps20
    go_wp2
    go_ret2
    exact ⟨by first | rfl | simp, ((Gr.refl w).alloc _).alloc _⟩
end Go.Proofs.YtgkccbfepjgjoaaDoor

/- A row of structs of the call's own, of any number of cells each; append to it. -/
namespace Go.Proofs.YtgkccbfepjgjoaaDoor
open Go Go.RowKit

theorem flatten_at {α : Type} (sz : Nat) : ∀ (cs : List (List α)), (∀ c ∈ cs, c.length = sz) → ∀ (i j : Nat) (c : List α) (u : α), cs[i]? = some c → c[j]? = some u → cs.flatten[i * sz + j]? = some u
  | [], _, i, j, c, u, h, _ => by simp at h
  | a :: cs, hl, 0, j, c, u, h1, h2 => by
    simp only [List.getElem?_cons_zero, Option.some.injEq] at h1
    subst h1
    have hj : j < a.length := (List.getElem?_eq_some_iff.1 h2).1
    rw [List.flatten_cons, Nat.zero_mul, Nat.zero_add, List.getElem?_append_left hj]
    exact h2
  | a :: cs, hl, i + 1, j, c, u, h1, h2 => by
    simp only [List.getElem?_cons_succ] at h1
    have ih := flatten_at sz cs (fun c hc => hl c (List.mem_cons_of_mem _ hc)) i j c u h1 h2
    have ha := hl a (List.mem_cons_self ..)
    rw [List.flatten_cons, List.getElem?_append_right (by rw [ha, Nat.add_mul]; omega), ha]
    rw [show (i + 1) * sz + j - sz = i * sz + j by rw [Nat.add_mul]; omega]
    exact ih
theorem flatten_len {α : Type} (sz : Nat) : ∀ (cs : List (List α)), (∀ c ∈ cs, c.length = sz) → cs.flatten.length = cs.length * sz
  | [], _ => by simp
  | a :: cs, hl => by
    have ih := flatten_len sz cs (fun c hc => hl c (List.mem_cons_of_mem _ hc))
    have ha := hl a (List.mem_cons_self ..)
    rw [List.flatten_cons, List.length_append, ih, ha, List.length_cons, Nat.add_mul]
    omega

/-- Entries of sz cells each lie in a row of the call's own. -/
structure OwnR (T : TypeId) (sz B : Nat) (w : World) (v : Value) (cs : List (List Value)) : Prop where
  fl : ∀ c ∈ cs, c.length = sz
  row : w.ownsRow B T sz v cs.length cs.flatten

theorem OwnR.nil (T : TypeId) (sz B : Nat) (w : World) : OwnR T sz B w (.slice none 0 0) [] := ⟨fun c h => by simp at h, World.ownsRow_nil _ _ _ _⟩
theorem OwnR.gr {T : TypeId} {sz B : Nat} {a w : World} {v : Value} {cs : List (List Value)} (h : OwnR T sz B a v cs) (g : Gr a w) : OwnR T sz B w v cs := by
  refine ⟨h.fl, h.row.1, ?_⟩
  rcases h.row.2 with h2 | ⟨b, cap, cur, hv, hg, hh, r⟩
  · exact Or.inl h2
  · exact Or.inr ⟨b, cap, cur, hv, hg, g.heap hh, r⟩
theorem OwnR.mono {T : TypeId} {sz B B' : Nat} {w : World} {v : Value} {cs : List (List Value)} (h : OwnR T sz B w v cs) (hB : B' ≤ B) : OwnR T sz B' w v cs := by
  refine ⟨h.fl, h.row.1, ?_⟩
  rcases h.row.2 with h2 | ⟨b, cap, cur, hv, hg, r⟩
  · exact Or.inl h2
  · exact Or.inr ⟨b, cap, cur, hv, Nat.le_trans hB hg, r⟩
theorem OwnR.blk {T : TypeId} {sz B : Nat} {w : World} {v : Value} {cs : List (List Value)} (h : OwnR T sz B w v cs) : ∀ k, v.ownBlock = some k → B ≤ k ∧ ∃ c, w.heap[k]? = some (.cells c T (0, 0)) := by
  intro k hk
  rcases h.row.2 with ⟨rfl, _⟩ | ⟨b, cap, cur, rfl, hg, hh, r⟩
  · cases hk
  · simp only [Value.ownBlock, Option.some.injEq] at hk
    subst hk
    exact ⟨hg, cur, hh⟩
theorem OwnR.shape {T : TypeId} {sz B : Nat} {w : World} {v : Value} {cs : List (List Value)} (h : OwnR T sz B w v cs) : ∃ p c, v = .slice p cs.length c ∧ cs.length ≤ c ∧ c ≤ maxLen ∧ (p = none → cs = []) := by
  rcases h.row.2 with ⟨rfl, h0⟩ | ⟨b, cap, cur, rfl, hg, hh, h3, h4, _⟩
  · have := List.eq_nil_of_length_eq_zero h0
    subst this
    exact ⟨none, 0, rfl, Nat.le_refl _, Nat.zero_le _, fun _ => rfl⟩
  · exact ⟨_, cap, rfl, h3, h4, fun e => by cases e⟩
theorem OwnR.at' {T : TypeId} {sz B : Nat} {w : World} {v : Value} {cs : List (List Value)} (h : OwnR T sz B w v cs) (hne : 0 < cs.length) : ∃ b cap, v = .slice (some ⟨b, 0, none⟩) cs.length cap ∧ cs.length ≤ cap ∧ cap ≤ maxLen ∧ B ≤ b ∧ b < w.heap.size ∧
    ∀ i j c u, cs[i]? = some c → c[j]? = some u → w.cell? ⟨b, i * sz + j, none⟩ = some u := by
  rcases h.row.2 with ⟨rfl, h0⟩ | ⟨b, cap, cur, rfl, hg, hh, h3, h4, h5, h6⟩
  · omega
  · refine ⟨b, cap, rfl, h3, h4, hg, lt_of_some hh, fun i j c u hi hj => ?_⟩
    have hf := flatten_at sz cs h.fl i j c u hi hj
    have hl : i * sz + j < cs.length * sz := by
      have := (List.getElem?_eq_some_iff.1 hf).1
      rwa [flatten_len sz cs h.fl] at this
    rw [blk_cell hh, ← Array.getElem?_toList]
    rw [← h6, List.getElem?_take_of_lt hl] at hf
    exact hf

theorem run_append_row {T : TypeId} {sz bytes : Nat} {z : Value} {w : World} {t ty : TypeId} {B : Nat} {v : Value} {cs : List (List Value)} (hsl : Tryd.prog.underlying t = some (.slice T))
    (hinfo : (Tryd.prog.info? T).map (fun i => (i.zero, i.size, i.bytes)) = some (some z, sz, bytes)) (hzs : z.cells.size = sz) (hsz : 0 < sz) (hby : bytes ≤ 10000)
    (hown : OwnR T sz B w v cs) (ds : List (List Value)) (hd : ∀ c ∈ ds, c.length = sz ∧ ∀ u ∈ c, u.oneCell' = true) (a : Addr) (m c : Nat) (hm : ds.length = m)
    (hc : ∀ j u, ds.flatten[j]? = some u → w.cell? (a.add j) = some u) (hlim : cs.length + m ≤ 1000000) (hB : B ≤ w.heap.size) :
    ∃ v' w', (Builtin.append_ #[t, t] ty #[v, .slice (some a) m c]).run Tryd.prog w = .ok v' w' ∧ OwnR T sz B w' v' (cs ++ ds) ∧ w.grownBy w' v.ownBlock := by
  obtain ⟨i, hi0, hz0, hz1, hz2⟩ := info_parts hinfo
  have hdl : ∀ c ∈ ds, c.length = sz := fun c hc => (hd c hc).1
  have hbb : (cs.length + m) * bytes ≤ 140737488355328 := Nat.le_trans (Nat.mul_le_mul hlim hby) (by omega)
  obtain ⟨v', w', hrun, h2, h3, _, h5⟩ := run_append_own_at (P := Tryd.prog) w B t ty T i z sz bytes hsl hi0 hz0 hz1 hz2 hzs hsz v cs.length cs.flatten hown.row a m c ds.flatten (by rw [flatten_len sz ds hdl, hm]) hc (by
    intro u hu
    obtain ⟨c, hc, huc⟩ := List.mem_flatten.1 hu
    exact (hd c hc).2 u huc) (by simp only [maxLen]; omega) hbb hB
  refine ⟨v', w', hrun, ⟨fun c hc => ?_, by rw [List.length_append, List.flatten_append, hm]; exact h2⟩, h3⟩
  rcases List.mem_append.1 hc with h | h
  · exact hown.fl c h
  · exact hdl c h

theorem wpList_append_row {T : TypeId} {sz bytes : Nat} {z : Value} {w : World} {t : TypeId} {ops : Array Oper} {rest : List Oper} {o : Oper} {a : Act} {Q : Exit → Act → World → Prop} (hgd : o.guard = none) (s x : Operand)
    (ho : o.op = .call { callee := .builtin .append, args := #[s, x], argTypes := #[t, t] }) (hsl : Tryd.prog.underlying t = some (.slice T))
    (hinfo : (Tryd.prog.info? T).map (fun i => (i.zero, i.size, i.bytes)) = some (some z, sz, bytes)) (hzs : z.cells.size = sz) (hsz : 0 < sz) (hby : bytes ≤ 10000)
    {B : Nat} {v : Value} {cs : List (List Value)} (hs : a.eval s = v) (hown : OwnR T sz B w v cs) (ds : List (List Value)) (hd : ∀ c ∈ ds, c.length = sz ∧ ∀ u ∈ c, u.oneCell' = true)
    (A : Addr) (m c : Nat) (hx : a.eval x = .slice (some A) m c) (hm : ds.length = m) (hc : ∀ j u, ds.flatten[j]? = some u → w.cell? (A.add j) = some u) (hlim : cs.length + m ≤ 1000000) (hB : B ≤ w.heap.size)
    (h : ∀ v' w', OwnR T sz B w' v' (cs ++ ds) → w.grownBy w' v.ownBlock → wpList Tryd.prog ops Q rest (a.put o.dst v') w') : wpList Tryd.prog ops Q (o :: rest) a w := by
  obtain ⟨v', w', hrun, h2, h3⟩ := run_append_row (ty := o.type) hsl hinfo hzs hsz hby hown ds hd A m c hm hc hlim hB
  refine wpList_plain hgd fun K hK => ?_
  unfold Oper.wp execOp
  simp only [ho, resolve, invoke, builtin, Sem.run_bind, Sem.run_pure, Result.andThen_ok, List.map_toArray, List.map_cons, List.map_nil, hs, hx, hrun]
  exact hK _ _ (h v' w' h2 h3)

/-- Bytes of the call's own stay where a row of structs is written. -/
theorem Own.rowKept {B : Nat} {a w : World} {v u : Value} {xs : List Int} (r : Own B a v xs) {T : TypeId} {sz C : Nat} {cs : List (List Value)} (h : a.grownBy w u.ownBlock) (hu : OwnR T sz C a u cs) (hT : T ≠ 5) : Own B w v xs := by
  refine r.kept h fun k hk c fr e => ?_
  obtain ⟨_, c2, h2⟩ := hu.blk k hk
  rw [h2] at e
  simp only [Option.some.injEq, Obj.cells.injEq] at e
  exact hT e.2.1
/-- All that was there stays where the call's own row is written. -/
theorem OwnR.below {T : TypeId} {sz B : Nat} {a w : World} {v : Value} {cs : List (List Value)} (hv : OwnR T sz B a v cs) (h : a.grownBy w v.ownBlock) (hB : B ≤ a.heap.size) : Below B a w :=
  Below.grown (Below.refl B a) h hB (fun k hk => (hv.blk k hk).1)
/-- A row of the call's own stays where another one of another kind is written. -/
theorem OwnR.other {T U : TypeId} {sz sz2 B C : Nat} {a w : World} {v u : Value} {cs ds : List (List Value)} (hv : OwnR T sz B a v cs) (hu : OwnR U sz2 C a u ds) (h : a.grownBy w u.ownBlock) (hT : T ≠ U) : OwnR T sz B w v cs := by
  refine ⟨hv.fl, hv.row.1, ?_⟩
  rcases hv.row.2 with h2 | ⟨b, cap, cur, hvv, hg, hh, r⟩
  · exact Or.inl h2
  · refine Or.inr ⟨b, cap, cur, hvv, hg, ?_, r⟩
    rw [h.block b (lt_of_some hh) (fun e => ?_)]
    · exact hh
    · obtain ⟨_, c2, h2⟩ := hu.blk b e.symm
      rw [hh] at h2
      simp only [Option.some.injEq, Obj.cells.injEq] at h2
      exact hT h2.2.1
end Go.Proofs.YtgkccbfepjgjoaaDoor
