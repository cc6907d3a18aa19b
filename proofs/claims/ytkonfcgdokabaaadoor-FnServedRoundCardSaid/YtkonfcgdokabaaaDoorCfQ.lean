/- Rows of servers as a law's argument: what they are, their sizes, are they fit. -/
import Derived.Test.YtkonfcgdokabaaaDoorCfR
import Derived.Test.YtkonfcgdokabaaaDoorOpenF
import Derived.Deep.Fields
namespace Go.Proofs.YtkonfcgdokabaaaDoor
open Go Go.RowKit Go.ChangeShapes Go.WideShapes Go.ChangeAt Go.Deep

def Srv.cs (s : Srv) : List Value := [.string s.p, .string (bs s.a), .int .i64 s.n]
/-- A server's number is one. -/
def Srv.num (s : Srv) : Prop := -9223372036854775808 ≤ s.n ∧ s.n ≤ 9223372036854775807
/-- A server lies in this row, from place k on. -/
structure SvAt (w : World) (b k : Nat) (s : Srv) : Prop where
  c0 : w.cell? ⟨b, k, none⟩ = some (.string s.p)
  c1 : w.cell? ⟨b, k + 1, none⟩ = some (.string (bs s.a))
  c2 : w.cell? ⟨b, k + 2, none⟩ = some (.int .i64 s.n)
theorem SvAt.gr {a w : World} {b k : Nat} {s : Srv} (h : SvAt a b k s) (g : Gr a w) : SvAt w b k s := ⟨g.cell h.c0, g.cell h.c1, g.cell h.c2⟩
/-- The slice value v reads as the servers l. -/
def RdSv (w : World) (v : Value) (l : List Srv) : Prop :=
  ∃ p c, v = .slice p l.length c ∧ l.length ≤ c ∧ c ≤ maxLen ∧ (0 < l.length → ∃ b o, p = some ⟨b, o, none⟩ ∧ ∀ i (hi : i < l.length), SvAt w b (o + i * 3) l[i])
theorem RdSv.gr {a w : World} {v : Value} {l : List Srv} (h : RdSv a v l) (g : Gr a w) : RdSv w v l := by
  obtain ⟨p, c, rfl, h1, h2, h3⟩ := h
  refine ⟨p, c, rfl, h1, h2, fun hn => ?_⟩
  obtain ⟨b, o, rfl, hc⟩ := h3 hn
  exact ⟨b, o, rfl, fun i hi => (hc i hi).gr g⟩

theorem list_of_each {α : Type} {Q : Nat → α → Prop} : ∀ n, (∀ i, i < n → ∃ x, Q i x) → ∃ l : List α, l.length = n ∧ ∀ i (hi : i < l.length), Q i l[i]
  | 0, _ => ⟨[], rfl, fun i hi => absurd hi (Nat.not_lt_zero _)⟩
  | n + 1, h => by
    obtain ⟨l, hl, hq⟩ := list_of_each n (fun i hi => h i (by omega))
    obtain ⟨x, hx⟩ := h n (by omega)
    refine ⟨l ++ [x], by simp [hl], fun i hi => ?_⟩
    by_cases hil : i < l.length
    · rw [List.getElem_append_left hil]; exact hq i hil
    · simp at hi
      obtain rfl : i = n := by omega
      rw [List.getElem_append_right (by omega)]
      simpa using hx

section
variable {H : Type} {enc : TypeId × Value → H} {P : Program} {w : World} {base : Nat} {spare : Nat → Bool} {held : Bool}
/-- A struct of one-cell fields out of its cells: each field's own reading. -/
theorem open_cells {t : TypeId} {fs : Array Field} {fuel : Nat} {cs : List Value} {x : DataW H × List MemPlace} (hs : P.underlying t = some (.struct fs)) (hone : oneCellFields P fs = true)
    (h : DataW.trod enc P w base spare held fuel t cs = some x) : cs.length = P.cellsOf t ∧ ∀ (j : Nat) (f : Field) (c : Value), fs[j]? = some f → cs[j]? = some c → ∃ n y, DataW.trod enc P w base spare held n f.type [c] = some y := by
  obtain ⟨xs, n, _, _, hl, hxl, hf⟩ := DataW.trod_struct hs h
  refine ⟨hl, fun j f c hj hc => ?_⟩
  obtain ⟨ho, hk⟩ := hone_of hone j f hj
  have h1 := hf j f hj
  rw [ho, hk] at h1
  obtain ⟨hcl, hcv⟩ := List.getElem?_eq_some_iff.1 hc
  rw [List.drop_eq_getElem_cons hcl] at h1
  have hjl : j < fs.size := (Array.getElem?_eq_some_iff.1 hj).1
  rw [List.getElem?_eq_getElem (by omega)] at h1
  exact ⟨n, _, by rw [← hcv]; exact h1⟩
end

theorem cells_sv : Tryd.prog.cellsOf 26 = 3 := by kernel_rfl

set_option maxRecDepth 100000 in
theorem open_sv {H : Type} {enc : TypeId × Value → H} {w : World} {base fuel : Nat} {spare : Nat → Bool} {held : Bool} {cs : List Value} {x : DataW H × List MemPlace}
    (h : DataW.trod enc Tryd.prog w base spare held fuel 26 cs = some x) : ∃ s : Srv, cs = s.cs ∧ s.num := by
  obtain ⟨hl, hf⟩ := open_cells Tryd.underlying26 (by kernel_rfl) h
  rw [cells_sv] at hl
  match cs, hl with
  | [c0, c1, c2], _ =>
    clear h hl
    obtain ⟨_, _, h0⟩ := hf 0 _ c0 rfl rfl
    obtain ⟨p, e0, _⟩ := DataW.trod_string Tryd.underlying9 h0
    obtain ⟨_, _, h1⟩ := hf 1 _ c1 rfl rfl
    obtain ⟨a, e1, _⟩ := DataW.trod_string Tryd.underlying9 h1
    obtain ⟨_, _, h2⟩ := hf 2 _ c2 rfl rfl
    obtain ⟨m, e2, _, w2⟩ := DataW.trod_int Tryd.underlying3 h2
    simp only [List.cons.injEq, and_true] at e0 e1 e2
    subst e0 e1 e2
    have q := bounds_i64 w2
    refine ⟨⟨p, a.data.toList, m⟩, ?_, by unfold Srv.num; simp only; omega⟩
    simp only [Srv.cs]
    rw [bs_of]

set_option maxRecDepth 100000 in
theorem open_svs {H : Type} {enc : TypeId × Value → H} {w : World} {base : Nat} {spare : Nat → Bool} {held : Bool} {r : Reach} {b0 : Nat} {v : Value} {d : DataW H} {p : List MemPlace}
    (hv : Value.okWide Tryd.prog w r b0 22 v) (h : DataW.Trod enc Tryd.prog w base spare held 22 v d p) : ∃ l, RdSv w v l ∧ ∀ s ∈ l, s.num := by
  obtain ⟨a0, len, cap, rfl⟩ := okWide_slice Tryd.underlying22 hv
  obtain ⟨fuel, hf⟩ := h
  rcases DataW.trod_slice Tryd.underlying22 hf with ⟨e, _⟩ | ⟨a, len', cap', elems, rest, n, _, e, _, _, hl, hm, hlen, hel, _, _⟩
  · have : (Value.slice a0 len cap) = .slice none 0 0 := by simpa [Value.cells] using e
    rw [this]
    exact ⟨[], ⟨none, 0, rfl, Nat.le_refl _, Nat.zero_le _, fun h => absurd h (by simp)⟩, by simp⟩
  · have : (Value.slice a0 len cap) = .slice (some a) len' cap' := by simpa [Value.cells] using e
    rw [this]
    have each : ∀ i, i < len' → ∃ s : Srv, (∀ j u, s.cs[j]? = some u → w.cell? ((a.add (i * 3)).add j) = some u) ∧ s.num := by
      intro i hi
      have h1 := hel i hi
      rw [cells_sv, List.getElem?_eq_getElem (by omega)] at h1
      obtain ⟨cs, hcs, htr⟩ := Option.bind_eq_some_iff.1 h1
      obtain ⟨s, rfl, hok⟩ := open_sv htr
      obtain ⟨_, hcl, hat⟩ := World.cells?_some hcs
      refine ⟨s, fun j u hj => ?_, hok⟩
      have : j < 3 := (List.getElem?_eq_some_iff.1 hj).1
      rw [hat j this]
      exact hj
    obtain ⟨l, hll, hq⟩ := list_of_each len' each
    refine ⟨l, ⟨some a, cap', by rw [hll], by omega, hm, fun hn => ?_⟩, fun s hs => ?_⟩
    · obtain ⟨b, o, s⟩ := a
      have hs : s = none := by
        obtain ⟨h0, _⟩ := hq 0 hn
        have h0 := h0 0 _ rfl
        cases s with
        | none => rfl
        | some z =>
          simp only [Addr.add, World.cell?] at h0
          split at h0 <;> simp at h0
      subst hs
      refine ⟨b, o, rfl, fun i hi => ?_⟩
      obtain ⟨k1, _⟩ := hq i hi
      simp only [Lib.addr_add] at k1
      exact ⟨k1 0 _ rfl, k1 1 _ rfl, k1 2 _ rfl⟩
    · obtain ⟨i, hi, rfl⟩ := List.mem_iff_getElem.1 hs
      exact (hq i hi).2

/-- Are a server's texts no longer than a length may be. -/
def Srv.fit (s : Srv) : Bool := decide (s.p.size ≤ 2147483647 ∧ s.a.length ≤ 2147483647)

set_option maxRecDepth 100000 in
set_option maxHeartbeats 1000000 in
theorem zfits4 (v : Value) (l : List Srv) (w : World) (h : RdSv w v l) :
    Calls Tryd.prog 8 #[v] w fun e w' => e = .returned (.bool (decide (l.length ≤ 2147483647) && l.all Srv.fit)) ∧ Gr w w' := by
  obtain ⟨p, c, rfl, hlc, hcm, hcells⟩ := h
  obtain ⟨n, hn⟩ : ∃ n, l.length = n := ⟨_, rfl⟩
  have hcm2 : c ≤ 9223372036854775807 := by simp only [maxLen] at hcm; omega
  have HN := Lib.hid hn
  have HC := Lib.hid hcells
  have hlen : (decide (l.length ≤ 2147483647)) = !decide ((2147483647 : Int) < (n : Int)) := by
    rw [hn]; by_cases h : n ≤ 2147483647 <;> simp [h] <;> omega
  rw [hlen]
  rw [hn] at hlc
  rw [hn]
  clear hn hcells hcm hlen
  by_cases h100 : (2147483647 : Int) < (n : Int)
  · rw [decide_eq_true h100]
    go_enter Tryd.func8, Tryd.ntmps8
    go_wp2
    go_ret
    exact ⟨rfl, Gr.refl _⟩
  rw [decide_eq_false h100]
  go_enter Tryd.func8, Tryd.ntmps8
  go_wp2
  go_loopw [10] (fun i wr => ∃ k : Nat, i = .int .i64 k ∧ k ≤ n ∧ (l.take k).all Srv.fit = true ∧ Gr w wr) (fun i _ => ((n : Int) - intOf i).toNat)
  case atStart => exact ⟨0, rfl, Nat.zero_le _, by simp, Gr.refl _⟩
  case round =>
    obtain ⟨k, rfl, hk, hall, hgr⟩ := hrel
    by_cases hkn : k < n
    · have hkX : k < l.length := by rw [HN.out]; exact hkn
      obtain ⟨b, o, rfl, hc⟩ := HC.out (by rw [HN.out]; omega)
      obtain ⟨k0, k1, k2⟩ := (hc k hkX).gr hgr
      have ht : (l.take (k + 1)).all Srv.fit = ((l.take k).all Srv.fit && l[k].fit) := by
        rw [List.take_succ_eq_append_getElem hkX, List.all_append]
        simp
      have hd : l.all Srv.fit = true → l[k].fit = true := fun h => List.all_eq_true.1 h l[k] (List.getElem_mem hkX)
      have HT := Lib.hid ht
      have HA := Lib.hid hall
      have HD := Lib.hid hd
      have HGR := Lib.hid hgr
      generalize l[k] = s at *
      obtain ⟨p, a, m⟩ := s
      have HF := fun w => Lib.hid (zfits1 p (bs a) m w)
      have hg : Srv.fit ⟨p, a, m⟩ = decide (p.size ≤ 2147483647 ∧ (bs a).size ≤ 2147483647) := by rw [bs_size]; rfl
      have HGD := Lib.hid hg
      simp only at k0 k1 k2
      generalize decide (p.size ≤ 2147483647 ∧ (bs a).size ≤ 2147483647) = sh at *
      generalize hS : bs a = S at *
      clear ht hall hd hgr hg hS hc
      cases sh
      · have e : l.all Srv.fit = false := by
          cases h : l.all Srv.fit with
          | false => rfl
          | true => have := HD.out h; rw [HGD.out] at this; cases this
        go_wp2_with (first
          | (go_at_call 19; go_must (with_reducible refine (HF _).out.mono ?_); rintro e w2 ⟨rfl, hg2⟩))
        go_ret
        exact ⟨by rw [e]; rfl, (HGR.out.alloc _).trans hg2⟩
      · go_wp2_with (first
          | (go_at_call 19; go_must (with_reducible refine (HF _).out.mono ?_); rintro e w2 ⟨rfl, hg2⟩))
        go_roundw
        case rel => exact ⟨k + 1, by go_num, by omega, by rw [HT.out, HA.out, HGD.out]; rfl, (HGR.out.alloc _).trans hg2⟩
        case measure => first | (simp [intOf]; done) | (simp [intOf]; omega)
    · obtain rfl : n = k := by omega
      have e : l.all Srv.fit = true := by rw [← hall, ← HN.out, List.take_length]
      clear hall
      go_wp2
      go_ret
      exact ⟨by rw [e]; rfl, hgr⟩

set_option maxRecDepth 100000 in
set_option maxHeartbeats 1000000 in
theorem serversR (v : Value) (l : List Srv) (w : World) (ha : ∀ s ∈ l, s.a.length ≤ 4000000000) (h : RdSv w v l) :
    Calls Tryd.prog 9 #[v] w fun e w' => e = .returned (.bool (srvOk l)) ∧ Gr w w' := by
  obtain ⟨p, c, rfl, hlc, hcm, hcells⟩ := h
  obtain ⟨n, hn⟩ : ∃ n, l.length = n := ⟨_, rfl⟩
  have hcm2 : c ≤ 9223372036854775807 := by simp only [maxLen] at hcm; omega
  have HN := Lib.hid hn
  have HC := Lib.hid hcells
  have HAL := Lib.hid ha
  have hlen : (decide (l.length ≤ 100)) = !decide ((100 : Int) < (n : Int)) := by
    rw [hn]; by_cases h : n ≤ 100 <;> simp [h] <;> omega
  unfold srvOk
  rw [hlen]
  rw [hn] at hlc
  rw [hn]
  clear hn hcells hcm hlen ha
  by_cases h100 : (100 : Int) < (n : Int)
  · rw [decide_eq_true h100]
    go_enter Tryd.func9, Tryd.ntmps9
    go_wp2
    go_ret
    exact ⟨rfl, Gr.refl _⟩
  rw [decide_eq_false h100]
  go_enter Tryd.func9, Tryd.ntmps9
  go_wp2
  go_loopw [10] (fun i wr => ∃ k : Nat, i = .int .i64 k ∧ k ≤ n ∧ (l.take k).all Srv.good = true ∧ Gr w wr) (fun i _ => ((n : Int) - intOf i).toNat)
  case atStart => exact ⟨0, rfl, Nat.zero_le _, by simp, Gr.refl _⟩
  case round =>
    obtain ⟨k, rfl, hk, hall, hgr⟩ := hrel
    by_cases hkn : k < n
    · have hkX : k < l.length := by rw [HN.out]; exact hkn
      obtain ⟨b, o, rfl, hc⟩ := HC.out (by rw [HN.out]; omega)
      obtain ⟨k0, k1, k2⟩ := (hc k hkX).gr hgr
      have ht : (l.take (k + 1)).all Srv.good = ((l.take k).all Srv.good && l[k].good) := by
        rw [List.take_succ_eq_append_getElem hkX, List.all_append]
        simp
      have hd : l.all Srv.good = true → l[k].good = true := fun h => List.all_eq_true.1 h l[k] (List.getElem_mem hkX)
      have hla := HAL.out l[k] (List.getElem_mem hkX)
      have HT := Lib.hid ht
      have HA := Lib.hid hall
      have HD := Lib.hid hd
      have HGR := Lib.hid hgr
      generalize l[k] = s at *
      obtain ⟨p, a, m⟩ := s
      have HSH := fun b w hx => Lib.hid (shortC b 2 2 [bs a, p] w rfl (by omega) (by omega) hx)
      have HPL := fun w => Lib.hid (plainC a hla w)
      have hg : Srv.good ⟨p, a, m⟩ = ((([bs a, p].all fun x => decide (x.size ≤ 300))) && a.all fun b => decide (b.toNat < 128)) := rfl
      have HGD := Lib.hid hg
      simp only at k0 k1 k2
      generalize ([bs a, p].all fun x => decide (x.size ≤ 300)) = sh at *
      generalize (a.all fun b => decide (b.toNat < 128)) = pl at *
      generalize hS : bs a = S at *
      clear ht hall hd hgr hg hla hS hc
      have hst : ∀ (w : World) T B, B = w.heap.size → StrAt (w.alloc (.cells #[.string S, .string p] T)) B [S, p] := fun w T B hB j hj => by
        have hj : j < 2 := hj
        match j, hj with
        | 0, _ => exact (blk_cell (heap_new_at w _ hB) 0).trans rfl
        | 1, _ => exact (blk_cell (heap_new_at w _ hB) 1).trans rfl
      cases sh
      · have e : l.all Srv.good = false := by
          cases h : l.all Srv.good with
          | false => rfl
          | true => have := HD.out h; rw [HGD.out] at this; cases this
        go_wp2_with (first
          | (go_at_call 20; go_must (with_reducible refine (HSH _ _ (hst (wr.alloc _) _ _ (by simp))).out.mono ?_); rintro e w2 ⟨rfl, rfl⟩))
        go_ret
        exact ⟨by rw [e]; rfl, (HGR.out.alloc _).alloc _⟩
      · cases pl
        · have e : l.all Srv.good = false := by
            cases h : l.all Srv.good with
            | false => rfl
            | true => have := HD.out h; rw [HGD.out] at this; cases this
          go_wp2_with (first
            | (go_at_call 20; go_must (with_reducible refine (HSH _ _ (hst (wr.alloc _) _ _ (by simp))).out.mono ?_); rintro e w2 ⟨rfl, rfl⟩)
            | (go_at_call 27; go_must (with_reducible refine (HPL _).out.mono ?_); rintro e w3 ⟨rfl, hg3⟩))
          go_ret
          exact ⟨by rw [e]; rfl, ((HGR.out.alloc _).alloc _).trans hg3⟩
        · go_wp2_with (first
            | (go_at_call 20; go_must (with_reducible refine (HSH _ _ (hst (wr.alloc _) _ _ (by simp))).out.mono ?_); rintro e w2 ⟨rfl, rfl⟩)
            | (go_at_call 27; go_must (with_reducible refine (HPL _).out.mono ?_); rintro e w3 ⟨rfl, hg3⟩))
          go_roundw
          case rel => exact ⟨k + 1, by go_num, by omega, by rw [HT.out, HA.out, HGD.out]; rfl, ((HGR.out.alloc _).alloc _).trans hg3⟩
          case measure => first | (simp [intOf]; done) | (simp [intOf]; omega)
    · obtain rfl : n = k := by omega
      have e : l.all Srv.good = true := by rw [← hall, ← HN.out, List.take_length]
      clear hall
      go_wp2
      go_ret
      exact ⟨by rw [e]; rfl, hgr⟩
end Go.Proofs.YtkonfcgdokabaaaDoor
