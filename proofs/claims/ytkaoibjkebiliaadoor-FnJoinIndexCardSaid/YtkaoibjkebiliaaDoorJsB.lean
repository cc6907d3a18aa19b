/- Rows of a table (laws.JoinRow) as a law's argument: what they are; a slice of them, opened. -/
import Derived.Test.YtkaoibjkebiliaaDoorOpenB
import Derived.Deep.Fields
namespace Go.Proofs.YtkaoibjkebiliaaDoor
open Go Go.RowKit Go.ChangeShapes Go.WideShapes Go.ChangeAt Go.Deep

/-- A row of the table: its numbers, its name, the value and the bytes of its note, its flag. -/
structure Jr where
  id : Int
  am : Int
  nm : ByteArray
  nv : Value
  no : List Int
  fl : Int
def Jr.cs (x : Jr) : List Value := [.int .i64 x.id, .int .i64 x.am, .string x.nm, x.nv, .int .u8 x.fl]
def Jr.num (x : Jr) : Prop := -9223372036854775808 ≤ x.id ∧ x.id ≤ 9223372036854775807
instance : Inhabited Jr := ⟨⟨0, 0, ⟨#[]⟩, .slice none 0 0, [], 0⟩⟩
theorem Jr.cs_len (x : Jr) : x.cs.length = 5 := rfl
/-- A row of the table lies in this block, from place k on. -/
structure JrAt (w : World) (b k : Nat) (x : Jr) : Prop where
  cell : ∀ j u, x.cs[j]? = some u → w.cell? ⟨b, k + j, none⟩ = some u
  note : Rd w x.nv x.no
theorem JrAt.gr {a w : World} {b k : Nat} {x : Jr} (h : JrAt a b k x) (g : Gr a w) : JrAt w b k x := ⟨fun j u hj => g.cell (h.cell j u hj), h.note.gr g⟩
/-- The slice value v reads as the rows l. -/
def RdJ (w : World) (v : Value) (l : List Jr) : Prop :=
  ∃ p c, v = .slice p l.length c ∧ l.length ≤ c ∧ c ≤ maxLen ∧ (0 < l.length → ∃ b o, p = some ⟨b, o, none⟩ ∧ ∀ i (hi : i < l.length), JrAt w b (o + i * 5) l[i])
theorem RdJ.gr {a w : World} {v : Value} {l : List Jr} (h : RdJ a v l) (g : Gr a w) : RdJ w v l := by
  obtain ⟨p, c, rfl, h1, h2, h3⟩ := h
  refine ⟨p, c, rfl, h1, h2, fun hn => ?_⟩
  obtain ⟨b, o, rfl, hc⟩ := h3 hn
  exact ⟨b, o, rfl, fun i hi => (hc i hi).gr g⟩

theorem list_of_each {α : Type} {Q : Nat → α → Prop} : ∀ n, (∀ i, i < n → ∃ x, Q i x) → ∃ l : List α, l.length = n ∧ ∀ i (hi : i < l.length), Q i l[i]
  | 0, _ => ⟨[], rfl, fun i hi => absurd hi (Nat.not_lt_zero _)⟩
  | n + 1, h => by
    obtain ⟨l, hl, hq⟩ := list_of_each n (fun i hi => h i (by omega))
    obtain ⟨x, hx⟩ := h n (by omega)
    refine ⟨l ++ [x], by simp [hl], fun i hi => ?_⟩
    by_cases hil : i < l.length
    · rw [List.getElem_append_left hil]; exact hq i hil
    · simp at hi
      obtain rfl : i = n := by omega
      rw [List.getElem_append_right (by omega)]
      simpa using hx

section
variable {H : Type} {enc : TypeId × Value → H} {P : Program} {w : World} {base : Nat} {spare : Nat → Bool} {held : Bool}
/-- A struct of one-cell fields out of its cells: each field's own reading. -/
theorem open_cells {t : TypeId} {fs : Array Field} {fuel : Nat} {cs : List Value} {x : DataW H × List MemPlace} (hs : P.underlying t = some (.struct fs)) (hone : oneCellFields P fs = true)
    (h : DataW.trod enc P w base spare held fuel t cs = some x) : cs.length = P.cellsOf t ∧ ∀ (j : Nat) (f : Field) (c : Value), fs[j]? = some f → cs[j]? = some c → ∃ n y, DataW.trod enc P w base spare held n f.type [c] = some y := by
  obtain ⟨xs, n, _, _, hl, hxl, hf⟩ := DataW.trod_struct hs h
  refine ⟨hl, fun j f c hj hc => ?_⟩
  obtain ⟨ho, hk⟩ := hone_of hone j f hj
  have h1 := hf j f hj
  rw [ho, hk] at h1
  obtain ⟨hcl, hcv⟩ := List.getElem?_eq_some_iff.1 hc
  rw [List.drop_eq_getElem_cons hcl] at h1
  have hjl : j < fs.size := (Array.getElem?_eq_some_iff.1 hj).1
  rw [List.getElem?_eq_getElem (by omega)] at h1
  exact ⟨n, _, by rw [← hcv]; exact h1⟩
end

theorem cells_jr : Tryd.prog.cellsOf 28 = 5 := by kernel_rfl

set_option maxRecDepth 100000 in
theorem open_jr {H : Type} {enc : TypeId × Value → H} {w : World} {base fuel : Nat} {spare : Nat → Bool} {held : Bool} {cs : List Value} {x : DataW H × List MemPlace}
    (h : DataW.trod enc Tryd.prog w base spare held fuel 28 cs = some x) : ∃ s : Jr, cs = s.cs ∧ Rd w s.nv s.no ∧ s.num := by
  obtain ⟨hl, hf⟩ := open_cells Tryd.underlying28 (by kernel_rfl) h
  rw [cells_jr] at hl
  match cs, hl with
  | [c0, c1, c2, c3, c4], _ =>
    clear h hl
    obtain ⟨_, _, h0⟩ := hf 0 _ c0 rfl rfl
    obtain ⟨n0, e0, _, w0⟩ := DataW.trod_int Tryd.underlying2 h0
    obtain ⟨_, _, h1⟩ := hf 1 _ c1 rfl rfl
    obtain ⟨n1, e1, _, w1⟩ := DataW.trod_int Tryd.underlying2 h1
    obtain ⟨_, _, h2⟩ := hf 2 _ c2 rfl rfl
    obtain ⟨s2, e2, _⟩ := DataW.trod_string Tryd.underlying9 h2
    obtain ⟨_, _, h3⟩ := hf 3 _ c3 rfl rfl
    obtain ⟨v3, xs3, e3, hr3⟩ := open_bytes_cell h3
    obtain ⟨_, _, h4⟩ := hf 4 _ c4 rfl rfl
    obtain ⟨n4, e4, _, w4⟩ := DataW.trod_int Tryd.underlying5 h4
    simp only [List.cons.injEq, and_true] at e0 e1 e2 e3 e4
    subst e0 e1 e2 e3 e4
    have q := bounds_i64 w0
    exact ⟨⟨n0, n1, s2, _, xs3, n4⟩, rfl, hr3, by unfold Jr.num; simp only; omega⟩

set_option maxRecDepth 100000 in
theorem open_jrs {H : Type} {enc : TypeId × Value → H} {w : World} {base : Nat} {spare : Nat → Bool} {held : Bool} {r : Reach} {b0 : Nat} {v : Value} {d : DataW H} {p : List MemPlace}
    (hv : Value.okWide Tryd.prog w r b0 22 v) (h : DataW.Trod enc Tryd.prog w base spare held 22 v d p) : ∃ l, RdJ w v l ∧ ∀ s ∈ l, s.num := by
  obtain ⟨a0, len, cap, rfl⟩ := okWide_slice Tryd.underlying22 hv
  obtain ⟨fuel, hf⟩ := h
  rcases DataW.trod_slice Tryd.underlying22 hf with ⟨e, _⟩ | ⟨a, len', cap', elems, rest, n, _, e, _, _, hl, hm, hlen, hel, _, _⟩
  · have : (Value.slice a0 len cap) = .slice none 0 0 := by simpa [Value.cells] using e
    rw [this]
    exact ⟨[], ⟨none, 0, rfl, Nat.le_refl _, Nat.zero_le _, fun h => absurd h (by simp)⟩, by simp⟩
  · have : (Value.slice a0 len cap) = .slice (some a) len' cap' := by simpa [Value.cells] using e
    rw [this]
    have each : ∀ i, i < len' → ∃ s : Jr, (∀ j u, s.cs[j]? = some u → w.cell? ((a.add (i * 5)).add j) = some u) ∧ Rd w s.nv s.no ∧ s.num := by
      intro i hi
      have h1 := hel i hi
      rw [cells_jr, List.getElem?_eq_getElem (by omega)] at h1
      obtain ⟨cs, hcs, htr⟩ := Option.bind_eq_some_iff.1 h1
      obtain ⟨s, rfl, hok⟩ := open_jr htr
      obtain ⟨_, hcl, hat⟩ := World.cells?_some hcs
      refine ⟨s, fun j u hj => ?_, hok⟩
      have : j < 5 := (List.getElem?_eq_some_iff.1 hj).1
      rw [hat j this]
      exact hj
    obtain ⟨l, hll, hq⟩ := list_of_each len' each
    refine ⟨l, ⟨some a, cap', by rw [hll], by omega, hm, fun hn => ?_⟩, fun s hs => ?_⟩
    · obtain ⟨b, o, s⟩ := a
      have hs : s = none := by
        obtain ⟨h0, _⟩ := hq 0 hn
        have h0 := h0 0 _ rfl
        cases s with
        | none => rfl
        | some z =>
          simp only [Addr.add, World.cell?] at h0
          split at h0 <;> simp at h0
      subst hs
      refine ⟨b, o, rfl, fun i hi => ?_⟩
      obtain ⟨k1, k2, _⟩ := hq i hi
      simp only [Lib.addr_add] at k1
      exact ⟨k1, k2⟩
    · obtain ⟨i, hi, rfl⟩ := List.mem_iff_getElem.1 hs
      exact (hq i hi).2.2
end Go.Proofs.YtkaoibjkebiliaaDoor
