/- A context and a head that come in as arguments, opened. -/
import Derived.Test.YtoaajnhbcekglaaDoorLaw
import Derived.Test.YtoaajnhbcekglaaDoorPkA
import Derived.Lib.SmallJoins
namespace Go.Proofs.YtoaajnhbcekglaaDoor
open Go Go.RowKit Go.ChangeShapes Go.WideShapes Go.ChangeAt Go.Joins Go.Deep

section
variable {H : Type} {enc : TypeId × Value → H} {P : Program} {w : World} {base : Nat} {spare : Nat → Bool} {held : Bool}

/-- A struct of one-cell fields, by value: its cells, each with its reading. -/
theorem open_fields {r : Reach} {b0 : Nat} {t : TypeId} {fs : Array Field} {v : Value} {d : DataW H} {p : List MemPlace} (hs : P.underlying t = some (.struct fs)) (hone : oneCellFields P fs = true)
    (hv : Value.okWide P w r b0 t v) (h : DataW.Trod enc P w base spare held t v d p) (hC : P.cellsOf t = fs.size) :
    ∃ (cs : Array Value) (n : Nat), v = .agg cs ∧ cs.size = fs.size ∧ ∀ (j : Nat) (f : Field) (c : Value), fs[j]? = some f → cs[j]? = some c → ∃ y, DataW.trod enc P w base spare held n f.type [c] = some y := by
  obtain ⟨cs, rfl, hsz⟩ := okWide_struct hs hv
  obtain ⟨fuel, hf⟩ := h
  obtain ⟨xs, n, _, hx, _, hlen, hg⟩ := DataW.trod_struct hs hf
  refine ⟨cs, n, rfl, hsz.trans hC, fun j f c hj hc => ?_⟩
  obtain ⟨ho, hk⟩ := hone_of hone j f hj
  have h1 := hg j f hj
  rw [ho, hk] at h1
  have hjl : j < fs.size := (Array.getElem?_eq_some_iff.1 hj).1
  have hcl : j < cs.size := (Array.getElem?_eq_some_iff.1 hc).1
  have hone' : ((Value.agg cs).cells.toList.drop j).take 1 = [c] := by
    have : (Value.agg cs).cells = cs := rfl
    rw [this, List.drop_eq_getElem_cons (by simpa using hcl)]
    have := (Array.getElem?_eq_some_iff.1 hc).2
    simp [this]
  rw [hone'] at h1
  have hxl : j < xs.length := by omega
  exact ⟨xs[j], h1.trans (List.getElem?_eq_getElem hxl)⟩
end

theorem array10 {α : Type} {cs : Array α} (h : cs.size = 10) : ∃ c0 c1 c2 c3 c4 c5 c6 c7 c8 c9, cs = #[c0, c1, c2, c3, c4, c5, c6, c7, c8, c9] := by
  obtain ⟨l⟩ := cs
  match l, h with
  | [c0, c1, c2, c3, c4, c5, c6, c7, c8, c9], _ => exact ⟨c0, c1, c2, c3, c4, c5, c6, c7, c8, c9, rfl⟩

/-- The numbers of a context lie in their kinds. -/
def Ctx.ok (c : Ctx) : Prop := 0 ≤ c.ver ∧ c.ver ≤ 65535 ∧ 0 ≤ c.lo ∧ c.lo ≤ 65535 ∧ 0 ≤ c.opt ∧ c.opt ≤ 65535 ∧ 0 ≤ c.our ∧ c.our ≤ 65535 ∧ 0 ≤ c.his ∧ c.his ≤ 65535 ∧ 0 ≤ c.a0 ∧ c.a0 ≤ 255 ∧ 0 ≤ c.a1 ∧ c.a1 ≤ 255 ∧ 0 ≤ c.sdu ∧ c.sdu ≤ 4294967295 ∧ 0 ≤ c.tdu ∧ c.tdu ≤ 4294967295

set_option maxRecDepth 100000 in
theorem open_ctx {H : Type} {enc : TypeId × Value → H} {w : World} {base : Nat} {spare : Nat → Bool} {held : Bool} {r : Reach} {b0 : Nat} {v : Value} {d : DataW H} {p : List MemPlace}
    (hv : Value.okWide Tryd.prog w r b0 25 v) (h : DataW.Trod enc Tryd.prog w base spare held 25 v d p) : ∃ c : Ctx, v = c.val ∧ c.ok := by
  obtain ⟨cs, n, rfl, hsz, hf⟩ := open_fields Tryd.underlying25 (by kernel_rfl) hv h (by kernel_rfl)
  obtain ⟨c0, c1, c2, c3, c4, c5, c6, c7, c8, c9, rfl⟩ := array10 hsz
  clear hv h hsz
  obtain ⟨y0, h0⟩ := hf 0 _ c0 rfl rfl
  obtain ⟨ver, e0, _, w0⟩ := DataW.trod_int Tryd.underlying22 h0
  obtain ⟨y1, h1⟩ := hf 1 _ c1 rfl rfl
  obtain ⟨lo, e1, _, w1⟩ := DataW.trod_int Tryd.underlying22 h1
  obtain ⟨y2, h2⟩ := hf 2 _ c2 rfl rfl
  obtain ⟨opt, e2, _, w2⟩ := DataW.trod_int Tryd.underlying22 h2
  obtain ⟨y3, h3⟩ := hf 3 _ c3 rfl rfl
  obtain ⟨our, e3, _, w3⟩ := DataW.trod_int Tryd.underlying22 h3
  obtain ⟨y4, h4⟩ := hf 4 _ c4 rfl rfl
  obtain ⟨his, e4, _, w4⟩ := DataW.trod_int Tryd.underlying22 h4
  obtain ⟨y5, h5⟩ := hf 5 _ c5 rfl rfl
  obtain ⟨a0, e5, _, w5⟩ := DataW.trod_int Tryd.underlying5 h5
  obtain ⟨y6, h6⟩ := hf 6 _ c6 rfl rfl
  obtain ⟨a1, e6, _, w6⟩ := DataW.trod_int Tryd.underlying5 h6
  obtain ⟨y7, h7⟩ := hf 7 _ c7 rfl rfl
  obtain ⟨sdu, e7, _, w7⟩ := DataW.trod_int Tryd.underlying23 h7
  obtain ⟨y8, h8⟩ := hf 8 _ c8 rfl rfl
  obtain ⟨tdu, e8, _, w8⟩ := DataW.trod_int Tryd.underlying23 h8
  obtain ⟨y9, h9⟩ := hf 9 _ c9 rfl rfl
  obtain ⟨done, e9, _⟩ := DataW.trod_bool Tryd.underlying4 h9
  simp only [List.cons.injEq, and_true] at e0 e1 e2 e3 e4 e5 e6 e7 e8 e9
  subst e0 e1 e2 e3 e4 e5 e6 e7 e8 e9
  refine ⟨⟨ver, lo, opt, our, his, a0, a1, sdu, tdu, done⟩, rfl, ?_⟩
  have q0 := bounds_u16 w0; have q1 := bounds_u16 w1; have q2 := bounds_u16 w2; have q3 := bounds_u16 w3; have q4 := bounds_u16 w4; have q5 := bounds_u8 w5; have q6 := bounds_u8 w6; have q7 := bounds_u32 w7; have q8 := bounds_u32 w8
  unfold Ctx.ok
  simp only
  omega

set_option maxRecDepth 100000 in
theorem open_head {H : Type} {enc : TypeId × Value → H} {w : World} {base : Nat} {spare : Nat → Bool} {held : Bool} {r : Reach} {b0 : Nat} {v : Value} {d : DataW H} {p : List MemPlace}
    (hv : Value.okWide Tryd.prog w r b0 27 v) (h : DataW.Trod enc Tryd.prog w base spare held 27 v d p) :
    ∃ len ty fl off : Int, v = .agg #[.int .u32 len, .int .u8 ty, .int .u8 fl, .int .u16 off] ∧ 0 ≤ len ∧ len ≤ 4294967295 ∧ 0 ≤ ty ∧ ty ≤ 255 ∧ 0 ≤ fl ∧ fl ≤ 255 ∧ 0 ≤ off ∧ off ≤ 65535 := by
  obtain ⟨cs, n, rfl, hsz, hf⟩ := open_fields Tryd.underlying27 (by kernel_rfl) hv h (by kernel_rfl)
  obtain ⟨c0, c1, c2, c3, rfl⟩ := array4 hsz
  clear hv h hsz
  obtain ⟨y0, h0⟩ := hf 0 _ c0 rfl rfl
  obtain ⟨len, e0, _, w0⟩ := DataW.trod_int Tryd.underlying23 h0
  obtain ⟨y1, h1⟩ := hf 1 _ c1 rfl rfl
  obtain ⟨ty, e1, _, w1⟩ := DataW.trod_int Tryd.underlying5 h1
  obtain ⟨y2, h2⟩ := hf 2 _ c2 rfl rfl
  obtain ⟨fl, e2, _, w2⟩ := DataW.trod_int Tryd.underlying5 h2
  obtain ⟨y3, h3⟩ := hf 3 _ c3 rfl rfl
  obtain ⟨off, e3, _, w3⟩ := DataW.trod_int Tryd.underlying22 h3
  simp only [List.cons.injEq, and_true] at e0 e1 e2 e3
  subst e0 e1 e2 e3
  have q0 := bounds_u32 w0; have q1 := bounds_u8 w1; have q2 := bounds_u8 w2; have q3 := bounds_u16 w3
  exact ⟨len, ty, fl, off, rfl, q0.1, q0.2, q1.1, q1.2, q2.1, q2.2, q3.1, q3.2⟩

end Go.Proofs.YtoaajnhbcekglaaDoor
