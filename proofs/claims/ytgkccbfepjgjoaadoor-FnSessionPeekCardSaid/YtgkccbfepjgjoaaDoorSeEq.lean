/- Are answers the same: laws.sameGot, and slices.EqualFunc with it. -/
import Derived.Test.YtgkccbfepjgjoaaDoorSeGn
namespace Go.Proofs.YtgkccbfepjgjoaaDoor
open Go Go.RowKit

def G.val (g : G) (d o : Value) : Value := .agg #[.bool g.ok, d, o, .int .i64 g.n, .string g.t]
/-- The slice value v reads as the answers l. -/
def RdG (w : World) (v : Value) (l : List G) : Prop :=
  ∃ p c, v = .slice p l.length c ∧ l.length ≤ c ∧ c ≤ maxLen ∧ (0 < l.length → ∃ b o, p = some ⟨b, o, none⟩ ∧ ∀ i (hi : i < l.length), ∃ dv ov, GAt w b (o + i * 5) l[i] dv ov)
theorem RdG.gr {a w : World} {v : Value} {l : List G} (h : RdG a v l) (g : Gr a w) : RdG w v l := by
  obtain ⟨p, c, rfl, h1, h2, h3⟩ := h
  refine ⟨p, c, rfl, h1, h2, fun hn => ?_⟩
  obtain ⟨b, o, rfl, hc⟩ := h3 hn
  refine ⟨b, o, rfl, fun i hi => ?_⟩
  obtain ⟨dv, ov, k⟩ := hc i hi
  exact ⟨dv, ov, k.gr g⟩
theorem OwnG.rdG {B : Nat} {w : World} {v : Value} {gs : List G} (h : OwnG B w v gs) : RdG w v gs := by
  by_cases hn : gs = []
  · subst hn
    obtain ⟨p, c, rfl⟩ := h.len
    obtain ⟨ps, _, ho, _⟩ := h
    rcases ho.2 with ⟨e, _⟩ | ⟨b, cap, cur, e, _, _, h3, h4, _⟩
    · injection e with e1 e2 e3
      subst e1; subst e3
      exact ⟨none, 0, rfl, Nat.le_refl _, Nat.zero_le _, fun h => absurd h (by simp)⟩
    · injection e with e1 e2 e3
      subst e1; subst e3
      exact ⟨_, c, rfl, Nat.zero_le _, h4, fun h => absurd h (by simp)⟩
  · obtain ⟨b, cap, rfl, h1, h2, _, hat⟩ := h.rows hn
    refine ⟨_, cap, rfl, h1, by simp only [maxLen]; omega, fun _ => ⟨b, 0, rfl, fun i hi => ?_⟩⟩
    obtain ⟨d, o, k, _⟩ := hat i _ (List.getElem?_eq_getElem hi)
    rw [show 0 + i * 5 = 5 * i by omega]
    exact ⟨d, o, k⟩

def RetTT (w : World) (e : Ending) (w' : World) : Prop := e = .returned (.bool true) ∧ Gr w w'

set_option maxRecDepth 100000 in
theorem sameGot (g : G) (d1 o1 d2 o2 : Value) (w : World) (h1 : Rd w d1 g.d) (h2 : Rd w o1 g.o) (h3 : Rd w d2 g.d) (h4 : Rd w o2 g.o) :
    Calls Tryd.prog 26 #[g.val d1 o1, g.val d2 o2] w (RetTT w) := by
  unfold G.val
  have H1 := Lib.hid h1
  have H2 := Lib.hid h2
  have H3 := Lib.hid h3
  have H4 := Lib.hid h4
  obtain ⟨p1, c1, rfl, _⟩ := h1
  obtain ⟨p2, c2, rfl, _⟩ := h2
  obtain ⟨p3, c3, rfl, _⟩ := h3
  obtain ⟨p4, c4, rfl, _⟩ := h4
  have tok1 : True := trivial
  go_enter Tryd.func26, Tryd.ntmps26
  go_wp2_with (first
    | (go_at_call 17; have _t := tok1; go_must (refine (equal_same _ _ g.d _ (H1.out.gr (((Gr.refl _).alloc _).alloc _)) (H3.out.gr (((Gr.refl _).alloc _).alloc _))).mono ?_); rintro e w1 ⟨rfl, rfl⟩; clear tok1 _t)
    | (go_at_call 17; go_must (refine (equal_same _ _ g.o _ (H2.out.gr (((Gr.refl _).alloc _).alloc _)) (H4.out.gr (((Gr.refl _).alloc _).alloc _))).mono ?_); rintro e w1 ⟨rfl, rfl⟩))
  go_ret
  exact ⟨rfl, ((Gr.refl _).alloc _).alloc _⟩

set_option maxRecDepth 100000 in
set_option maxHeartbeats 1000000 in
theorem equalFunc (v u : Value) (l : List G) (w : World) (h : RdG w v l) (k : RdG w u l) :
    Calls Tryd.prog 29 #[v, u, .func (.func 26) #[] #[]] w (RetTT w) := by
  obtain ⟨p, c, rfl, hlc, hcm, hcells⟩ := h
  obtain ⟨q, c2, rfl, hlc2, hcm2, hcells2⟩ := k
  obtain ⟨n, hn⟩ : ∃ n, l.length = n := ⟨_, rfl⟩
  have hc1 : c ≤ 9223372036854775807 := by simp only [maxLen] at hcm; omega
  have hc2 : c2 ≤ 9223372036854775807 := by simp only [maxLen] at hcm2; omega
  have HN := Lib.hid hn
  have HC := Lib.hid hcells
  have HC2 := Lib.hid hcells2
  rw [hn] at hlc hlc2 ⊢
  clear hn hcells hcells2 hcm hcm2
  go_enter Tryd.func29, Tryd.ntmps29
  go_wp2
  go_loopw [17] (fun i wr => ∃ j : Nat, i = .int .i64 j ∧ j ≤ n ∧ Gr w wr) (fun i _ => ((n : Int) - intOf i).toNat)
  case atStart => exact ⟨0, rfl, Nat.zero_le _, Gr.refl _⟩
  case round =>
    obtain ⟨j, rfl, hj, hgr⟩ := hrel
    by_cases e : j < n
    · obtain ⟨b, o, rfl, hc⟩ := HC.out (by rw [HN.out]; omega)
      obtain ⟨b2, o2, rfl, hc'⟩ := HC2.out (by rw [HN.out]; omega)
      have hjl : j < l.length := by rw [HN.out]; exact e
      obtain ⟨dv, ov, k1⟩ := hc j hjl
      obtain ⟨dv2, ov2, k2⟩ := hc' j hjl
      have k1 := k1.gr hgr
      have k2 := k2.gr hgr
      generalize l[j] = g at *
      have HSG := fun W a1 a2 a3 a4 => Lib.hid (sameGot g dv ov dv2 ov2 W a1 a2 a3 a4)
      obtain ⟨a0, a1, a2, a3, a4, r1, r2⟩ := k1
      obtain ⟨b0, b1, b2', b3, b4, s1, s2⟩ := k2
      obtain ⟨pd, cd, rfl, _⟩ := id r1
      obtain ⟨po, co, rfl, _⟩ := id r2
      obtain ⟨pd2, cd2, rfl, _⟩ := id s1
      obtain ⟨po2, co2, rfl, _⟩ := id s2
      have gl := World.block_lt_of_cell? wr _ b0
      have R1 := Lib.hid r1
      have R2 := Lib.hid r2
      have S1 := Lib.hid s1
      have S2 := Lib.hid s2
      have HGR := Lib.hid hgr
      clear hc hc' hjl r1 r2 s1 s2 hgr
      go_wp2_with (first
        | (go_at_call 26; go_must (refine (HSG _ (R1.out.gr (((Gr.refl _).alloc _).alloc _)) (R2.out.gr (((Gr.refl _).alloc _).alloc _)) (S1.out.gr (((Gr.refl _).alloc _).alloc _)) (S2.out.gr (((Gr.refl _).alloc _).alloc _))).out.mono ?_); rintro e w2 ⟨rfl, hg2⟩))
      go_roundw
      case rel => exact ⟨j + 1, by go_num, by omega, ((HGR.out.alloc _).alloc _).trans hg2⟩
      case measure => simp [intOf]; omega
    · obtain rfl : n = j := by omega
      have HGR := Lib.hid hgr
      clear hgr
      go_wp2
      go_ret
      exact ⟨rfl, HGR.out⟩
end Go.Proofs.YtgkccbfepjgjoaaDoor
