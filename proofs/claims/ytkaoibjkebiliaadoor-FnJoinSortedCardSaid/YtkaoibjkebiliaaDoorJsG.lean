/- Rows that are the same are told to be so: laws.joinSame, and slices.EqualFunc with it; the sizes of rows; are there few. -/
import Derived.Test.YtkaoibjkebiliaaDoorJsF
import Derived.Test.YtkaoibjkebiliaaDoorPkE
import Derived.LoopTactic
namespace Go.Proofs.YtkaoibjkebiliaaDoor
open Go Go.RowKit Go.Sort

set_option maxRecDepth 100000 in
set_option maxHeartbeats 1000000 in
theorem sameRow (x : Jr) (w : World) (h : Rd w x.nv x.no) :
    Calls Tryd.prog 31 #[x.val, x.val] w fun e w' => e = .returned (.bool true) ∧ Gr w w' := by
  unfold Jr.val Jr.cs
  obtain ⟨X, xa, xm, xv, xo, xf⟩ := x
  simp only at h ⊢
  have HE := fun W (g : Gr w W) => Lib.hid (equal xv xv xo xo W (h.gr g) (h.gr g))
  obtain ⟨p1, c1, rfl, _⟩ := h
  generalize xo.length = n1 at *
  go_enter Tryd.func31, Tryd.ntmps31
  go_wp2_with (first
    | (go_at_call 20; go_must (refine (HE _ (((Gr.refl _).alloc _).alloc _)).out.mono ?_); rintro e w1 ⟨rfl, rfl⟩))
  go_ret
  exact ⟨by simp, ((Gr.refl _).alloc _).alloc _⟩

/-- A row of rows that a slice names: none, or block b holds it. -/
def SlJ (w : World) (v : Value) (D : Array Jr) : Prop :=
  ∃ p c, v = .slice p D.size c ∧ D.size ≤ c ∧ c ≤ maxLen ∧ (0 < D.size → ∃ b, p = some ⟨b, 0, none⟩ ∧ RowJ w b 0 D)

set_option maxRecDepth 100000 in
set_option maxHeartbeats 4000000 in
theorem equalRows (v u : Value) (D : Array Jr) (w : World) (h : SlJ w v D) (k : SlJ w u D) (hr : ∀ i, i < D.size → Rd w D[i]!.nv D[i]!.no) :
    Calls Tryd.prog 30 #[v, u, .func (.func 31) #[] #[]] w fun e w' => e = .returned (.bool true) ∧ Gr w w' := by
  obtain ⟨p, c, rfl, hlc, hcm, hcells⟩ := h
  obtain ⟨q, c2, rfl, hlc2, hcm2, hcells2⟩ := k
  obtain ⟨n, hn⟩ : ∃ n, D.size = n := ⟨_, rfl⟩
  have hc1 : c ≤ 9223372036854775807 := by simp only [maxLen] at hcm; omega
  have hc2 : c2 ≤ 9223372036854775807 := by simp only [maxLen] at hcm2; omega
  have HN := Lib.hid hn
  have HC := Lib.hid hcells
  have HC2 := Lib.hid hcells2
  have HRD := Lib.hid hr
  rw [hn] at hlc hlc2 ⊢
  clear hn hcells hcells2 hcm hcm2 hr
  go_enter Tryd.func30, Tryd.ntmps30
  go_wp2
  go_loopw [17] (fun i wr => ∃ j : Nat, i = .int .i64 j ∧ j ≤ n ∧ Gr w wr) (fun i _ => ((n : Int) - intOf i).toNat)
  case atStart => exact ⟨0, rfl, Nat.zero_le _, Gr.refl _⟩
  case round =>
    obtain ⟨j, rfl, hj, hgr⟩ := hrel
    by_cases e : j < n
    · obtain ⟨b, rfl, hc⟩ := HC.out (by rw [HN.out]; omega)
      obtain ⟨b2, rfl, hc'⟩ := HC2.out (by rw [HN.out]; omega)
      have hjl : j < D.size := by rw [HN.out]; exact e
      have cx := (hc.gr hgr).cell j hjl
      have cy := (hc'.gr hgr).cell j hjl
      have hrd := (HRD.out j hjl).gr hgr
      generalize D[j]! = x at *
      have HSG := fun W (g : Gr wr W) => Lib.hid (sameRow x W (hrd.gr g))
      unfold Jr.val Jr.cs at HSG
      obtain ⟨X, xa, xm, xv, xo, xf⟩ := x
      simp only at hrd HSG
      obtain ⟨p1, c1, rfl, _⟩ := hrd
      generalize xo.length = n1 at *
      have a0 : wr.cell? ⟨b, j * 5, none⟩ = some (.int .i64 X) := by simpa using cx 0 _ rfl
      have a1 : wr.cell? ⟨b, j * 5 + 1, none⟩ = some (.int .i64 xa) := by simpa using cx 1 _ rfl
      have a2 : wr.cell? ⟨b, j * 5 + 2, none⟩ = some (.string xm) := by simpa using cx 2 _ rfl
      have a3 : wr.cell? ⟨b, j * 5 + 3, none⟩ = some (.slice p1 n1 c1) := by simpa using cx 3 _ rfl
      have a4 : wr.cell? ⟨b, j * 5 + 4, none⟩ = some (.int .u8 xf) := by simpa using cx 4 _ rfl
      have b0 : wr.cell? ⟨b2, j * 5, none⟩ = some (.int .i64 X) := by simpa using cy 0 _ rfl
      have b1 : wr.cell? ⟨b2, j * 5 + 1, none⟩ = some (.int .i64 xa) := by simpa using cy 1 _ rfl
      have b2' : wr.cell? ⟨b2, j * 5 + 2, none⟩ = some (.string xm) := by simpa using cy 2 _ rfl
      have b3 : wr.cell? ⟨b2, j * 5 + 3, none⟩ = some (.slice p1 n1 c1) := by simpa using cy 3 _ rfl
      have b4 : wr.cell? ⟨b2, j * 5 + 4, none⟩ = some (.int .u8 xf) := by simpa using cy 4 _ rfl
      have gl := World.block_lt_of_cell? wr _ b0
      have HGR := Lib.hid hgr
      clear hc hc' hjl hgr cx cy
      go_wp2_with (first
        | (go_at_call 31; go_must (refine (HSG _ (((Gr.refl _).alloc _).alloc _)).out.mono ?_); rintro e w2 ⟨rfl, hg2⟩))
      go_roundw
      case rel => exact ⟨j + 1, by go_num, by omega, ((HGR.out.alloc _).alloc _).trans hg2⟩
      case measure => simp [intOf]; omega
    · obtain rfl : n = j := by omega
      have HGR := Lib.hid hgr
      clear hgr
      go_wp2
      go_ret
      exact ⟨rfl, HGR.out⟩

theorem joinSame (v u : Value) (D : Array Jr) (w : World) (h : SlJ w v D) (k : SlJ w u D) (hr : ∀ i, i < D.size → Rd w D[i]!.nv D[i]!.no) :
    Calls Tryd.prog 14 #[v, u] w fun e w' => e = .returned (.bool true) ∧ Gr w w' := by
  have H := Lib.hid (equalRows v u D w h k hr)
  clear h k hr
  go_enter Tryd.func14, Tryd.ntmps14
  go_wp2_with (first
    | (go_at_call 30; go_must (refine H.out.mono ?_); rintro e w2 ⟨rfl, hg2⟩))
  go_ret
  exact ⟨rfl, hg2⟩

theorem zfits8 (x : Jr) (w : World) (h : Rd w x.nv x.no) : ∃ bb : Bool, ∀ W, Calls Tryd.prog 23 #[x.val] W fun e w' => e = .returned (.bool bb) ∧ Gr W w' := by
  unfold Jr.val Jr.cs
  obtain ⟨X, xa, xm, xv, xo, xf⟩ := x
  simp only at h ⊢
  obtain ⟨p1, c1, rfl, h1, h2, _⟩ := h
  have h3 : c1 ≤ 9223372036854775807 := by simp only [maxLen] at h2; omega
  generalize xo.length = n1 at *
  clear h2
  refine ⟨!decide ((2147483647 : Int) < (xm.size : Int)) && !decide ((2147483647 : Int) < (n1 : Int)), fun W => ?_⟩
  go_enter Tryd.func23, Tryd.ntmps23
  go_wp2
  all_goals (go_ret; exact ⟨by simp_all, (Gr.refl W).alloc _⟩)
end Go.Proofs.YtkaoibjkebiliaaDoor
