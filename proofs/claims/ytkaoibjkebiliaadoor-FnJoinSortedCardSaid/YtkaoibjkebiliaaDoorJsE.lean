/- slices.insertionSortCmpFunc at the rows of a table: the walk. -/
import Derived.Test.YtkaoibjkebiliaaDoorJsD
namespace Go.Proofs.YtkaoibjkebiliaaDoor
open Go Go.RowKit Go.Sort

theorem okJ_swp {D : Array Jr} {i j : Nat} (h : ∀ m, m < D.size → okJ D[m]!) (hi : i < D.size) (hj : j < D.size) : ∀ m, m < (swp D i j).size → okJ (swp D i j)[m]! := by
  intro m hm
  rw [size_swp] at hm
  unfold swp
  rw [getElem!_pos _ m (by simpa using hm), Array.getElem_setIfInBounds (by simpa using hm)]
  split
  · exact h i hi
  · rw [Array.getElem_setIfInBounds hm]
    split
    · exact h j hj
    · rw [← getElem!_pos D m hm]; exact h m hm

set_option maxRecDepth 1000000 in
set_option maxHeartbeats 4000000 in
theorem insertion (g : FuncId) (b o cap : Nat) (d : Array Jr) (w : World) (eg : ∀ args w, (callFunc g args).run Tryd.prog w = .ok (.enter g args) w) (hd : ∀ m, m < d.size → okJ d[m]!) (h12 : d.size ≤ 12) (hcap : d.size ≤ cap) (hcap2 : cap ≤ maxLen)
    (hcmp : ∀ x y W, okJ x → okJ y → Fx b w W → Calls Tryd.prog g #[x.val, y.val] W fun e w' => e = .returned (.int .i64 (sgn x.id y.id)) ∧ Gr W w') (hrow : RowJ w b o d) :
    Calls Tryd.prog 40 #[.slice (some ⟨b, o, none⟩) d.size cap, .int .i64 0, .int .i64 d.size, .func (.func g) #[] #[]] w fun e w' =>
      e = .returned (.tuple #[]) ∧ Fx b w w' ∧ RowJ w' b o (insertionSort ltJ d 0 d.size) := by
  have hcap3 : cap ≤ 9223372036854775807 := by simp only [maxLen] at hcap2; omega
  have HC := Lib.hid hcmp
  have HR := Lib.hid hrow
  have HD := Lib.hid hd
  obtain ⟨n, hn⟩ : ∃ n, d.size = n := ⟨_, rfl⟩
  have HN := Lib.hid hn
  rw [hn] at h12 hcap ⊢
  clear hcmp hrow hd hn hcap2
  go_enter Tryd.func40, Tryd.ntmps40
  go_wp2
  go_loopg [8] n (fun g1 vi wr => ∃ (i : Nat) (dk : Array Jr), vi = .int .i64 i ∧ 0 < i ∧ i ≤ n + 1 ∧ n + 1 - i ≤ g1 + 1 ∧ dk.size = n ∧ Hid (∀ m, m < dk.size → okJ dk[m]!) ∧ Hid (Fx b w wr) ∧ Hid (RowJ wr b o dk) ∧ Hid (insOuter ltJ 0 n i dk = insOuter ltJ 0 n 1 d))
  case atStart => exact ⟨1, d, by go_num, by omega, by omega, by omega, HN.out, HD.out, Fx.refl b w, HR.out, rfl⟩
  case round =>
    obtain ⟨i, dk, rfl, hi0, hib, hg1, hsk, HOK, HF, HRW, HO⟩ := hrel
    by_cases hlt : i < n
    · have hltz : (i : Int) < (n : Int) := by omega
      go_wp2
      go_loopg [9] i (fun g2 vj wr2 => ∃ (j : Nat) (dj : Array Jr), vj = .int .i64 j ∧ j ≤ i ∧ j ≤ g2 ∧ dj.size = n ∧ Hid (∀ m, m < dj.size → okJ dj[m]!) ∧ Hid (Fx b w wr2) ∧ Hid (RowJ wr2 b o dj) ∧ Hid (insInner ltJ 0 j dj = insInner ltJ 0 i dk))
      case atStart => exact ⟨i, dk, rfl, Nat.le_refl _, Nat.le_refl _, hsk, HOK, HF, HRW, rfl⟩
      case round =>
        clear HOK HF HRW
        obtain ⟨j, dj, rfl, hji, hg2, hsj, HOK, HF, HRW, HI⟩ := hrel
        have out : (j ≤ 0 ∨ ltJ dj[j]! dj[j - 1]! = false) → Hid (insOuter ltJ 0 n (i + 1) dj = insOuter ltJ 0 n 1 d) := fun hs => by
          show _ = _
          rw [← HO.out, insOuter_go _ _ _ _ _ hlt, ← HI.out, insInner_stop _ _ _ _ hs]
        have OUT := Lib.hid out
        clear out
        by_cases hj0 : 0 < j
        · obtain ⟨jp, rfl⟩ : ∃ jp, j = jp + 1 := ⟨j - 1, by omega⟩
          have ox := HOK.out (jp + 1) (by omega)
          have oy := HOK.out jp (by omega)
          have cx := HRW.out.cell (jp + 1) (by omega)
          have cy := HRW.out.cell jp (by omega)
          obtain ⟨x, hx⟩ : ∃ x, dj[jp + 1]! = x := ⟨_, rfl⟩
          obtain ⟨y, hy⟩ : ∃ y, dj[jp]! = y := ⟨_, rfl⟩
          have hfree := HRW.out.free
          have HX := Lib.hid hx
          have HY := Lib.hid hy
          rw [hx] at ox cx
          rw [hy] at oy cy
          have hcl : Hid (∀ p : GrW wr, Calls Tryd.prog g #[x.val, y.val] p.w fun e w' => e = .returned (.int .i64 (sgn x.id y.id)) ∧ Gr p.w w') := fun p => HC.out x y p.w ox oy (HF.out.trans (Fx.of_gr p.h))
          have hlv : ltJ x y = decide (sgn x.id y.id < 0) := rfl
          clear hx hy
          obtain ⟨X, xa, xm, xv, xo, xf⟩ := x
          obtain ⟨Y, ya, ym, yv, yo, yf⟩ := y
          obtain ⟨_, p1, n1, c1, e1⟩ := ox
          obtain ⟨_, p2, n2, c2, e2⟩ := oy
          simp only at e1 e2
          subst e1 e2
          have a0 : ∀ p : GrW wr, p.w.cell? ⟨b, o + (jp + 1) * 5, none⟩ = some (.int .i64 X) := fun p => p.h.cell (cx 0 _ rfl)
          have a1 := fun p : GrW wr => p.h.cell (cx 1 _ rfl)
          have a2 := fun p : GrW wr => p.h.cell (cx 2 _ rfl)
          have a3 := fun p : GrW wr => p.h.cell (cx 3 _ rfl)
          have a4 := fun p : GrW wr => p.h.cell (cx 4 _ rfl)
          have b0 : ∀ p : GrW wr, p.w.cell? ⟨b, o + jp * 5, none⟩ = some (.int .i64 Y) := fun p => p.h.cell (cy 0 _ rfl)
          have b1 := fun p : GrW wr => p.h.cell (cy 1 _ rfl)
          have b2 := fun p : GrW wr => p.h.cell (cy 2 _ rfl)
          have b3 := fun p : GrW wr => p.h.cell (cy 3 _ rfl)
          have b4 := fun p : GrW wr => p.h.cell (cy 4 _ rfl)
          have hwp : IntKind.i64.wrap (jp : Int) = (jp : Int) := by rw [IntKind.wrap_i64]; omega
          have jz : (jp : Int) + 1 < (n : Int) := by omega
          have jz1 : (jp : Int) < (n : Int) := by omega
          have hjz : (0 : Int) < (jp : Int) + 1 := by omega
          have p0 : (0 : Int) ≤ (jp : Int) + 1 := by omega
          have e0 : ((jp : Int) + 1).toNat = jp + 1 := by omega
          have hd0 : decide ((jp : Int) + 1 > 0) = true := decide_eq_true (by omega)
          simp only [Jr.val, Jr.cs, List.toArray] at hcl
          go_wp2_with fail
          refine wp_region_quiet_gr (by kernel_rfl) (by kernel_rfl) ?_
          repeat (quiet_step ((first | (go_at_fn g; refine Calls.gr_of (hcl.out _)))))
          refine wpQuiet_nil ?_
          intro W2 hw'
          have hG2 : Gr wr W2 := by obtain ⟨⟨_, h⟩, rfl⟩ := hw'; exact h
          clear hw'
          replace a0 := a0 ⟨W2, hG2⟩
          replace a1 := a1 ⟨W2, hG2⟩
          replace a2 := a2 ⟨W2, hG2⟩
          replace a3 := a3 ⟨W2, hG2⟩
          replace a4 := a4 ⟨W2, hG2⟩
          replace b0 := b0 ⟨W2, hG2⟩
          replace b1 := b1 ⟨W2, hG2⟩
          replace b2 := b2 ⟨W2, hG2⟩
          replace b3 := b3 ⟨W2, hG2⟩
          replace b4 := b4 ⟨W2, hG2⟩
          have hfree : ∀ k, W2.frozen? ⟨b, k, none⟩ = false := (HRW.out.gr hG2).free
          have HF2 := Lib.hid (HF.out.trans (Fx.of_gr hG2))
          have HR2 := Lib.hid (HRW.out.gr hG2)
          simp only at a0 a1 a2 a3 a4 b0 b1 b2 b3 b4
          clear HF HRW cx cy hcl hG2
          by_cases hs : sgn X Y < 0
          · go_wp2_with fail
            go_region
            go_wp2
            go_roundg jp
            case measure => omega
            case rel =>
              refine ⟨jp, swp dj (jp + 1) jp, by first | rfl | go_num, by omega, Nat.le_refl _, by rw [size_swp]; exact hsj, okJ_swp HOK.out (by omega) (by omega), (show Fx b w _ from ((HF2.out.sets (Jr.cs ⟨Y, ya, ym, .slice p2 n2 c2, yo, yf⟩) (o + (jp + 1) * 5)).sets (Jr.cs ⟨X, xa, xm, .slice p1 n1 c1, xo, xf⟩) (o + jp * 5)).drew), ?_, ?_⟩
              · have h := ((HR2.out.put (jp + 1) (by omega) ⟨Y, ya, ym, .slice p2 n2 c2, yo, yf⟩).put jp (by simp; omega) ⟨X, xa, xm, .slice p1 n1 c1, xo, xf⟩).gr (Gr.refl _).drew
                show RowJ _ b o (swp dj (jp + 1) jp)
                unfold swp
                rw [HX.out, HY.out]
                exact h
              · show _ = _
                have := insInner_go ltJ 0 (jp + 1) dj hj0 (by simp only [Nat.add_sub_cancel]; rw [HX.out, HY.out]; exact decide_eq_true hs)
                simp only [Nat.add_sub_cancel] at this
                rw [← HI.out, this]
          · go_wp2
            go_roundg (n - (i + 1))
            case measure => omega
            case rel => exact ⟨i + 1, dj, by go_num, by omega, by omega, by omega, hsj, HOK, HF2, HR2, OUT.out (Or.inr (by simp only [Nat.add_sub_cancel]; rw [HX.out, HY.out]; exact decide_eq_false (show ¬ sgn X Y < 0 by omega)))⟩
        · obtain rfl : j = 0 := by omega
          go_wp2_with fail
          go_quiet (fail)
          go_wp2
          go_roundg (n - (i + 1))
          case measure => omega
          case rel => exact ⟨i + 1, dj, by go_num, by omega, by omega, by omega, hsj, HOK, HF.out.trans (Fx.of_gr ((Gr.refl _).drewN _)), HRW.out.gr ((Gr.refl _).drewN _), OUT.out (Or.inl (Nat.le_refl _))⟩
    · have hltz : ¬ (i : Int) < (n : Int) := by omega
      go_wp2
      go_end0
      refine ⟨rfl, HF.out, ?_⟩
      have e : insertionSort ltJ d 0 n = dk := by unfold Sort.insertionSort; rw [← insOuter_stop ltJ 0 n i dk hlt]; exact HO.out.symm
      rw [e]
      exact HRW.out
end Go.Proofs.YtkaoibjkebiliaaDoor
