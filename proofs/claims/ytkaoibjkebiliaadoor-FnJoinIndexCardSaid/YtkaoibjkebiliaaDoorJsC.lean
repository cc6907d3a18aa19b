/- The comparisons by which FnJoinSorted sorts: by the bytes of the numbers, and by the numbers. No condition but that the numbers are such. -/
import Derived.Test.YtkaoibjkebiliaaDoorJsB
import Derived.Test.YtkaoibjkebiliaaDoorNmOrd
import Derived.Deep.RegionHeld3
namespace Go.Proofs.YtkaoibjkebiliaaDoor
open Go Go.RowKit

/-- The value of a row. -/
def Jr.val (x : Jr) : Value := .agg x.cs.toArray
def Jr.sh (x : Jr) : Prop := ∃ p n c, x.nv = .slice p n c

theorem cmpForms (a b : Int) (ha : -9223372036854775808 ≤ a ∧ a ≤ 9223372036854775807) (hb : -9223372036854775808 ≤ b ∧ b ≤ 9223372036854775807) (v u : Value) (w : World) (hx : Rd w v (formOf a)) (hy : Rd w u (formOf b)) :
    Calls Tryd.prog 11 #[v, u] w fun e w' => e = .returned (.int .i64 (sgn a b)) ∧ w' = w :=
  (compare v u _ _ w hx hy).mono fun e w' (h : _ ∧ w' = w) => ⟨by rw [h.1, compareBytes_cmpI _ _ hx.byt hy.byt, order a b ha hb], h.2⟩

set_option maxRecDepth 100000 in
set_option maxHeartbeats 1000000 in
theorem cmpOne (x y : Jr) (hx : x.num) (hy : y.num) (sx : x.sh) (sy : y.sh) (w : World) (ht : Tab10 w) :
    Calls Tryd.prog 10 #[x.val, y.val] w fun e w' => e = .returned (.int .i64 (sgn x.id y.id)) ∧ Gr w w' := by
  have HC := fun v u W h1 h2 => Lib.hid (cmpForms x.id y.id hx hy v u W h1 h2)
  have HN1 := fun W h => Lib.hid (numberOf x.id hx W h)
  have HN2 := fun W h => Lib.hid (numberOf y.id hy W h)
  unfold Jr.val Jr.cs
  obtain ⟨X, xa, xm, xv, xo, xf⟩ := x
  obtain ⟨Y, ya, ym, yv, yo, yf⟩ := y
  obtain ⟨p1, n1, c1, h1⟩ := sx
  obtain ⟨p2, n2, c2, h2⟩ := sy
  simp only at h1 h2 HC HN1 HN2 ⊢
  subst h1 h2
  clear hx hy
  generalize hs : sgn X Y = s at *
  generalize formOf X = A at *
  generalize formOf Y = B at *
  clear hs
  obtain ⟨H, hH⟩ : ∃ H, w.heap.size = H := ⟨_, rfl⟩
  go_enter Tryd.func10, Tryd.ntmps10
  go_wp2
  generalize hW0 : ((w.alloc _).alloc _) = W at *
  have k1 : W.cell? ⟨H, 0, none⟩ = some (.int .i64 X) := by rw [← hW0]; exact ((Gr.refl _).alloc _).cell ((blk_cell (heap_new_at w _ hH.symm) 0).trans rfl)
  have k2 : W.cell? ⟨H + 1, 0, none⟩ = some (.int .i64 Y) := by rw [← hW0]; exact (blk_cell (heap_new_at (w.alloc _) _ (by simp [hH])) 0).trans rfl
  have HGW := Lib.hid (show Gr w W by subst hW0; exact ((Gr.refl w).alloc _).alloc _)
  have HT := Lib.hid ht
  clear hW0 hH ht
  go_region_held3 (fun w' => w'.cell? ⟨H, 0, none⟩ = some (.int .i64 X) ∧ w'.cell? ⟨H + 1, 0, none⟩ = some (.int .i64 Y)) (first | go_keep | (with_reducible exact ⟨hG.cell k1, hG.cell k2⟩))
    ((first
      | (go_at_call 12; with_reducible refine (HN1 _ (HT.out.gr (HGW.out.trans (by with_reducible first | exact Gr.refl _ | exact (Gr.refl _).drew)))).out.mono ?_; rintro e w1 ⟨v1, rfl, ho1, hg1⟩; have hG : Gr W w1 := Gr.trans (by with_reducible first | exact Gr.refl _ | exact (Gr.refl _).drew) hg1)
      | (go_at_call 12; with_reducible refine (HN2 _ (HT.out.gr (HGW.out.trans hG))).out.mono ?_; rintro e w2 ⟨v2, rfl, ho2, hg2⟩; have hG : Gr W w2 := Gr.trans hG hg2)
      | (go_at_call 11; go_must (refine (HC v1 v2 w2 (ho1.gr hg2).rd ho2.rd).out.mono ?_); rintro e w3 ⟨rfl, hw3⟩; obtain rfl := hw3.symm)))
  all_goals (go_wp2; go_ret; exact ⟨rfl, HGW.out.trans hG⟩)

set_option maxRecDepth 100000 in
set_option maxHeartbeats 1000000 in
theorem cmpTwo (x y : Jr) (sx : x.sh) (sy : y.sh) (w : World) :
    Calls Tryd.prog 13 #[x.val, y.val] w fun e w' => e = .returned (.int .i64 (sgn x.id y.id)) ∧ Gr w w' := by
  unfold Jr.val Jr.cs
  obtain ⟨X, xa, xm, xv, xo, xf⟩ := x
  obtain ⟨Y, ya, ym, yv, yo, yf⟩ := y
  obtain ⟨p1, n1, c1, h1⟩ := sx
  obtain ⟨p2, n2, c2, h2⟩ := sy
  simp only at h1 h2 ⊢
  subst h1 h2
  unfold sgn
  by_cases h : X < Y
  · go_enter Tryd.func13, Tryd.ntmps13
    go_wp2
    go_ret
    exact ⟨by simp [h], ((Gr.refl w).alloc _).alloc _⟩
  · by_cases h2 : Y < X
    · go_enter Tryd.func13, Tryd.ntmps13
      go_wp2
      go_ret
      exact ⟨by simp [h, h2], ((Gr.refl w).alloc _).alloc _⟩
    · go_enter Tryd.func13, Tryd.ntmps13
      go_wp2
      go_ret
      exact ⟨by simp [h, h2], ((Gr.refl w).alloc _).alloc _⟩
end Go.Proofs.YtkaoibjkebiliaaDoor
