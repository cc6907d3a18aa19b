/- The bytes and the text of an interval of years. -/
import Derived.Test.YthimnfdoeplebaaDoorIvB
import Derived.Test.YthimnfdoeplebaaDoorPkE
import Derived.Test.YthimnfdoeplebaaDoorRdAt
import Derived.Deep.RegionHeld3
import Derived.BigRegion
import Derived.BigQuiet
namespace Go.Proofs.YthimnfdoeplebaaDoor
open Go Go.RowKit

theorem dateFour (x : Int) (w : World) (hx : 0 ≤ x ∧ x < 4294967296) :
    Calls Tryd.prog 47 #[.int .u32 x] w fun e w' => ∃ u, e = .returned u ∧ Own w.heap.size w' u [x / 16777216, x / 65536 % 256, x / 256 % 256, x % 256] ∧ Gr w w' := by
  obtain ⟨h0, h1⟩ := hx
  go_enter Tryd.func47, Tryd.ntmps47
  go_wp2
  go_ret
  have hb : Byt [x / 16777216, x / 65536 % 256, x / 256 % 256, x % 256] := by intro z hz; simp at hz; omega
  have ho : OwnAt (w.alloc (.cells #[.int .u8 (x / 16777216), .int .u8 (x / 65536 % 256), .int .u8 (x / 256 % 256), .int .u8 (x % 256)] 5)) w.heap.size 4 [x / 16777216, x / 65536 % 256, x / 256 % 256, x % 256] :=
    ⟨⟨_, heap_alloc_new w _, rfl, rfl⟩, by simp, by simp [maxLen], hb⟩
  exact ⟨_, rfl, ho.own (Nat.le_refl _), (Gr.refl w).alloc _⟩

set_option maxRecDepth 100000 in
theorem yearText (y m : Nat) (hy : y < 1000000000) (hm : m < 12) (w : World) :
    Calls Tryd.prog 16 #[.agg #[.bool false, .int .i64 0, .int .i64 0, .int .i64 0, .int .i64 0, .int .i64 0, .int .i64 y, .int .i64 m]] w
      fun e w' => e = .returned (.string (bs (43 :: (pad 2 (Lib.decDigits y) ++ 45 :: pad 2 (Lib.decDigits m))))) ∧ Gr w w' := by
  have hd := fun n hn w => Lib.hid ((dateDigits n hn w).mono fun e w' (h : _ ∧ w = w') => (⟨h.1, h.2.symm⟩ : _ ∧ w' = w))
  have s1 := pad_len y (by omega)
  have s2 := pad_len m (by omega)
  have z1 := bs_size (pad 2 (Lib.decDigits y))
  have z2 := bs_size (pad 2 (Lib.decDigits m))
  have hd1 := hd y (by omega)
  have hd2 := hd m (by omega)
  clear hd
  generalize pad 2 (Lib.decDigits y) = Y at *
  generalize pad 2 (Lib.decDigits m) = M at *
  go_enter Tryd.func16, Tryd.ntmps16
  go_wp2
  go_quiet (first
   | (go_at_call 48; with_reducible exact Calls.quiet_of_same (hd1 _).out)
   | (go_at_call 48; with_reducible exact quiet_add_same (hd1 _).out)
   | (go_at_call 48; with_reducible exact Calls.quiet_of_same (hd2 _).out)
   | (go_at_call 48; with_reducible exact quiet_add_same (hd2 _).out))
  go_wp2
  go_ret
  refine ⟨?_, ((Gr.refl w).alloc _).drewN _⟩
  show Ending.returned (.string (bs [43] ++ bs Y ++ bs [45] ++ bs M)) = _
  rw [bs_append, bs_append, bs_append]
  simp

/-- The bytes of an interval of years. -/
def yb (x m : Int) : List Int := [x / 16777216, x / 65536 % 256, x / 256 % 256, x % 256, m + 60]

set_option maxRecDepth 100000 in
theorem yearBytes (y m : Nat) (hy : y < 1000000000) (hm : m < 12) (w : World) :
    Calls Tryd.prog 15 #[.agg #[.bool false, .int .i64 0, .int .i64 0, .int .i64 0, .int .i64 0, .int .i64 0, .int .i64 y, .int .i64 m]] w
      fun e w' => ∃ u, e = .returned u ∧ Own w.heap.size w' u (yb (y + 2147483648) m) ∧ Gr w w' := by
  obtain ⟨X, hX⟩ : ∃ X : Int, (y : Int) + 2147483648 = X := ⟨_, rfl⟩
  obtain ⟨M, hM⟩ : ∃ M : Int, (m : Int) + 60 = M := ⟨_, rfl⟩
  have hd := fun w => Lib.hid (dateFour X w (by omega))
  have hw0 : IntKind.u32.wrap (y : Int) = y := (by rw [IntKind.wrap_u32]; omega)
  have hw1 : IntKind.u32.wrap ((y : Int) + 2147483648) = X := by rw [hX]; exact (by rw [IntKind.wrap_u32]; omega)
  have hw2 : IntKind.i64.wrap ((m : Int) + 60) = M := by rw [hM]; exact (by rw [IntKind.wrap_i64]; omega)
  have hw3 : IntKind.u8.wrap M = M := (by rw [IntKind.wrap_u8]; omega)
  have hM2 : 0 ≤ M ∧ M < 256 := by omega
  have hfin : yb ((y : Int) + 2147483648) m = [X / 16777216, X / 65536 % 256, X / 256 % 256, X % 256] ++ [M] := by unfold yb; rw [hX, hM]; rfl
  rw [hfin]
  clear hfin hX hM
  go_enter Tryd.func15, Tryd.ntmps15
  go_wp2
  have k6 : (w.alloc (.cells #[.bool false, .int .i64 0, .int .i64 0, .int .i64 0, .int .i64 0, .int .i64 0, .int .i64 y, .int .i64 m] 24)).cell? ⟨w.heap.size, 6, none⟩ = some (.int .i64 y) := (blk_cell (heap_alloc_new w _) 6).trans rfl
  have k7 : (w.alloc (.cells #[.bool false, .int .i64 0, .int .i64 0, .int .i64 0, .int .i64 0, .int .i64 0, .int .i64 y, .int .i64 m] 24)).cell? ⟨w.heap.size, 7, none⟩ = some (.int .i64 m) := (blk_cell (heap_alloc_new w _) 7).trans rfl
  obtain ⟨W, hW⟩ : ∃ W, w.alloc (.cells #[.bool false, .int .i64 0, .int .i64 0, .int .i64 0, .int .i64 0, .int .i64 0, .int .i64 y, .int .i64 m] 24) = W := ⟨_, rfl⟩
  have hgW : Gr w W := by rw [← hW]; exact (Gr.refl w).alloc _
  rw [hW] at k6 k7 ⊢
  clear hW
  go_region_held3 (fun w' => w'.cell? ⟨w.heap.size, 6, none⟩ = some (.int .i64 y) ∧ w'.cell? ⟨w.heap.size, 7, none⟩ = some (.int .i64 m)) (first | go_keep | (with_reducible exact ⟨hG5.cell k6, hG5.cell k7⟩) | (with_reducible exact ⟨hG.cell k6, hG.cell k7⟩) | (with_reducible exact ⟨(hG.alloc _).cell k6, (hG.alloc _).cell k7⟩))
    ((first
      | (go_at_call 47; go_must (refine ((hd _).out).mono ?_); rintro e w2 ⟨u2, rfl, ho2, hg2⟩; have hG : Gr W w2 := Gr.trans (by with_reducible first | exact Gr.refl _ | exact (Gr.refl _).alloc _ | exact (Gr.refl _).drew | exact ((Gr.refl _).alloc _).drew) hg2)
      | (refine step_append_gr (w0 := W) u8 (by rfl) _ _ (by rfl) (by with_reducible first | exact hG | exact hG.alloc _ | exact hG.drew | exact (hG.alloc _).drew) (by rfl) ((ho2.mono (by first | exact Nat.le_refl _ | simp)).gr (by with_reducible first | exact Gr.refl _ | exact (Gr.refl _).alloc _)) (by rfl) (ys := [M]) (by first | exact Rd.lit _ [M] _ 1 (by intro z hz; simp at hz; omega) rfl rfl (by simp [maxLen]) rfl | exact (Rd.lit _ [M] _ 1 (by intro z hz; simp at hz; omega) rfl rfl (by simp [maxLen]) rfl).gr hg2 | exact (Rd.lit _ [M] _ 1 (by intro z hz; simp at hz; omega) rfl rfl (by simp [maxLen]) rfl).gr (Gr.trans ((Gr.refl _).drew) hg2)) (by simp) ?_; intro v5 w5 ho5 hG5)))
  all_goals
    go_wp2_with fail
    go_ret
    exact ⟨_, rfl, ho5.mono hgW.size, hgW.trans hG5⟩
end Go.Proofs.YthimnfdoeplebaaDoor
