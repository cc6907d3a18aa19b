/- Servers are equal: impl.ServersEqual and the laws' own. -/
import Derived.Test.YtkonfcgdokabaaaDoorCfS
namespace Go.Proofs.YtkonfcgdokabaaaDoor
open Go Go.RowKit

theorem heap_set_other (w : World) (a : Addr) (u : Value) (k : Nat) (h : k ≠ a.block) : (w.setCell a u).heap[k]? = w.heap[k]? := by
  simp only [World.setCell, Array.getElem?_modify]
  rw [if_neg (by omega)]
theorem heap_set_same {w : World} {b i : Nat} {cs : Array Value} {T : TypeId} (u : Value) (h : w.heap[b]? = some (.cells cs T (0, 0))) : (w.setCell ⟨b, i, none⟩ u).heap[b]? = some (.cells (cs.setIfInBounds i u) T (0, 0)) := by
  simp only [World.setCell, Array.getElem?_modify, h]
  simp
/-- Three cells of a block of the call's own are written. -/
theorem set3 {B w : World} {b : Nat} {x y z : Value} {T : TypeId} (u0 u1 u2 : Value) (h : w.heap[b]? = some (.cells #[x, y, z] T (0, 0))) (hG : Gr B w) (hb : B.heap.size ≤ b) :
    (((w.setCell ⟨b, 0, none⟩ u0).setCell ⟨b, 1, none⟩ u1).setCell ⟨b, 2, none⟩ u2).heap[b]? = some (.cells #[u0, u1, u2] T (0, 0)) ∧
    (∀ k, k ≠ b → (((w.setCell ⟨b, 0, none⟩ u0).setCell ⟨b, 1, none⟩ u1).setCell ⟨b, 2, none⟩ u2).heap[k]? = w.heap[k]?) ∧ Gr B (((w.setCell ⟨b, 0, none⟩ u0).setCell ⟨b, 1, none⟩ u1).setCell ⟨b, 2, none⟩ u2) := by
  refine ⟨?_, fun k hk => ?_, ((hG.setCell hb _).setCell hb _).setCell hb _⟩
  · rw [heap_set_same u2 (heap_set_same u1 (heap_set_same u0 h))]
    rfl
  · rw [heap_set_other _ _ _ _ hk, heap_set_other _ _ _ _ hk, heap_set_other _ _ _ _ hk]

set_option maxRecDepth 100000 in
set_option maxHeartbeats 4000000 in
theorem srvEqual (p1 p2 : ByteArray) (L1 L2 : List UInt8) (n1 n2 : Int) (hl1 : L1.length ≤ 100000) (hl2 : L2.length ≤ 100000) (ha1 : ∀ b ∈ L1, b.toNat < 128) (ha2 : ∀ b ∈ L2, b.toNat < 128) (w : World) :
    Calls Tryd.prog 18 #[.agg #[.string p1, .string (bs L1), .int .i64 n1], .agg #[.string p2, .string (bs L2), .int .i64 n2]] w fun e w' => e = .returned (.bool (srvEq L1 n1 L2 n2)) ∧ Gr w w' := by
  have HS1 := fun w => Lib.hid (serverOf p1 (bs L1) n1 w)
  have HS2 := fun w => Lib.hid (serverOf p2 (bs L2) n2 w)
  have HE := fun b1 b2 w c11 c12 c21 c22 => Lib.hid (isEqual b1 b2 L1 L2 n1 n2 hl1 hl2 ha1 ha2 w c11 c12 c21 c22)
  generalize bs L1 = S1 at *
  generalize bs L2 = S2 at *
  generalize srvEq L1 n1 L2 n2 = q at *
  clear ha1 ha2 hl1 hl2
  obtain ⟨H, hH⟩ : ∃ H, w.heap.size = H := ⟨_, rfl⟩
  go_enter Tryd.func18, Tryd.ntmps18
  go_wp2
  generalize hW0 : ((w.alloc _).alloc _) = W at *
  have k10 : W.cell? ⟨H, 0, none⟩ = some (.string p1) := by rw [← hW0]; exact ((Gr.refl _).alloc _).cell ((blk_cell (heap_new_at w _ hH.symm) 0).trans rfl)
  have k11 : W.cell? ⟨H, 1, none⟩ = some (.string S1) := by rw [← hW0]; exact ((Gr.refl _).alloc _).cell ((blk_cell (heap_new_at w _ hH.symm) 1).trans rfl)
  have k12 : W.cell? ⟨H, 2, none⟩ = some (.int .i64 n1) := by rw [← hW0]; exact ((Gr.refl _).alloc _).cell ((blk_cell (heap_new_at w _ hH.symm) 2).trans rfl)
  have k20 : W.cell? ⟨H + 1, 0, none⟩ = some (.string p2) := by rw [← hW0]; exact (blk_cell (heap_new_at (w.alloc _) _ (by simp [hH])) 0).trans rfl
  have k21 : W.cell? ⟨H + 1, 1, none⟩ = some (.string S2) := by rw [← hW0]; exact (blk_cell (heap_new_at (w.alloc _) _ (by simp [hH])) 1).trans rfl
  have k22 : W.cell? ⟨H + 1, 2, none⟩ = some (.int .i64 n2) := by rw [← hW0]; exact (blk_cell (heap_new_at (w.alloc _) _ (by simp [hH])) 2).trans rfl
  have HGW := Lib.hid (show Gr w W by subst hW0; exact ((Gr.refl w).alloc _).alloc _)
  clear hW0
  have q10 := fun w' (g : Gr W w') => g.cell k10
  have q11 := fun w' (g : Gr W w') => g.cell k11
  have q12 := fun w' (g : Gr W w') => g.cell k12
  have q20 := fun w' (g : Gr W w') => g.cell k20
  have q21 := fun w' (g : Gr W w') => g.cell k21
  have q22 := fun w' (g : Gr W w') => g.cell k22
  -- REGION
  have hG := (Gr.refl W).drew
  have hGo := hG
  refine wp_region_held_drew (S := fun w' => Gr W w') (by kernel_rfl) hG (fun hHeld => ?_)
  generalize hcc : W.drew = c0 at *
  clear hcc
  refine wpAnyH_take (i := 0) (oi := { dst := some 7, op := Op.load 26 (Operand.tmp 2), type := 26, pos := "configs.go:31", after := #[], guard := none }) (v := ?_) rfl (by kernel_rfl) (by kernel_rfl) (by kernel_rfl) (fun _ _ _ h => h) (Or.inl ⟨by rfl, ?_⟩) (by assumption) ?_
  rotate_left
  · (intro w hSw; (try dsimp only at hSw); go_simp; try with_reducible rfl)
  try simp only [Act.put, List.setIfInBounds_toArray, List.set_cons_zero, List.set_cons_succ]
  refine wpAnyH_take (i := 2) (oi := { dst := some 9, op := Op.load 26 (Operand.tmp 3), type := 26, pos := "configs.go:31", after := #[], guard := none }) (v := ?_) rfl (by kernel_rfl) (by kernel_rfl) (by kernel_rfl) (fun _ _ _ h => h) (Or.inl ⟨by rfl, ?_⟩) (by assumption) ?_
  rotate_left
  · (intro w hSw; (try dsimp only at hSw); go_simp; try with_reducible rfl)
  try simp only [Act.put, List.setIfInBounds_toArray, List.set_cons_zero, List.set_cons_succ]
  refine wpAnyH_ready (rs := [1, 4, 5]) (by kernel_rfl) (by simp) ?_
  refine AllReadyH.cons (o := { dst := some 8, op := Op.call { callee := Callee.value (Operand.func 32), args := #[Operand.tmp 7], argTypes := #[26] }, type := 58, pos := "configs.go:31", after := #[{ on := 0, ground := Ground.data }], guard := none }) rfl (fun K hK => ?_) ?_
  ·
    go_simp
    go_at_call 32; with_reducible refine (HS1 _).out.mono ?_; rintro e c1 ⟨rfl, hg1⟩
    have hG := hG.trans hg1
    go_wp2_with fail
    have hGo := hG
    refine hK.out _ _ hG (fun hHeld => ?_)
    clear hK K
    try simp only [Act.put, List.setIfInBounds_toArray, List.set_cons_zero, List.set_cons_succ]
    refine wpAnyH_ready (rs := [3, 4, 5]) (by kernel_rfl) (by simp) ?_
    refine AllReadyH.cons (o := { dst := some 10, op := Op.call { callee := Callee.value (Operand.func 32), args := #[Operand.tmp 9], argTypes := #[26] }, type := 58, pos := "configs.go:31", after := #[{ on := 2, ground := Ground.data }, { on := 1, ground := Ground.chain }], guard := none }) rfl (fun K hK => ?_) ?_
    ·
      go_simp
      go_at_call 32; with_reducible refine (HS2 _).out.mono ?_; rintro e c2 ⟨rfl, hg1⟩
      have hG := hG.trans hg1
      go_wp2_with fail
      have hGo := hG
      refine hK.out _ _ hG (fun hHeld => ?_)
      clear hK K
      try simp only [Act.put, List.setIfInBounds_toArray, List.set_cons_zero, List.set_cons_succ]
      refine wpAnyH_ready (rs := [4, 5]) (by kernel_rfl) (by simp) ?_
      refine AllReadyH.cons (o := { dst := some 5, op := Op.alloc 58, type := 0, pos := "configs.go:31", after := #[], guard := none }) rfl (fun K hK => ?_) ?_
      ·
        go_simp
        have z5 := heap_new_at c2 (Obj.cells #[.string ⟨#[]⟩, .string ⟨#[]⟩, .int .i64 0] 58) rfl
        have hG := hG.alloc (Obj.cells #[.string ⟨#[]⟩, .string ⟨#[]⟩, .int .i64 0] 58)
        have hb5 := hGo.size
        generalize c2.heap.size = b5 at *
        generalize hcc : c2.alloc (Obj.cells #[.string ⟨#[]⟩, .string ⟨#[]⟩, .int .i64 0] 58) = c3 at *
        clear hcc
        have hGo := hG
        refine hK.out _ _ hG (fun hHeld => ?_)
        clear hK K
        try simp only [Act.put, List.setIfInBounds_toArray, List.set_cons_zero, List.set_cons_succ]
        refine wpAnyH_ready (rs := [5]) (by kernel_rfl) (by simp) ?_
        refine AllReadyH.cons (o := { dst := some 6, op := Op.alloc 58, type := 0, pos := "configs.go:31", after := #[], guard := none }) rfl (fun K hK => ?_) ?_
        ·
          go_simp
          have z6 := heap_new_at c3 (Obj.cells #[.string ⟨#[]⟩, .string ⟨#[]⟩, .int .i64 0] 58) rfl
          have hG := hG.alloc (Obj.cells #[.string ⟨#[]⟩, .string ⟨#[]⟩, .int .i64 0] 58)
          have hb6 := hGo.size
          have hne := Nat.ne_of_lt (lt_of_some z5)
          have z5 := (Gr.alloc (Gr.refl c3) (Obj.cells #[.string ⟨#[]⟩, .string ⟨#[]⟩, .int .i64 0] 58)).heap z5
          generalize c3.heap.size = b6 at *
          generalize hcc : c3.alloc (Obj.cells #[.string ⟨#[]⟩, .string ⟨#[]⟩, .int .i64 0] 58) = c4 at *
          clear hcc
          have hGo := hG
          refine hK.out _ _ hG (fun hHeld => ?_)
          clear hK K
          try simp only [Act.put, List.setIfInBounds_toArray, List.set_cons_zero, List.set_cons_succ]
          refine wpAnyH_ready (rs := [6]) (by kernel_rfl) (by simp) ?_
          refine AllReadyH.cons (o := { dst := none, op := Op.store 58 (Operand.tmp 5) (Operand.tmp 8), type := 0, pos := "configs.go:31", after := #[{ on := 4, ground := Ground.data }, { on := 1, ground := Ground.data }, { on := 3, ground := Ground.chain }, { on := 0, ground := Ground.phase }, { on := 1, ground := Ground.phase }, { on := 2, ground := Ground.textOnly Departure.lateStores }, { on := 3, ground := Ground.phase }, { on := 4, ground := Ground.phase }, { on := 5, ground := Ground.phase }], guard := none }) rfl (fun K hK => ?_) ?_
          ·
            have y0 := (blk_cell z5 0).trans rfl
            have y1 := (blk_cell z5 1).trans rfl
            have y2 := (blk_cell z5 2).trans rfl
            have f0 := blk_free z5 0
            have f1 := blk_free z5 1
            have f2 := blk_free z5 2
            have hsv := set3 (.string p1) (.string S1) (.int .i64 n1) z5 hG hb5
            skip
            go_simp
            obtain ⟨z5', hoth, hG⟩ := hsv
            have z6 := (hoth b6 hne.symm).trans z6
            have z5 := z5'
            generalize hcc : ((World.setCell (World.setCell (World.setCell c4 _ _) _ _) _ _)) = c5 at *
            clear hcc
            have hGo := hG
            refine hK.out _ _ hG (fun hHeld => ?_)
            clear hK K
            try simp only [Act.put, List.setIfInBounds_toArray, List.set_cons_zero, List.set_cons_succ]
            refine wpAnyH_ready (rs := [7]) (by kernel_rfl) (by simp) ?_
            refine AllReadyH.cons (o := { dst := none, op := Op.store 58 (Operand.tmp 6) (Operand.tmp 10), type := 0, pos := "configs.go:31", after := #[{ on := 5, ground := Ground.data }, { on := 3, ground := Ground.data }, { on := 6, ground := Ground.chain }, { on := 0, ground := Ground.phase }, { on := 1, ground := Ground.phase }, { on := 2, ground := Ground.phase }, { on := 3, ground := Ground.phase }, { on := 4, ground := Ground.phase }, { on := 5, ground := Ground.phase }, { on := 6, ground := Ground.phase }], guard := none }) rfl (fun K hK => ?_) ?_
            ·
              have y0 := (blk_cell z6 0).trans rfl
              have y1 := (blk_cell z6 1).trans rfl
              have y2 := (blk_cell z6 2).trans rfl
              have f0 := blk_free z6 0
              have f1 := blk_free z6 1
              have f2 := blk_free z6 2
              have hsv := set3 (.string p2) (.string S2) (.int .i64 n2) z6 hG hb6
              skip
              go_simp
              obtain ⟨z6', hoth, hG⟩ := hsv
              have z5 := (hoth b5 hne).trans z5
              have z6 := z6'
              generalize hcc : ((World.setCell (World.setCell (World.setCell c5 _ _) _ _) _ _)) = c6 at *
              clear hcc
              have hGo := hG
              refine hK.out _ _ hG (fun hHeld => ?_)
              clear hK K
              try simp only [Act.put, List.setIfInBounds_toArray, List.set_cons_zero, List.set_cons_succ]
              refine wpAnyH_done (by kernel_rfl) ?_ _
              go_wp2_with (first | (go_at_call 36; go_must (refine (HE b5 b6 c6 ((blk_cell z5 1).trans rfl) ((blk_cell z5 2).trans rfl) ((blk_cell z6 1).trans rfl) ((blk_cell z6 2).trans rfl)).out.mono ?_); rintro e we ⟨rfl, hge⟩))
              go_ret
              exact ⟨rfl, HGW.out.trans (hG.trans hge)⟩
            exact AllReadyH.nil
          exact AllReadyH.nil
        exact AllReadyH.nil
      refine AllReadyH.cons (o := { dst := some 6, op := Op.alloc 58, type := 0, pos := "configs.go:31", after := #[], guard := none }) rfl (fun K hK => ?_) ?_
      ·
        go_simp
        have z6 := heap_new_at c2 (Obj.cells #[.string ⟨#[]⟩, .string ⟨#[]⟩, .int .i64 0] 58) rfl
        have hG := hG.alloc (Obj.cells #[.string ⟨#[]⟩, .string ⟨#[]⟩, .int .i64 0] 58)
        have hb6 := hGo.size
        generalize c2.heap.size = b6 at *
        generalize hcc : c2.alloc (Obj.cells #[.string ⟨#[]⟩, .string ⟨#[]⟩, .int .i64 0] 58) = c7 at *
        clear hcc
        have hGo := hG
        refine hK.out _ _ hG (fun hHeld => ?_)
        clear hK K
        try simp only [Act.put, List.setIfInBounds_toArray, List.set_cons_zero, List.set_cons_succ]
        refine wpAnyH_ready (rs := [4]) (by kernel_rfl) (by simp) ?_
        refine AllReadyH.cons (o := { dst := some 5, op := Op.alloc 58, type := 0, pos := "configs.go:31", after := #[], guard := none }) rfl (fun K hK => ?_) ?_
        ·
          go_simp
          have z5 := heap_new_at c7 (Obj.cells #[.string ⟨#[]⟩, .string ⟨#[]⟩, .int .i64 0] 58) rfl
          have hG := hG.alloc (Obj.cells #[.string ⟨#[]⟩, .string ⟨#[]⟩, .int .i64 0] 58)
          have hb5 := hGo.size
          have hne := Nat.ne_of_lt (lt_of_some z6)
          have z6 := (Gr.alloc (Gr.refl c7) (Obj.cells #[.string ⟨#[]⟩, .string ⟨#[]⟩, .int .i64 0] 58)).heap z6
          generalize c7.heap.size = b5 at *
          generalize hcc : c7.alloc (Obj.cells #[.string ⟨#[]⟩, .string ⟨#[]⟩, .int .i64 0] 58) = c8 at *
          clear hcc
          have hGo := hG
          refine hK.out _ _ hG (fun hHeld => ?_)
          clear hK K
          try simp only [Act.put, List.setIfInBounds_toArray, List.set_cons_zero, List.set_cons_succ]
          refine wpAnyH_ready (rs := [6]) (by kernel_rfl) (by simp) ?_
          refine AllReadyH.cons (o := { dst := none, op := Op.store 58 (Operand.tmp 5) (Operand.tmp 8), type := 0, pos := "configs.go:31", after := #[{ on := 4, ground := Ground.data }, { on := 1, ground := Ground.data }, { on := 3, ground := Ground.chain }, { on := 0, ground := Ground.phase }, { on := 1, ground := Ground.phase }, { on := 2, ground := Ground.textOnly Departure.lateStores }, { on := 3, ground := Ground.phase }, { on := 4, ground := Ground.phase }, { on := 5, ground := Ground.phase }], guard := none }) rfl (fun K hK => ?_) ?_
          ·
            have y0 := (blk_cell z5 0).trans rfl
            have y1 := (blk_cell z5 1).trans rfl
            have y2 := (blk_cell z5 2).trans rfl
            have f0 := blk_free z5 0
            have f1 := blk_free z5 1
            have f2 := blk_free z5 2
            have hsv := set3 (.string p1) (.string S1) (.int .i64 n1) z5 hG hb5
            skip
            go_simp
            obtain ⟨z5', hoth, hG⟩ := hsv
            have z6 := (hoth b6 hne).trans z6
            have z5 := z5'
            generalize hcc : ((World.setCell (World.setCell (World.setCell c8 _ _) _ _) _ _)) = c9 at *
            clear hcc
            have hGo := hG
            refine hK.out _ _ hG (fun hHeld => ?_)
            clear hK K
            try simp only [Act.put, List.setIfInBounds_toArray, List.set_cons_zero, List.set_cons_succ]
            refine wpAnyH_ready (rs := [7]) (by kernel_rfl) (by simp) ?_
            refine AllReadyH.cons (o := { dst := none, op := Op.store 58 (Operand.tmp 6) (Operand.tmp 10), type := 0, pos := "configs.go:31", after := #[{ on := 5, ground := Ground.data }, { on := 3, ground := Ground.data }, { on := 6, ground := Ground.chain }, { on := 0, ground := Ground.phase }, { on := 1, ground := Ground.phase }, { on := 2, ground := Ground.phase }, { on := 3, ground := Ground.phase }, { on := 4, ground := Ground.phase }, { on := 5, ground := Ground.phase }, { on := 6, ground := Ground.phase }], guard := none }) rfl (fun K hK => ?_) ?_
            ·
              have y0 := (blk_cell z6 0).trans rfl
              have y1 := (blk_cell z6 1).trans rfl
              have y2 := (blk_cell z6 2).trans rfl
              have f0 := blk_free z6 0
              have f1 := blk_free z6 1
              have f2 := blk_free z6 2
              have hsv := set3 (.string p2) (.string S2) (.int .i64 n2) z6 hG hb6
              skip
              go_simp
              obtain ⟨z6', hoth, hG⟩ := hsv
              have z5 := (hoth b5 hne.symm).trans z5
              have z6 := z6'
              generalize hcc : ((World.setCell (World.setCell (World.setCell c9 _ _) _ _) _ _)) = c10 at *
              clear hcc
              have hGo := hG
              refine hK.out _ _ hG (fun hHeld => ?_)
              clear hK K
              try simp only [Act.put, List.setIfInBounds_toArray, List.set_cons_zero, List.set_cons_succ]
              refine wpAnyH_done (by kernel_rfl) ?_ _
              go_wp2_with (first | (go_at_call 36; go_must (refine (HE b5 b6 c10 ((blk_cell z5 1).trans rfl) ((blk_cell z5 2).trans rfl) ((blk_cell z6 1).trans rfl) ((blk_cell z6 2).trans rfl)).out.mono ?_); rintro e we ⟨rfl, hge⟩))
              go_ret
              exact ⟨rfl, HGW.out.trans (hG.trans hge)⟩
            exact AllReadyH.nil
          exact AllReadyH.nil
        exact AllReadyH.nil
      exact AllReadyH.nil
    refine AllReadyH.cons (o := { dst := some 5, op := Op.alloc 58, type := 0, pos := "configs.go:31", after := #[], guard := none }) rfl (fun K hK => ?_) ?_
    ·
      go_simp
      have z5 := heap_new_at c1 (Obj.cells #[.string ⟨#[]⟩, .string ⟨#[]⟩, .int .i64 0] 58) rfl
      have hG := hG.alloc (Obj.cells #[.string ⟨#[]⟩, .string ⟨#[]⟩, .int .i64 0] 58)
      have hb5 := hGo.size
      generalize c1.heap.size = b5 at *
      generalize hcc : c1.alloc (Obj.cells #[.string ⟨#[]⟩, .string ⟨#[]⟩, .int .i64 0] 58) = c11 at *
      clear hcc
      have hGo := hG
      refine hK.out _ _ hG (fun hHeld => ?_)
      clear hK K
      try simp only [Act.put, List.setIfInBounds_toArray, List.set_cons_zero, List.set_cons_succ]
      refine wpAnyH_ready (rs := [3, 5]) (by kernel_rfl) (by simp) ?_
      refine AllReadyH.cons (o := { dst := some 10, op := Op.call { callee := Callee.value (Operand.func 32), args := #[Operand.tmp 9], argTypes := #[26] }, type := 58, pos := "configs.go:31", after := #[{ on := 2, ground := Ground.data }, { on := 1, ground := Ground.chain }], guard := none }) rfl (fun K hK => ?_) ?_
      ·
        go_simp
        go_at_call 32; with_reducible refine (HS2 _).out.mono ?_; rintro e c12 ⟨rfl, hg1⟩
        have hG := hG.trans hg1
        have z5 := hg1.heap z5
        go_wp2_with fail
        have hGo := hG
        refine hK.out _ _ hG (fun hHeld => ?_)
        clear hK K
        try simp only [Act.put, List.setIfInBounds_toArray, List.set_cons_zero, List.set_cons_succ]
        refine wpAnyH_ready (rs := [5]) (by kernel_rfl) (by simp) ?_
        refine AllReadyH.cons (o := { dst := some 6, op := Op.alloc 58, type := 0, pos := "configs.go:31", after := #[], guard := none }) rfl (fun K hK => ?_) ?_
        ·
          go_simp
          have z6 := heap_new_at c12 (Obj.cells #[.string ⟨#[]⟩, .string ⟨#[]⟩, .int .i64 0] 58) rfl
          have hG := hG.alloc (Obj.cells #[.string ⟨#[]⟩, .string ⟨#[]⟩, .int .i64 0] 58)
          have hb6 := hGo.size
          have hne := Nat.ne_of_lt (lt_of_some z5)
          have z5 := (Gr.alloc (Gr.refl c12) (Obj.cells #[.string ⟨#[]⟩, .string ⟨#[]⟩, .int .i64 0] 58)).heap z5
          generalize c12.heap.size = b6 at *
          generalize hcc : c12.alloc (Obj.cells #[.string ⟨#[]⟩, .string ⟨#[]⟩, .int .i64 0] 58) = c13 at *
          clear hcc
          have hGo := hG
          refine hK.out _ _ hG (fun hHeld => ?_)
          clear hK K
          try simp only [Act.put, List.setIfInBounds_toArray, List.set_cons_zero, List.set_cons_succ]
          refine wpAnyH_ready (rs := [6]) (by kernel_rfl) (by simp) ?_
          refine AllReadyH.cons (o := { dst := none, op := Op.store 58 (Operand.tmp 5) (Operand.tmp 8), type := 0, pos := "configs.go:31", after := #[{ on := 4, ground := Ground.data }, { on := 1, ground := Ground.data }, { on := 3, ground := Ground.chain }, { on := 0, ground := Ground.phase }, { on := 1, ground := Ground.phase }, { on := 2, ground := Ground.textOnly Departure.lateStores }, { on := 3, ground := Ground.phase }, { on := 4, ground := Ground.phase }, { on := 5, ground := Ground.phase }], guard := none }) rfl (fun K hK => ?_) ?_
          ·
            have y0 := (blk_cell z5 0).trans rfl
            have y1 := (blk_cell z5 1).trans rfl
            have y2 := (blk_cell z5 2).trans rfl
            have f0 := blk_free z5 0
            have f1 := blk_free z5 1
            have f2 := blk_free z5 2
            have hsv := set3 (.string p1) (.string S1) (.int .i64 n1) z5 hG hb5
            skip
            go_simp
            obtain ⟨z5', hoth, hG⟩ := hsv
            have z6 := (hoth b6 hne.symm).trans z6
            have z5 := z5'
            generalize hcc : ((World.setCell (World.setCell (World.setCell c13 _ _) _ _) _ _)) = c14 at *
            clear hcc
            have hGo := hG
            refine hK.out _ _ hG (fun hHeld => ?_)
            clear hK K
            try simp only [Act.put, List.setIfInBounds_toArray, List.set_cons_zero, List.set_cons_succ]
            refine wpAnyH_ready (rs := [7]) (by kernel_rfl) (by simp) ?_
            refine AllReadyH.cons (o := { dst := none, op := Op.store 58 (Operand.tmp 6) (Operand.tmp 10), type := 0, pos := "configs.go:31", after := #[{ on := 5, ground := Ground.data }, { on := 3, ground := Ground.data }, { on := 6, ground := Ground.chain }, { on := 0, ground := Ground.phase }, { on := 1, ground := Ground.phase }, { on := 2, ground := Ground.phase }, { on := 3, ground := Ground.phase }, { on := 4, ground := Ground.phase }, { on := 5, ground := Ground.phase }, { on := 6, ground := Ground.phase }], guard := none }) rfl (fun K hK => ?_) ?_
            ·
              have y0 := (blk_cell z6 0).trans rfl
              have y1 := (blk_cell z6 1).trans rfl
              have y2 := (blk_cell z6 2).trans rfl
              have f0 := blk_free z6 0
              have f1 := blk_free z6 1
              have f2 := blk_free z6 2
              have hsv := set3 (.string p2) (.string S2) (.int .i64 n2) z6 hG hb6
              skip
              go_simp
              obtain ⟨z6', hoth, hG⟩ := hsv
              have z5 := (hoth b5 hne).trans z5
              have z6 := z6'
              generalize hcc : ((World.setCell (World.setCell (World.setCell c14 _ _) _ _) _ _)) = c15 at *
              clear hcc
              have hGo := hG
              refine hK.out _ _ hG (fun hHeld => ?_)
              clear hK K
              try simp only [Act.put, List.setIfInBounds_toArray, List.set_cons_zero, List.set_cons_succ]
              refine wpAnyH_done (by kernel_rfl) ?_ _
              go_wp2_with (first | (go_at_call 36; go_must (refine (HE b5 b6 c15 ((blk_cell z5 1).trans rfl) ((blk_cell z5 2).trans rfl) ((blk_cell z6 1).trans rfl) ((blk_cell z6 2).trans rfl)).out.mono ?_); rintro e we ⟨rfl, hge⟩))
              go_ret
              exact ⟨rfl, HGW.out.trans (hG.trans hge)⟩
            exact AllReadyH.nil
          exact AllReadyH.nil
        exact AllReadyH.nil
      refine AllReadyH.cons (o := { dst := some 6, op := Op.alloc 58, type := 0, pos := "configs.go:31", after := #[], guard := none }) rfl (fun K hK => ?_) ?_
      ·
        go_simp
        have z6 := heap_new_at c11 (Obj.cells #[.string ⟨#[]⟩, .string ⟨#[]⟩, .int .i64 0] 58) rfl
        have hG := hG.alloc (Obj.cells #[.string ⟨#[]⟩, .string ⟨#[]⟩, .int .i64 0] 58)
        have hb6 := hGo.size
        have hne := Nat.ne_of_lt (lt_of_some z5)
        have z5 := (Gr.alloc (Gr.refl c11) (Obj.cells #[.string ⟨#[]⟩, .string ⟨#[]⟩, .int .i64 0] 58)).heap z5
        generalize c11.heap.size = b6 at *
        generalize hcc : c11.alloc (Obj.cells #[.string ⟨#[]⟩, .string ⟨#[]⟩, .int .i64 0] 58) = c16 at *
        clear hcc
        have hGo := hG
        refine hK.out _ _ hG (fun hHeld => ?_)
        clear hK K
        try simp only [Act.put, List.setIfInBounds_toArray, List.set_cons_zero, List.set_cons_succ]
        refine wpAnyH_ready (rs := [3]) (by kernel_rfl) (by simp) ?_
        refine AllReadyH.cons (o := { dst := some 10, op := Op.call { callee := Callee.value (Operand.func 32), args := #[Operand.tmp 9], argTypes := #[26] }, type := 58, pos := "configs.go:31", after := #[{ on := 2, ground := Ground.data }, { on := 1, ground := Ground.chain }], guard := none }) rfl (fun K hK => ?_) ?_
        ·
          go_simp
          go_at_call 32; with_reducible refine (HS2 _).out.mono ?_; rintro e c17 ⟨rfl, hg1⟩
          have hG := hG.trans hg1
          have z5 := hg1.heap z5
          have z6 := hg1.heap z6
          go_wp2_with fail
          have hGo := hG
          refine hK.out _ _ hG (fun hHeld => ?_)
          clear hK K
          try simp only [Act.put, List.setIfInBounds_toArray, List.set_cons_zero, List.set_cons_succ]
          refine wpAnyH_ready (rs := [6]) (by kernel_rfl) (by simp) ?_
          refine AllReadyH.cons (o := { dst := none, op := Op.store 58 (Operand.tmp 5) (Operand.tmp 8), type := 0, pos := "configs.go:31", after := #[{ on := 4, ground := Ground.data }, { on := 1, ground := Ground.data }, { on := 3, ground := Ground.chain }, { on := 0, ground := Ground.phase }, { on := 1, ground := Ground.phase }, { on := 2, ground := Ground.textOnly Departure.lateStores }, { on := 3, ground := Ground.phase }, { on := 4, ground := Ground.phase }, { on := 5, ground := Ground.phase }], guard := none }) rfl (fun K hK => ?_) ?_
          ·
            have y0 := (blk_cell z5 0).trans rfl
            have y1 := (blk_cell z5 1).trans rfl
            have y2 := (blk_cell z5 2).trans rfl
            have f0 := blk_free z5 0
            have f1 := blk_free z5 1
            have f2 := blk_free z5 2
            have hsv := set3 (.string p1) (.string S1) (.int .i64 n1) z5 hG hb5
            skip
            go_simp
            obtain ⟨z5', hoth, hG⟩ := hsv
            have z6 := (hoth b6 hne.symm).trans z6
            have z5 := z5'
            generalize hcc : ((World.setCell (World.setCell (World.setCell c17 _ _) _ _) _ _)) = c18 at *
            clear hcc
            have hGo := hG
            refine hK.out _ _ hG (fun hHeld => ?_)
            clear hK K
            try simp only [Act.put, List.setIfInBounds_toArray, List.set_cons_zero, List.set_cons_succ]
            refine wpAnyH_ready (rs := [7]) (by kernel_rfl) (by simp) ?_
            refine AllReadyH.cons (o := { dst := none, op := Op.store 58 (Operand.tmp 6) (Operand.tmp 10), type := 0, pos := "configs.go:31", after := #[{ on := 5, ground := Ground.data }, { on := 3, ground := Ground.data }, { on := 6, ground := Ground.chain }, { on := 0, ground := Ground.phase }, { on := 1, ground := Ground.phase }, { on := 2, ground := Ground.phase }, { on := 3, ground := Ground.phase }, { on := 4, ground := Ground.phase }, { on := 5, ground := Ground.phase }, { on := 6, ground := Ground.phase }], guard := none }) rfl (fun K hK => ?_) ?_
            ·
              have y0 := (blk_cell z6 0).trans rfl
              have y1 := (blk_cell z6 1).trans rfl
              have y2 := (blk_cell z6 2).trans rfl
              have f0 := blk_free z6 0
              have f1 := blk_free z6 1
              have f2 := blk_free z6 2
              have hsv := set3 (.string p2) (.string S2) (.int .i64 n2) z6 hG hb6
              skip
              go_simp
              obtain ⟨z6', hoth, hG⟩ := hsv
              have z5 := (hoth b5 hne).trans z5
              have z6 := z6'
              generalize hcc : ((World.setCell (World.setCell (World.setCell c18 _ _) _ _) _ _)) = c19 at *
              clear hcc
              have hGo := hG
              refine hK.out _ _ hG (fun hHeld => ?_)
              clear hK K
              try simp only [Act.put, List.setIfInBounds_toArray, List.set_cons_zero, List.set_cons_succ]
              refine wpAnyH_done (by kernel_rfl) ?_ _
              go_wp2_with (first | (go_at_call 36; go_must (refine (HE b5 b6 c19 ((blk_cell z5 1).trans rfl) ((blk_cell z5 2).trans rfl) ((blk_cell z6 1).trans rfl) ((blk_cell z6 2).trans rfl)).out.mono ?_); rintro e we ⟨rfl, hge⟩))
              go_ret
              exact ⟨rfl, HGW.out.trans (hG.trans hge)⟩
            exact AllReadyH.nil
          exact AllReadyH.nil
        exact AllReadyH.nil
      exact AllReadyH.nil
    refine AllReadyH.cons (o := { dst := some 6, op := Op.alloc 58, type := 0, pos := "configs.go:31", after := #[], guard := none }) rfl (fun K hK => ?_) ?_
    ·
      go_simp
      have z6 := heap_new_at c1 (Obj.cells #[.string ⟨#[]⟩, .string ⟨#[]⟩, .int .i64 0] 58) rfl
      have hG := hG.alloc (Obj.cells #[.string ⟨#[]⟩, .string ⟨#[]⟩, .int .i64 0] 58)
      have hb6 := hGo.size
      generalize c1.heap.size = b6 at *
      generalize hcc : c1.alloc (Obj.cells #[.string ⟨#[]⟩, .string ⟨#[]⟩, .int .i64 0] 58) = c20 at *
      clear hcc
      have hGo := hG
      refine hK.out _ _ hG (fun hHeld => ?_)
      clear hK K
      try simp only [Act.put, List.setIfInBounds_toArray, List.set_cons_zero, List.set_cons_succ]
      refine wpAnyH_ready (rs := [3, 4]) (by kernel_rfl) (by simp) ?_
      refine AllReadyH.cons (o := { dst := some 10, op := Op.call { callee := Callee.value (Operand.func 32), args := #[Operand.tmp 9], argTypes := #[26] }, type := 58, pos := "configs.go:31", after := #[{ on := 2, ground := Ground.data }, { on := 1, ground := Ground.chain }], guard := none }) rfl (fun K hK => ?_) ?_
      ·
        go_simp
        go_at_call 32; with_reducible refine (HS2 _).out.mono ?_; rintro e c21 ⟨rfl, hg1⟩
        have hG := hG.trans hg1
        have z6 := hg1.heap z6
        go_wp2_with fail
        have hGo := hG
        refine hK.out _ _ hG (fun hHeld => ?_)
        clear hK K
        try simp only [Act.put, List.setIfInBounds_toArray, List.set_cons_zero, List.set_cons_succ]
        refine wpAnyH_ready (rs := [4]) (by kernel_rfl) (by simp) ?_
        refine AllReadyH.cons (o := { dst := some 5, op := Op.alloc 58, type := 0, pos := "configs.go:31", after := #[], guard := none }) rfl (fun K hK => ?_) ?_
        ·
          go_simp
          have z5 := heap_new_at c21 (Obj.cells #[.string ⟨#[]⟩, .string ⟨#[]⟩, .int .i64 0] 58) rfl
          have hG := hG.alloc (Obj.cells #[.string ⟨#[]⟩, .string ⟨#[]⟩, .int .i64 0] 58)
          have hb5 := hGo.size
          have hne := Nat.ne_of_lt (lt_of_some z6)
          have z6 := (Gr.alloc (Gr.refl c21) (Obj.cells #[.string ⟨#[]⟩, .string ⟨#[]⟩, .int .i64 0] 58)).heap z6
          generalize c21.heap.size = b5 at *
          generalize hcc : c21.alloc (Obj.cells #[.string ⟨#[]⟩, .string ⟨#[]⟩, .int .i64 0] 58) = c22 at *
          clear hcc
          have hGo := hG
          refine hK.out _ _ hG (fun hHeld => ?_)
          clear hK K
          try simp only [Act.put, List.setIfInBounds_toArray, List.set_cons_zero, List.set_cons_succ]
          refine wpAnyH_ready (rs := [6]) (by kernel_rfl) (by simp) ?_
          refine AllReadyH.cons (o := { dst := none, op := Op.store 58 (Operand.tmp 5) (Operand.tmp 8), type := 0, pos := "configs.go:31", after := #[{ on := 4, ground := Ground.data }, { on := 1, ground := Ground.data }, { on := 3, ground := Ground.chain }, { on := 0, ground := Ground.phase }, { on := 1, ground := Ground.phase }, { on := 2, ground := Ground.textOnly Departure.lateStores }, { on := 3, ground := Ground.phase }, { on := 4, ground := Ground.phase }, { on := 5, ground := Ground.phase }], guard := none }) rfl (fun K hK => ?_) ?_
          ·
            have y0 := (blk_cell z5 0).trans rfl
            have y1 := (blk_cell z5 1).trans rfl
            have y2 := (blk_cell z5 2).trans rfl
            have f0 := blk_free z5 0
            have f1 := blk_free z5 1
            have f2 := blk_free z5 2
            have hsv := set3 (.string p1) (.string S1) (.int .i64 n1) z5 hG hb5
            skip
            go_simp
            obtain ⟨z5', hoth, hG⟩ := hsv
            have z6 := (hoth b6 hne).trans z6
            have z5 := z5'
            generalize hcc : ((World.setCell (World.setCell (World.setCell c22 _ _) _ _) _ _)) = c23 at *
            clear hcc
            have hGo := hG
            refine hK.out _ _ hG (fun hHeld => ?_)
            clear hK K
            try simp only [Act.put, List.setIfInBounds_toArray, List.set_cons_zero, List.set_cons_succ]
            refine wpAnyH_ready (rs := [7]) (by kernel_rfl) (by simp) ?_
            refine AllReadyH.cons (o := { dst := none, op := Op.store 58 (Operand.tmp 6) (Operand.tmp 10), type := 0, pos := "configs.go:31", after := #[{ on := 5, ground := Ground.data }, { on := 3, ground := Ground.data }, { on := 6, ground := Ground.chain }, { on := 0, ground := Ground.phase }, { on := 1, ground := Ground.phase }, { on := 2, ground := Ground.phase }, { on := 3, ground := Ground.phase }, { on := 4, ground := Ground.phase }, { on := 5, ground := Ground.phase }, { on := 6, ground := Ground.phase }], guard := none }) rfl (fun K hK => ?_) ?_
            ·
              have y0 := (blk_cell z6 0).trans rfl
              have y1 := (blk_cell z6 1).trans rfl
              have y2 := (blk_cell z6 2).trans rfl
              have f0 := blk_free z6 0
              have f1 := blk_free z6 1
              have f2 := blk_free z6 2
              have hsv := set3 (.string p2) (.string S2) (.int .i64 n2) z6 hG hb6
              skip
              go_simp
              obtain ⟨z6', hoth, hG⟩ := hsv
              have z5 := (hoth b5 hne.symm).trans z5
              have z6 := z6'
              generalize hcc : ((World.setCell (World.setCell (World.setCell c23 _ _) _ _) _ _)) = c24 at *
              clear hcc
              have hGo := hG
              refine hK.out _ _ hG (fun hHeld => ?_)
              clear hK K
              try simp only [Act.put, List.setIfInBounds_toArray, List.set_cons_zero, List.set_cons_succ]
              refine wpAnyH_done (by kernel_rfl) ?_ _
              go_wp2_with (first | (go_at_call 36; go_must (refine (HE b5 b6 c24 ((blk_cell z5 1).trans rfl) ((blk_cell z5 2).trans rfl) ((blk_cell z6 1).trans rfl) ((blk_cell z6 2).trans rfl)).out.mono ?_); rintro e we ⟨rfl, hge⟩))
              go_ret
              exact ⟨rfl, HGW.out.trans (hG.trans hge)⟩
            exact AllReadyH.nil
          exact AllReadyH.nil
        exact AllReadyH.nil
      refine AllReadyH.cons (o := { dst := some 5, op := Op.alloc 58, type := 0, pos := "configs.go:31", after := #[], guard := none }) rfl (fun K hK => ?_) ?_
      ·
        go_simp
        have z5 := heap_new_at c20 (Obj.cells #[.string ⟨#[]⟩, .string ⟨#[]⟩, .int .i64 0] 58) rfl
        have hG := hG.alloc (Obj.cells #[.string ⟨#[]⟩, .string ⟨#[]⟩, .int .i64 0] 58)
        have hb5 := hGo.size
        have hne := Nat.ne_of_lt (lt_of_some z6)
        have z6 := (Gr.alloc (Gr.refl c20) (Obj.cells #[.string ⟨#[]⟩, .string ⟨#[]⟩, .int .i64 0] 58)).heap z6
        generalize c20.heap.size = b5 at *
        generalize hcc : c20.alloc (Obj.cells #[.string ⟨#[]⟩, .string ⟨#[]⟩, .int .i64 0] 58) = c25 at *
        clear hcc
        have hGo := hG
        refine hK.out _ _ hG (fun hHeld => ?_)
        clear hK K
        try simp only [Act.put, List.setIfInBounds_toArray, List.set_cons_zero, List.set_cons_succ]
        refine wpAnyH_ready (rs := [3]) (by kernel_rfl) (by simp) ?_
        refine AllReadyH.cons (o := { dst := some 10, op := Op.call { callee := Callee.value (Operand.func 32), args := #[Operand.tmp 9], argTypes := #[26] }, type := 58, pos := "configs.go:31", after := #[{ on := 2, ground := Ground.data }, { on := 1, ground := Ground.chain }], guard := none }) rfl (fun K hK => ?_) ?_
        ·
          go_simp
          go_at_call 32; with_reducible refine (HS2 _).out.mono ?_; rintro e c26 ⟨rfl, hg1⟩
          have hG := hG.trans hg1
          have z5 := hg1.heap z5
          have z6 := hg1.heap z6
          go_wp2_with fail
          have hGo := hG
          refine hK.out _ _ hG (fun hHeld => ?_)
          clear hK K
          try simp only [Act.put, List.setIfInBounds_toArray, List.set_cons_zero, List.set_cons_succ]
          refine wpAnyH_ready (rs := [6]) (by kernel_rfl) (by simp) ?_
          refine AllReadyH.cons (o := { dst := none, op := Op.store 58 (Operand.tmp 5) (Operand.tmp 8), type := 0, pos := "configs.go:31", after := #[{ on := 4, ground := Ground.data }, { on := 1, ground := Ground.data }, { on := 3, ground := Ground.chain }, { on := 0, ground := Ground.phase }, { on := 1, ground := Ground.phase }, { on := 2, ground := Ground.textOnly Departure.lateStores }, { on := 3, ground := Ground.phase }, { on := 4, ground := Ground.phase }, { on := 5, ground := Ground.phase }], guard := none }) rfl (fun K hK => ?_) ?_
          ·
            have y0 := (blk_cell z5 0).trans rfl
            have y1 := (blk_cell z5 1).trans rfl
            have y2 := (blk_cell z5 2).trans rfl
            have f0 := blk_free z5 0
            have f1 := blk_free z5 1
            have f2 := blk_free z5 2
            have hsv := set3 (.string p1) (.string S1) (.int .i64 n1) z5 hG hb5
            skip
            go_simp
            obtain ⟨z5', hoth, hG⟩ := hsv
            have z6 := (hoth b6 hne).trans z6
            have z5 := z5'
            generalize hcc : ((World.setCell (World.setCell (World.setCell c26 _ _) _ _) _ _)) = c27 at *
            clear hcc
            have hGo := hG
            refine hK.out _ _ hG (fun hHeld => ?_)
            clear hK K
            try simp only [Act.put, List.setIfInBounds_toArray, List.set_cons_zero, List.set_cons_succ]
            refine wpAnyH_ready (rs := [7]) (by kernel_rfl) (by simp) ?_
            refine AllReadyH.cons (o := { dst := none, op := Op.store 58 (Operand.tmp 6) (Operand.tmp 10), type := 0, pos := "configs.go:31", after := #[{ on := 5, ground := Ground.data }, { on := 3, ground := Ground.data }, { on := 6, ground := Ground.chain }, { on := 0, ground := Ground.phase }, { on := 1, ground := Ground.phase }, { on := 2, ground := Ground.phase }, { on := 3, ground := Ground.phase }, { on := 4, ground := Ground.phase }, { on := 5, ground := Ground.phase }, { on := 6, ground := Ground.phase }], guard := none }) rfl (fun K hK => ?_) ?_
            ·
              have y0 := (blk_cell z6 0).trans rfl
              have y1 := (blk_cell z6 1).trans rfl
              have y2 := (blk_cell z6 2).trans rfl
              have f0 := blk_free z6 0
              have f1 := blk_free z6 1
              have f2 := blk_free z6 2
              have hsv := set3 (.string p2) (.string S2) (.int .i64 n2) z6 hG hb6
              skip
              go_simp
              obtain ⟨z6', hoth, hG⟩ := hsv
              have z5 := (hoth b5 hne.symm).trans z5
              have z6 := z6'
              generalize hcc : ((World.setCell (World.setCell (World.setCell c27 _ _) _ _) _ _)) = c28 at *
              clear hcc
              have hGo := hG
              refine hK.out _ _ hG (fun hHeld => ?_)
              clear hK K
              try simp only [Act.put, List.setIfInBounds_toArray, List.set_cons_zero, List.set_cons_succ]
              refine wpAnyH_done (by kernel_rfl) ?_ _
              go_wp2_with (first | (go_at_call 36; go_must (refine (HE b5 b6 c28 ((blk_cell z5 1).trans rfl) ((blk_cell z5 2).trans rfl) ((blk_cell z6 1).trans rfl) ((blk_cell z6 2).trans rfl)).out.mono ?_); rintro e we ⟨rfl, hge⟩))
              go_ret
              exact ⟨rfl, HGW.out.trans (hG.trans hge)⟩
            exact AllReadyH.nil
          exact AllReadyH.nil
        exact AllReadyH.nil
      exact AllReadyH.nil
    exact AllReadyH.nil
  refine AllReadyH.cons (o := { dst := some 5, op := Op.alloc 58, type := 0, pos := "configs.go:31", after := #[], guard := none }) rfl (fun K hK => ?_) ?_
  ·
    go_simp
    have z5 := heap_new_at c0 (Obj.cells #[.string ⟨#[]⟩, .string ⟨#[]⟩, .int .i64 0] 58) rfl
    have hG := hG.alloc (Obj.cells #[.string ⟨#[]⟩, .string ⟨#[]⟩, .int .i64 0] 58)
    have hb5 := hGo.size
    generalize c0.heap.size = b5 at *
    generalize hcc : c0.alloc (Obj.cells #[.string ⟨#[]⟩, .string ⟨#[]⟩, .int .i64 0] 58) = c29 at *
    clear hcc
    have hGo := hG
    refine hK.out _ _ hG (fun hHeld => ?_)
    clear hK K
    try simp only [Act.put, List.setIfInBounds_toArray, List.set_cons_zero, List.set_cons_succ]
    refine wpAnyH_ready (rs := [1, 5]) (by kernel_rfl) (by simp) ?_
    refine AllReadyH.cons (o := { dst := some 8, op := Op.call { callee := Callee.value (Operand.func 32), args := #[Operand.tmp 7], argTypes := #[26] }, type := 58, pos := "configs.go:31", after := #[{ on := 0, ground := Ground.data }], guard := none }) rfl (fun K hK => ?_) ?_
    ·
      go_simp
      go_at_call 32; with_reducible refine (HS1 _).out.mono ?_; rintro e c30 ⟨rfl, hg1⟩
      have hG := hG.trans hg1
      have z5 := hg1.heap z5
      go_wp2_with fail
      have hGo := hG
      refine hK.out _ _ hG (fun hHeld => ?_)
      clear hK K
      try simp only [Act.put, List.setIfInBounds_toArray, List.set_cons_zero, List.set_cons_succ]
      refine wpAnyH_ready (rs := [3, 5]) (by kernel_rfl) (by simp) ?_
      refine AllReadyH.cons (o := { dst := some 10, op := Op.call { callee := Callee.value (Operand.func 32), args := #[Operand.tmp 9], argTypes := #[26] }, type := 58, pos := "configs.go:31", after := #[{ on := 2, ground := Ground.data }, { on := 1, ground := Ground.chain }], guard := none }) rfl (fun K hK => ?_) ?_
      ·
        go_simp
        go_at_call 32; with_reducible refine (HS2 _).out.mono ?_; rintro e c31 ⟨rfl, hg1⟩
        have hG := hG.trans hg1
        have z5 := hg1.heap z5
        go_wp2_with fail
        have hGo := hG
        refine hK.out _ _ hG (fun hHeld => ?_)
        clear hK K
        try simp only [Act.put, List.setIfInBounds_toArray, List.set_cons_zero, List.set_cons_succ]
        refine wpAnyH_ready (rs := [5]) (by kernel_rfl) (by simp) ?_
        refine AllReadyH.cons (o := { dst := some 6, op := Op.alloc 58, type := 0, pos := "configs.go:31", after := #[], guard := none }) rfl (fun K hK => ?_) ?_
        ·
          go_simp
          have z6 := heap_new_at c31 (Obj.cells #[.string ⟨#[]⟩, .string ⟨#[]⟩, .int .i64 0] 58) rfl
          have hG := hG.alloc (Obj.cells #[.string ⟨#[]⟩, .string ⟨#[]⟩, .int .i64 0] 58)
          have hb6 := hGo.size
          have hne := Nat.ne_of_lt (lt_of_some z5)
          have z5 := (Gr.alloc (Gr.refl c31) (Obj.cells #[.string ⟨#[]⟩, .string ⟨#[]⟩, .int .i64 0] 58)).heap z5
          generalize c31.heap.size = b6 at *
          generalize hcc : c31.alloc (Obj.cells #[.string ⟨#[]⟩, .string ⟨#[]⟩, .int .i64 0] 58) = c32 at *
          clear hcc
          have hGo := hG
          refine hK.out _ _ hG (fun hHeld => ?_)
          clear hK K
          try simp only [Act.put, List.setIfInBounds_toArray, List.set_cons_zero, List.set_cons_succ]
          refine wpAnyH_ready (rs := [6]) (by kernel_rfl) (by simp) ?_
          refine AllReadyH.cons (o := { dst := none, op := Op.store 58 (Operand.tmp 5) (Operand.tmp 8), type := 0, pos := "configs.go:31", after := #[{ on := 4, ground := Ground.data }, { on := 1, ground := Ground.data }, { on := 3, ground := Ground.chain }, { on := 0, ground := Ground.phase }, { on := 1, ground := Ground.phase }, { on := 2, ground := Ground.textOnly Departure.lateStores }, { on := 3, ground := Ground.phase }, { on := 4, ground := Ground.phase }, { on := 5, ground := Ground.phase }], guard := none }) rfl (fun K hK => ?_) ?_
          ·
            have y0 := (blk_cell z5 0).trans rfl
            have y1 := (blk_cell z5 1).trans rfl
            have y2 := (blk_cell z5 2).trans rfl
            have f0 := blk_free z5 0
            have f1 := blk_free z5 1
            have f2 := blk_free z5 2
            have hsv := set3 (.string p1) (.string S1) (.int .i64 n1) z5 hG hb5
            skip
            go_simp
            obtain ⟨z5', hoth, hG⟩ := hsv
            have z6 := (hoth b6 hne.symm).trans z6
            have z5 := z5'
            generalize hcc : ((World.setCell (World.setCell (World.setCell c32 _ _) _ _) _ _)) = c33 at *
            clear hcc
            have hGo := hG
            refine hK.out _ _ hG (fun hHeld => ?_)
            clear hK K
            try simp only [Act.put, List.setIfInBounds_toArray, List.set_cons_zero, List.set_cons_succ]
            refine wpAnyH_ready (rs := [7]) (by kernel_rfl) (by simp) ?_
            refine AllReadyH.cons (o := { dst := none, op := Op.store 58 (Operand.tmp 6) (Operand.tmp 10), type := 0, pos := "configs.go:31", after := #[{ on := 5, ground := Ground.data }, { on := 3, ground := Ground.data }, { on := 6, ground := Ground.chain }, { on := 0, ground := Ground.phase }, { on := 1, ground := Ground.phase }, { on := 2, ground := Ground.phase }, { on := 3, ground := Ground.phase }, { on := 4, ground := Ground.phase }, { on := 5, ground := Ground.phase }, { on := 6, ground := Ground.phase }], guard := none }) rfl (fun K hK => ?_) ?_
            ·
              have y0 := (blk_cell z6 0).trans rfl
              have y1 := (blk_cell z6 1).trans rfl
              have y2 := (blk_cell z6 2).trans rfl
              have f0 := blk_free z6 0
              have f1 := blk_free z6 1
              have f2 := blk_free z6 2
              have hsv := set3 (.string p2) (.string S2) (.int .i64 n2) z6 hG hb6
              skip
              go_simp
              obtain ⟨z6', hoth, hG⟩ := hsv
              have z5 := (hoth b5 hne).trans z5
              have z6 := z6'
              generalize hcc : ((World.setCell (World.setCell (World.setCell c33 _ _) _ _) _ _)) = c34 at *
              clear hcc
              have hGo := hG
              refine hK.out _ _ hG (fun hHeld => ?_)
              clear hK K
              try simp only [Act.put, List.setIfInBounds_toArray, List.set_cons_zero, List.set_cons_succ]
              refine wpAnyH_done (by kernel_rfl) ?_ _
              go_wp2_with (first | (go_at_call 36; go_must (refine (HE b5 b6 c34 ((blk_cell z5 1).trans rfl) ((blk_cell z5 2).trans rfl) ((blk_cell z6 1).trans rfl) ((blk_cell z6 2).trans rfl)).out.mono ?_); rintro e we ⟨rfl, hge⟩))
              go_ret
              exact ⟨rfl, HGW.out.trans (hG.trans hge)⟩
            exact AllReadyH.nil
          exact AllReadyH.nil
        exact AllReadyH.nil
      refine AllReadyH.cons (o := { dst := some 6, op := Op.alloc 58, type := 0, pos := "configs.go:31", after := #[], guard := none }) rfl (fun K hK => ?_) ?_
      ·
        go_simp
        have z6 := heap_new_at c30 (Obj.cells #[.string ⟨#[]⟩, .string ⟨#[]⟩, .int .i64 0] 58) rfl
        have hG := hG.alloc (Obj.cells #[.string ⟨#[]⟩, .string ⟨#[]⟩, .int .i64 0] 58)
        have hb6 := hGo.size
        have hne := Nat.ne_of_lt (lt_of_some z5)
        have z5 := (Gr.alloc (Gr.refl c30) (Obj.cells #[.string ⟨#[]⟩, .string ⟨#[]⟩, .int .i64 0] 58)).heap z5
        generalize c30.heap.size = b6 at *
        generalize hcc : c30.alloc (Obj.cells #[.string ⟨#[]⟩, .string ⟨#[]⟩, .int .i64 0] 58) = c35 at *
        clear hcc
        have hGo := hG
        refine hK.out _ _ hG (fun hHeld => ?_)
        clear hK K
        try simp only [Act.put, List.setIfInBounds_toArray, List.set_cons_zero, List.set_cons_succ]
        refine wpAnyH_ready (rs := [3]) (by kernel_rfl) (by simp) ?_
        refine AllReadyH.cons (o := { dst := some 10, op := Op.call { callee := Callee.value (Operand.func 32), args := #[Operand.tmp 9], argTypes := #[26] }, type := 58, pos := "configs.go:31", after := #[{ on := 2, ground := Ground.data }, { on := 1, ground := Ground.chain }], guard := none }) rfl (fun K hK => ?_) ?_
        ·
          go_simp
          go_at_call 32; with_reducible refine (HS2 _).out.mono ?_; rintro e c36 ⟨rfl, hg1⟩
          have hG := hG.trans hg1
          have z5 := hg1.heap z5
          have z6 := hg1.heap z6
          go_wp2_with fail
          have hGo := hG
          refine hK.out _ _ hG (fun hHeld => ?_)
          clear hK K
          try simp only [Act.put, List.setIfInBounds_toArray, List.set_cons_zero, List.set_cons_succ]
          refine wpAnyH_ready (rs := [6]) (by kernel_rfl) (by simp) ?_
          refine AllReadyH.cons (o := { dst := none, op := Op.store 58 (Operand.tmp 5) (Operand.tmp 8), type := 0, pos := "configs.go:31", after := #[{ on := 4, ground := Ground.data }, { on := 1, ground := Ground.data }, { on := 3, ground := Ground.chain }, { on := 0, ground := Ground.phase }, { on := 1, ground := Ground.phase }, { on := 2, ground := Ground.textOnly Departure.lateStores }, { on := 3, ground := Ground.phase }, { on := 4, ground := Ground.phase }, { on := 5, ground := Ground.phase }], guard := none }) rfl (fun K hK => ?_) ?_
          ·
            have y0 := (blk_cell z5 0).trans rfl
            have y1 := (blk_cell z5 1).trans rfl
            have y2 := (blk_cell z5 2).trans rfl
            have f0 := blk_free z5 0
            have f1 := blk_free z5 1
            have f2 := blk_free z5 2
            have hsv := set3 (.string p1) (.string S1) (.int .i64 n1) z5 hG hb5
            skip
            go_simp
            obtain ⟨z5', hoth, hG⟩ := hsv
            have z6 := (hoth b6 hne.symm).trans z6
            have z5 := z5'
            generalize hcc : ((World.setCell (World.setCell (World.setCell c36 _ _) _ _) _ _)) = c37 at *
            clear hcc
            have hGo := hG
            refine hK.out _ _ hG (fun hHeld => ?_)
            clear hK K
            try simp only [Act.put, List.setIfInBounds_toArray, List.set_cons_zero, List.set_cons_succ]
            refine wpAnyH_ready (rs := [7]) (by kernel_rfl) (by simp) ?_
            refine AllReadyH.cons (o := { dst := none, op := Op.store 58 (Operand.tmp 6) (Operand.tmp 10), type := 0, pos := "configs.go:31", after := #[{ on := 5, ground := Ground.data }, { on := 3, ground := Ground.data }, { on := 6, ground := Ground.chain }, { on := 0, ground := Ground.phase }, { on := 1, ground := Ground.phase }, { on := 2, ground := Ground.phase }, { on := 3, ground := Ground.phase }, { on := 4, ground := Ground.phase }, { on := 5, ground := Ground.phase }, { on := 6, ground := Ground.phase }], guard := none }) rfl (fun K hK => ?_) ?_
            ·
              have y0 := (blk_cell z6 0).trans rfl
              have y1 := (blk_cell z6 1).trans rfl
              have y2 := (blk_cell z6 2).trans rfl
              have f0 := blk_free z6 0
              have f1 := blk_free z6 1
              have f2 := blk_free z6 2
              have hsv := set3 (.string p2) (.string S2) (.int .i64 n2) z6 hG hb6
              skip
              go_simp
              obtain ⟨z6', hoth, hG⟩ := hsv
              have z5 := (hoth b5 hne).trans z5
              have z6 := z6'
              generalize hcc : ((World.setCell (World.setCell (World.setCell c37 _ _) _ _) _ _)) = c38 at *
              clear hcc
              have hGo := hG
              refine hK.out _ _ hG (fun hHeld => ?_)
              clear hK K
              try simp only [Act.put, List.setIfInBounds_toArray, List.set_cons_zero, List.set_cons_succ]
              refine wpAnyH_done (by kernel_rfl) ?_ _
              go_wp2_with (first | (go_at_call 36; go_must (refine (HE b5 b6 c38 ((blk_cell z5 1).trans rfl) ((blk_cell z5 2).trans rfl) ((blk_cell z6 1).trans rfl) ((blk_cell z6 2).trans rfl)).out.mono ?_); rintro e we ⟨rfl, hge⟩))
              go_ret
              exact ⟨rfl, HGW.out.trans (hG.trans hge)⟩
            exact AllReadyH.nil
          exact AllReadyH.nil
        exact AllReadyH.nil
      exact AllReadyH.nil
    refine AllReadyH.cons (o := { dst := some 6, op := Op.alloc 58, type := 0, pos := "configs.go:31", after := #[], guard := none }) rfl (fun K hK => ?_) ?_
    ·
      go_simp
      have z6 := heap_new_at c29 (Obj.cells #[.string ⟨#[]⟩, .string ⟨#[]⟩, .int .i64 0] 58) rfl
      have hG := hG.alloc (Obj.cells #[.string ⟨#[]⟩, .string ⟨#[]⟩, .int .i64 0] 58)
      have hb6 := hGo.size
      have hne := Nat.ne_of_lt (lt_of_some z5)
      have z5 := (Gr.alloc (Gr.refl c29) (Obj.cells #[.string ⟨#[]⟩, .string ⟨#[]⟩, .int .i64 0] 58)).heap z5
      generalize c29.heap.size = b6 at *
      generalize hcc : c29.alloc (Obj.cells #[.string ⟨#[]⟩, .string ⟨#[]⟩, .int .i64 0] 58) = c39 at *
      clear hcc
      have hGo := hG
      refine hK.out _ _ hG (fun hHeld => ?_)
      clear hK K
      try simp only [Act.put, List.setIfInBounds_toArray, List.set_cons_zero, List.set_cons_succ]
      refine wpAnyH_ready (rs := [1]) (by kernel_rfl) (by simp) ?_
      refine AllReadyH.cons (o := { dst := some 8, op := Op.call { callee := Callee.value (Operand.func 32), args := #[Operand.tmp 7], argTypes := #[26] }, type := 58, pos := "configs.go:31", after := #[{ on := 0, ground := Ground.data }], guard := none }) rfl (fun K hK => ?_) ?_
      ·
        go_simp
        go_at_call 32; with_reducible refine (HS1 _).out.mono ?_; rintro e c40 ⟨rfl, hg1⟩
        have hG := hG.trans hg1
        have z5 := hg1.heap z5
        have z6 := hg1.heap z6
        go_wp2_with fail
        have hGo := hG
        refine hK.out _ _ hG (fun hHeld => ?_)
        clear hK K
        try simp only [Act.put, List.setIfInBounds_toArray, List.set_cons_zero, List.set_cons_succ]
        refine wpAnyH_ready (rs := [3]) (by kernel_rfl) (by simp) ?_
        refine AllReadyH.cons (o := { dst := some 10, op := Op.call { callee := Callee.value (Operand.func 32), args := #[Operand.tmp 9], argTypes := #[26] }, type := 58, pos := "configs.go:31", after := #[{ on := 2, ground := Ground.data }, { on := 1, ground := Ground.chain }], guard := none }) rfl (fun K hK => ?_) ?_
        ·
          go_simp
          go_at_call 32; with_reducible refine (HS2 _).out.mono ?_; rintro e c41 ⟨rfl, hg1⟩
          have hG := hG.trans hg1
          have z5 := hg1.heap z5
          have z6 := hg1.heap z6
          go_wp2_with fail
          have hGo := hG
          refine hK.out _ _ hG (fun hHeld => ?_)
          clear hK K
          try simp only [Act.put, List.setIfInBounds_toArray, List.set_cons_zero, List.set_cons_succ]
          refine wpAnyH_ready (rs := [6]) (by kernel_rfl) (by simp) ?_
          refine AllReadyH.cons (o := { dst := none, op := Op.store 58 (Operand.tmp 5) (Operand.tmp 8), type := 0, pos := "configs.go:31", after := #[{ on := 4, ground := Ground.data }, { on := 1, ground := Ground.data }, { on := 3, ground := Ground.chain }, { on := 0, ground := Ground.phase }, { on := 1, ground := Ground.phase }, { on := 2, ground := Ground.textOnly Departure.lateStores }, { on := 3, ground := Ground.phase }, { on := 4, ground := Ground.phase }, { on := 5, ground := Ground.phase }], guard := none }) rfl (fun K hK => ?_) ?_
          ·
            have y0 := (blk_cell z5 0).trans rfl
            have y1 := (blk_cell z5 1).trans rfl
            have y2 := (blk_cell z5 2).trans rfl
            have f0 := blk_free z5 0
            have f1 := blk_free z5 1
            have f2 := blk_free z5 2
            have hsv := set3 (.string p1) (.string S1) (.int .i64 n1) z5 hG hb5
            skip
            go_simp
            obtain ⟨z5', hoth, hG⟩ := hsv
            have z6 := (hoth b6 hne.symm).trans z6
            have z5 := z5'
            generalize hcc : ((World.setCell (World.setCell (World.setCell c41 _ _) _ _) _ _)) = c42 at *
            clear hcc
            have hGo := hG
            refine hK.out _ _ hG (fun hHeld => ?_)
            clear hK K
            try simp only [Act.put, List.setIfInBounds_toArray, List.set_cons_zero, List.set_cons_succ]
            refine wpAnyH_ready (rs := [7]) (by kernel_rfl) (by simp) ?_
            refine AllReadyH.cons (o := { dst := none, op := Op.store 58 (Operand.tmp 6) (Operand.tmp 10), type := 0, pos := "configs.go:31", after := #[{ on := 5, ground := Ground.data }, { on := 3, ground := Ground.data }, { on := 6, ground := Ground.chain }, { on := 0, ground := Ground.phase }, { on := 1, ground := Ground.phase }, { on := 2, ground := Ground.phase }, { on := 3, ground := Ground.phase }, { on := 4, ground := Ground.phase }, { on := 5, ground := Ground.phase }, { on := 6, ground := Ground.phase }], guard := none }) rfl (fun K hK => ?_) ?_
            ·
              have y0 := (blk_cell z6 0).trans rfl
              have y1 := (blk_cell z6 1).trans rfl
              have y2 := (blk_cell z6 2).trans rfl
              have f0 := blk_free z6 0
              have f1 := blk_free z6 1
              have f2 := blk_free z6 2
              have hsv := set3 (.string p2) (.string S2) (.int .i64 n2) z6 hG hb6
              skip
              go_simp
              obtain ⟨z6', hoth, hG⟩ := hsv
              have z5 := (hoth b5 hne).trans z5
              have z6 := z6'
              generalize hcc : ((World.setCell (World.setCell (World.setCell c42 _ _) _ _) _ _)) = c43 at *
              clear hcc
              have hGo := hG
              refine hK.out _ _ hG (fun hHeld => ?_)
              clear hK K
              try simp only [Act.put, List.setIfInBounds_toArray, List.set_cons_zero, List.set_cons_succ]
              refine wpAnyH_done (by kernel_rfl) ?_ _
              go_wp2_with (first | (go_at_call 36; go_must (refine (HE b5 b6 c43 ((blk_cell z5 1).trans rfl) ((blk_cell z5 2).trans rfl) ((blk_cell z6 1).trans rfl) ((blk_cell z6 2).trans rfl)).out.mono ?_); rintro e we ⟨rfl, hge⟩))
              go_ret
              exact ⟨rfl, HGW.out.trans (hG.trans hge)⟩
            exact AllReadyH.nil
          exact AllReadyH.nil
        exact AllReadyH.nil
      exact AllReadyH.nil
    exact AllReadyH.nil
  refine AllReadyH.cons (o := { dst := some 6, op := Op.alloc 58, type := 0, pos := "configs.go:31", after := #[], guard := none }) rfl (fun K hK => ?_) ?_
  ·
    go_simp
    have z6 := heap_new_at c0 (Obj.cells #[.string ⟨#[]⟩, .string ⟨#[]⟩, .int .i64 0] 58) rfl
    have hG := hG.alloc (Obj.cells #[.string ⟨#[]⟩, .string ⟨#[]⟩, .int .i64 0] 58)
    have hb6 := hGo.size
    generalize c0.heap.size = b6 at *
    generalize hcc : c0.alloc (Obj.cells #[.string ⟨#[]⟩, .string ⟨#[]⟩, .int .i64 0] 58) = c44 at *
    clear hcc
    have hGo := hG
    refine hK.out _ _ hG (fun hHeld => ?_)
    clear hK K
    try simp only [Act.put, List.setIfInBounds_toArray, List.set_cons_zero, List.set_cons_succ]
    refine wpAnyH_ready (rs := [1, 4]) (by kernel_rfl) (by simp) ?_
    refine AllReadyH.cons (o := { dst := some 8, op := Op.call { callee := Callee.value (Operand.func 32), args := #[Operand.tmp 7], argTypes := #[26] }, type := 58, pos := "configs.go:31", after := #[{ on := 0, ground := Ground.data }], guard := none }) rfl (fun K hK => ?_) ?_
    ·
      go_simp
      go_at_call 32; with_reducible refine (HS1 _).out.mono ?_; rintro e c45 ⟨rfl, hg1⟩
      have hG := hG.trans hg1
      have z6 := hg1.heap z6
      go_wp2_with fail
      have hGo := hG
      refine hK.out _ _ hG (fun hHeld => ?_)
      clear hK K
      try simp only [Act.put, List.setIfInBounds_toArray, List.set_cons_zero, List.set_cons_succ]
      refine wpAnyH_ready (rs := [3, 4]) (by kernel_rfl) (by simp) ?_
      refine AllReadyH.cons (o := { dst := some 10, op := Op.call { callee := Callee.value (Operand.func 32), args := #[Operand.tmp 9], argTypes := #[26] }, type := 58, pos := "configs.go:31", after := #[{ on := 2, ground := Ground.data }, { on := 1, ground := Ground.chain }], guard := none }) rfl (fun K hK => ?_) ?_
      ·
        go_simp
        go_at_call 32; with_reducible refine (HS2 _).out.mono ?_; rintro e c46 ⟨rfl, hg1⟩
        have hG := hG.trans hg1
        have z6 := hg1.heap z6
        go_wp2_with fail
        have hGo := hG
        refine hK.out _ _ hG (fun hHeld => ?_)
        clear hK K
        try simp only [Act.put, List.setIfInBounds_toArray, List.set_cons_zero, List.set_cons_succ]
        refine wpAnyH_ready (rs := [4]) (by kernel_rfl) (by simp) ?_
        refine AllReadyH.cons (o := { dst := some 5, op := Op.alloc 58, type := 0, pos := "configs.go:31", after := #[], guard := none }) rfl (fun K hK => ?_) ?_
        ·
          go_simp
          have z5 := heap_new_at c46 (Obj.cells #[.string ⟨#[]⟩, .string ⟨#[]⟩, .int .i64 0] 58) rfl
          have hG := hG.alloc (Obj.cells #[.string ⟨#[]⟩, .string ⟨#[]⟩, .int .i64 0] 58)
          have hb5 := hGo.size
          have hne := Nat.ne_of_lt (lt_of_some z6)
          have z6 := (Gr.alloc (Gr.refl c46) (Obj.cells #[.string ⟨#[]⟩, .string ⟨#[]⟩, .int .i64 0] 58)).heap z6
          generalize c46.heap.size = b5 at *
          generalize hcc : c46.alloc (Obj.cells #[.string ⟨#[]⟩, .string ⟨#[]⟩, .int .i64 0] 58) = c47 at *
          clear hcc
          have hGo := hG
          refine hK.out _ _ hG (fun hHeld => ?_)
          clear hK K
          try simp only [Act.put, List.setIfInBounds_toArray, List.set_cons_zero, List.set_cons_succ]
          refine wpAnyH_ready (rs := [6]) (by kernel_rfl) (by simp) ?_
          refine AllReadyH.cons (o := { dst := none, op := Op.store 58 (Operand.tmp 5) (Operand.tmp 8), type := 0, pos := "configs.go:31", after := #[{ on := 4, ground := Ground.data }, { on := 1, ground := Ground.data }, { on := 3, ground := Ground.chain }, { on := 0, ground := Ground.phase }, { on := 1, ground := Ground.phase }, { on := 2, ground := Ground.textOnly Departure.lateStores }, { on := 3, ground := Ground.phase }, { on := 4, ground := Ground.phase }, { on := 5, ground := Ground.phase }], guard := none }) rfl (fun K hK => ?_) ?_
          ·
            have y0 := (blk_cell z5 0).trans rfl
            have y1 := (blk_cell z5 1).trans rfl
            have y2 := (blk_cell z5 2).trans rfl
            have f0 := blk_free z5 0
            have f1 := blk_free z5 1
            have f2 := blk_free z5 2
            have hsv := set3 (.string p1) (.string S1) (.int .i64 n1) z5 hG hb5
            skip
            go_simp
            obtain ⟨z5', hoth, hG⟩ := hsv
            have z6 := (hoth b6 hne).trans z6
            have z5 := z5'
            generalize hcc : ((World.setCell (World.setCell (World.setCell c47 _ _) _ _) _ _)) = c48 at *
            clear hcc
            have hGo := hG
            refine hK.out _ _ hG (fun hHeld => ?_)
            clear hK K
            try simp only [Act.put, List.setIfInBounds_toArray, List.set_cons_zero, List.set_cons_succ]
            refine wpAnyH_ready (rs := [7]) (by kernel_rfl) (by simp) ?_
            refine AllReadyH.cons (o := { dst := none, op := Op.store 58 (Operand.tmp 6) (Operand.tmp 10), type := 0, pos := "configs.go:31", after := #[{ on := 5, ground := Ground.data }, { on := 3, ground := Ground.data }, { on := 6, ground := Ground.chain }, { on := 0, ground := Ground.phase }, { on := 1, ground := Ground.phase }, { on := 2, ground := Ground.phase }, { on := 3, ground := Ground.phase }, { on := 4, ground := Ground.phase }, { on := 5, ground := Ground.phase }, { on := 6, ground := Ground.phase }], guard := none }) rfl (fun K hK => ?_) ?_
            ·
              have y0 := (blk_cell z6 0).trans rfl
              have y1 := (blk_cell z6 1).trans rfl
              have y2 := (blk_cell z6 2).trans rfl
              have f0 := blk_free z6 0
              have f1 := blk_free z6 1
              have f2 := blk_free z6 2
              have hsv := set3 (.string p2) (.string S2) (.int .i64 n2) z6 hG hb6
              skip
              go_simp
              obtain ⟨z6', hoth, hG⟩ := hsv
              have z5 := (hoth b5 hne.symm).trans z5
              have z6 := z6'
              generalize hcc : ((World.setCell (World.setCell (World.setCell c48 _ _) _ _) _ _)) = c49 at *
              clear hcc
              have hGo := hG
              refine hK.out _ _ hG (fun hHeld => ?_)
              clear hK K
              try simp only [Act.put, List.setIfInBounds_toArray, List.set_cons_zero, List.set_cons_succ]
              refine wpAnyH_done (by kernel_rfl) ?_ _
              go_wp2_with (first | (go_at_call 36; go_must (refine (HE b5 b6 c49 ((blk_cell z5 1).trans rfl) ((blk_cell z5 2).trans rfl) ((blk_cell z6 1).trans rfl) ((blk_cell z6 2).trans rfl)).out.mono ?_); rintro e we ⟨rfl, hge⟩))
              go_ret
              exact ⟨rfl, HGW.out.trans (hG.trans hge)⟩
            exact AllReadyH.nil
          exact AllReadyH.nil
        exact AllReadyH.nil
      refine AllReadyH.cons (o := { dst := some 5, op := Op.alloc 58, type := 0, pos := "configs.go:31", after := #[], guard := none }) rfl (fun K hK => ?_) ?_
      ·
        go_simp
        have z5 := heap_new_at c45 (Obj.cells #[.string ⟨#[]⟩, .string ⟨#[]⟩, .int .i64 0] 58) rfl
        have hG := hG.alloc (Obj.cells #[.string ⟨#[]⟩, .string ⟨#[]⟩, .int .i64 0] 58)
        have hb5 := hGo.size
        have hne := Nat.ne_of_lt (lt_of_some z6)
        have z6 := (Gr.alloc (Gr.refl c45) (Obj.cells #[.string ⟨#[]⟩, .string ⟨#[]⟩, .int .i64 0] 58)).heap z6
        generalize c45.heap.size = b5 at *
        generalize hcc : c45.alloc (Obj.cells #[.string ⟨#[]⟩, .string ⟨#[]⟩, .int .i64 0] 58) = c50 at *
        clear hcc
        have hGo := hG
        refine hK.out _ _ hG (fun hHeld => ?_)
        clear hK K
        try simp only [Act.put, List.setIfInBounds_toArray, List.set_cons_zero, List.set_cons_succ]
        refine wpAnyH_ready (rs := [3]) (by kernel_rfl) (by simp) ?_
        refine AllReadyH.cons (o := { dst := some 10, op := Op.call { callee := Callee.value (Operand.func 32), args := #[Operand.tmp 9], argTypes := #[26] }, type := 58, pos := "configs.go:31", after := #[{ on := 2, ground := Ground.data }, { on := 1, ground := Ground.chain }], guard := none }) rfl (fun K hK => ?_) ?_
        ·
          go_simp
          go_at_call 32; with_reducible refine (HS2 _).out.mono ?_; rintro e c51 ⟨rfl, hg1⟩
          have hG := hG.trans hg1
          have z5 := hg1.heap z5
          have z6 := hg1.heap z6
          go_wp2_with fail
          have hGo := hG
          refine hK.out _ _ hG (fun hHeld => ?_)
          clear hK K
          try simp only [Act.put, List.setIfInBounds_toArray, List.set_cons_zero, List.set_cons_succ]
          refine wpAnyH_ready (rs := [6]) (by kernel_rfl) (by simp) ?_
          refine AllReadyH.cons (o := { dst := none, op := Op.store 58 (Operand.tmp 5) (Operand.tmp 8), type := 0, pos := "configs.go:31", after := #[{ on := 4, ground := Ground.data }, { on := 1, ground := Ground.data }, { on := 3, ground := Ground.chain }, { on := 0, ground := Ground.phase }, { on := 1, ground := Ground.phase }, { on := 2, ground := Ground.textOnly Departure.lateStores }, { on := 3, ground := Ground.phase }, { on := 4, ground := Ground.phase }, { on := 5, ground := Ground.phase }], guard := none }) rfl (fun K hK => ?_) ?_
          ·
            have y0 := (blk_cell z5 0).trans rfl
            have y1 := (blk_cell z5 1).trans rfl
            have y2 := (blk_cell z5 2).trans rfl
            have f0 := blk_free z5 0
            have f1 := blk_free z5 1
            have f2 := blk_free z5 2
            have hsv := set3 (.string p1) (.string S1) (.int .i64 n1) z5 hG hb5
            skip
            go_simp
            obtain ⟨z5', hoth, hG⟩ := hsv
            have z6 := (hoth b6 hne).trans z6
            have z5 := z5'
            generalize hcc : ((World.setCell (World.setCell (World.setCell c51 _ _) _ _) _ _)) = c52 at *
            clear hcc
            have hGo := hG
            refine hK.out _ _ hG (fun hHeld => ?_)
            clear hK K
            try simp only [Act.put, List.setIfInBounds_toArray, List.set_cons_zero, List.set_cons_succ]
            refine wpAnyH_ready (rs := [7]) (by kernel_rfl) (by simp) ?_
            refine AllReadyH.cons (o := { dst := none, op := Op.store 58 (Operand.tmp 6) (Operand.tmp 10), type := 0, pos := "configs.go:31", after := #[{ on := 5, ground := Ground.data }, { on := 3, ground := Ground.data }, { on := 6, ground := Ground.chain }, { on := 0, ground := Ground.phase }, { on := 1, ground := Ground.phase }, { on := 2, ground := Ground.phase }, { on := 3, ground := Ground.phase }, { on := 4, ground := Ground.phase }, { on := 5, ground := Ground.phase }, { on := 6, ground := Ground.phase }], guard := none }) rfl (fun K hK => ?_) ?_
            ·
              have y0 := (blk_cell z6 0).trans rfl
              have y1 := (blk_cell z6 1).trans rfl
              have y2 := (blk_cell z6 2).trans rfl
              have f0 := blk_free z6 0
              have f1 := blk_free z6 1
              have f2 := blk_free z6 2
              have hsv := set3 (.string p2) (.string S2) (.int .i64 n2) z6 hG hb6
              skip
              go_simp
              obtain ⟨z6', hoth, hG⟩ := hsv
              have z5 := (hoth b5 hne.symm).trans z5
              have z6 := z6'
              generalize hcc : ((World.setCell (World.setCell (World.setCell c52 _ _) _ _) _ _)) = c53 at *
              clear hcc
              have hGo := hG
              refine hK.out _ _ hG (fun hHeld => ?_)
              clear hK K
              try simp only [Act.put, List.setIfInBounds_toArray, List.set_cons_zero, List.set_cons_succ]
              refine wpAnyH_done (by kernel_rfl) ?_ _
              go_wp2_with (first | (go_at_call 36; go_must (refine (HE b5 b6 c53 ((blk_cell z5 1).trans rfl) ((blk_cell z5 2).trans rfl) ((blk_cell z6 1).trans rfl) ((blk_cell z6 2).trans rfl)).out.mono ?_); rintro e we ⟨rfl, hge⟩))
              go_ret
              exact ⟨rfl, HGW.out.trans (hG.trans hge)⟩
            exact AllReadyH.nil
          exact AllReadyH.nil
        exact AllReadyH.nil
      exact AllReadyH.nil
    refine AllReadyH.cons (o := { dst := some 5, op := Op.alloc 58, type := 0, pos := "configs.go:31", after := #[], guard := none }) rfl (fun K hK => ?_) ?_
    ·
      go_simp
      have z5 := heap_new_at c44 (Obj.cells #[.string ⟨#[]⟩, .string ⟨#[]⟩, .int .i64 0] 58) rfl
      have hG := hG.alloc (Obj.cells #[.string ⟨#[]⟩, .string ⟨#[]⟩, .int .i64 0] 58)
      have hb5 := hGo.size
      have hne := Nat.ne_of_lt (lt_of_some z6)
      have z6 := (Gr.alloc (Gr.refl c44) (Obj.cells #[.string ⟨#[]⟩, .string ⟨#[]⟩, .int .i64 0] 58)).heap z6
      generalize c44.heap.size = b5 at *
      generalize hcc : c44.alloc (Obj.cells #[.string ⟨#[]⟩, .string ⟨#[]⟩, .int .i64 0] 58) = c54 at *
      clear hcc
      have hGo := hG
      refine hK.out _ _ hG (fun hHeld => ?_)
      clear hK K
      try simp only [Act.put, List.setIfInBounds_toArray, List.set_cons_zero, List.set_cons_succ]
      refine wpAnyH_ready (rs := [1]) (by kernel_rfl) (by simp) ?_
      refine AllReadyH.cons (o := { dst := some 8, op := Op.call { callee := Callee.value (Operand.func 32), args := #[Operand.tmp 7], argTypes := #[26] }, type := 58, pos := "configs.go:31", after := #[{ on := 0, ground := Ground.data }], guard := none }) rfl (fun K hK => ?_) ?_
      ·
        go_simp
        go_at_call 32; with_reducible refine (HS1 _).out.mono ?_; rintro e c55 ⟨rfl, hg1⟩
        have hG := hG.trans hg1
        have z5 := hg1.heap z5
        have z6 := hg1.heap z6
        go_wp2_with fail
        have hGo := hG
        refine hK.out _ _ hG (fun hHeld => ?_)
        clear hK K
        try simp only [Act.put, List.setIfInBounds_toArray, List.set_cons_zero, List.set_cons_succ]
        refine wpAnyH_ready (rs := [3]) (by kernel_rfl) (by simp) ?_
        refine AllReadyH.cons (o := { dst := some 10, op := Op.call { callee := Callee.value (Operand.func 32), args := #[Operand.tmp 9], argTypes := #[26] }, type := 58, pos := "configs.go:31", after := #[{ on := 2, ground := Ground.data }, { on := 1, ground := Ground.chain }], guard := none }) rfl (fun K hK => ?_) ?_
        ·
          go_simp
          go_at_call 32; with_reducible refine (HS2 _).out.mono ?_; rintro e c56 ⟨rfl, hg1⟩
          have hG := hG.trans hg1
          have z5 := hg1.heap z5
          have z6 := hg1.heap z6
          go_wp2_with fail
          have hGo := hG
          refine hK.out _ _ hG (fun hHeld => ?_)
          clear hK K
          try simp only [Act.put, List.setIfInBounds_toArray, List.set_cons_zero, List.set_cons_succ]
          refine wpAnyH_ready (rs := [6]) (by kernel_rfl) (by simp) ?_
          refine AllReadyH.cons (o := { dst := none, op := Op.store 58 (Operand.tmp 5) (Operand.tmp 8), type := 0, pos := "configs.go:31", after := #[{ on := 4, ground := Ground.data }, { on := 1, ground := Ground.data }, { on := 3, ground := Ground.chain }, { on := 0, ground := Ground.phase }, { on := 1, ground := Ground.phase }, { on := 2, ground := Ground.textOnly Departure.lateStores }, { on := 3, ground := Ground.phase }, { on := 4, ground := Ground.phase }, { on := 5, ground := Ground.phase }], guard := none }) rfl (fun K hK => ?_) ?_
          ·
            have y0 := (blk_cell z5 0).trans rfl
            have y1 := (blk_cell z5 1).trans rfl
            have y2 := (blk_cell z5 2).trans rfl
            have f0 := blk_free z5 0
            have f1 := blk_free z5 1
            have f2 := blk_free z5 2
            have hsv := set3 (.string p1) (.string S1) (.int .i64 n1) z5 hG hb5
            skip
            go_simp
            obtain ⟨z5', hoth, hG⟩ := hsv
            have z6 := (hoth b6 hne).trans z6
            have z5 := z5'
            generalize hcc : ((World.setCell (World.setCell (World.setCell c56 _ _) _ _) _ _)) = c57 at *
            clear hcc
            have hGo := hG
            refine hK.out _ _ hG (fun hHeld => ?_)
            clear hK K
            try simp only [Act.put, List.setIfInBounds_toArray, List.set_cons_zero, List.set_cons_succ]
            refine wpAnyH_ready (rs := [7]) (by kernel_rfl) (by simp) ?_
            refine AllReadyH.cons (o := { dst := none, op := Op.store 58 (Operand.tmp 6) (Operand.tmp 10), type := 0, pos := "configs.go:31", after := #[{ on := 5, ground := Ground.data }, { on := 3, ground := Ground.data }, { on := 6, ground := Ground.chain }, { on := 0, ground := Ground.phase }, { on := 1, ground := Ground.phase }, { on := 2, ground := Ground.phase }, { on := 3, ground := Ground.phase }, { on := 4, ground := Ground.phase }, { on := 5, ground := Ground.phase }, { on := 6, ground := Ground.phase }], guard := none }) rfl (fun K hK => ?_) ?_
            ·
              have y0 := (blk_cell z6 0).trans rfl
              have y1 := (blk_cell z6 1).trans rfl
              have y2 := (blk_cell z6 2).trans rfl
              have f0 := blk_free z6 0
              have f1 := blk_free z6 1
              have f2 := blk_free z6 2
              have hsv := set3 (.string p2) (.string S2) (.int .i64 n2) z6 hG hb6
              skip
              go_simp
              obtain ⟨z6', hoth, hG⟩ := hsv
              have z5 := (hoth b5 hne.symm).trans z5
              have z6 := z6'
              generalize hcc : ((World.setCell (World.setCell (World.setCell c57 _ _) _ _) _ _)) = c58 at *
              clear hcc
              have hGo := hG
              refine hK.out _ _ hG (fun hHeld => ?_)
              clear hK K
              try simp only [Act.put, List.setIfInBounds_toArray, List.set_cons_zero, List.set_cons_succ]
              refine wpAnyH_done (by kernel_rfl) ?_ _
              go_wp2_with (first | (go_at_call 36; go_must (refine (HE b5 b6 c58 ((blk_cell z5 1).trans rfl) ((blk_cell z5 2).trans rfl) ((blk_cell z6 1).trans rfl) ((blk_cell z6 2).trans rfl)).out.mono ?_); rintro e we ⟨rfl, hge⟩))
              go_ret
              exact ⟨rfl, HGW.out.trans (hG.trans hge)⟩
            exact AllReadyH.nil
          exact AllReadyH.nil
        exact AllReadyH.nil
      exact AllReadyH.nil
    exact AllReadyH.nil
  exact AllReadyH.nil
  -- END

end Go.Proofs.YtkonfcgdokabaaaDoor
