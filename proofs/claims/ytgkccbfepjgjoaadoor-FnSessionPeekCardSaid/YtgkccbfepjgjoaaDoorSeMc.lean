/- Several texts in one (merge.py): SeLclr, SeLfix, SeLbytes, SeLpeek, SeLdlc, SeLbyte. -/
import Derived.Test.YtgkccbfepjgjoaaDoorSeMb
/- A step of a reader, as the thin package does it: where the input suffices. Printed by gen_got.py. -/
namespace Go.Proofs.YtgkccbfepjgjoaaDoor
open Go Go.RowKit

set_option maxRecDepth 100000 in
set_option maxHeartbeats 2000000 in
/-- A CLR. -/
theorem got_clr (s : Nat) (big : Bool) (ch : Int) (E : Value) (r q : List Int) (l : List Int) (sz : Int) (be co : Bool) (w : World) (h : Ss w s big ch E r) (hc : Clr big r (some (l, q))) (hl : l.length ≤ 140737488355328) (hsz : 0 ≤ sz) :
    Calls Tryd.prog 38 #[.pointer (some ⟨s, 0, none⟩), .agg #[.int .i64 2, .int .i64 sz, .bool be, .bool co]] w (RetG w s big ch E (some (⟨true, l, [], 0, ⟨#[]⟩⟩, q))) := by
  have hsl := h.lt
  have HS := Lib.hid h
  have HN := Lib.hid (GB.new w 2 sz be co)
  have HC := fun w hs => Lib.hid (getClr s big ch E r _ w hs hc)
  clear hc
  clear h
  go_enter Tryd.func38, Tryd.ntmps38
  go_wp2_with (first
    | (go_at_call 65; go_must (refine (HC _ (HS.out.gr ((((Gr.refl w).alloc _).alloc _).alloc _))).out.mono ?_); rintro e w1 ⟨u, rfl, hu, ho, hs1, hf1⟩; have hb1 := HN.out.fx hf1 hsl; obtain ⟨pu, cu, rfl, hcu⟩ := id hu; have g0 := blk_cell hb1.g 0; have g1 := blk_cell hb1.g 1; have g2 := blk_cell hb1.g 2; have g3 := blk_cell hb1.g 3; have g4 := blk_cell hb1.g 4; have y0 := blk_free hb1.g 0; have y1 := blk_free hb1.g 1; have y2 := blk_free hb1.g 2; have y3 := blk_free hb1.g 3; have y4 := blk_free hb1.g 4; simp [zeroCs] at g0 g1 g2 g3 g4))
  have hfx : Fx (w.heap.size + 1 + 1) w1 (((w1).setCell ⟨w.heap.size + 1 + 1, 1, none⟩ (.slice pu l.length cu)).setCell ⟨w.heap.size + 1 + 1, 0, none⟩ (.bool true)) := ((Fx.refl _ w1).set 1 _).set 0 _
  have hgX := blk_set (blk_set (hb1.g) 1 (.slice pu l.length cu)) 0 (.bool true)
  have huX : Rd (((w1).setCell ⟨w.heap.size + 1 + 1, 1, none⟩ (.slice pu l.length cu)).setCell ⟨w.heap.size + 1 + 1, 0, none⟩ (.bool true)) (.slice pu l.length cu) l := hu.far hb1.g noU8_zero hfx
  have hvX : Rd (((w1).setCell ⟨w.heap.size + 1 + 1, 1, none⟩ (.slice pu l.length cu)).setCell ⟨w.heap.size + 1 + 1, 0, none⟩ (.bool true)) (.slice none 0 0) [] := Rd.nil _
  have hrX := hfx.heap hb1.r (by omega)
  have hsX := hs1.fx2 hfx (by omega)
  have hFX : Fx s w (((w1).setCell ⟨w.heap.size + 1 + 1, 1, none⟩ (.slice pu l.length cu)).setCell ⟨w.heap.size + 1 + 1, 0, none⟩ (.bool true)) := (((((Fx.refl s w).alloc _).alloc _).alloc _).trans hf1).below (((Below.refl w.heap.size w1).setCell (p := ⟨w.heap.size + 1 + 1, 1, none⟩) (by simp; omega) _).setCell (p := ⟨w.heap.size + 1 + 1, 0, none⟩) (by simp; omega) _) (Nat.le_refl _)
  simp [zeroCs] at hgX
  clear g0 g1 g2 g3 g4 y0 y1 y2 y3 y4 hb1 hfx
  generalize ((w1).setCell ⟨w.heap.size + 1 + 1, 1, none⟩ (.slice pu l.length cu)).setCell ⟨w.heap.size + 1 + 1, 0, none⟩ (.bool true) = X at *
  have hzX := lt_of_some hgX
  have g0 := blk_cell hgX 0
  have g1 := blk_cell hgX 1
  have g2 := blk_cell hgX 2
  have g3 := blk_cell hgX 3
  have g4 := blk_cell hgX 4
  simp at g0 g1 g2 g3 g4
  have HU := Lib.hid huX
  have HV := Lib.hid hvX
  have HSX := Lib.hid hsX
  have HFX := Lib.hid hFX
  have HGX := Lib.hid hgX
  have HRX := Lib.hid hrX
  clear huX hvX hsX hFX hgX hrX
  have hG := (Gr.refl X).drew
  refine wp_region_held_drew (S := fun _ => True) (by kernel_rfl) trivial (fun hHeld => ?_)
  have k1 : X.drew.cell? ⟨w.heap.size + 1 + 1, 1, none⟩ = some (.slice pu l.length cu) := g1
  have k2 : X.drew.cell? ⟨w.heap.size + 1 + 1, 2, none⟩ = some (.slice none 0 0) := g2
  generalize hcc : X.drew = c0 at *
  clear hcc g1 g2
  refine wpAnyH_take (i := 0) (oi := { dst := some 153, op := Op.fieldAddr 31 (Operand.tmp 5) 1, type := 0, pos := "sessions.go:113", after := #[], guard := none }) (v := ?_) rfl (by kernel_rfl) (by kernel_rfl) (by kernel_rfl) (fun _ _ _ h => h) (Or.inl ⟨by rfl, ?_⟩) (by assumption) ?_
  rotate_left
  · (intro w hSw; (try dsimp only at hSw); go_simp; try with_reducible rfl)
  try simp only [Act.put, List.setIfInBounds_toArray, List.set_cons_zero, List.set_cons_succ]
  refine wpAnyH_take (i := 3) (oi := { dst := some 156, op := Op.fieldAddr 31 (Operand.tmp 5) 2, type := 0, pos := "sessions.go:113", after := #[], guard := none }) (v := ?_) rfl (by kernel_rfl) (by kernel_rfl) (by kernel_rfl) (fun _ _ _ h => h) (Or.inl ⟨by rfl, ?_⟩) (by assumption) ?_
  rotate_left
  · (intro w hSw; (try dsimp only at hSw); go_simp; try with_reducible rfl)
  try simp only [Act.put, List.setIfInBounds_toArray, List.set_cons_zero, List.set_cons_succ]
  refine wpAnyH_ready (rs := [1, 4]) (by kernel_rfl) (by simp) ?_
  refine AllReadyH.cons (o := { dst := some 154, op := Op.load 24 (Operand.tmp 153), type := 24, pos := "sessions.go:113", after := #[{ on := 0, ground := Ground.data }], guard := none }) rfl (fun K hK => ?_) ?_
  ·
    go_simp
    refine hK.out _ _ trivial (fun hHeld => ?_)
    clear hK K
    try simp only [Act.put, List.setIfInBounds_toArray, List.set_cons_zero, List.set_cons_succ]
    refine wpAnyH_ready (rs := [2, 4]) (by kernel_rfl) (by simp) ?_
    refine AllReadyH.cons (o := { dst := some 155, op := Op.call { callee := Callee.value (Operand.func 16), args := #[Operand.tmp 154], argTypes := #[24] }, type := 24, pos := "sessions.go:113", after := #[{ on := 1, ground := Ground.data }], guard := none }) rfl (fun K hK => ?_) ?_
    ·
      go_simp
      go_at_call 16; go_must (refine (clone (.slice pu l.length cu) l _ (HU.out.gr hG) (by first | omega | (simp; done) | (simp; omega))).mono ?_); rintro e c2 ⟨u2, rfl, ho2, hg2⟩
      have hz2 := hG.size
      have hG := hG.trans hg2
      have k1 := hg2.cell k1
      have k2 := hg2.cell k2
      have f1 := blk_free (hG.heap HGX.out) 1
      have f2 := blk_free (hG.heap HGX.out) 2
      obtain ⟨p2, c2, rfl, _⟩ := id ho2.rd
      go_wp2_with fail
      refine hK.out _ _ trivial (fun hHeld => ?_)
      clear hK K
      try simp only [Act.put, List.setIfInBounds_toArray, List.set_cons_zero, List.set_cons_succ]
      refine wpAnyH_ready (rs := [4]) (by kernel_rfl) (by simp) ?_
      refine AllReadyH.cons (o := { dst := some 157, op := Op.load 24 (Operand.tmp 156), type := 24, pos := "sessions.go:113", after := #[{ on := 3, ground := Ground.data }], guard := none }) rfl (fun K hK => ?_) ?_
      ·
        go_simp
        refine hK.out _ _ trivial (fun hHeld => ?_)
        clear hK K
        try simp only [Act.put, List.setIfInBounds_toArray, List.set_cons_zero, List.set_cons_succ]
        refine wpAnyH_take (i := 6) (oi := { dst := some 159, op := Op.fieldAddr 31 (Operand.tmp 5) 1, type := 0, pos := "sessions.go:113", after := #[{ on := 0, ground := Ground.phase }, { on := 1, ground := Ground.phase }, { on := 2, ground := Ground.phase }, { on := 3, ground := Ground.phase }, { on := 4, ground := Ground.phase }, { on := 5, ground := Ground.textOnly Departure.lateStoresUnsure }], guard := none }) (v := ?_) rfl (by kernel_rfl) (by kernel_rfl) (by kernel_rfl) (fun _ _ _ h => h) (Or.inl ⟨by rfl, ?_⟩) (by assumption) ?_
        rotate_left
        · (intro w hSw; (try dsimp only at hSw); go_simp; try with_reducible rfl)
        try simp only [Act.put, List.setIfInBounds_toArray, List.set_cons_zero, List.set_cons_succ]
        refine wpAnyH_ready (rs := [5]) (by kernel_rfl) (by simp) ?_
        refine AllReadyH.cons (o := { dst := some 158, op := Op.call { callee := Callee.value (Operand.func 16), args := #[Operand.tmp 157], argTypes := #[24] }, type := 24, pos := "sessions.go:113", after := #[{ on := 4, ground := Ground.data }, { on := 2, ground := Ground.chain }], guard := none }) rfl (fun K hK => ?_) ?_
        ·
          go_simp
          go_at_call 16; go_must (refine (clone (.slice none 0 0) [] _ (HV.out.gr hG) (by first | omega | (simp; done) | (simp; omega))).mono ?_); rintro e c4 ⟨u3, rfl, ho3, hg3⟩
          have hz3 := hG.size
          have ho2 := ho2.gr hg3
          have hG := hG.trans hg3
          have k1 := hg3.cell k1
          have k2 := hg3.cell k2
          have f1 := blk_free (hG.heap HGX.out) 1
          have f2 := blk_free (hG.heap HGX.out) 2
          obtain ⟨p3, c3, rfl, _⟩ := id ho3.rd
          go_wp2_with fail
          refine hK.out _ _ trivial (fun hHeld => ?_)
          clear hK K
          try simp only [Act.put, List.setIfInBounds_toArray, List.set_cons_zero, List.set_cons_succ]
          refine wpAnyH_ready (rs := [7]) (by kernel_rfl) (by simp) ?_
          refine AllReadyH.cons (o := { dst := none, op := Op.store 24 (Operand.tmp 159) (Operand.tmp 155), type := 0, pos := "sessions.go:113", after := #[{ on := 6, ground := Ground.data }, { on := 2, ground := Ground.data }, { on := 5, ground := Ground.chain }, { on := 0, ground := Ground.phase }, { on := 1, ground := Ground.phase }, { on := 2, ground := Ground.phase }, { on := 3, ground := Ground.phase }, { on := 4, ground := Ground.phase }, { on := 5, ground := Ground.textOnly Departure.lateStoresUnsure }], guard := none }) rfl (fun K hK => ?_) ?_
          ·
            go_simp
            refine hK.out _ _ trivial (fun hHeld => ?_)
            clear hK K
            try simp only [Act.put, List.setIfInBounds_toArray, List.set_cons_zero, List.set_cons_succ]
            refine wpAnyH_take (i := 8) (oi := { dst := some 160, op := Op.fieldAddr 31 (Operand.tmp 5) 2, type := 0, pos := "sessions.go:113", after := #[{ on := 0, ground := Ground.phase }, { on := 1, ground := Ground.phase }, { on := 2, ground := Ground.phase }, { on := 3, ground := Ground.phase }, { on := 4, ground := Ground.phase }, { on := 5, ground := Ground.phase }, { on := 6, ground := Ground.phase }, { on := 7, ground := Ground.phase }], guard := none }) (v := ?_) rfl (by kernel_rfl) (by kernel_rfl) (by kernel_rfl) (fun _ _ _ h => h) (Or.inl ⟨by rfl, ?_⟩) (by assumption) ?_
            rotate_left
            · (intro w hSw; (try dsimp only at hSw); go_simp; try with_reducible rfl)
            try simp only [Act.put, List.setIfInBounds_toArray, List.set_cons_zero, List.set_cons_succ]
            refine wpAnyH_ready (rs := [9]) (by kernel_rfl) (by simp) ?_
            refine AllReadyH.cons (o := { dst := none, op := Op.store 24 (Operand.tmp 160) (Operand.tmp 158), type := 0, pos := "sessions.go:113", after := #[{ on := 8, ground := Ground.data }, { on := 5, ground := Ground.data }, { on := 7, ground := Ground.chain }, { on := 0, ground := Ground.phase }, { on := 1, ground := Ground.phase }, { on := 2, ground := Ground.phase }, { on := 3, ground := Ground.phase }, { on := 4, ground := Ground.phase }, { on := 5, ground := Ground.phase }, { on := 6, ground := Ground.phase }, { on := 7, ground := Ground.phase }], guard := none }) rfl (fun K hK => ?_) ?_
            ·
              go_simp
              refine hK.out _ _ trivial (fun hHeld => ?_)
              clear hK K
              try simp only [Act.put, List.setIfInBounds_toArray, List.set_cons_zero, List.set_cons_succ]
              refine wpAnyH_done (by kernel_rfl) ?_ _
              have hgY := hG.heap HGX.out
              have hrY := hG.heap HRX.out
              have m0 := blk_cell hgY 0
              have m3 := blk_cell hgY 3
              have m4 := blk_cell hgY 4
              have n0 := blk_cell hrY 0
              have n1 := blk_cell hrY 1
              have n2 := blk_cell hrY 2
              have n3 := blk_cell hrY 3
              have n4 := blk_cell hrY 4
              have z0 := blk_free hrY 0
              have z1 := blk_free hrY 1
              have z2 := blk_free hrY 2
              have z3 := blk_free hrY 3
              have z4 := blk_free hrY 4
              simp [zeroCs] at m0 m3 m4 n0 n1 n2 n3 n4
              clear hgY hrY
              have HFIN := fun u1 u2 a0 a1 a2 a3 a4 => Lib.hid (got_fin hsl hzX HFX.out HSX.out hG (ho2.mono hz2) (ho3.mono hz3) u1 u2 a0 a1 a2 a3 a4)
              clear ho2 ho3 hG g0 g3 g4
              go_wp2_with fail
              obtain ⟨j1, j2, j3, j4⟩ := (HFIN _ _ _ _ _ _ _).out
              exact bodyPost_ret (v := .agg #[.bool true, .slice p2 _ c2, .slice p3 _ c3, .int .i64 0, .string ⟨#[]⟩]) (by simp [results, Tryd.results38, go_sem, n0, n1, n2, n3, n4] <;> rfl) rfl ⟨_, _, rfl, j1, j2, j3, j4⟩
            exact AllReadyH.nil
          exact AllReadyH.nil
        exact AllReadyH.nil
      exact AllReadyH.nil
    refine AllReadyH.cons (o := { dst := some 157, op := Op.load 24 (Operand.tmp 156), type := 24, pos := "sessions.go:113", after := #[{ on := 3, ground := Ground.data }], guard := none }) rfl (fun K hK => ?_) ?_
    ·
      go_simp
      refine hK.out _ _ trivial (fun hHeld => ?_)
      clear hK K
      try simp only [Act.put, List.setIfInBounds_toArray, List.set_cons_zero, List.set_cons_succ]
      refine wpAnyH_ready (rs := [2]) (by kernel_rfl) (by simp) ?_
      refine AllReadyH.cons (o := { dst := some 155, op := Op.call { callee := Callee.value (Operand.func 16), args := #[Operand.tmp 154], argTypes := #[24] }, type := 24, pos := "sessions.go:113", after := #[{ on := 1, ground := Ground.data }], guard := none }) rfl (fun K hK => ?_) ?_
      ·
        go_simp
        go_at_call 16; go_must (refine (clone (.slice pu l.length cu) l _ (HU.out.gr hG) (by first | omega | (simp; done) | (simp; omega))).mono ?_); rintro e c8 ⟨u2, rfl, ho2, hg2⟩
        have hz2 := hG.size
        have hG := hG.trans hg2
        have k1 := hg2.cell k1
        have k2 := hg2.cell k2
        have f1 := blk_free (hG.heap HGX.out) 1
        have f2 := blk_free (hG.heap HGX.out) 2
        obtain ⟨p2, c2, rfl, _⟩ := id ho2.rd
        go_wp2_with fail
        refine hK.out _ _ trivial (fun hHeld => ?_)
        clear hK K
        try simp only [Act.put, List.setIfInBounds_toArray, List.set_cons_zero, List.set_cons_succ]
        refine wpAnyH_take (i := 6) (oi := { dst := some 159, op := Op.fieldAddr 31 (Operand.tmp 5) 1, type := 0, pos := "sessions.go:113", after := #[{ on := 0, ground := Ground.phase }, { on := 1, ground := Ground.phase }, { on := 2, ground := Ground.phase }, { on := 3, ground := Ground.phase }, { on := 4, ground := Ground.phase }, { on := 5, ground := Ground.textOnly Departure.lateStoresUnsure }], guard := none }) (v := ?_) rfl (by kernel_rfl) (by kernel_rfl) (by kernel_rfl) (fun _ _ _ h => h) (Or.inl ⟨by rfl, ?_⟩) (by assumption) ?_
        rotate_left
        · (intro w hSw; (try dsimp only at hSw); go_simp; try with_reducible rfl)
        try simp only [Act.put, List.setIfInBounds_toArray, List.set_cons_zero, List.set_cons_succ]
        refine wpAnyH_ready (rs := [5]) (by kernel_rfl) (by simp) ?_
        refine AllReadyH.cons (o := { dst := some 158, op := Op.call { callee := Callee.value (Operand.func 16), args := #[Operand.tmp 157], argTypes := #[24] }, type := 24, pos := "sessions.go:113", after := #[{ on := 4, ground := Ground.data }, { on := 2, ground := Ground.chain }], guard := none }) rfl (fun K hK => ?_) ?_
        ·
          go_simp
          go_at_call 16; go_must (refine (clone (.slice none 0 0) [] _ (HV.out.gr hG) (by first | omega | (simp; done) | (simp; omega))).mono ?_); rintro e c9 ⟨u3, rfl, ho3, hg3⟩
          have hz3 := hG.size
          have ho2 := ho2.gr hg3
          have hG := hG.trans hg3
          have k1 := hg3.cell k1
          have k2 := hg3.cell k2
          have f1 := blk_free (hG.heap HGX.out) 1
          have f2 := blk_free (hG.heap HGX.out) 2
          obtain ⟨p3, c3, rfl, _⟩ := id ho3.rd
          go_wp2_with fail
          refine hK.out _ _ trivial (fun hHeld => ?_)
          clear hK K
          try simp only [Act.put, List.setIfInBounds_toArray, List.set_cons_zero, List.set_cons_succ]
          refine wpAnyH_ready (rs := [7]) (by kernel_rfl) (by simp) ?_
          refine AllReadyH.cons (o := { dst := none, op := Op.store 24 (Operand.tmp 159) (Operand.tmp 155), type := 0, pos := "sessions.go:113", after := #[{ on := 6, ground := Ground.data }, { on := 2, ground := Ground.data }, { on := 5, ground := Ground.chain }, { on := 0, ground := Ground.phase }, { on := 1, ground := Ground.phase }, { on := 2, ground := Ground.phase }, { on := 3, ground := Ground.phase }, { on := 4, ground := Ground.phase }, { on := 5, ground := Ground.textOnly Departure.lateStoresUnsure }], guard := none }) rfl (fun K hK => ?_) ?_
          ·
            go_simp
            refine hK.out _ _ trivial (fun hHeld => ?_)
            clear hK K
            try simp only [Act.put, List.setIfInBounds_toArray, List.set_cons_zero, List.set_cons_succ]
            refine wpAnyH_take (i := 8) (oi := { dst := some 160, op := Op.fieldAddr 31 (Operand.tmp 5) 2, type := 0, pos := "sessions.go:113", after := #[{ on := 0, ground := Ground.phase }, { on := 1, ground := Ground.phase }, { on := 2, ground := Ground.phase }, { on := 3, ground := Ground.phase }, { on := 4, ground := Ground.phase }, { on := 5, ground := Ground.phase }, { on := 6, ground := Ground.phase }, { on := 7, ground := Ground.phase }], guard := none }) (v := ?_) rfl (by kernel_rfl) (by kernel_rfl) (by kernel_rfl) (fun _ _ _ h => h) (Or.inl ⟨by rfl, ?_⟩) (by assumption) ?_
            rotate_left
            · (intro w hSw; (try dsimp only at hSw); go_simp; try with_reducible rfl)
            try simp only [Act.put, List.setIfInBounds_toArray, List.set_cons_zero, List.set_cons_succ]
            refine wpAnyH_ready (rs := [9]) (by kernel_rfl) (by simp) ?_
            refine AllReadyH.cons (o := { dst := none, op := Op.store 24 (Operand.tmp 160) (Operand.tmp 158), type := 0, pos := "sessions.go:113", after := #[{ on := 8, ground := Ground.data }, { on := 5, ground := Ground.data }, { on := 7, ground := Ground.chain }, { on := 0, ground := Ground.phase }, { on := 1, ground := Ground.phase }, { on := 2, ground := Ground.phase }, { on := 3, ground := Ground.phase }, { on := 4, ground := Ground.phase }, { on := 5, ground := Ground.phase }, { on := 6, ground := Ground.phase }, { on := 7, ground := Ground.phase }], guard := none }) rfl (fun K hK => ?_) ?_
            ·
              go_simp
              refine hK.out _ _ trivial (fun hHeld => ?_)
              clear hK K
              try simp only [Act.put, List.setIfInBounds_toArray, List.set_cons_zero, List.set_cons_succ]
              refine wpAnyH_done (by kernel_rfl) ?_ _
              have hgY := hG.heap HGX.out
              have hrY := hG.heap HRX.out
              have m0 := blk_cell hgY 0
              have m3 := blk_cell hgY 3
              have m4 := blk_cell hgY 4
              have n0 := blk_cell hrY 0
              have n1 := blk_cell hrY 1
              have n2 := blk_cell hrY 2
              have n3 := blk_cell hrY 3
              have n4 := blk_cell hrY 4
              have z0 := blk_free hrY 0
              have z1 := blk_free hrY 1
              have z2 := blk_free hrY 2
              have z3 := blk_free hrY 3
              have z4 := blk_free hrY 4
              simp [zeroCs] at m0 m3 m4 n0 n1 n2 n3 n4
              clear hgY hrY
              have HFIN := fun u1 u2 a0 a1 a2 a3 a4 => Lib.hid (got_fin hsl hzX HFX.out HSX.out hG (ho2.mono hz2) (ho3.mono hz3) u1 u2 a0 a1 a2 a3 a4)
              clear ho2 ho3 hG g0 g3 g4
              go_wp2_with fail
              obtain ⟨j1, j2, j3, j4⟩ := (HFIN _ _ _ _ _ _ _).out
              exact bodyPost_ret (v := .agg #[.bool true, .slice p2 _ c2, .slice p3 _ c3, .int .i64 0, .string ⟨#[]⟩]) (by simp [results, Tryd.results38, go_sem, n0, n1, n2, n3, n4] <;> rfl) rfl ⟨_, _, rfl, j1, j2, j3, j4⟩
            exact AllReadyH.nil
          exact AllReadyH.nil
        exact AllReadyH.nil
      exact AllReadyH.nil
    exact AllReadyH.nil
  refine AllReadyH.cons (o := { dst := some 157, op := Op.load 24 (Operand.tmp 156), type := 24, pos := "sessions.go:113", after := #[{ on := 3, ground := Ground.data }], guard := none }) rfl (fun K hK => ?_) ?_
  ·
    go_simp
    refine hK.out _ _ trivial (fun hHeld => ?_)
    clear hK K
    try simp only [Act.put, List.setIfInBounds_toArray, List.set_cons_zero, List.set_cons_succ]
    refine wpAnyH_ready (rs := [1]) (by kernel_rfl) (by simp) ?_
    refine AllReadyH.cons (o := { dst := some 154, op := Op.load 24 (Operand.tmp 153), type := 24, pos := "sessions.go:113", after := #[{ on := 0, ground := Ground.data }], guard := none }) rfl (fun K hK => ?_) ?_
    ·
      go_simp
      refine hK.out _ _ trivial (fun hHeld => ?_)
      clear hK K
      try simp only [Act.put, List.setIfInBounds_toArray, List.set_cons_zero, List.set_cons_succ]
      refine wpAnyH_ready (rs := [2]) (by kernel_rfl) (by simp) ?_
      refine AllReadyH.cons (o := { dst := some 155, op := Op.call { callee := Callee.value (Operand.func 16), args := #[Operand.tmp 154], argTypes := #[24] }, type := 24, pos := "sessions.go:113", after := #[{ on := 1, ground := Ground.data }], guard := none }) rfl (fun K hK => ?_) ?_
      ·
        go_simp
        go_at_call 16; go_must (refine (clone (.slice pu l.length cu) l _ (HU.out.gr hG) (by first | omega | (simp; done) | (simp; omega))).mono ?_); rintro e c14 ⟨u2, rfl, ho2, hg2⟩
        have hz2 := hG.size
        have hG := hG.trans hg2
        have k1 := hg2.cell k1
        have k2 := hg2.cell k2
        have f1 := blk_free (hG.heap HGX.out) 1
        have f2 := blk_free (hG.heap HGX.out) 2
        obtain ⟨p2, c2, rfl, _⟩ := id ho2.rd
        go_wp2_with fail
        refine hK.out _ _ trivial (fun hHeld => ?_)
        clear hK K
        try simp only [Act.put, List.setIfInBounds_toArray, List.set_cons_zero, List.set_cons_succ]
        refine wpAnyH_take (i := 6) (oi := { dst := some 159, op := Op.fieldAddr 31 (Operand.tmp 5) 1, type := 0, pos := "sessions.go:113", after := #[{ on := 0, ground := Ground.phase }, { on := 1, ground := Ground.phase }, { on := 2, ground := Ground.phase }, { on := 3, ground := Ground.phase }, { on := 4, ground := Ground.phase }, { on := 5, ground := Ground.textOnly Departure.lateStoresUnsure }], guard := none }) (v := ?_) rfl (by kernel_rfl) (by kernel_rfl) (by kernel_rfl) (fun _ _ _ h => h) (Or.inl ⟨by rfl, ?_⟩) (by assumption) ?_
        rotate_left
        · (intro w hSw; (try dsimp only at hSw); go_simp; try with_reducible rfl)
        try simp only [Act.put, List.setIfInBounds_toArray, List.set_cons_zero, List.set_cons_succ]
        refine wpAnyH_ready (rs := [5]) (by kernel_rfl) (by simp) ?_
        refine AllReadyH.cons (o := { dst := some 158, op := Op.call { callee := Callee.value (Operand.func 16), args := #[Operand.tmp 157], argTypes := #[24] }, type := 24, pos := "sessions.go:113", after := #[{ on := 4, ground := Ground.data }, { on := 2, ground := Ground.chain }], guard := none }) rfl (fun K hK => ?_) ?_
        ·
          go_simp
          go_at_call 16; go_must (refine (clone (.slice none 0 0) [] _ (HV.out.gr hG) (by first | omega | (simp; done) | (simp; omega))).mono ?_); rintro e c15 ⟨u3, rfl, ho3, hg3⟩
          have hz3 := hG.size
          have ho2 := ho2.gr hg3
          have hG := hG.trans hg3
          have k1 := hg3.cell k1
          have k2 := hg3.cell k2
          have f1 := blk_free (hG.heap HGX.out) 1
          have f2 := blk_free (hG.heap HGX.out) 2
          obtain ⟨p3, c3, rfl, _⟩ := id ho3.rd
          go_wp2_with fail
          refine hK.out _ _ trivial (fun hHeld => ?_)
          clear hK K
          try simp only [Act.put, List.setIfInBounds_toArray, List.set_cons_zero, List.set_cons_succ]
          refine wpAnyH_ready (rs := [7]) (by kernel_rfl) (by simp) ?_
          refine AllReadyH.cons (o := { dst := none, op := Op.store 24 (Operand.tmp 159) (Operand.tmp 155), type := 0, pos := "sessions.go:113", after := #[{ on := 6, ground := Ground.data }, { on := 2, ground := Ground.data }, { on := 5, ground := Ground.chain }, { on := 0, ground := Ground.phase }, { on := 1, ground := Ground.phase }, { on := 2, ground := Ground.phase }, { on := 3, ground := Ground.phase }, { on := 4, ground := Ground.phase }, { on := 5, ground := Ground.textOnly Departure.lateStoresUnsure }], guard := none }) rfl (fun K hK => ?_) ?_
          ·
            go_simp
            refine hK.out _ _ trivial (fun hHeld => ?_)
            clear hK K
            try simp only [Act.put, List.setIfInBounds_toArray, List.set_cons_zero, List.set_cons_succ]
            refine wpAnyH_take (i := 8) (oi := { dst := some 160, op := Op.fieldAddr 31 (Operand.tmp 5) 2, type := 0, pos := "sessions.go:113", after := #[{ on := 0, ground := Ground.phase }, { on := 1, ground := Ground.phase }, { on := 2, ground := Ground.phase }, { on := 3, ground := Ground.phase }, { on := 4, ground := Ground.phase }, { on := 5, ground := Ground.phase }, { on := 6, ground := Ground.phase }, { on := 7, ground := Ground.phase }], guard := none }) (v := ?_) rfl (by kernel_rfl) (by kernel_rfl) (by kernel_rfl) (fun _ _ _ h => h) (Or.inl ⟨by rfl, ?_⟩) (by assumption) ?_
            rotate_left
            · (intro w hSw; (try dsimp only at hSw); go_simp; try with_reducible rfl)
            try simp only [Act.put, List.setIfInBounds_toArray, List.set_cons_zero, List.set_cons_succ]
            refine wpAnyH_ready (rs := [9]) (by kernel_rfl) (by simp) ?_
            refine AllReadyH.cons (o := { dst := none, op := Op.store 24 (Operand.tmp 160) (Operand.tmp 158), type := 0, pos := "sessions.go:113", after := #[{ on := 8, ground := Ground.data }, { on := 5, ground := Ground.data }, { on := 7, ground := Ground.chain }, { on := 0, ground := Ground.phase }, { on := 1, ground := Ground.phase }, { on := 2, ground := Ground.phase }, { on := 3, ground := Ground.phase }, { on := 4, ground := Ground.phase }, { on := 5, ground := Ground.phase }, { on := 6, ground := Ground.phase }, { on := 7, ground := Ground.phase }], guard := none }) rfl (fun K hK => ?_) ?_
            ·
              go_simp
              refine hK.out _ _ trivial (fun hHeld => ?_)
              clear hK K
              try simp only [Act.put, List.setIfInBounds_toArray, List.set_cons_zero, List.set_cons_succ]
              refine wpAnyH_done (by kernel_rfl) ?_ _
              have hgY := hG.heap HGX.out
              have hrY := hG.heap HRX.out
              have m0 := blk_cell hgY 0
              have m3 := blk_cell hgY 3
              have m4 := blk_cell hgY 4
              have n0 := blk_cell hrY 0
              have n1 := blk_cell hrY 1
              have n2 := blk_cell hrY 2
              have n3 := blk_cell hrY 3
              have n4 := blk_cell hrY 4
              have z0 := blk_free hrY 0
              have z1 := blk_free hrY 1
              have z2 := blk_free hrY 2
              have z3 := blk_free hrY 3
              have z4 := blk_free hrY 4
              simp [zeroCs] at m0 m3 m4 n0 n1 n2 n3 n4
              clear hgY hrY
              have HFIN := fun u1 u2 a0 a1 a2 a3 a4 => Lib.hid (got_fin hsl hzX HFX.out HSX.out hG (ho2.mono hz2) (ho3.mono hz3) u1 u2 a0 a1 a2 a3 a4)
              clear ho2 ho3 hG g0 g3 g4
              go_wp2_with fail
              obtain ⟨j1, j2, j3, j4⟩ := (HFIN _ _ _ _ _ _ _).out
              exact bodyPost_ret (v := .agg #[.bool true, .slice p2 _ c2, .slice p3 _ c3, .int .i64 0, .string ⟨#[]⟩]) (by simp [results, Tryd.results38, go_sem, n0, n1, n2, n3, n4] <;> rfl) rfl ⟨_, _, rfl, j1, j2, j3, j4⟩
            exact AllReadyH.nil
          exact AllReadyH.nil
        exact AllReadyH.nil
      exact AllReadyH.nil
    exact AllReadyH.nil
  exact AllReadyH.nil

end Go.Proofs.YtgkccbfepjgjoaaDoor

/- A step of a reader, as the thin package does it: where the input suffices. Printed by gen_got.py. -/
namespace Go.Proofs.YtgkccbfepjgjoaaDoor
open Go Go.RowKit

set_option maxRecDepth 100000 in
set_option maxHeartbeats 2000000 in
/-- A fixed CLR. -/
theorem got_fix (s : Nat) (big : Bool) (ch : Int) (E : Value) (r q : List Int) (l : List Int) (sz : Int) (be co : Bool) (w : World) (h : Ss w s big ch E r) (hc : Fix r (some (l, q))) (hl : l.length ≤ 140737488355328) (hsz : 0 ≤ sz) :
    Calls Tryd.prog 38 #[.pointer (some ⟨s, 0, none⟩), .agg #[.int .i64 8, .int .i64 sz, .bool be, .bool co]] w (RetG w s big ch E (some (⟨true, l, [], 0, ⟨#[]⟩⟩, q))) := by
  have hsl := h.lt
  have HS := Lib.hid h
  have HN := Lib.hid (GB.new w 8 sz be co)
  have HC := fun w hs => Lib.hid (getFix s big ch E r _ w hs hc)
  clear hc
  clear h
  go_enter Tryd.func38, Tryd.ntmps38
  go_wp2_with (first
    | (go_at_call 72; go_must (refine (HC _ (HS.out.gr ((((Gr.refl w).alloc _).alloc _).alloc _))).out.mono ?_); rintro e w1 ⟨u, rfl, hu, ho, hs1, hf1⟩; have hb1 := HN.out.fx hf1 hsl; obtain ⟨pu, cu, rfl, hcu⟩ := id hu; have g0 := blk_cell hb1.g 0; have g1 := blk_cell hb1.g 1; have g2 := blk_cell hb1.g 2; have g3 := blk_cell hb1.g 3; have g4 := blk_cell hb1.g 4; have y0 := blk_free hb1.g 0; have y1 := blk_free hb1.g 1; have y2 := blk_free hb1.g 2; have y3 := blk_free hb1.g 3; have y4 := blk_free hb1.g 4; simp [zeroCs] at g0 g1 g2 g3 g4))
  have hfx : Fx (w.heap.size + 1 + 1) w1 (((w1).setCell ⟨w.heap.size + 1 + 1, 1, none⟩ (.slice pu l.length cu)).setCell ⟨w.heap.size + 1 + 1, 0, none⟩ (.bool true)) := ((Fx.refl _ w1).set 1 _).set 0 _
  have hgX := blk_set (blk_set (hb1.g) 1 (.slice pu l.length cu)) 0 (.bool true)
  have huX : Rd (((w1).setCell ⟨w.heap.size + 1 + 1, 1, none⟩ (.slice pu l.length cu)).setCell ⟨w.heap.size + 1 + 1, 0, none⟩ (.bool true)) (.slice pu l.length cu) l := hu.far hb1.g noU8_zero hfx
  have hvX : Rd (((w1).setCell ⟨w.heap.size + 1 + 1, 1, none⟩ (.slice pu l.length cu)).setCell ⟨w.heap.size + 1 + 1, 0, none⟩ (.bool true)) (.slice none 0 0) [] := Rd.nil _
  have hrX := hfx.heap hb1.r (by omega)
  have hsX := hs1.fx2 hfx (by omega)
  have hFX : Fx s w (((w1).setCell ⟨w.heap.size + 1 + 1, 1, none⟩ (.slice pu l.length cu)).setCell ⟨w.heap.size + 1 + 1, 0, none⟩ (.bool true)) := (((((Fx.refl s w).alloc _).alloc _).alloc _).trans hf1).below (((Below.refl w.heap.size w1).setCell (p := ⟨w.heap.size + 1 + 1, 1, none⟩) (by simp; omega) _).setCell (p := ⟨w.heap.size + 1 + 1, 0, none⟩) (by simp; omega) _) (Nat.le_refl _)
  simp [zeroCs] at hgX
  clear g0 g1 g2 g3 g4 y0 y1 y2 y3 y4 hb1 hfx
  generalize ((w1).setCell ⟨w.heap.size + 1 + 1, 1, none⟩ (.slice pu l.length cu)).setCell ⟨w.heap.size + 1 + 1, 0, none⟩ (.bool true) = X at *
  have hzX := lt_of_some hgX
  have g0 := blk_cell hgX 0
  have g1 := blk_cell hgX 1
  have g2 := blk_cell hgX 2
  have g3 := blk_cell hgX 3
  have g4 := blk_cell hgX 4
  simp at g0 g1 g2 g3 g4
  have HU := Lib.hid huX
  have HV := Lib.hid hvX
  have HSX := Lib.hid hsX
  have HFX := Lib.hid hFX
  have HGX := Lib.hid hgX
  have HRX := Lib.hid hrX
  clear huX hvX hsX hFX hgX hrX
  have hG := (Gr.refl X).drew
  refine wp_region_held_drew (S := fun _ => True) (by kernel_rfl) trivial (fun hHeld => ?_)
  have k1 : X.drew.cell? ⟨w.heap.size + 1 + 1, 1, none⟩ = some (.slice pu l.length cu) := g1
  have k2 : X.drew.cell? ⟨w.heap.size + 1 + 1, 2, none⟩ = some (.slice none 0 0) := g2
  generalize hcc : X.drew = c0 at *
  clear hcc g1 g2
  refine wpAnyH_take (i := 0) (oi := { dst := some 153, op := Op.fieldAddr 31 (Operand.tmp 5) 1, type := 0, pos := "sessions.go:113", after := #[], guard := none }) (v := ?_) rfl (by kernel_rfl) (by kernel_rfl) (by kernel_rfl) (fun _ _ _ h => h) (Or.inl ⟨by rfl, ?_⟩) (by assumption) ?_
  rotate_left
  · (intro w hSw; (try dsimp only at hSw); go_simp; try with_reducible rfl)
  try simp only [Act.put, List.setIfInBounds_toArray, List.set_cons_zero, List.set_cons_succ]
  refine wpAnyH_take (i := 3) (oi := { dst := some 156, op := Op.fieldAddr 31 (Operand.tmp 5) 2, type := 0, pos := "sessions.go:113", after := #[], guard := none }) (v := ?_) rfl (by kernel_rfl) (by kernel_rfl) (by kernel_rfl) (fun _ _ _ h => h) (Or.inl ⟨by rfl, ?_⟩) (by assumption) ?_
  rotate_left
  · (intro w hSw; (try dsimp only at hSw); go_simp; try with_reducible rfl)
  try simp only [Act.put, List.setIfInBounds_toArray, List.set_cons_zero, List.set_cons_succ]
  refine wpAnyH_ready (rs := [1, 4]) (by kernel_rfl) (by simp) ?_
  refine AllReadyH.cons (o := { dst := some 154, op := Op.load 24 (Operand.tmp 153), type := 24, pos := "sessions.go:113", after := #[{ on := 0, ground := Ground.data }], guard := none }) rfl (fun K hK => ?_) ?_
  ·
    go_simp
    refine hK.out _ _ trivial (fun hHeld => ?_)
    clear hK K
    try simp only [Act.put, List.setIfInBounds_toArray, List.set_cons_zero, List.set_cons_succ]
    refine wpAnyH_ready (rs := [2, 4]) (by kernel_rfl) (by simp) ?_
    refine AllReadyH.cons (o := { dst := some 155, op := Op.call { callee := Callee.value (Operand.func 16), args := #[Operand.tmp 154], argTypes := #[24] }, type := 24, pos := "sessions.go:113", after := #[{ on := 1, ground := Ground.data }], guard := none }) rfl (fun K hK => ?_) ?_
    ·
      go_simp
      go_at_call 16; go_must (refine (clone (.slice pu l.length cu) l _ (HU.out.gr hG) (by first | omega | (simp; done) | (simp; omega))).mono ?_); rintro e c2 ⟨u2, rfl, ho2, hg2⟩
      have hz2 := hG.size
      have hG := hG.trans hg2
      have k1 := hg2.cell k1
      have k2 := hg2.cell k2
      have f1 := blk_free (hG.heap HGX.out) 1
      have f2 := blk_free (hG.heap HGX.out) 2
      obtain ⟨p2, c2, rfl, _⟩ := id ho2.rd
      go_wp2_with fail
      refine hK.out _ _ trivial (fun hHeld => ?_)
      clear hK K
      try simp only [Act.put, List.setIfInBounds_toArray, List.set_cons_zero, List.set_cons_succ]
      refine wpAnyH_ready (rs := [4]) (by kernel_rfl) (by simp) ?_
      refine AllReadyH.cons (o := { dst := some 157, op := Op.load 24 (Operand.tmp 156), type := 24, pos := "sessions.go:113", after := #[{ on := 3, ground := Ground.data }], guard := none }) rfl (fun K hK => ?_) ?_
      ·
        go_simp
        refine hK.out _ _ trivial (fun hHeld => ?_)
        clear hK K
        try simp only [Act.put, List.setIfInBounds_toArray, List.set_cons_zero, List.set_cons_succ]
        refine wpAnyH_take (i := 6) (oi := { dst := some 159, op := Op.fieldAddr 31 (Operand.tmp 5) 1, type := 0, pos := "sessions.go:113", after := #[{ on := 0, ground := Ground.phase }, { on := 1, ground := Ground.phase }, { on := 2, ground := Ground.phase }, { on := 3, ground := Ground.phase }, { on := 4, ground := Ground.phase }, { on := 5, ground := Ground.textOnly Departure.lateStoresUnsure }], guard := none }) (v := ?_) rfl (by kernel_rfl) (by kernel_rfl) (by kernel_rfl) (fun _ _ _ h => h) (Or.inl ⟨by rfl, ?_⟩) (by assumption) ?_
        rotate_left
        · (intro w hSw; (try dsimp only at hSw); go_simp; try with_reducible rfl)
        try simp only [Act.put, List.setIfInBounds_toArray, List.set_cons_zero, List.set_cons_succ]
        refine wpAnyH_ready (rs := [5]) (by kernel_rfl) (by simp) ?_
        refine AllReadyH.cons (o := { dst := some 158, op := Op.call { callee := Callee.value (Operand.func 16), args := #[Operand.tmp 157], argTypes := #[24] }, type := 24, pos := "sessions.go:113", after := #[{ on := 4, ground := Ground.data }, { on := 2, ground := Ground.chain }], guard := none }) rfl (fun K hK => ?_) ?_
        ·
          go_simp
          go_at_call 16; go_must (refine (clone (.slice none 0 0) [] _ (HV.out.gr hG) (by first | omega | (simp; done) | (simp; omega))).mono ?_); rintro e c4 ⟨u3, rfl, ho3, hg3⟩
          have hz3 := hG.size
          have ho2 := ho2.gr hg3
          have hG := hG.trans hg3
          have k1 := hg3.cell k1
          have k2 := hg3.cell k2
          have f1 := blk_free (hG.heap HGX.out) 1
          have f2 := blk_free (hG.heap HGX.out) 2
          obtain ⟨p3, c3, rfl, _⟩ := id ho3.rd
          go_wp2_with fail
          refine hK.out _ _ trivial (fun hHeld => ?_)
          clear hK K
          try simp only [Act.put, List.setIfInBounds_toArray, List.set_cons_zero, List.set_cons_succ]
          refine wpAnyH_ready (rs := [7]) (by kernel_rfl) (by simp) ?_
          refine AllReadyH.cons (o := { dst := none, op := Op.store 24 (Operand.tmp 159) (Operand.tmp 155), type := 0, pos := "sessions.go:113", after := #[{ on := 6, ground := Ground.data }, { on := 2, ground := Ground.data }, { on := 5, ground := Ground.chain }, { on := 0, ground := Ground.phase }, { on := 1, ground := Ground.phase }, { on := 2, ground := Ground.phase }, { on := 3, ground := Ground.phase }, { on := 4, ground := Ground.phase }, { on := 5, ground := Ground.textOnly Departure.lateStoresUnsure }], guard := none }) rfl (fun K hK => ?_) ?_
          ·
            go_simp
            refine hK.out _ _ trivial (fun hHeld => ?_)
            clear hK K
            try simp only [Act.put, List.setIfInBounds_toArray, List.set_cons_zero, List.set_cons_succ]
            refine wpAnyH_take (i := 8) (oi := { dst := some 160, op := Op.fieldAddr 31 (Operand.tmp 5) 2, type := 0, pos := "sessions.go:113", after := #[{ on := 0, ground := Ground.phase }, { on := 1, ground := Ground.phase }, { on := 2, ground := Ground.phase }, { on := 3, ground := Ground.phase }, { on := 4, ground := Ground.phase }, { on := 5, ground := Ground.phase }, { on := 6, ground := Ground.phase }, { on := 7, ground := Ground.phase }], guard := none }) (v := ?_) rfl (by kernel_rfl) (by kernel_rfl) (by kernel_rfl) (fun _ _ _ h => h) (Or.inl ⟨by rfl, ?_⟩) (by assumption) ?_
            rotate_left
            · (intro w hSw; (try dsimp only at hSw); go_simp; try with_reducible rfl)
            try simp only [Act.put, List.setIfInBounds_toArray, List.set_cons_zero, List.set_cons_succ]
            refine wpAnyH_ready (rs := [9]) (by kernel_rfl) (by simp) ?_
            refine AllReadyH.cons (o := { dst := none, op := Op.store 24 (Operand.tmp 160) (Operand.tmp 158), type := 0, pos := "sessions.go:113", after := #[{ on := 8, ground := Ground.data }, { on := 5, ground := Ground.data }, { on := 7, ground := Ground.chain }, { on := 0, ground := Ground.phase }, { on := 1, ground := Ground.phase }, { on := 2, ground := Ground.phase }, { on := 3, ground := Ground.phase }, { on := 4, ground := Ground.phase }, { on := 5, ground := Ground.phase }, { on := 6, ground := Ground.phase }, { on := 7, ground := Ground.phase }], guard := none }) rfl (fun K hK => ?_) ?_
            ·
              go_simp
              refine hK.out _ _ trivial (fun hHeld => ?_)
              clear hK K
              try simp only [Act.put, List.setIfInBounds_toArray, List.set_cons_zero, List.set_cons_succ]
              refine wpAnyH_done (by kernel_rfl) ?_ _
              have hgY := hG.heap HGX.out
              have hrY := hG.heap HRX.out
              have m0 := blk_cell hgY 0
              have m3 := blk_cell hgY 3
              have m4 := blk_cell hgY 4
              have n0 := blk_cell hrY 0
              have n1 := blk_cell hrY 1
              have n2 := blk_cell hrY 2
              have n3 := blk_cell hrY 3
              have n4 := blk_cell hrY 4
              have z0 := blk_free hrY 0
              have z1 := blk_free hrY 1
              have z2 := blk_free hrY 2
              have z3 := blk_free hrY 3
              have z4 := blk_free hrY 4
              simp [zeroCs] at m0 m3 m4 n0 n1 n2 n3 n4
              clear hgY hrY
              have HFIN := fun u1 u2 a0 a1 a2 a3 a4 => Lib.hid (got_fin hsl hzX HFX.out HSX.out hG (ho2.mono hz2) (ho3.mono hz3) u1 u2 a0 a1 a2 a3 a4)
              clear ho2 ho3 hG g0 g3 g4
              go_wp2_with fail
              obtain ⟨j1, j2, j3, j4⟩ := (HFIN _ _ _ _ _ _ _).out
              exact bodyPost_ret (v := .agg #[.bool true, .slice p2 _ c2, .slice p3 _ c3, .int .i64 0, .string ⟨#[]⟩]) (by simp [results, Tryd.results38, go_sem, n0, n1, n2, n3, n4] <;> rfl) rfl ⟨_, _, rfl, j1, j2, j3, j4⟩
            exact AllReadyH.nil
          exact AllReadyH.nil
        exact AllReadyH.nil
      exact AllReadyH.nil
    refine AllReadyH.cons (o := { dst := some 157, op := Op.load 24 (Operand.tmp 156), type := 24, pos := "sessions.go:113", after := #[{ on := 3, ground := Ground.data }], guard := none }) rfl (fun K hK => ?_) ?_
    ·
      go_simp
      refine hK.out _ _ trivial (fun hHeld => ?_)
      clear hK K
      try simp only [Act.put, List.setIfInBounds_toArray, List.set_cons_zero, List.set_cons_succ]
      refine wpAnyH_ready (rs := [2]) (by kernel_rfl) (by simp) ?_
      refine AllReadyH.cons (o := { dst := some 155, op := Op.call { callee := Callee.value (Operand.func 16), args := #[Operand.tmp 154], argTypes := #[24] }, type := 24, pos := "sessions.go:113", after := #[{ on := 1, ground := Ground.data }], guard := none }) rfl (fun K hK => ?_) ?_
      ·
        go_simp
        go_at_call 16; go_must (refine (clone (.slice pu l.length cu) l _ (HU.out.gr hG) (by first | omega | (simp; done) | (simp; omega))).mono ?_); rintro e c8 ⟨u2, rfl, ho2, hg2⟩
        have hz2 := hG.size
        have hG := hG.trans hg2
        have k1 := hg2.cell k1
        have k2 := hg2.cell k2
        have f1 := blk_free (hG.heap HGX.out) 1
        have f2 := blk_free (hG.heap HGX.out) 2
        obtain ⟨p2, c2, rfl, _⟩ := id ho2.rd
        go_wp2_with fail
        refine hK.out _ _ trivial (fun hHeld => ?_)
        clear hK K
        try simp only [Act.put, List.setIfInBounds_toArray, List.set_cons_zero, List.set_cons_succ]
        refine wpAnyH_take (i := 6) (oi := { dst := some 159, op := Op.fieldAddr 31 (Operand.tmp 5) 1, type := 0, pos := "sessions.go:113", after := #[{ on := 0, ground := Ground.phase }, { on := 1, ground := Ground.phase }, { on := 2, ground := Ground.phase }, { on := 3, ground := Ground.phase }, { on := 4, ground := Ground.phase }, { on := 5, ground := Ground.textOnly Departure.lateStoresUnsure }], guard := none }) (v := ?_) rfl (by kernel_rfl) (by kernel_rfl) (by kernel_rfl) (fun _ _ _ h => h) (Or.inl ⟨by rfl, ?_⟩) (by assumption) ?_
        rotate_left
        · (intro w hSw; (try dsimp only at hSw); go_simp; try with_reducible rfl)
        try simp only [Act.put, List.setIfInBounds_toArray, List.set_cons_zero, List.set_cons_succ]
        refine wpAnyH_ready (rs := [5]) (by kernel_rfl) (by simp) ?_
        refine AllReadyH.cons (o := { dst := some 158, op := Op.call { callee := Callee.value (Operand.func 16), args := #[Operand.tmp 157], argTypes := #[24] }, type := 24, pos := "sessions.go:113", after := #[{ on := 4, ground := Ground.data }, { on := 2, ground := Ground.chain }], guard := none }) rfl (fun K hK => ?_) ?_
        ·
          go_simp
          go_at_call 16; go_must (refine (clone (.slice none 0 0) [] _ (HV.out.gr hG) (by first | omega | (simp; done) | (simp; omega))).mono ?_); rintro e c9 ⟨u3, rfl, ho3, hg3⟩
          have hz3 := hG.size
          have ho2 := ho2.gr hg3
          have hG := hG.trans hg3
          have k1 := hg3.cell k1
          have k2 := hg3.cell k2
          have f1 := blk_free (hG.heap HGX.out) 1
          have f2 := blk_free (hG.heap HGX.out) 2
          obtain ⟨p3, c3, rfl, _⟩ := id ho3.rd
          go_wp2_with fail
          refine hK.out _ _ trivial (fun hHeld => ?_)
          clear hK K
          try simp only [Act.put, List.setIfInBounds_toArray, List.set_cons_zero, List.set_cons_succ]
          refine wpAnyH_ready (rs := [7]) (by kernel_rfl) (by simp) ?_
          refine AllReadyH.cons (o := { dst := none, op := Op.store 24 (Operand.tmp 159) (Operand.tmp 155), type := 0, pos := "sessions.go:113", after := #[{ on := 6, ground := Ground.data }, { on := 2, ground := Ground.data }, { on := 5, ground := Ground.chain }, { on := 0, ground := Ground.phase }, { on := 1, ground := Ground.phase }, { on := 2, ground := Ground.phase }, { on := 3, ground := Ground.phase }, { on := 4, ground := Ground.phase }, { on := 5, ground := Ground.textOnly Departure.lateStoresUnsure }], guard := none }) rfl (fun K hK => ?_) ?_
          ·
            go_simp
            refine hK.out _ _ trivial (fun hHeld => ?_)
            clear hK K
            try simp only [Act.put, List.setIfInBounds_toArray, List.set_cons_zero, List.set_cons_succ]
            refine wpAnyH_take (i := 8) (oi := { dst := some 160, op := Op.fieldAddr 31 (Operand.tmp 5) 2, type := 0, pos := "sessions.go:113", after := #[{ on := 0, ground := Ground.phase }, { on := 1, ground := Ground.phase }, { on := 2, ground := Ground.phase }, { on := 3, ground := Ground.phase }, { on := 4, ground := Ground.phase }, { on := 5, ground := Ground.phase }, { on := 6, ground := Ground.phase }, { on := 7, ground := Ground.phase }], guard := none }) (v := ?_) rfl (by kernel_rfl) (by kernel_rfl) (by kernel_rfl) (fun _ _ _ h => h) (Or.inl ⟨by rfl, ?_⟩) (by assumption) ?_
            rotate_left
            · (intro w hSw; (try dsimp only at hSw); go_simp; try with_reducible rfl)
            try simp only [Act.put, List.setIfInBounds_toArray, List.set_cons_zero, List.set_cons_succ]
            refine wpAnyH_ready (rs := [9]) (by kernel_rfl) (by simp) ?_
            refine AllReadyH.cons (o := { dst := none, op := Op.store 24 (Operand.tmp 160) (Operand.tmp 158), type := 0, pos := "sessions.go:113", after := #[{ on := 8, ground := Ground.data }, { on := 5, ground := Ground.data }, { on := 7, ground := Ground.chain }, { on := 0, ground := Ground.phase }, { on := 1, ground := Ground.phase }, { on := 2, ground := Ground.phase }, { on := 3, ground := Ground.phase }, { on := 4, ground := Ground.phase }, { on := 5, ground := Ground.phase }, { on := 6, ground := Ground.phase }, { on := 7, ground := Ground.phase }], guard := none }) rfl (fun K hK => ?_) ?_
            ·
              go_simp
              refine hK.out _ _ trivial (fun hHeld => ?_)
              clear hK K
              try simp only [Act.put, List.setIfInBounds_toArray, List.set_cons_zero, List.set_cons_succ]
              refine wpAnyH_done (by kernel_rfl) ?_ _
              have hgY := hG.heap HGX.out
              have hrY := hG.heap HRX.out
              have m0 := blk_cell hgY 0
              have m3 := blk_cell hgY 3
              have m4 := blk_cell hgY 4
              have n0 := blk_cell hrY 0
              have n1 := blk_cell hrY 1
              have n2 := blk_cell hrY 2
              have n3 := blk_cell hrY 3
              have n4 := blk_cell hrY 4
              have z0 := blk_free hrY 0
              have z1 := blk_free hrY 1
              have z2 := blk_free hrY 2
              have z3 := blk_free hrY 3
              have z4 := blk_free hrY 4
              simp [zeroCs] at m0 m3 m4 n0 n1 n2 n3 n4
              clear hgY hrY
              have HFIN := fun u1 u2 a0 a1 a2 a3 a4 => Lib.hid (got_fin hsl hzX HFX.out HSX.out hG (ho2.mono hz2) (ho3.mono hz3) u1 u2 a0 a1 a2 a3 a4)
              clear ho2 ho3 hG g0 g3 g4
              go_wp2_with fail
              obtain ⟨j1, j2, j3, j4⟩ := (HFIN _ _ _ _ _ _ _).out
              exact bodyPost_ret (v := .agg #[.bool true, .slice p2 _ c2, .slice p3 _ c3, .int .i64 0, .string ⟨#[]⟩]) (by simp [results, Tryd.results38, go_sem, n0, n1, n2, n3, n4] <;> rfl) rfl ⟨_, _, rfl, j1, j2, j3, j4⟩
            exact AllReadyH.nil
          exact AllReadyH.nil
        exact AllReadyH.nil
      exact AllReadyH.nil
    exact AllReadyH.nil
  refine AllReadyH.cons (o := { dst := some 157, op := Op.load 24 (Operand.tmp 156), type := 24, pos := "sessions.go:113", after := #[{ on := 3, ground := Ground.data }], guard := none }) rfl (fun K hK => ?_) ?_
  ·
    go_simp
    refine hK.out _ _ trivial (fun hHeld => ?_)
    clear hK K
    try simp only [Act.put, List.setIfInBounds_toArray, List.set_cons_zero, List.set_cons_succ]
    refine wpAnyH_ready (rs := [1]) (by kernel_rfl) (by simp) ?_
    refine AllReadyH.cons (o := { dst := some 154, op := Op.load 24 (Operand.tmp 153), type := 24, pos := "sessions.go:113", after := #[{ on := 0, ground := Ground.data }], guard := none }) rfl (fun K hK => ?_) ?_
    ·
      go_simp
      refine hK.out _ _ trivial (fun hHeld => ?_)
      clear hK K
      try simp only [Act.put, List.setIfInBounds_toArray, List.set_cons_zero, List.set_cons_succ]
      refine wpAnyH_ready (rs := [2]) (by kernel_rfl) (by simp) ?_
      refine AllReadyH.cons (o := { dst := some 155, op := Op.call { callee := Callee.value (Operand.func 16), args := #[Operand.tmp 154], argTypes := #[24] }, type := 24, pos := "sessions.go:113", after := #[{ on := 1, ground := Ground.data }], guard := none }) rfl (fun K hK => ?_) ?_
      ·
        go_simp
        go_at_call 16; go_must (refine (clone (.slice pu l.length cu) l _ (HU.out.gr hG) (by first | omega | (simp; done) | (simp; omega))).mono ?_); rintro e c14 ⟨u2, rfl, ho2, hg2⟩
        have hz2 := hG.size
        have hG := hG.trans hg2
        have k1 := hg2.cell k1
        have k2 := hg2.cell k2
        have f1 := blk_free (hG.heap HGX.out) 1
        have f2 := blk_free (hG.heap HGX.out) 2
        obtain ⟨p2, c2, rfl, _⟩ := id ho2.rd
        go_wp2_with fail
        refine hK.out _ _ trivial (fun hHeld => ?_)
        clear hK K
        try simp only [Act.put, List.setIfInBounds_toArray, List.set_cons_zero, List.set_cons_succ]
        refine wpAnyH_take (i := 6) (oi := { dst := some 159, op := Op.fieldAddr 31 (Operand.tmp 5) 1, type := 0, pos := "sessions.go:113", after := #[{ on := 0, ground := Ground.phase }, { on := 1, ground := Ground.phase }, { on := 2, ground := Ground.phase }, { on := 3, ground := Ground.phase }, { on := 4, ground := Ground.phase }, { on := 5, ground := Ground.textOnly Departure.lateStoresUnsure }], guard := none }) (v := ?_) rfl (by kernel_rfl) (by kernel_rfl) (by kernel_rfl) (fun _ _ _ h => h) (Or.inl ⟨by rfl, ?_⟩) (by assumption) ?_
        rotate_left
        · (intro w hSw; (try dsimp only at hSw); go_simp; try with_reducible rfl)
        try simp only [Act.put, List.setIfInBounds_toArray, List.set_cons_zero, List.set_cons_succ]
        refine wpAnyH_ready (rs := [5]) (by kernel_rfl) (by simp) ?_
        refine AllReadyH.cons (o := { dst := some 158, op := Op.call { callee := Callee.value (Operand.func 16), args := #[Operand.tmp 157], argTypes := #[24] }, type := 24, pos := "sessions.go:113", after := #[{ on := 4, ground := Ground.data }, { on := 2, ground := Ground.chain }], guard := none }) rfl (fun K hK => ?_) ?_
        ·
          go_simp
          go_at_call 16; go_must (refine (clone (.slice none 0 0) [] _ (HV.out.gr hG) (by first | omega | (simp; done) | (simp; omega))).mono ?_); rintro e c15 ⟨u3, rfl, ho3, hg3⟩
          have hz3 := hG.size
          have ho2 := ho2.gr hg3
          have hG := hG.trans hg3
          have k1 := hg3.cell k1
          have k2 := hg3.cell k2
          have f1 := blk_free (hG.heap HGX.out) 1
          have f2 := blk_free (hG.heap HGX.out) 2
          obtain ⟨p3, c3, rfl, _⟩ := id ho3.rd
          go_wp2_with fail
          refine hK.out _ _ trivial (fun hHeld => ?_)
          clear hK K
          try simp only [Act.put, List.setIfInBounds_toArray, List.set_cons_zero, List.set_cons_succ]
          refine wpAnyH_ready (rs := [7]) (by kernel_rfl) (by simp) ?_
          refine AllReadyH.cons (o := { dst := none, op := Op.store 24 (Operand.tmp 159) (Operand.tmp 155), type := 0, pos := "sessions.go:113", after := #[{ on := 6, ground := Ground.data }, { on := 2, ground := Ground.data }, { on := 5, ground := Ground.chain }, { on := 0, ground := Ground.phase }, { on := 1, ground := Ground.phase }, { on := 2, ground := Ground.phase }, { on := 3, ground := Ground.phase }, { on := 4, ground := Ground.phase }, { on := 5, ground := Ground.textOnly Departure.lateStoresUnsure }], guard := none }) rfl (fun K hK => ?_) ?_
          ·
            go_simp
            refine hK.out _ _ trivial (fun hHeld => ?_)
            clear hK K
            try simp only [Act.put, List.setIfInBounds_toArray, List.set_cons_zero, List.set_cons_succ]
            refine wpAnyH_take (i := 8) (oi := { dst := some 160, op := Op.fieldAddr 31 (Operand.tmp 5) 2, type := 0, pos := "sessions.go:113", after := #[{ on := 0, ground := Ground.phase }, { on := 1, ground := Ground.phase }, { on := 2, ground := Ground.phase }, { on := 3, ground := Ground.phase }, { on := 4, ground := Ground.phase }, { on := 5, ground := Ground.phase }, { on := 6, ground := Ground.phase }, { on := 7, ground := Ground.phase }], guard := none }) (v := ?_) rfl (by kernel_rfl) (by kernel_rfl) (by kernel_rfl) (fun _ _ _ h => h) (Or.inl ⟨by rfl, ?_⟩) (by assumption) ?_
            rotate_left
            · (intro w hSw; (try dsimp only at hSw); go_simp; try with_reducible rfl)
            try simp only [Act.put, List.setIfInBounds_toArray, List.set_cons_zero, List.set_cons_succ]
            refine wpAnyH_ready (rs := [9]) (by kernel_rfl) (by simp) ?_
            refine AllReadyH.cons (o := { dst := none, op := Op.store 24 (Operand.tmp 160) (Operand.tmp 158), type := 0, pos := "sessions.go:113", after := #[{ on := 8, ground := Ground.data }, { on := 5, ground := Ground.data }, { on := 7, ground := Ground.chain }, { on := 0, ground := Ground.phase }, { on := 1, ground := Ground.phase }, { on := 2, ground := Ground.phase }, { on := 3, ground := Ground.phase }, { on := 4, ground := Ground.phase }, { on := 5, ground := Ground.phase }, { on := 6, ground := Ground.phase }, { on := 7, ground := Ground.phase }], guard := none }) rfl (fun K hK => ?_) ?_
            ·
              go_simp
              refine hK.out _ _ trivial (fun hHeld => ?_)
              clear hK K
              try simp only [Act.put, List.setIfInBounds_toArray, List.set_cons_zero, List.set_cons_succ]
              refine wpAnyH_done (by kernel_rfl) ?_ _
              have hgY := hG.heap HGX.out
              have hrY := hG.heap HRX.out
              have m0 := blk_cell hgY 0
              have m3 := blk_cell hgY 3
              have m4 := blk_cell hgY 4
              have n0 := blk_cell hrY 0
              have n1 := blk_cell hrY 1
              have n2 := blk_cell hrY 2
              have n3 := blk_cell hrY 3
              have n4 := blk_cell hrY 4
              have z0 := blk_free hrY 0
              have z1 := blk_free hrY 1
              have z2 := blk_free hrY 2
              have z3 := blk_free hrY 3
              have z4 := blk_free hrY 4
              simp [zeroCs] at m0 m3 m4 n0 n1 n2 n3 n4
              clear hgY hrY
              have HFIN := fun u1 u2 a0 a1 a2 a3 a4 => Lib.hid (got_fin hsl hzX HFX.out HSX.out hG (ho2.mono hz2) (ho3.mono hz3) u1 u2 a0 a1 a2 a3 a4)
              clear ho2 ho3 hG g0 g3 g4
              go_wp2_with fail
              obtain ⟨j1, j2, j3, j4⟩ := (HFIN _ _ _ _ _ _ _).out
              exact bodyPost_ret (v := .agg #[.bool true, .slice p2 _ c2, .slice p3 _ c3, .int .i64 0, .string ⟨#[]⟩]) (by simp [results, Tryd.results38, go_sem, n0, n1, n2, n3, n4] <;> rfl) rfl ⟨_, _, rfl, j1, j2, j3, j4⟩
            exact AllReadyH.nil
          exact AllReadyH.nil
        exact AllReadyH.nil
      exact AllReadyH.nil
    exact AllReadyH.nil
  exact AllReadyH.nil

end Go.Proofs.YtgkccbfepjgjoaaDoor

/- A step of a reader, as the thin package does it: where the input suffices. Printed by gen_got.py. -/
namespace Go.Proofs.YtgkccbfepjgjoaaDoor
open Go Go.RowKit

set_option maxRecDepth 100000 in
set_option maxHeartbeats 2000000 in
/-- So many bytes. -/
theorem got_bytes (s : Nat) (big : Bool) (ch : Int) (E : Value) (r q : List Int) (l : List Int) (m : Nat) (be co : Bool) (w : World) (h : Ss w s big ch E r) (hc : m ≤ r.length) (e1 : r.take m = l) (e2 : r.drop m = q) (hl : l.length ≤ 140737488355328) :
    Calls Tryd.prog 38 #[.pointer (some ⟨s, 0, none⟩), .agg #[.int .i64 1, .int .i64 m, .bool be, .bool co]] w (RetG w s big ch E (some (⟨true, l, [], 0, ⟨#[]⟩⟩, q))) := by
  have hsl := h.lt
  have HS := Lib.hid h
  have HN := Lib.hid (GB.new w 1 m be co)
  have HC := fun w hs => Lib.hid (getBytes_ok s big ch E r m w hs hc)
  rw [e1, e2] at HC
  clear hc e1 e2
  clear h
  go_enter Tryd.func38, Tryd.ntmps38
  go_wp2_with (first
    | (go_at_call 64; go_must (refine (HC _ (HS.out.gr ((((Gr.refl w).alloc _).alloc _).alloc _))).out.mono ?_); rintro e w1 ⟨u, rfl, hu, ho, hs1, hf1⟩; have hb1 := HN.out.fx hf1 hsl; obtain ⟨pu, cu, rfl, hcu⟩ := id hu; have g0 := blk_cell hb1.g 0; have g1 := blk_cell hb1.g 1; have g2 := blk_cell hb1.g 2; have g3 := blk_cell hb1.g 3; have g4 := blk_cell hb1.g 4; have y0 := blk_free hb1.g 0; have y1 := blk_free hb1.g 1; have y2 := blk_free hb1.g 2; have y3 := blk_free hb1.g 3; have y4 := blk_free hb1.g 4; simp [zeroCs] at g0 g1 g2 g3 g4))
  have hfx : Fx (w.heap.size + 1 + 1) w1 (((w1).setCell ⟨w.heap.size + 1 + 1, 1, none⟩ (.slice pu l.length cu)).setCell ⟨w.heap.size + 1 + 1, 0, none⟩ (.bool true)) := ((Fx.refl _ w1).set 1 _).set 0 _
  have hgX := blk_set (blk_set (hb1.g) 1 (.slice pu l.length cu)) 0 (.bool true)
  have huX : Rd (((w1).setCell ⟨w.heap.size + 1 + 1, 1, none⟩ (.slice pu l.length cu)).setCell ⟨w.heap.size + 1 + 1, 0, none⟩ (.bool true)) (.slice pu l.length cu) l := hu.far hb1.g noU8_zero hfx
  have hvX : Rd (((w1).setCell ⟨w.heap.size + 1 + 1, 1, none⟩ (.slice pu l.length cu)).setCell ⟨w.heap.size + 1 + 1, 0, none⟩ (.bool true)) (.slice none 0 0) [] := Rd.nil _
  have hrX := hfx.heap hb1.r (by omega)
  have hsX := hs1.fx2 hfx (by omega)
  have hFX : Fx s w (((w1).setCell ⟨w.heap.size + 1 + 1, 1, none⟩ (.slice pu l.length cu)).setCell ⟨w.heap.size + 1 + 1, 0, none⟩ (.bool true)) := (((((Fx.refl s w).alloc _).alloc _).alloc _).trans hf1).below (((Below.refl w.heap.size w1).setCell (p := ⟨w.heap.size + 1 + 1, 1, none⟩) (by simp; omega) _).setCell (p := ⟨w.heap.size + 1 + 1, 0, none⟩) (by simp; omega) _) (Nat.le_refl _)
  simp [zeroCs] at hgX
  clear g0 g1 g2 g3 g4 y0 y1 y2 y3 y4 hb1 hfx
  generalize ((w1).setCell ⟨w.heap.size + 1 + 1, 1, none⟩ (.slice pu l.length cu)).setCell ⟨w.heap.size + 1 + 1, 0, none⟩ (.bool true) = X at *
  have hzX := lt_of_some hgX
  have g0 := blk_cell hgX 0
  have g1 := blk_cell hgX 1
  have g2 := blk_cell hgX 2
  have g3 := blk_cell hgX 3
  have g4 := blk_cell hgX 4
  simp at g0 g1 g2 g3 g4
  have HU := Lib.hid huX
  have HV := Lib.hid hvX
  have HSX := Lib.hid hsX
  have HFX := Lib.hid hFX
  have HGX := Lib.hid hgX
  have HRX := Lib.hid hrX
  clear huX hvX hsX hFX hgX hrX
  have hG := (Gr.refl X).drew
  refine wp_region_held_drew (S := fun _ => True) (by kernel_rfl) trivial (fun hHeld => ?_)
  have k1 : X.drew.cell? ⟨w.heap.size + 1 + 1, 1, none⟩ = some (.slice pu l.length cu) := g1
  have k2 : X.drew.cell? ⟨w.heap.size + 1 + 1, 2, none⟩ = some (.slice none 0 0) := g2
  generalize hcc : X.drew = c0 at *
  clear hcc g1 g2
  refine wpAnyH_take (i := 0) (oi := { dst := some 153, op := Op.fieldAddr 31 (Operand.tmp 5) 1, type := 0, pos := "sessions.go:113", after := #[], guard := none }) (v := ?_) rfl (by kernel_rfl) (by kernel_rfl) (by kernel_rfl) (fun _ _ _ h => h) (Or.inl ⟨by rfl, ?_⟩) (by assumption) ?_
  rotate_left
  · (intro w hSw; (try dsimp only at hSw); go_simp; try with_reducible rfl)
  try simp only [Act.put, List.setIfInBounds_toArray, List.set_cons_zero, List.set_cons_succ]
  refine wpAnyH_take (i := 3) (oi := { dst := some 156, op := Op.fieldAddr 31 (Operand.tmp 5) 2, type := 0, pos := "sessions.go:113", after := #[], guard := none }) (v := ?_) rfl (by kernel_rfl) (by kernel_rfl) (by kernel_rfl) (fun _ _ _ h => h) (Or.inl ⟨by rfl, ?_⟩) (by assumption) ?_
  rotate_left
  · (intro w hSw; (try dsimp only at hSw); go_simp; try with_reducible rfl)
  try simp only [Act.put, List.setIfInBounds_toArray, List.set_cons_zero, List.set_cons_succ]
  refine wpAnyH_ready (rs := [1, 4]) (by kernel_rfl) (by simp) ?_
  refine AllReadyH.cons (o := { dst := some 154, op := Op.load 24 (Operand.tmp 153), type := 24, pos := "sessions.go:113", after := #[{ on := 0, ground := Ground.data }], guard := none }) rfl (fun K hK => ?_) ?_
  ·
    go_simp
    refine hK.out _ _ trivial (fun hHeld => ?_)
    clear hK K
    try simp only [Act.put, List.setIfInBounds_toArray, List.set_cons_zero, List.set_cons_succ]
    refine wpAnyH_ready (rs := [2, 4]) (by kernel_rfl) (by simp) ?_
    refine AllReadyH.cons (o := { dst := some 155, op := Op.call { callee := Callee.value (Operand.func 16), args := #[Operand.tmp 154], argTypes := #[24] }, type := 24, pos := "sessions.go:113", after := #[{ on := 1, ground := Ground.data }], guard := none }) rfl (fun K hK => ?_) ?_
    ·
      go_simp
      go_at_call 16; go_must (refine (clone (.slice pu l.length cu) l _ (HU.out.gr hG) (by first | omega | (simp; done) | (simp; omega))).mono ?_); rintro e c2 ⟨u2, rfl, ho2, hg2⟩
      have hz2 := hG.size
      have hG := hG.trans hg2
      have k1 := hg2.cell k1
      have k2 := hg2.cell k2
      have f1 := blk_free (hG.heap HGX.out) 1
      have f2 := blk_free (hG.heap HGX.out) 2
      obtain ⟨p2, c2, rfl, _⟩ := id ho2.rd
      go_wp2_with fail
      refine hK.out _ _ trivial (fun hHeld => ?_)
      clear hK K
      try simp only [Act.put, List.setIfInBounds_toArray, List.set_cons_zero, List.set_cons_succ]
      refine wpAnyH_ready (rs := [4]) (by kernel_rfl) (by simp) ?_
      refine AllReadyH.cons (o := { dst := some 157, op := Op.load 24 (Operand.tmp 156), type := 24, pos := "sessions.go:113", after := #[{ on := 3, ground := Ground.data }], guard := none }) rfl (fun K hK => ?_) ?_
      ·
        go_simp
        refine hK.out _ _ trivial (fun hHeld => ?_)
        clear hK K
        try simp only [Act.put, List.setIfInBounds_toArray, List.set_cons_zero, List.set_cons_succ]
        refine wpAnyH_take (i := 6) (oi := { dst := some 159, op := Op.fieldAddr 31 (Operand.tmp 5) 1, type := 0, pos := "sessions.go:113", after := #[{ on := 0, ground := Ground.phase }, { on := 1, ground := Ground.phase }, { on := 2, ground := Ground.phase }, { on := 3, ground := Ground.phase }, { on := 4, ground := Ground.phase }, { on := 5, ground := Ground.textOnly Departure.lateStoresUnsure }], guard := none }) (v := ?_) rfl (by kernel_rfl) (by kernel_rfl) (by kernel_rfl) (fun _ _ _ h => h) (Or.inl ⟨by rfl, ?_⟩) (by assumption) ?_
        rotate_left
        · (intro w hSw; (try dsimp only at hSw); go_simp; try with_reducible rfl)
        try simp only [Act.put, List.setIfInBounds_toArray, List.set_cons_zero, List.set_cons_succ]
        refine wpAnyH_ready (rs := [5]) (by kernel_rfl) (by simp) ?_
        refine AllReadyH.cons (o := { dst := some 158, op := Op.call { callee := Callee.value (Operand.func 16), args := #[Operand.tmp 157], argTypes := #[24] }, type := 24, pos := "sessions.go:113", after := #[{ on := 4, ground := Ground.data }, { on := 2, ground := Ground.chain }], guard := none }) rfl (fun K hK => ?_) ?_
        ·
          go_simp
          go_at_call 16; go_must (refine (clone (.slice none 0 0) [] _ (HV.out.gr hG) (by first | omega | (simp; done) | (simp; omega))).mono ?_); rintro e c4 ⟨u3, rfl, ho3, hg3⟩
          have hz3 := hG.size
          have ho2 := ho2.gr hg3
          have hG := hG.trans hg3
          have k1 := hg3.cell k1
          have k2 := hg3.cell k2
          have f1 := blk_free (hG.heap HGX.out) 1
          have f2 := blk_free (hG.heap HGX.out) 2
          obtain ⟨p3, c3, rfl, _⟩ := id ho3.rd
          go_wp2_with fail
          refine hK.out _ _ trivial (fun hHeld => ?_)
          clear hK K
          try simp only [Act.put, List.setIfInBounds_toArray, List.set_cons_zero, List.set_cons_succ]
          refine wpAnyH_ready (rs := [7]) (by kernel_rfl) (by simp) ?_
          refine AllReadyH.cons (o := { dst := none, op := Op.store 24 (Operand.tmp 159) (Operand.tmp 155), type := 0, pos := "sessions.go:113", after := #[{ on := 6, ground := Ground.data }, { on := 2, ground := Ground.data }, { on := 5, ground := Ground.chain }, { on := 0, ground := Ground.phase }, { on := 1, ground := Ground.phase }, { on := 2, ground := Ground.phase }, { on := 3, ground := Ground.phase }, { on := 4, ground := Ground.phase }, { on := 5, ground := Ground.textOnly Departure.lateStoresUnsure }], guard := none }) rfl (fun K hK => ?_) ?_
          ·
            go_simp
            refine hK.out _ _ trivial (fun hHeld => ?_)
            clear hK K
            try simp only [Act.put, List.setIfInBounds_toArray, List.set_cons_zero, List.set_cons_succ]
            refine wpAnyH_take (i := 8) (oi := { dst := some 160, op := Op.fieldAddr 31 (Operand.tmp 5) 2, type := 0, pos := "sessions.go:113", after := #[{ on := 0, ground := Ground.phase }, { on := 1, ground := Ground.phase }, { on := 2, ground := Ground.phase }, { on := 3, ground := Ground.phase }, { on := 4, ground := Ground.phase }, { on := 5, ground := Ground.phase }, { on := 6, ground := Ground.phase }, { on := 7, ground := Ground.phase }], guard := none }) (v := ?_) rfl (by kernel_rfl) (by kernel_rfl) (by kernel_rfl) (fun _ _ _ h => h) (Or.inl ⟨by rfl, ?_⟩) (by assumption) ?_
            rotate_left
            · (intro w hSw; (try dsimp only at hSw); go_simp; try with_reducible rfl)
            try simp only [Act.put, List.setIfInBounds_toArray, List.set_cons_zero, List.set_cons_succ]
            refine wpAnyH_ready (rs := [9]) (by kernel_rfl) (by simp) ?_
            refine AllReadyH.cons (o := { dst := none, op := Op.store 24 (Operand.tmp 160) (Operand.tmp 158), type := 0, pos := "sessions.go:113", after := #[{ on := 8, ground := Ground.data }, { on := 5, ground := Ground.data }, { on := 7, ground := Ground.chain }, { on := 0, ground := Ground.phase }, { on := 1, ground := Ground.phase }, { on := 2, ground := Ground.phase }, { on := 3, ground := Ground.phase }, { on := 4, ground := Ground.phase }, { on := 5, ground := Ground.phase }, { on := 6, ground := Ground.phase }, { on := 7, ground := Ground.phase }], guard := none }) rfl (fun K hK => ?_) ?_
            ·
              go_simp
              refine hK.out _ _ trivial (fun hHeld => ?_)
              clear hK K
              try simp only [Act.put, List.setIfInBounds_toArray, List.set_cons_zero, List.set_cons_succ]
              refine wpAnyH_done (by kernel_rfl) ?_ _
              have hgY := hG.heap HGX.out
              have hrY := hG.heap HRX.out
              have m0 := blk_cell hgY 0
              have m3 := blk_cell hgY 3
              have m4 := blk_cell hgY 4
              have n0 := blk_cell hrY 0
              have n1 := blk_cell hrY 1
              have n2 := blk_cell hrY 2
              have n3 := blk_cell hrY 3
              have n4 := blk_cell hrY 4
              have z0 := blk_free hrY 0
              have z1 := blk_free hrY 1
              have z2 := blk_free hrY 2
              have z3 := blk_free hrY 3
              have z4 := blk_free hrY 4
              simp [zeroCs] at m0 m3 m4 n0 n1 n2 n3 n4
              clear hgY hrY
              have HFIN := fun u1 u2 a0 a1 a2 a3 a4 => Lib.hid (got_fin hsl hzX HFX.out HSX.out hG (ho2.mono hz2) (ho3.mono hz3) u1 u2 a0 a1 a2 a3 a4)
              clear ho2 ho3 hG g0 g3 g4
              go_wp2_with fail
              obtain ⟨j1, j2, j3, j4⟩ := (HFIN _ _ _ _ _ _ _).out
              exact bodyPost_ret (v := .agg #[.bool true, .slice p2 _ c2, .slice p3 _ c3, .int .i64 0, .string ⟨#[]⟩]) (by simp [results, Tryd.results38, go_sem, n0, n1, n2, n3, n4] <;> rfl) rfl ⟨_, _, rfl, j1, j2, j3, j4⟩
            exact AllReadyH.nil
          exact AllReadyH.nil
        exact AllReadyH.nil
      exact AllReadyH.nil
    refine AllReadyH.cons (o := { dst := some 157, op := Op.load 24 (Operand.tmp 156), type := 24, pos := "sessions.go:113", after := #[{ on := 3, ground := Ground.data }], guard := none }) rfl (fun K hK => ?_) ?_
    ·
      go_simp
      refine hK.out _ _ trivial (fun hHeld => ?_)
      clear hK K
      try simp only [Act.put, List.setIfInBounds_toArray, List.set_cons_zero, List.set_cons_succ]
      refine wpAnyH_ready (rs := [2]) (by kernel_rfl) (by simp) ?_
      refine AllReadyH.cons (o := { dst := some 155, op := Op.call { callee := Callee.value (Operand.func 16), args := #[Operand.tmp 154], argTypes := #[24] }, type := 24, pos := "sessions.go:113", after := #[{ on := 1, ground := Ground.data }], guard := none }) rfl (fun K hK => ?_) ?_
      ·
        go_simp
        go_at_call 16; go_must (refine (clone (.slice pu l.length cu) l _ (HU.out.gr hG) (by first | omega | (simp; done) | (simp; omega))).mono ?_); rintro e c8 ⟨u2, rfl, ho2, hg2⟩
        have hz2 := hG.size
        have hG := hG.trans hg2
        have k1 := hg2.cell k1
        have k2 := hg2.cell k2
        have f1 := blk_free (hG.heap HGX.out) 1
        have f2 := blk_free (hG.heap HGX.out) 2
        obtain ⟨p2, c2, rfl, _⟩ := id ho2.rd
        go_wp2_with fail
        refine hK.out _ _ trivial (fun hHeld => ?_)
        clear hK K
        try simp only [Act.put, List.setIfInBounds_toArray, List.set_cons_zero, List.set_cons_succ]
        refine wpAnyH_take (i := 6) (oi := { dst := some 159, op := Op.fieldAddr 31 (Operand.tmp 5) 1, type := 0, pos := "sessions.go:113", after := #[{ on := 0, ground := Ground.phase }, { on := 1, ground := Ground.phase }, { on := 2, ground := Ground.phase }, { on := 3, ground := Ground.phase }, { on := 4, ground := Ground.phase }, { on := 5, ground := Ground.textOnly Departure.lateStoresUnsure }], guard := none }) (v := ?_) rfl (by kernel_rfl) (by kernel_rfl) (by kernel_rfl) (fun _ _ _ h => h) (Or.inl ⟨by rfl, ?_⟩) (by assumption) ?_
        rotate_left
        · (intro w hSw; (try dsimp only at hSw); go_simp; try with_reducible rfl)
        try simp only [Act.put, List.setIfInBounds_toArray, List.set_cons_zero, List.set_cons_succ]
        refine wpAnyH_ready (rs := [5]) (by kernel_rfl) (by simp) ?_
        refine AllReadyH.cons (o := { dst := some 158, op := Op.call { callee := Callee.value (Operand.func 16), args := #[Operand.tmp 157], argTypes := #[24] }, type := 24, pos := "sessions.go:113", after := #[{ on := 4, ground := Ground.data }, { on := 2, ground := Ground.chain }], guard := none }) rfl (fun K hK => ?_) ?_
        ·
          go_simp
          go_at_call 16; go_must (refine (clone (.slice none 0 0) [] _ (HV.out.gr hG) (by first | omega | (simp; done) | (simp; omega))).mono ?_); rintro e c9 ⟨u3, rfl, ho3, hg3⟩
          have hz3 := hG.size
          have ho2 := ho2.gr hg3
          have hG := hG.trans hg3
          have k1 := hg3.cell k1
          have k2 := hg3.cell k2
          have f1 := blk_free (hG.heap HGX.out) 1
          have f2 := blk_free (hG.heap HGX.out) 2
          obtain ⟨p3, c3, rfl, _⟩ := id ho3.rd
          go_wp2_with fail
          refine hK.out _ _ trivial (fun hHeld => ?_)
          clear hK K
          try simp only [Act.put, List.setIfInBounds_toArray, List.set_cons_zero, List.set_cons_succ]
          refine wpAnyH_ready (rs := [7]) (by kernel_rfl) (by simp) ?_
          refine AllReadyH.cons (o := { dst := none, op := Op.store 24 (Operand.tmp 159) (Operand.tmp 155), type := 0, pos := "sessions.go:113", after := #[{ on := 6, ground := Ground.data }, { on := 2, ground := Ground.data }, { on := 5, ground := Ground.chain }, { on := 0, ground := Ground.phase }, { on := 1, ground := Ground.phase }, { on := 2, ground := Ground.phase }, { on := 3, ground := Ground.phase }, { on := 4, ground := Ground.phase }, { on := 5, ground := Ground.textOnly Departure.lateStoresUnsure }], guard := none }) rfl (fun K hK => ?_) ?_
          ·
            go_simp
            refine hK.out _ _ trivial (fun hHeld => ?_)
            clear hK K
            try simp only [Act.put, List.setIfInBounds_toArray, List.set_cons_zero, List.set_cons_succ]
            refine wpAnyH_take (i := 8) (oi := { dst := some 160, op := Op.fieldAddr 31 (Operand.tmp 5) 2, type := 0, pos := "sessions.go:113", after := #[{ on := 0, ground := Ground.phase }, { on := 1, ground := Ground.phase }, { on := 2, ground := Ground.phase }, { on := 3, ground := Ground.phase }, { on := 4, ground := Ground.phase }, { on := 5, ground := Ground.phase }, { on := 6, ground := Ground.phase }, { on := 7, ground := Ground.phase }], guard := none }) (v := ?_) rfl (by kernel_rfl) (by kernel_rfl) (by kernel_rfl) (fun _ _ _ h => h) (Or.inl ⟨by rfl, ?_⟩) (by assumption) ?_
            rotate_left
            · (intro w hSw; (try dsimp only at hSw); go_simp; try with_reducible rfl)
            try simp only [Act.put, List.setIfInBounds_toArray, List.set_cons_zero, List.set_cons_succ]
            refine wpAnyH_ready (rs := [9]) (by kernel_rfl) (by simp) ?_
            refine AllReadyH.cons (o := { dst := none, op := Op.store 24 (Operand.tmp 160) (Operand.tmp 158), type := 0, pos := "sessions.go:113", after := #[{ on := 8, ground := Ground.data }, { on := 5, ground := Ground.data }, { on := 7, ground := Ground.chain }, { on := 0, ground := Ground.phase }, { on := 1, ground := Ground.phase }, { on := 2, ground := Ground.phase }, { on := 3, ground := Ground.phase }, { on := 4, ground := Ground.phase }, { on := 5, ground := Ground.phase }, { on := 6, ground := Ground.phase }, { on := 7, ground := Ground.phase }], guard := none }) rfl (fun K hK => ?_) ?_
            ·
              go_simp
              refine hK.out _ _ trivial (fun hHeld => ?_)
              clear hK K
              try simp only [Act.put, List.setIfInBounds_toArray, List.set_cons_zero, List.set_cons_succ]
              refine wpAnyH_done (by kernel_rfl) ?_ _
              have hgY := hG.heap HGX.out
              have hrY := hG.heap HRX.out
              have m0 := blk_cell hgY 0
              have m3 := blk_cell hgY 3
              have m4 := blk_cell hgY 4
              have n0 := blk_cell hrY 0
              have n1 := blk_cell hrY 1
              have n2 := blk_cell hrY 2
              have n3 := blk_cell hrY 3
              have n4 := blk_cell hrY 4
              have z0 := blk_free hrY 0
              have z1 := blk_free hrY 1
              have z2 := blk_free hrY 2
              have z3 := blk_free hrY 3
              have z4 := blk_free hrY 4
              simp [zeroCs] at m0 m3 m4 n0 n1 n2 n3 n4
              clear hgY hrY
              have HFIN := fun u1 u2 a0 a1 a2 a3 a4 => Lib.hid (got_fin hsl hzX HFX.out HSX.out hG (ho2.mono hz2) (ho3.mono hz3) u1 u2 a0 a1 a2 a3 a4)
              clear ho2 ho3 hG g0 g3 g4
              go_wp2_with fail
              obtain ⟨j1, j2, j3, j4⟩ := (HFIN _ _ _ _ _ _ _).out
              exact bodyPost_ret (v := .agg #[.bool true, .slice p2 _ c2, .slice p3 _ c3, .int .i64 0, .string ⟨#[]⟩]) (by simp [results, Tryd.results38, go_sem, n0, n1, n2, n3, n4] <;> rfl) rfl ⟨_, _, rfl, j1, j2, j3, j4⟩
            exact AllReadyH.nil
          exact AllReadyH.nil
        exact AllReadyH.nil
      exact AllReadyH.nil
    exact AllReadyH.nil
  refine AllReadyH.cons (o := { dst := some 157, op := Op.load 24 (Operand.tmp 156), type := 24, pos := "sessions.go:113", after := #[{ on := 3, ground := Ground.data }], guard := none }) rfl (fun K hK => ?_) ?_
  ·
    go_simp
    refine hK.out _ _ trivial (fun hHeld => ?_)
    clear hK K
    try simp only [Act.put, List.setIfInBounds_toArray, List.set_cons_zero, List.set_cons_succ]
    refine wpAnyH_ready (rs := [1]) (by kernel_rfl) (by simp) ?_
    refine AllReadyH.cons (o := { dst := some 154, op := Op.load 24 (Operand.tmp 153), type := 24, pos := "sessions.go:113", after := #[{ on := 0, ground := Ground.data }], guard := none }) rfl (fun K hK => ?_) ?_
    ·
      go_simp
      refine hK.out _ _ trivial (fun hHeld => ?_)
      clear hK K
      try simp only [Act.put, List.setIfInBounds_toArray, List.set_cons_zero, List.set_cons_succ]
      refine wpAnyH_ready (rs := [2]) (by kernel_rfl) (by simp) ?_
      refine AllReadyH.cons (o := { dst := some 155, op := Op.call { callee := Callee.value (Operand.func 16), args := #[Operand.tmp 154], argTypes := #[24] }, type := 24, pos := "sessions.go:113", after := #[{ on := 1, ground := Ground.data }], guard := none }) rfl (fun K hK => ?_) ?_
      ·
        go_simp
        go_at_call 16; go_must (refine (clone (.slice pu l.length cu) l _ (HU.out.gr hG) (by first | omega | (simp; done) | (simp; omega))).mono ?_); rintro e c14 ⟨u2, rfl, ho2, hg2⟩
        have hz2 := hG.size
        have hG := hG.trans hg2
        have k1 := hg2.cell k1
        have k2 := hg2.cell k2
        have f1 := blk_free (hG.heap HGX.out) 1
        have f2 := blk_free (hG.heap HGX.out) 2
        obtain ⟨p2, c2, rfl, _⟩ := id ho2.rd
        go_wp2_with fail
        refine hK.out _ _ trivial (fun hHeld => ?_)
        clear hK K
        try simp only [Act.put, List.setIfInBounds_toArray, List.set_cons_zero, List.set_cons_succ]
        refine wpAnyH_take (i := 6) (oi := { dst := some 159, op := Op.fieldAddr 31 (Operand.tmp 5) 1, type := 0, pos := "sessions.go:113", after := #[{ on := 0, ground := Ground.phase }, { on := 1, ground := Ground.phase }, { on := 2, ground := Ground.phase }, { on := 3, ground := Ground.phase }, { on := 4, ground := Ground.phase }, { on := 5, ground := Ground.textOnly Departure.lateStoresUnsure }], guard := none }) (v := ?_) rfl (by kernel_rfl) (by kernel_rfl) (by kernel_rfl) (fun _ _ _ h => h) (Or.inl ⟨by rfl, ?_⟩) (by assumption) ?_
        rotate_left
        · (intro w hSw; (try dsimp only at hSw); go_simp; try with_reducible rfl)
        try simp only [Act.put, List.setIfInBounds_toArray, List.set_cons_zero, List.set_cons_succ]
        refine wpAnyH_ready (rs := [5]) (by kernel_rfl) (by simp) ?_
        refine AllReadyH.cons (o := { dst := some 158, op := Op.call { callee := Callee.value (Operand.func 16), args := #[Operand.tmp 157], argTypes := #[24] }, type := 24, pos := "sessions.go:113", after := #[{ on := 4, ground := Ground.data }, { on := 2, ground := Ground.chain }], guard := none }) rfl (fun K hK => ?_) ?_
        ·
          go_simp
          go_at_call 16; go_must (refine (clone (.slice none 0 0) [] _ (HV.out.gr hG) (by first | omega | (simp; done) | (simp; omega))).mono ?_); rintro e c15 ⟨u3, rfl, ho3, hg3⟩
          have hz3 := hG.size
          have ho2 := ho2.gr hg3
          have hG := hG.trans hg3
          have k1 := hg3.cell k1
          have k2 := hg3.cell k2
          have f1 := blk_free (hG.heap HGX.out) 1
          have f2 := blk_free (hG.heap HGX.out) 2
          obtain ⟨p3, c3, rfl, _⟩ := id ho3.rd
          go_wp2_with fail
          refine hK.out _ _ trivial (fun hHeld => ?_)
          clear hK K
          try simp only [Act.put, List.setIfInBounds_toArray, List.set_cons_zero, List.set_cons_succ]
          refine wpAnyH_ready (rs := [7]) (by kernel_rfl) (by simp) ?_
          refine AllReadyH.cons (o := { dst := none, op := Op.store 24 (Operand.tmp 159) (Operand.tmp 155), type := 0, pos := "sessions.go:113", after := #[{ on := 6, ground := Ground.data }, { on := 2, ground := Ground.data }, { on := 5, ground := Ground.chain }, { on := 0, ground := Ground.phase }, { on := 1, ground := Ground.phase }, { on := 2, ground := Ground.phase }, { on := 3, ground := Ground.phase }, { on := 4, ground := Ground.phase }, { on := 5, ground := Ground.textOnly Departure.lateStoresUnsure }], guard := none }) rfl (fun K hK => ?_) ?_
          ·
            go_simp
            refine hK.out _ _ trivial (fun hHeld => ?_)
            clear hK K
            try simp only [Act.put, List.setIfInBounds_toArray, List.set_cons_zero, List.set_cons_succ]
            refine wpAnyH_take (i := 8) (oi := { dst := some 160, op := Op.fieldAddr 31 (Operand.tmp 5) 2, type := 0, pos := "sessions.go:113", after := #[{ on := 0, ground := Ground.phase }, { on := 1, ground := Ground.phase }, { on := 2, ground := Ground.phase }, { on := 3, ground := Ground.phase }, { on := 4, ground := Ground.phase }, { on := 5, ground := Ground.phase }, { on := 6, ground := Ground.phase }, { on := 7, ground := Ground.phase }], guard := none }) (v := ?_) rfl (by kernel_rfl) (by kernel_rfl) (by kernel_rfl) (fun _ _ _ h => h) (Or.inl ⟨by rfl, ?_⟩) (by assumption) ?_
            rotate_left
            · (intro w hSw; (try dsimp only at hSw); go_simp; try with_reducible rfl)
            try simp only [Act.put, List.setIfInBounds_toArray, List.set_cons_zero, List.set_cons_succ]
            refine wpAnyH_ready (rs := [9]) (by kernel_rfl) (by simp) ?_
            refine AllReadyH.cons (o := { dst := none, op := Op.store 24 (Operand.tmp 160) (Operand.tmp 158), type := 0, pos := "sessions.go:113", after := #[{ on := 8, ground := Ground.data }, { on := 5, ground := Ground.data }, { on := 7, ground := Ground.chain }, { on := 0, ground := Ground.phase }, { on := 1, ground := Ground.phase }, { on := 2, ground := Ground.phase }, { on := 3, ground := Ground.phase }, { on := 4, ground := Ground.phase }, { on := 5, ground := Ground.phase }, { on := 6, ground := Ground.phase }, { on := 7, ground := Ground.phase }], guard := none }) rfl (fun K hK => ?_) ?_
            ·
              go_simp
              refine hK.out _ _ trivial (fun hHeld => ?_)
              clear hK K
              try simp only [Act.put, List.setIfInBounds_toArray, List.set_cons_zero, List.set_cons_succ]
              refine wpAnyH_done (by kernel_rfl) ?_ _
              have hgY := hG.heap HGX.out
              have hrY := hG.heap HRX.out
              have m0 := blk_cell hgY 0
              have m3 := blk_cell hgY 3
              have m4 := blk_cell hgY 4
              have n0 := blk_cell hrY 0
              have n1 := blk_cell hrY 1
              have n2 := blk_cell hrY 2
              have n3 := blk_cell hrY 3
              have n4 := blk_cell hrY 4
              have z0 := blk_free hrY 0
              have z1 := blk_free hrY 1
              have z2 := blk_free hrY 2
              have z3 := blk_free hrY 3
              have z4 := blk_free hrY 4
              simp [zeroCs] at m0 m3 m4 n0 n1 n2 n3 n4
              clear hgY hrY
              have HFIN := fun u1 u2 a0 a1 a2 a3 a4 => Lib.hid (got_fin hsl hzX HFX.out HSX.out hG (ho2.mono hz2) (ho3.mono hz3) u1 u2 a0 a1 a2 a3 a4)
              clear ho2 ho3 hG g0 g3 g4
              go_wp2_with fail
              obtain ⟨j1, j2, j3, j4⟩ := (HFIN _ _ _ _ _ _ _).out
              exact bodyPost_ret (v := .agg #[.bool true, .slice p2 _ c2, .slice p3 _ c3, .int .i64 0, .string ⟨#[]⟩]) (by simp [results, Tryd.results38, go_sem, n0, n1, n2, n3, n4] <;> rfl) rfl ⟨_, _, rfl, j1, j2, j3, j4⟩
            exact AllReadyH.nil
          exact AllReadyH.nil
        exact AllReadyH.nil
      exact AllReadyH.nil
    exact AllReadyH.nil
  exact AllReadyH.nil

end Go.Proofs.YtgkccbfepjgjoaaDoor

/- A step of a reader, as the thin package does it: where the input suffices. Printed by gen_got.py. -/
namespace Go.Proofs.YtgkccbfepjgjoaaDoor
open Go Go.RowKit

set_option maxRecDepth 100000 in
set_option maxHeartbeats 2000000 in
/-- To peek. -/
theorem got_peek (s : Nat) (big : Bool) (ch : Int) (E : Value) (r q : List Int) (l : List Int) (m : Nat) (be co : Bool) (w : World) (h : Ss w s big ch E r) (hc : m ≤ r.length) (e1 : r.take m = l) (e2 : r = q) (hl : l.length ≤ 140737488355328) :
    Calls Tryd.prog 38 #[.pointer (some ⟨s, 0, none⟩), .agg #[.int .i64 9, .int .i64 m, .bool be, .bool co]] w (RetG w s big ch E (some (⟨true, l, [], 0, ⟨#[]⟩⟩, q))) := by
  have hsl := h.lt
  have HS := Lib.hid h
  have HN := Lib.hid (GB.new w 9 m be co)
  have HC := fun w hs => Lib.hid (peek_ok s big ch E r m w hs hc)
  rw [e1, e2] at HC
  subst e2
  clear hc e1
  clear h
  go_enter Tryd.func38, Tryd.ntmps38
  go_wp2_with (first
    | (go_at_call 73; go_must (refine (HC _ (HS.out.gr ((((Gr.refl w).alloc _).alloc _).alloc _))).out.mono ?_); rintro e w1 ⟨u, rfl, hu, ho, hs1, hf1⟩; have hb1 := HN.out.fx hf1 hsl; obtain ⟨pu, cu, rfl, hcu⟩ := id hu; have g0 := blk_cell hb1.g 0; have g1 := blk_cell hb1.g 1; have g2 := blk_cell hb1.g 2; have g3 := blk_cell hb1.g 3; have g4 := blk_cell hb1.g 4; have y0 := blk_free hb1.g 0; have y1 := blk_free hb1.g 1; have y2 := blk_free hb1.g 2; have y3 := blk_free hb1.g 3; have y4 := blk_free hb1.g 4; simp [zeroCs] at g0 g1 g2 g3 g4))
  have hfx : Fx (w.heap.size + 1 + 1) w1 (((w1).setCell ⟨w.heap.size + 1 + 1, 1, none⟩ (.slice pu l.length cu)).setCell ⟨w.heap.size + 1 + 1, 0, none⟩ (.bool true)) := ((Fx.refl _ w1).set 1 _).set 0 _
  have hgX := blk_set (blk_set (hb1.g) 1 (.slice pu l.length cu)) 0 (.bool true)
  have huX : Rd (((w1).setCell ⟨w.heap.size + 1 + 1, 1, none⟩ (.slice pu l.length cu)).setCell ⟨w.heap.size + 1 + 1, 0, none⟩ (.bool true)) (.slice pu l.length cu) l := hu.far hb1.g noU8_zero hfx
  have hvX : Rd (((w1).setCell ⟨w.heap.size + 1 + 1, 1, none⟩ (.slice pu l.length cu)).setCell ⟨w.heap.size + 1 + 1, 0, none⟩ (.bool true)) (.slice none 0 0) [] := Rd.nil _
  have hrX := hfx.heap hb1.r (by omega)
  have hsX := hs1.fx2 hfx (by omega)
  have hFX : Fx s w (((w1).setCell ⟨w.heap.size + 1 + 1, 1, none⟩ (.slice pu l.length cu)).setCell ⟨w.heap.size + 1 + 1, 0, none⟩ (.bool true)) := (((((Fx.refl s w).alloc _).alloc _).alloc _).trans hf1).below (((Below.refl w.heap.size w1).setCell (p := ⟨w.heap.size + 1 + 1, 1, none⟩) (by simp; omega) _).setCell (p := ⟨w.heap.size + 1 + 1, 0, none⟩) (by simp; omega) _) (Nat.le_refl _)
  simp [zeroCs] at hgX
  clear g0 g1 g2 g3 g4 y0 y1 y2 y3 y4 hb1 hfx
  generalize ((w1).setCell ⟨w.heap.size + 1 + 1, 1, none⟩ (.slice pu l.length cu)).setCell ⟨w.heap.size + 1 + 1, 0, none⟩ (.bool true) = X at *
  have hzX := lt_of_some hgX
  have g0 := blk_cell hgX 0
  have g1 := blk_cell hgX 1
  have g2 := blk_cell hgX 2
  have g3 := blk_cell hgX 3
  have g4 := blk_cell hgX 4
  simp at g0 g1 g2 g3 g4
  have HU := Lib.hid huX
  have HV := Lib.hid hvX
  have HSX := Lib.hid hsX
  have HFX := Lib.hid hFX
  have HGX := Lib.hid hgX
  have HRX := Lib.hid hrX
  clear huX hvX hsX hFX hgX hrX
  have hG := (Gr.refl X).drew
  refine wp_region_held_drew (S := fun _ => True) (by kernel_rfl) trivial (fun hHeld => ?_)
  have k1 : X.drew.cell? ⟨w.heap.size + 1 + 1, 1, none⟩ = some (.slice pu l.length cu) := g1
  have k2 : X.drew.cell? ⟨w.heap.size + 1 + 1, 2, none⟩ = some (.slice none 0 0) := g2
  generalize hcc : X.drew = c0 at *
  clear hcc g1 g2
  refine wpAnyH_take (i := 0) (oi := { dst := some 153, op := Op.fieldAddr 31 (Operand.tmp 5) 1, type := 0, pos := "sessions.go:113", after := #[], guard := none }) (v := ?_) rfl (by kernel_rfl) (by kernel_rfl) (by kernel_rfl) (fun _ _ _ h => h) (Or.inl ⟨by rfl, ?_⟩) (by assumption) ?_
  rotate_left
  · (intro w hSw; (try dsimp only at hSw); go_simp; try with_reducible rfl)
  try simp only [Act.put, List.setIfInBounds_toArray, List.set_cons_zero, List.set_cons_succ]
  refine wpAnyH_take (i := 3) (oi := { dst := some 156, op := Op.fieldAddr 31 (Operand.tmp 5) 2, type := 0, pos := "sessions.go:113", after := #[], guard := none }) (v := ?_) rfl (by kernel_rfl) (by kernel_rfl) (by kernel_rfl) (fun _ _ _ h => h) (Or.inl ⟨by rfl, ?_⟩) (by assumption) ?_
  rotate_left
  · (intro w hSw; (try dsimp only at hSw); go_simp; try with_reducible rfl)
  try simp only [Act.put, List.setIfInBounds_toArray, List.set_cons_zero, List.set_cons_succ]
  refine wpAnyH_ready (rs := [1, 4]) (by kernel_rfl) (by simp) ?_
  refine AllReadyH.cons (o := { dst := some 154, op := Op.load 24 (Operand.tmp 153), type := 24, pos := "sessions.go:113", after := #[{ on := 0, ground := Ground.data }], guard := none }) rfl (fun K hK => ?_) ?_
  ·
    go_simp
    refine hK.out _ _ trivial (fun hHeld => ?_)
    clear hK K
    try simp only [Act.put, List.setIfInBounds_toArray, List.set_cons_zero, List.set_cons_succ]
    refine wpAnyH_ready (rs := [2, 4]) (by kernel_rfl) (by simp) ?_
    refine AllReadyH.cons (o := { dst := some 155, op := Op.call { callee := Callee.value (Operand.func 16), args := #[Operand.tmp 154], argTypes := #[24] }, type := 24, pos := "sessions.go:113", after := #[{ on := 1, ground := Ground.data }], guard := none }) rfl (fun K hK => ?_) ?_
    ·
      go_simp
      go_at_call 16; go_must (refine (clone (.slice pu l.length cu) l _ (HU.out.gr hG) (by first | omega | (simp; done) | (simp; omega))).mono ?_); rintro e c2 ⟨u2, rfl, ho2, hg2⟩
      have hz2 := hG.size
      have hG := hG.trans hg2
      have k1 := hg2.cell k1
      have k2 := hg2.cell k2
      have f1 := blk_free (hG.heap HGX.out) 1
      have f2 := blk_free (hG.heap HGX.out) 2
      obtain ⟨p2, c2, rfl, _⟩ := id ho2.rd
      go_wp2_with fail
      refine hK.out _ _ trivial (fun hHeld => ?_)
      clear hK K
      try simp only [Act.put, List.setIfInBounds_toArray, List.set_cons_zero, List.set_cons_succ]
      refine wpAnyH_ready (rs := [4]) (by kernel_rfl) (by simp) ?_
      refine AllReadyH.cons (o := { dst := some 157, op := Op.load 24 (Operand.tmp 156), type := 24, pos := "sessions.go:113", after := #[{ on := 3, ground := Ground.data }], guard := none }) rfl (fun K hK => ?_) ?_
      ·
        go_simp
        refine hK.out _ _ trivial (fun hHeld => ?_)
        clear hK K
        try simp only [Act.put, List.setIfInBounds_toArray, List.set_cons_zero, List.set_cons_succ]
        refine wpAnyH_take (i := 6) (oi := { dst := some 159, op := Op.fieldAddr 31 (Operand.tmp 5) 1, type := 0, pos := "sessions.go:113", after := #[{ on := 0, ground := Ground.phase }, { on := 1, ground := Ground.phase }, { on := 2, ground := Ground.phase }, { on := 3, ground := Ground.phase }, { on := 4, ground := Ground.phase }, { on := 5, ground := Ground.textOnly Departure.lateStoresUnsure }], guard := none }) (v := ?_) rfl (by kernel_rfl) (by kernel_rfl) (by kernel_rfl) (fun _ _ _ h => h) (Or.inl ⟨by rfl, ?_⟩) (by assumption) ?_
        rotate_left
        · (intro w hSw; (try dsimp only at hSw); go_simp; try with_reducible rfl)
        try simp only [Act.put, List.setIfInBounds_toArray, List.set_cons_zero, List.set_cons_succ]
        refine wpAnyH_ready (rs := [5]) (by kernel_rfl) (by simp) ?_
        refine AllReadyH.cons (o := { dst := some 158, op := Op.call { callee := Callee.value (Operand.func 16), args := #[Operand.tmp 157], argTypes := #[24] }, type := 24, pos := "sessions.go:113", after := #[{ on := 4, ground := Ground.data }, { on := 2, ground := Ground.chain }], guard := none }) rfl (fun K hK => ?_) ?_
        ·
          go_simp
          go_at_call 16; go_must (refine (clone (.slice none 0 0) [] _ (HV.out.gr hG) (by first | omega | (simp; done) | (simp; omega))).mono ?_); rintro e c4 ⟨u3, rfl, ho3, hg3⟩
          have hz3 := hG.size
          have ho2 := ho2.gr hg3
          have hG := hG.trans hg3
          have k1 := hg3.cell k1
          have k2 := hg3.cell k2
          have f1 := blk_free (hG.heap HGX.out) 1
          have f2 := blk_free (hG.heap HGX.out) 2
          obtain ⟨p3, c3, rfl, _⟩ := id ho3.rd
          go_wp2_with fail
          refine hK.out _ _ trivial (fun hHeld => ?_)
          clear hK K
          try simp only [Act.put, List.setIfInBounds_toArray, List.set_cons_zero, List.set_cons_succ]
          refine wpAnyH_ready (rs := [7]) (by kernel_rfl) (by simp) ?_
          refine AllReadyH.cons (o := { dst := none, op := Op.store 24 (Operand.tmp 159) (Operand.tmp 155), type := 0, pos := "sessions.go:113", after := #[{ on := 6, ground := Ground.data }, { on := 2, ground := Ground.data }, { on := 5, ground := Ground.chain }, { on := 0, ground := Ground.phase }, { on := 1, ground := Ground.phase }, { on := 2, ground := Ground.phase }, { on := 3, ground := Ground.phase }, { on := 4, ground := Ground.phase }, { on := 5, ground := Ground.textOnly Departure.lateStoresUnsure }], guard := none }) rfl (fun K hK => ?_) ?_
          ·
            go_simp
            refine hK.out _ _ trivial (fun hHeld => ?_)
            clear hK K
            try simp only [Act.put, List.setIfInBounds_toArray, List.set_cons_zero, List.set_cons_succ]
            refine wpAnyH_take (i := 8) (oi := { dst := some 160, op := Op.fieldAddr 31 (Operand.tmp 5) 2, type := 0, pos := "sessions.go:113", after := #[{ on := 0, ground := Ground.phase }, { on := 1, ground := Ground.phase }, { on := 2, ground := Ground.phase }, { on := 3, ground := Ground.phase }, { on := 4, ground := Ground.phase }, { on := 5, ground := Ground.phase }, { on := 6, ground := Ground.phase }, { on := 7, ground := Ground.phase }], guard := none }) (v := ?_) rfl (by kernel_rfl) (by kernel_rfl) (by kernel_rfl) (fun _ _ _ h => h) (Or.inl ⟨by rfl, ?_⟩) (by assumption) ?_
            rotate_left
            · (intro w hSw; (try dsimp only at hSw); go_simp; try with_reducible rfl)
            try simp only [Act.put, List.setIfInBounds_toArray, List.set_cons_zero, List.set_cons_succ]
            refine wpAnyH_ready (rs := [9]) (by kernel_rfl) (by simp) ?_
            refine AllReadyH.cons (o := { dst := none, op := Op.store 24 (Operand.tmp 160) (Operand.tmp 158), type := 0, pos := "sessions.go:113", after := #[{ on := 8, ground := Ground.data }, { on := 5, ground := Ground.data }, { on := 7, ground := Ground.chain }, { on := 0, ground := Ground.phase }, { on := 1, ground := Ground.phase }, { on := 2, ground := Ground.phase }, { on := 3, ground := Ground.phase }, { on := 4, ground := Ground.phase }, { on := 5, ground := Ground.phase }, { on := 6, ground := Ground.phase }, { on := 7, ground := Ground.phase }], guard := none }) rfl (fun K hK => ?_) ?_
            ·
              go_simp
              refine hK.out _ _ trivial (fun hHeld => ?_)
              clear hK K
              try simp only [Act.put, List.setIfInBounds_toArray, List.set_cons_zero, List.set_cons_succ]
              refine wpAnyH_done (by kernel_rfl) ?_ _
              have hgY := hG.heap HGX.out
              have hrY := hG.heap HRX.out
              have m0 := blk_cell hgY 0
              have m3 := blk_cell hgY 3
              have m4 := blk_cell hgY 4
              have n0 := blk_cell hrY 0
              have n1 := blk_cell hrY 1
              have n2 := blk_cell hrY 2
              have n3 := blk_cell hrY 3
              have n4 := blk_cell hrY 4
              have z0 := blk_free hrY 0
              have z1 := blk_free hrY 1
              have z2 := blk_free hrY 2
              have z3 := blk_free hrY 3
              have z4 := blk_free hrY 4
              simp [zeroCs] at m0 m3 m4 n0 n1 n2 n3 n4
              clear hgY hrY
              have HFIN := fun u1 u2 a0 a1 a2 a3 a4 => Lib.hid (got_fin hsl hzX HFX.out HSX.out hG (ho2.mono hz2) (ho3.mono hz3) u1 u2 a0 a1 a2 a3 a4)
              clear ho2 ho3 hG g0 g3 g4
              go_wp2_with fail
              obtain ⟨j1, j2, j3, j4⟩ := (HFIN _ _ _ _ _ _ _).out
              exact bodyPost_ret (v := .agg #[.bool true, .slice p2 _ c2, .slice p3 _ c3, .int .i64 0, .string ⟨#[]⟩]) (by simp [results, Tryd.results38, go_sem, n0, n1, n2, n3, n4] <;> rfl) rfl ⟨_, _, rfl, j1, j2, j3, j4⟩
            exact AllReadyH.nil
          exact AllReadyH.nil
        exact AllReadyH.nil
      exact AllReadyH.nil
    refine AllReadyH.cons (o := { dst := some 157, op := Op.load 24 (Operand.tmp 156), type := 24, pos := "sessions.go:113", after := #[{ on := 3, ground := Ground.data }], guard := none }) rfl (fun K hK => ?_) ?_
    ·
      go_simp
      refine hK.out _ _ trivial (fun hHeld => ?_)
      clear hK K
      try simp only [Act.put, List.setIfInBounds_toArray, List.set_cons_zero, List.set_cons_succ]
      refine wpAnyH_ready (rs := [2]) (by kernel_rfl) (by simp) ?_
      refine AllReadyH.cons (o := { dst := some 155, op := Op.call { callee := Callee.value (Operand.func 16), args := #[Operand.tmp 154], argTypes := #[24] }, type := 24, pos := "sessions.go:113", after := #[{ on := 1, ground := Ground.data }], guard := none }) rfl (fun K hK => ?_) ?_
      ·
        go_simp
        go_at_call 16; go_must (refine (clone (.slice pu l.length cu) l _ (HU.out.gr hG) (by first | omega | (simp; done) | (simp; omega))).mono ?_); rintro e c8 ⟨u2, rfl, ho2, hg2⟩
        have hz2 := hG.size
        have hG := hG.trans hg2
        have k1 := hg2.cell k1
        have k2 := hg2.cell k2
        have f1 := blk_free (hG.heap HGX.out) 1
        have f2 := blk_free (hG.heap HGX.out) 2
        obtain ⟨p2, c2, rfl, _⟩ := id ho2.rd
        go_wp2_with fail
        refine hK.out _ _ trivial (fun hHeld => ?_)
        clear hK K
        try simp only [Act.put, List.setIfInBounds_toArray, List.set_cons_zero, List.set_cons_succ]
        refine wpAnyH_take (i := 6) (oi := { dst := some 159, op := Op.fieldAddr 31 (Operand.tmp 5) 1, type := 0, pos := "sessions.go:113", after := #[{ on := 0, ground := Ground.phase }, { on := 1, ground := Ground.phase }, { on := 2, ground := Ground.phase }, { on := 3, ground := Ground.phase }, { on := 4, ground := Ground.phase }, { on := 5, ground := Ground.textOnly Departure.lateStoresUnsure }], guard := none }) (v := ?_) rfl (by kernel_rfl) (by kernel_rfl) (by kernel_rfl) (fun _ _ _ h => h) (Or.inl ⟨by rfl, ?_⟩) (by assumption) ?_
        rotate_left
        · (intro w hSw; (try dsimp only at hSw); go_simp; try with_reducible rfl)
        try simp only [Act.put, List.setIfInBounds_toArray, List.set_cons_zero, List.set_cons_succ]
        refine wpAnyH_ready (rs := [5]) (by kernel_rfl) (by simp) ?_
        refine AllReadyH.cons (o := { dst := some 158, op := Op.call { callee := Callee.value (Operand.func 16), args := #[Operand.tmp 157], argTypes := #[24] }, type := 24, pos := "sessions.go:113", after := #[{ on := 4, ground := Ground.data }, { on := 2, ground := Ground.chain }], guard := none }) rfl (fun K hK => ?_) ?_
        ·
          go_simp
          go_at_call 16; go_must (refine (clone (.slice none 0 0) [] _ (HV.out.gr hG) (by first | omega | (simp; done) | (simp; omega))).mono ?_); rintro e c9 ⟨u3, rfl, ho3, hg3⟩
          have hz3 := hG.size
          have ho2 := ho2.gr hg3
          have hG := hG.trans hg3
          have k1 := hg3.cell k1
          have k2 := hg3.cell k2
          have f1 := blk_free (hG.heap HGX.out) 1
          have f2 := blk_free (hG.heap HGX.out) 2
          obtain ⟨p3, c3, rfl, _⟩ := id ho3.rd
          go_wp2_with fail
          refine hK.out _ _ trivial (fun hHeld => ?_)
          clear hK K
          try simp only [Act.put, List.setIfInBounds_toArray, List.set_cons_zero, List.set_cons_succ]
          refine wpAnyH_ready (rs := [7]) (by kernel_rfl) (by simp) ?_
          refine AllReadyH.cons (o := { dst := none, op := Op.store 24 (Operand.tmp 159) (Operand.tmp 155), type := 0, pos := "sessions.go:113", after := #[{ on := 6, ground := Ground.data }, { on := 2, ground := Ground.data }, { on := 5, ground := Ground.chain }, { on := 0, ground := Ground.phase }, { on := 1, ground := Ground.phase }, { on := 2, ground := Ground.phase }, { on := 3, ground := Ground.phase }, { on := 4, ground := Ground.phase }, { on := 5, ground := Ground.textOnly Departure.lateStoresUnsure }], guard := none }) rfl (fun K hK => ?_) ?_
          ·
            go_simp
            refine hK.out _ _ trivial (fun hHeld => ?_)
            clear hK K
            try simp only [Act.put, List.setIfInBounds_toArray, List.set_cons_zero, List.set_cons_succ]
            refine wpAnyH_take (i := 8) (oi := { dst := some 160, op := Op.fieldAddr 31 (Operand.tmp 5) 2, type := 0, pos := "sessions.go:113", after := #[{ on := 0, ground := Ground.phase }, { on := 1, ground := Ground.phase }, { on := 2, ground := Ground.phase }, { on := 3, ground := Ground.phase }, { on := 4, ground := Ground.phase }, { on := 5, ground := Ground.phase }, { on := 6, ground := Ground.phase }, { on := 7, ground := Ground.phase }], guard := none }) (v := ?_) rfl (by kernel_rfl) (by kernel_rfl) (by kernel_rfl) (fun _ _ _ h => h) (Or.inl ⟨by rfl, ?_⟩) (by assumption) ?_
            rotate_left
            · (intro w hSw; (try dsimp only at hSw); go_simp; try with_reducible rfl)
            try simp only [Act.put, List.setIfInBounds_toArray, List.set_cons_zero, List.set_cons_succ]
            refine wpAnyH_ready (rs := [9]) (by kernel_rfl) (by simp) ?_
            refine AllReadyH.cons (o := { dst := none, op := Op.store 24 (Operand.tmp 160) (Operand.tmp 158), type := 0, pos := "sessions.go:113", after := #[{ on := 8, ground := Ground.data }, { on := 5, ground := Ground.data }, { on := 7, ground := Ground.chain }, { on := 0, ground := Ground.phase }, { on := 1, ground := Ground.phase }, { on := 2, ground := Ground.phase }, { on := 3, ground := Ground.phase }, { on := 4, ground := Ground.phase }, { on := 5, ground := Ground.phase }, { on := 6, ground := Ground.phase }, { on := 7, ground := Ground.phase }], guard := none }) rfl (fun K hK => ?_) ?_
            ·
              go_simp
              refine hK.out _ _ trivial (fun hHeld => ?_)
              clear hK K
              try simp only [Act.put, List.setIfInBounds_toArray, List.set_cons_zero, List.set_cons_succ]
              refine wpAnyH_done (by kernel_rfl) ?_ _
              have hgY := hG.heap HGX.out
              have hrY := hG.heap HRX.out
              have m0 := blk_cell hgY 0
              have m3 := blk_cell hgY 3
              have m4 := blk_cell hgY 4
              have n0 := blk_cell hrY 0
              have n1 := blk_cell hrY 1
              have n2 := blk_cell hrY 2
              have n3 := blk_cell hrY 3
              have n4 := blk_cell hrY 4
              have z0 := blk_free hrY 0
              have z1 := blk_free hrY 1
              have z2 := blk_free hrY 2
              have z3 := blk_free hrY 3
              have z4 := blk_free hrY 4
              simp [zeroCs] at m0 m3 m4 n0 n1 n2 n3 n4
              clear hgY hrY
              have HFIN := fun u1 u2 a0 a1 a2 a3 a4 => Lib.hid (got_fin hsl hzX HFX.out HSX.out hG (ho2.mono hz2) (ho3.mono hz3) u1 u2 a0 a1 a2 a3 a4)
              clear ho2 ho3 hG g0 g3 g4
              go_wp2_with fail
              obtain ⟨j1, j2, j3, j4⟩ := (HFIN _ _ _ _ _ _ _).out
              exact bodyPost_ret (v := .agg #[.bool true, .slice p2 _ c2, .slice p3 _ c3, .int .i64 0, .string ⟨#[]⟩]) (by simp [results, Tryd.results38, go_sem, n0, n1, n2, n3, n4] <;> rfl) rfl ⟨_, _, rfl, j1, j2, j3, j4⟩
            exact AllReadyH.nil
          exact AllReadyH.nil
        exact AllReadyH.nil
      exact AllReadyH.nil
    exact AllReadyH.nil
  refine AllReadyH.cons (o := { dst := some 157, op := Op.load 24 (Operand.tmp 156), type := 24, pos := "sessions.go:113", after := #[{ on := 3, ground := Ground.data }], guard := none }) rfl (fun K hK => ?_) ?_
  ·
    go_simp
    refine hK.out _ _ trivial (fun hHeld => ?_)
    clear hK K
    try simp only [Act.put, List.setIfInBounds_toArray, List.set_cons_zero, List.set_cons_succ]
    refine wpAnyH_ready (rs := [1]) (by kernel_rfl) (by simp) ?_
    refine AllReadyH.cons (o := { dst := some 154, op := Op.load 24 (Operand.tmp 153), type := 24, pos := "sessions.go:113", after := #[{ on := 0, ground := Ground.data }], guard := none }) rfl (fun K hK => ?_) ?_
    ·
      go_simp
      refine hK.out _ _ trivial (fun hHeld => ?_)
      clear hK K
      try simp only [Act.put, List.setIfInBounds_toArray, List.set_cons_zero, List.set_cons_succ]
      refine wpAnyH_ready (rs := [2]) (by kernel_rfl) (by simp) ?_
      refine AllReadyH.cons (o := { dst := some 155, op := Op.call { callee := Callee.value (Operand.func 16), args := #[Operand.tmp 154], argTypes := #[24] }, type := 24, pos := "sessions.go:113", after := #[{ on := 1, ground := Ground.data }], guard := none }) rfl (fun K hK => ?_) ?_
      ·
        go_simp
        go_at_call 16; go_must (refine (clone (.slice pu l.length cu) l _ (HU.out.gr hG) (by first | omega | (simp; done) | (simp; omega))).mono ?_); rintro e c14 ⟨u2, rfl, ho2, hg2⟩
        have hz2 := hG.size
        have hG := hG.trans hg2
        have k1 := hg2.cell k1
        have k2 := hg2.cell k2
        have f1 := blk_free (hG.heap HGX.out) 1
        have f2 := blk_free (hG.heap HGX.out) 2
        obtain ⟨p2, c2, rfl, _⟩ := id ho2.rd
        go_wp2_with fail
        refine hK.out _ _ trivial (fun hHeld => ?_)
        clear hK K
        try simp only [Act.put, List.setIfInBounds_toArray, List.set_cons_zero, List.set_cons_succ]
        refine wpAnyH_take (i := 6) (oi := { dst := some 159, op := Op.fieldAddr 31 (Operand.tmp 5) 1, type := 0, pos := "sessions.go:113", after := #[{ on := 0, ground := Ground.phase }, { on := 1, ground := Ground.phase }, { on := 2, ground := Ground.phase }, { on := 3, ground := Ground.phase }, { on := 4, ground := Ground.phase }, { on := 5, ground := Ground.textOnly Departure.lateStoresUnsure }], guard := none }) (v := ?_) rfl (by kernel_rfl) (by kernel_rfl) (by kernel_rfl) (fun _ _ _ h => h) (Or.inl ⟨by rfl, ?_⟩) (by assumption) ?_
        rotate_left
        · (intro w hSw; (try dsimp only at hSw); go_simp; try with_reducible rfl)
        try simp only [Act.put, List.setIfInBounds_toArray, List.set_cons_zero, List.set_cons_succ]
        refine wpAnyH_ready (rs := [5]) (by kernel_rfl) (by simp) ?_
        refine AllReadyH.cons (o := { dst := some 158, op := Op.call { callee := Callee.value (Operand.func 16), args := #[Operand.tmp 157], argTypes := #[24] }, type := 24, pos := "sessions.go:113", after := #[{ on := 4, ground := Ground.data }, { on := 2, ground := Ground.chain }], guard := none }) rfl (fun K hK => ?_) ?_
        ·
          go_simp
          go_at_call 16; go_must (refine (clone (.slice none 0 0) [] _ (HV.out.gr hG) (by first | omega | (simp; done) | (simp; omega))).mono ?_); rintro e c15 ⟨u3, rfl, ho3, hg3⟩
          have hz3 := hG.size
          have ho2 := ho2.gr hg3
          have hG := hG.trans hg3
          have k1 := hg3.cell k1
          have k2 := hg3.cell k2
          have f1 := blk_free (hG.heap HGX.out) 1
          have f2 := blk_free (hG.heap HGX.out) 2
          obtain ⟨p3, c3, rfl, _⟩ := id ho3.rd
          go_wp2_with fail
          refine hK.out _ _ trivial (fun hHeld => ?_)
          clear hK K
          try simp only [Act.put, List.setIfInBounds_toArray, List.set_cons_zero, List.set_cons_succ]
          refine wpAnyH_ready (rs := [7]) (by kernel_rfl) (by simp) ?_
          refine AllReadyH.cons (o := { dst := none, op := Op.store 24 (Operand.tmp 159) (Operand.tmp 155), type := 0, pos := "sessions.go:113", after := #[{ on := 6, ground := Ground.data }, { on := 2, ground := Ground.data }, { on := 5, ground := Ground.chain }, { on := 0, ground := Ground.phase }, { on := 1, ground := Ground.phase }, { on := 2, ground := Ground.phase }, { on := 3, ground := Ground.phase }, { on := 4, ground := Ground.phase }, { on := 5, ground := Ground.textOnly Departure.lateStoresUnsure }], guard := none }) rfl (fun K hK => ?_) ?_
          ·
            go_simp
            refine hK.out _ _ trivial (fun hHeld => ?_)
            clear hK K
            try simp only [Act.put, List.setIfInBounds_toArray, List.set_cons_zero, List.set_cons_succ]
            refine wpAnyH_take (i := 8) (oi := { dst := some 160, op := Op.fieldAddr 31 (Operand.tmp 5) 2, type := 0, pos := "sessions.go:113", after := #[{ on := 0, ground := Ground.phase }, { on := 1, ground := Ground.phase }, { on := 2, ground := Ground.phase }, { on := 3, ground := Ground.phase }, { on := 4, ground := Ground.phase }, { on := 5, ground := Ground.phase }, { on := 6, ground := Ground.phase }, { on := 7, ground := Ground.phase }], guard := none }) (v := ?_) rfl (by kernel_rfl) (by kernel_rfl) (by kernel_rfl) (fun _ _ _ h => h) (Or.inl ⟨by rfl, ?_⟩) (by assumption) ?_
            rotate_left
            · (intro w hSw; (try dsimp only at hSw); go_simp; try with_reducible rfl)
            try simp only [Act.put, List.setIfInBounds_toArray, List.set_cons_zero, List.set_cons_succ]
            refine wpAnyH_ready (rs := [9]) (by kernel_rfl) (by simp) ?_
            refine AllReadyH.cons (o := { dst := none, op := Op.store 24 (Operand.tmp 160) (Operand.tmp 158), type := 0, pos := "sessions.go:113", after := #[{ on := 8, ground := Ground.data }, { on := 5, ground := Ground.data }, { on := 7, ground := Ground.chain }, { on := 0, ground := Ground.phase }, { on := 1, ground := Ground.phase }, { on := 2, ground := Ground.phase }, { on := 3, ground := Ground.phase }, { on := 4, ground := Ground.phase }, { on := 5, ground := Ground.phase }, { on := 6, ground := Ground.phase }, { on := 7, ground := Ground.phase }], guard := none }) rfl (fun K hK => ?_) ?_
            ·
              go_simp
              refine hK.out _ _ trivial (fun hHeld => ?_)
              clear hK K
              try simp only [Act.put, List.setIfInBounds_toArray, List.set_cons_zero, List.set_cons_succ]
              refine wpAnyH_done (by kernel_rfl) ?_ _
              have hgY := hG.heap HGX.out
              have hrY := hG.heap HRX.out
              have m0 := blk_cell hgY 0
              have m3 := blk_cell hgY 3
              have m4 := blk_cell hgY 4
              have n0 := blk_cell hrY 0
              have n1 := blk_cell hrY 1
              have n2 := blk_cell hrY 2
              have n3 := blk_cell hrY 3
              have n4 := blk_cell hrY 4
              have z0 := blk_free hrY 0
              have z1 := blk_free hrY 1
              have z2 := blk_free hrY 2
              have z3 := blk_free hrY 3
              have z4 := blk_free hrY 4
              simp [zeroCs] at m0 m3 m4 n0 n1 n2 n3 n4
              clear hgY hrY
              have HFIN := fun u1 u2 a0 a1 a2 a3 a4 => Lib.hid (got_fin hsl hzX HFX.out HSX.out hG (ho2.mono hz2) (ho3.mono hz3) u1 u2 a0 a1 a2 a3 a4)
              clear ho2 ho3 hG g0 g3 g4
              go_wp2_with fail
              obtain ⟨j1, j2, j3, j4⟩ := (HFIN _ _ _ _ _ _ _).out
              exact bodyPost_ret (v := .agg #[.bool true, .slice p2 _ c2, .slice p3 _ c3, .int .i64 0, .string ⟨#[]⟩]) (by simp [results, Tryd.results38, go_sem, n0, n1, n2, n3, n4] <;> rfl) rfl ⟨_, _, rfl, j1, j2, j3, j4⟩
            exact AllReadyH.nil
          exact AllReadyH.nil
        exact AllReadyH.nil
      exact AllReadyH.nil
    exact AllReadyH.nil
  exact AllReadyH.nil

end Go.Proofs.YtgkccbfepjgjoaaDoor

/- A step of a reader, as the thin package does it: where the input suffices. Printed by gen_got.py. -/
namespace Go.Proofs.YtgkccbfepjgjoaaDoor
open Go Go.RowKit

set_option maxRecDepth 100000 in
set_option maxHeartbeats 2000000 in
/-- A DLC. -/
theorem got_dlc (s : Nat) (big : Bool) (ch : Int) (E : Value) (r q : List Int) (l : List Int) (sz : Int) (be co : Bool) (w : World) (h : Ss w s big ch E r) (hp : PkShort r) (hc : Dlc big r (some (l, q))) (hl : l.length ≤ 140737488355328) (hsz : 0 ≤ sz) :
    Calls Tryd.prog 38 #[.pointer (some ⟨s, 0, none⟩), .agg #[.int .i64 3, .int .i64 sz, .bool be, .bool co]] w (RetG w s big ch E (some (⟨true, l, [], 0, ⟨#[]⟩⟩, q))) := by
  have hsl := h.lt
  have HS := Lib.hid h
  have HN := Lib.hid (GB.new w 3 sz be co)
  have HL := fun w hs => Lib.hid (long_no s big ch E r w hs hp)
  have HC := fun w hs => Lib.hid (getDlc s big ch E r _ w hs hc)
  clear hc hp
  clear h
  go_enter Tryd.func38, Tryd.ntmps38
  go_wp2_with (first
    | (go_at_call 66; go_must (refine (HL _ (HS.out.gr ((((Gr.refl w).alloc _).alloc _).alloc _))).out.mono ?_); rintro e w0 ⟨rfl, hs0, hf0⟩; have hb0 := HN.out.fx hf0 hsl; have x0 := blk_cell hb0.x 0; have x1 := blk_cell hb0.x 1; have x2 := blk_cell hb0.x 2; have x3 := blk_cell hb0.x 3; simp at x0 x1 x2 x3)
    | (go_at_call 67; go_must (refine (HC _ hs0).out.mono ?_); rintro e w1 ⟨u, rfl, hu, ho, hs1, hf1⟩; have hb1 := (HN.out.fx hf0 hsl).fx hf1 hsl; obtain ⟨pu, cu, rfl, hcu⟩ := id hu; have g0 := blk_cell hb1.g 0; have g1 := blk_cell hb1.g 1; have g2 := blk_cell hb1.g 2; have g3 := blk_cell hb1.g 3; have g4 := blk_cell hb1.g 4; have y0 := blk_free hb1.g 0; have y1 := blk_free hb1.g 1; have y2 := blk_free hb1.g 2; have y3 := blk_free hb1.g 3; have y4 := blk_free hb1.g 4; simp [zeroCs] at g0 g1 g2 g3 g4))
  have hfx : Fx (w.heap.size + 1 + 1) w1 (((w1).setCell ⟨w.heap.size + 1 + 1, 1, none⟩ (.slice pu l.length cu)).setCell ⟨w.heap.size + 1 + 1, 0, none⟩ (.bool true)) := ((Fx.refl _ w1).set 1 _).set 0 _
  have hgX := blk_set (blk_set (hb1.g) 1 (.slice pu l.length cu)) 0 (.bool true)
  have huX : Rd (((w1).setCell ⟨w.heap.size + 1 + 1, 1, none⟩ (.slice pu l.length cu)).setCell ⟨w.heap.size + 1 + 1, 0, none⟩ (.bool true)) (.slice pu l.length cu) l := hu.far hb1.g noU8_zero hfx
  have hvX : Rd (((w1).setCell ⟨w.heap.size + 1 + 1, 1, none⟩ (.slice pu l.length cu)).setCell ⟨w.heap.size + 1 + 1, 0, none⟩ (.bool true)) (.slice none 0 0) [] := Rd.nil _
  have hrX := hfx.heap hb1.r (by omega)
  have hsX := hs1.fx2 hfx (by omega)
  have hFX : Fx s w (((w1).setCell ⟨w.heap.size + 1 + 1, 1, none⟩ (.slice pu l.length cu)).setCell ⟨w.heap.size + 1 + 1, 0, none⟩ (.bool true)) := (((((Fx.refl s w).alloc _).alloc _).alloc _).trans (hf0.trans hf1)).below (((Below.refl w.heap.size w1).setCell (p := ⟨w.heap.size + 1 + 1, 1, none⟩) (by simp; omega) _).setCell (p := ⟨w.heap.size + 1 + 1, 0, none⟩) (by simp; omega) _) (Nat.le_refl _)
  simp [zeroCs] at hgX
  clear g0 g1 g2 g3 g4 y0 y1 y2 y3 y4 hb1 hfx
  generalize ((w1).setCell ⟨w.heap.size + 1 + 1, 1, none⟩ (.slice pu l.length cu)).setCell ⟨w.heap.size + 1 + 1, 0, none⟩ (.bool true) = X at *
  have hzX := lt_of_some hgX
  have g0 := blk_cell hgX 0
  have g1 := blk_cell hgX 1
  have g2 := blk_cell hgX 2
  have g3 := blk_cell hgX 3
  have g4 := blk_cell hgX 4
  simp at g0 g1 g2 g3 g4
  have HU := Lib.hid huX
  have HV := Lib.hid hvX
  have HSX := Lib.hid hsX
  have HFX := Lib.hid hFX
  have HGX := Lib.hid hgX
  have HRX := Lib.hid hrX
  clear huX hvX hsX hFX hgX hrX
  have hG := (Gr.refl X).drew
  refine wp_region_held_drew (S := fun _ => True) (by kernel_rfl) trivial (fun hHeld => ?_)
  have k1 : X.drew.cell? ⟨w.heap.size + 1 + 1, 1, none⟩ = some (.slice pu l.length cu) := g1
  have k2 : X.drew.cell? ⟨w.heap.size + 1 + 1, 2, none⟩ = some (.slice none 0 0) := g2
  generalize hcc : X.drew = c0 at *
  clear hcc g1 g2
  refine wpAnyH_take (i := 0) (oi := { dst := some 153, op := Op.fieldAddr 31 (Operand.tmp 5) 1, type := 0, pos := "sessions.go:113", after := #[], guard := none }) (v := ?_) rfl (by kernel_rfl) (by kernel_rfl) (by kernel_rfl) (fun _ _ _ h => h) (Or.inl ⟨by rfl, ?_⟩) (by assumption) ?_
  rotate_left
  · (intro w hSw; (try dsimp only at hSw); go_simp; try with_reducible rfl)
  try simp only [Act.put, List.setIfInBounds_toArray, List.set_cons_zero, List.set_cons_succ]
  refine wpAnyH_take (i := 3) (oi := { dst := some 156, op := Op.fieldAddr 31 (Operand.tmp 5) 2, type := 0, pos := "sessions.go:113", after := #[], guard := none }) (v := ?_) rfl (by kernel_rfl) (by kernel_rfl) (by kernel_rfl) (fun _ _ _ h => h) (Or.inl ⟨by rfl, ?_⟩) (by assumption) ?_
  rotate_left
  · (intro w hSw; (try dsimp only at hSw); go_simp; try with_reducible rfl)
  try simp only [Act.put, List.setIfInBounds_toArray, List.set_cons_zero, List.set_cons_succ]
  refine wpAnyH_ready (rs := [1, 4]) (by kernel_rfl) (by simp) ?_
  refine AllReadyH.cons (o := { dst := some 154, op := Op.load 24 (Operand.tmp 153), type := 24, pos := "sessions.go:113", after := #[{ on := 0, ground := Ground.data }], guard := none }) rfl (fun K hK => ?_) ?_
  ·
    go_simp
    refine hK.out _ _ trivial (fun hHeld => ?_)
    clear hK K
    try simp only [Act.put, List.setIfInBounds_toArray, List.set_cons_zero, List.set_cons_succ]
    refine wpAnyH_ready (rs := [2, 4]) (by kernel_rfl) (by simp) ?_
    refine AllReadyH.cons (o := { dst := some 155, op := Op.call { callee := Callee.value (Operand.func 16), args := #[Operand.tmp 154], argTypes := #[24] }, type := 24, pos := "sessions.go:113", after := #[{ on := 1, ground := Ground.data }], guard := none }) rfl (fun K hK => ?_) ?_
    ·
      go_simp
      go_at_call 16; go_must (refine (clone (.slice pu l.length cu) l _ (HU.out.gr hG) (by first | omega | (simp; done) | (simp; omega))).mono ?_); rintro e c2 ⟨u2, rfl, ho2, hg2⟩
      have hz2 := hG.size
      have hG := hG.trans hg2
      have k1 := hg2.cell k1
      have k2 := hg2.cell k2
      have f1 := blk_free (hG.heap HGX.out) 1
      have f2 := blk_free (hG.heap HGX.out) 2
      obtain ⟨p2, c2, rfl, _⟩ := id ho2.rd
      go_wp2_with fail
      refine hK.out _ _ trivial (fun hHeld => ?_)
      clear hK K
      try simp only [Act.put, List.setIfInBounds_toArray, List.set_cons_zero, List.set_cons_succ]
      refine wpAnyH_ready (rs := [4]) (by kernel_rfl) (by simp) ?_
      refine AllReadyH.cons (o := { dst := some 157, op := Op.load 24 (Operand.tmp 156), type := 24, pos := "sessions.go:113", after := #[{ on := 3, ground := Ground.data }], guard := none }) rfl (fun K hK => ?_) ?_
      ·
        go_simp
        refine hK.out _ _ trivial (fun hHeld => ?_)
        clear hK K
        try simp only [Act.put, List.setIfInBounds_toArray, List.set_cons_zero, List.set_cons_succ]
        refine wpAnyH_take (i := 6) (oi := { dst := some 159, op := Op.fieldAddr 31 (Operand.tmp 5) 1, type := 0, pos := "sessions.go:113", after := #[{ on := 0, ground := Ground.phase }, { on := 1, ground := Ground.phase }, { on := 2, ground := Ground.phase }, { on := 3, ground := Ground.phase }, { on := 4, ground := Ground.phase }, { on := 5, ground := Ground.textOnly Departure.lateStoresUnsure }], guard := none }) (v := ?_) rfl (by kernel_rfl) (by kernel_rfl) (by kernel_rfl) (fun _ _ _ h => h) (Or.inl ⟨by rfl, ?_⟩) (by assumption) ?_
        rotate_left
        · (intro w hSw; (try dsimp only at hSw); go_simp; try with_reducible rfl)
        try simp only [Act.put, List.setIfInBounds_toArray, List.set_cons_zero, List.set_cons_succ]
        refine wpAnyH_ready (rs := [5]) (by kernel_rfl) (by simp) ?_
        refine AllReadyH.cons (o := { dst := some 158, op := Op.call { callee := Callee.value (Operand.func 16), args := #[Operand.tmp 157], argTypes := #[24] }, type := 24, pos := "sessions.go:113", after := #[{ on := 4, ground := Ground.data }, { on := 2, ground := Ground.chain }], guard := none }) rfl (fun K hK => ?_) ?_
        ·
          go_simp
          go_at_call 16; go_must (refine (clone (.slice none 0 0) [] _ (HV.out.gr hG) (by first | omega | (simp; done) | (simp; omega))).mono ?_); rintro e c4 ⟨u3, rfl, ho3, hg3⟩
          have hz3 := hG.size
          have ho2 := ho2.gr hg3
          have hG := hG.trans hg3
          have k1 := hg3.cell k1
          have k2 := hg3.cell k2
          have f1 := blk_free (hG.heap HGX.out) 1
          have f2 := blk_free (hG.heap HGX.out) 2
          obtain ⟨p3, c3, rfl, _⟩ := id ho3.rd
          go_wp2_with fail
          refine hK.out _ _ trivial (fun hHeld => ?_)
          clear hK K
          try simp only [Act.put, List.setIfInBounds_toArray, List.set_cons_zero, List.set_cons_succ]
          refine wpAnyH_ready (rs := [7]) (by kernel_rfl) (by simp) ?_
          refine AllReadyH.cons (o := { dst := none, op := Op.store 24 (Operand.tmp 159) (Operand.tmp 155), type := 0, pos := "sessions.go:113", after := #[{ on := 6, ground := Ground.data }, { on := 2, ground := Ground.data }, { on := 5, ground := Ground.chain }, { on := 0, ground := Ground.phase }, { on := 1, ground := Ground.phase }, { on := 2, ground := Ground.phase }, { on := 3, ground := Ground.phase }, { on := 4, ground := Ground.phase }, { on := 5, ground := Ground.textOnly Departure.lateStoresUnsure }], guard := none }) rfl (fun K hK => ?_) ?_
          ·
            go_simp
            refine hK.out _ _ trivial (fun hHeld => ?_)
            clear hK K
            try simp only [Act.put, List.setIfInBounds_toArray, List.set_cons_zero, List.set_cons_succ]
            refine wpAnyH_take (i := 8) (oi := { dst := some 160, op := Op.fieldAddr 31 (Operand.tmp 5) 2, type := 0, pos := "sessions.go:113", after := #[{ on := 0, ground := Ground.phase }, { on := 1, ground := Ground.phase }, { on := 2, ground := Ground.phase }, { on := 3, ground := Ground.phase }, { on := 4, ground := Ground.phase }, { on := 5, ground := Ground.phase }, { on := 6, ground := Ground.phase }, { on := 7, ground := Ground.phase }], guard := none }) (v := ?_) rfl (by kernel_rfl) (by kernel_rfl) (by kernel_rfl) (fun _ _ _ h => h) (Or.inl ⟨by rfl, ?_⟩) (by assumption) ?_
            rotate_left
            · (intro w hSw; (try dsimp only at hSw); go_simp; try with_reducible rfl)
            try simp only [Act.put, List.setIfInBounds_toArray, List.set_cons_zero, List.set_cons_succ]
            refine wpAnyH_ready (rs := [9]) (by kernel_rfl) (by simp) ?_
            refine AllReadyH.cons (o := { dst := none, op := Op.store 24 (Operand.tmp 160) (Operand.tmp 158), type := 0, pos := "sessions.go:113", after := #[{ on := 8, ground := Ground.data }, { on := 5, ground := Ground.data }, { on := 7, ground := Ground.chain }, { on := 0, ground := Ground.phase }, { on := 1, ground := Ground.phase }, { on := 2, ground := Ground.phase }, { on := 3, ground := Ground.phase }, { on := 4, ground := Ground.phase }, { on := 5, ground := Ground.phase }, { on := 6, ground := Ground.phase }, { on := 7, ground := Ground.phase }], guard := none }) rfl (fun K hK => ?_) ?_
            ·
              go_simp
              refine hK.out _ _ trivial (fun hHeld => ?_)
              clear hK K
              try simp only [Act.put, List.setIfInBounds_toArray, List.set_cons_zero, List.set_cons_succ]
              refine wpAnyH_done (by kernel_rfl) ?_ _
              have hgY := hG.heap HGX.out
              have hrY := hG.heap HRX.out
              have m0 := blk_cell hgY 0
              have m3 := blk_cell hgY 3
              have m4 := blk_cell hgY 4
              have n0 := blk_cell hrY 0
              have n1 := blk_cell hrY 1
              have n2 := blk_cell hrY 2
              have n3 := blk_cell hrY 3
              have n4 := blk_cell hrY 4
              have z0 := blk_free hrY 0
              have z1 := blk_free hrY 1
              have z2 := blk_free hrY 2
              have z3 := blk_free hrY 3
              have z4 := blk_free hrY 4
              simp [zeroCs] at m0 m3 m4 n0 n1 n2 n3 n4
              clear hgY hrY
              have HFIN := fun u1 u2 a0 a1 a2 a3 a4 => Lib.hid (got_fin hsl hzX HFX.out HSX.out hG (ho2.mono hz2) (ho3.mono hz3) u1 u2 a0 a1 a2 a3 a4)
              clear ho2 ho3 hG g0 g3 g4
              go_wp2_with fail
              obtain ⟨j1, j2, j3, j4⟩ := (HFIN _ _ _ _ _ _ _).out
              exact bodyPost_ret (v := .agg #[.bool true, .slice p2 _ c2, .slice p3 _ c3, .int .i64 0, .string ⟨#[]⟩]) (by simp [results, Tryd.results38, go_sem, n0, n1, n2, n3, n4] <;> rfl) rfl ⟨_, _, rfl, j1, j2, j3, j4⟩
            exact AllReadyH.nil
          exact AllReadyH.nil
        exact AllReadyH.nil
      exact AllReadyH.nil
    refine AllReadyH.cons (o := { dst := some 157, op := Op.load 24 (Operand.tmp 156), type := 24, pos := "sessions.go:113", after := #[{ on := 3, ground := Ground.data }], guard := none }) rfl (fun K hK => ?_) ?_
    ·
      go_simp
      refine hK.out _ _ trivial (fun hHeld => ?_)
      clear hK K
      try simp only [Act.put, List.setIfInBounds_toArray, List.set_cons_zero, List.set_cons_succ]
      refine wpAnyH_ready (rs := [2]) (by kernel_rfl) (by simp) ?_
      refine AllReadyH.cons (o := { dst := some 155, op := Op.call { callee := Callee.value (Operand.func 16), args := #[Operand.tmp 154], argTypes := #[24] }, type := 24, pos := "sessions.go:113", after := #[{ on := 1, ground := Ground.data }], guard := none }) rfl (fun K hK => ?_) ?_
      ·
        go_simp
        go_at_call 16; go_must (refine (clone (.slice pu l.length cu) l _ (HU.out.gr hG) (by first | omega | (simp; done) | (simp; omega))).mono ?_); rintro e c8 ⟨u2, rfl, ho2, hg2⟩
        have hz2 := hG.size
        have hG := hG.trans hg2
        have k1 := hg2.cell k1
        have k2 := hg2.cell k2
        have f1 := blk_free (hG.heap HGX.out) 1
        have f2 := blk_free (hG.heap HGX.out) 2
        obtain ⟨p2, c2, rfl, _⟩ := id ho2.rd
        go_wp2_with fail
        refine hK.out _ _ trivial (fun hHeld => ?_)
        clear hK K
        try simp only [Act.put, List.setIfInBounds_toArray, List.set_cons_zero, List.set_cons_succ]
        refine wpAnyH_take (i := 6) (oi := { dst := some 159, op := Op.fieldAddr 31 (Operand.tmp 5) 1, type := 0, pos := "sessions.go:113", after := #[{ on := 0, ground := Ground.phase }, { on := 1, ground := Ground.phase }, { on := 2, ground := Ground.phase }, { on := 3, ground := Ground.phase }, { on := 4, ground := Ground.phase }, { on := 5, ground := Ground.textOnly Departure.lateStoresUnsure }], guard := none }) (v := ?_) rfl (by kernel_rfl) (by kernel_rfl) (by kernel_rfl) (fun _ _ _ h => h) (Or.inl ⟨by rfl, ?_⟩) (by assumption) ?_
        rotate_left
        · (intro w hSw; (try dsimp only at hSw); go_simp; try with_reducible rfl)
        try simp only [Act.put, List.setIfInBounds_toArray, List.set_cons_zero, List.set_cons_succ]
        refine wpAnyH_ready (rs := [5]) (by kernel_rfl) (by simp) ?_
        refine AllReadyH.cons (o := { dst := some 158, op := Op.call { callee := Callee.value (Operand.func 16), args := #[Operand.tmp 157], argTypes := #[24] }, type := 24, pos := "sessions.go:113", after := #[{ on := 4, ground := Ground.data }, { on := 2, ground := Ground.chain }], guard := none }) rfl (fun K hK => ?_) ?_
        ·
          go_simp
          go_at_call 16; go_must (refine (clone (.slice none 0 0) [] _ (HV.out.gr hG) (by first | omega | (simp; done) | (simp; omega))).mono ?_); rintro e c9 ⟨u3, rfl, ho3, hg3⟩
          have hz3 := hG.size
          have ho2 := ho2.gr hg3
          have hG := hG.trans hg3
          have k1 := hg3.cell k1
          have k2 := hg3.cell k2
          have f1 := blk_free (hG.heap HGX.out) 1
          have f2 := blk_free (hG.heap HGX.out) 2
          obtain ⟨p3, c3, rfl, _⟩ := id ho3.rd
          go_wp2_with fail
          refine hK.out _ _ trivial (fun hHeld => ?_)
          clear hK K
          try simp only [Act.put, List.setIfInBounds_toArray, List.set_cons_zero, List.set_cons_succ]
          refine wpAnyH_ready (rs := [7]) (by kernel_rfl) (by simp) ?_
          refine AllReadyH.cons (o := { dst := none, op := Op.store 24 (Operand.tmp 159) (Operand.tmp 155), type := 0, pos := "sessions.go:113", after := #[{ on := 6, ground := Ground.data }, { on := 2, ground := Ground.data }, { on := 5, ground := Ground.chain }, { on := 0, ground := Ground.phase }, { on := 1, ground := Ground.phase }, { on := 2, ground := Ground.phase }, { on := 3, ground := Ground.phase }, { on := 4, ground := Ground.phase }, { on := 5, ground := Ground.textOnly Departure.lateStoresUnsure }], guard := none }) rfl (fun K hK => ?_) ?_
          ·
            go_simp
            refine hK.out _ _ trivial (fun hHeld => ?_)
            clear hK K
            try simp only [Act.put, List.setIfInBounds_toArray, List.set_cons_zero, List.set_cons_succ]
            refine wpAnyH_take (i := 8) (oi := { dst := some 160, op := Op.fieldAddr 31 (Operand.tmp 5) 2, type := 0, pos := "sessions.go:113", after := #[{ on := 0, ground := Ground.phase }, { on := 1, ground := Ground.phase }, { on := 2, ground := Ground.phase }, { on := 3, ground := Ground.phase }, { on := 4, ground := Ground.phase }, { on := 5, ground := Ground.phase }, { on := 6, ground := Ground.phase }, { on := 7, ground := Ground.phase }], guard := none }) (v := ?_) rfl (by kernel_rfl) (by kernel_rfl) (by kernel_rfl) (fun _ _ _ h => h) (Or.inl ⟨by rfl, ?_⟩) (by assumption) ?_
            rotate_left
            · (intro w hSw; (try dsimp only at hSw); go_simp; try with_reducible rfl)
            try simp only [Act.put, List.setIfInBounds_toArray, List.set_cons_zero, List.set_cons_succ]
            refine wpAnyH_ready (rs := [9]) (by kernel_rfl) (by simp) ?_
            refine AllReadyH.cons (o := { dst := none, op := Op.store 24 (Operand.tmp 160) (Operand.tmp 158), type := 0, pos := "sessions.go:113", after := #[{ on := 8, ground := Ground.data }, { on := 5, ground := Ground.data }, { on := 7, ground := Ground.chain }, { on := 0, ground := Ground.phase }, { on := 1, ground := Ground.phase }, { on := 2, ground := Ground.phase }, { on := 3, ground := Ground.phase }, { on := 4, ground := Ground.phase }, { on := 5, ground := Ground.phase }, { on := 6, ground := Ground.phase }, { on := 7, ground := Ground.phase }], guard := none }) rfl (fun K hK => ?_) ?_
            ·
              go_simp
              refine hK.out _ _ trivial (fun hHeld => ?_)
              clear hK K
              try simp only [Act.put, List.setIfInBounds_toArray, List.set_cons_zero, List.set_cons_succ]
              refine wpAnyH_done (by kernel_rfl) ?_ _
              have hgY := hG.heap HGX.out
              have hrY := hG.heap HRX.out
              have m0 := blk_cell hgY 0
              have m3 := blk_cell hgY 3
              have m4 := blk_cell hgY 4
              have n0 := blk_cell hrY 0
              have n1 := blk_cell hrY 1
              have n2 := blk_cell hrY 2
              have n3 := blk_cell hrY 3
              have n4 := blk_cell hrY 4
              have z0 := blk_free hrY 0
              have z1 := blk_free hrY 1
              have z2 := blk_free hrY 2
              have z3 := blk_free hrY 3
              have z4 := blk_free hrY 4
              simp [zeroCs] at m0 m3 m4 n0 n1 n2 n3 n4
              clear hgY hrY
              have HFIN := fun u1 u2 a0 a1 a2 a3 a4 => Lib.hid (got_fin hsl hzX HFX.out HSX.out hG (ho2.mono hz2) (ho3.mono hz3) u1 u2 a0 a1 a2 a3 a4)
              clear ho2 ho3 hG g0 g3 g4
              go_wp2_with fail
              obtain ⟨j1, j2, j3, j4⟩ := (HFIN _ _ _ _ _ _ _).out
              exact bodyPost_ret (v := .agg #[.bool true, .slice p2 _ c2, .slice p3 _ c3, .int .i64 0, .string ⟨#[]⟩]) (by simp [results, Tryd.results38, go_sem, n0, n1, n2, n3, n4] <;> rfl) rfl ⟨_, _, rfl, j1, j2, j3, j4⟩
            exact AllReadyH.nil
          exact AllReadyH.nil
        exact AllReadyH.nil
      exact AllReadyH.nil
    exact AllReadyH.nil
  refine AllReadyH.cons (o := { dst := some 157, op := Op.load 24 (Operand.tmp 156), type := 24, pos := "sessions.go:113", after := #[{ on := 3, ground := Ground.data }], guard := none }) rfl (fun K hK => ?_) ?_
  ·
    go_simp
    refine hK.out _ _ trivial (fun hHeld => ?_)
    clear hK K
    try simp only [Act.put, List.setIfInBounds_toArray, List.set_cons_zero, List.set_cons_succ]
    refine wpAnyH_ready (rs := [1]) (by kernel_rfl) (by simp) ?_
    refine AllReadyH.cons (o := { dst := some 154, op := Op.load 24 (Operand.tmp 153), type := 24, pos := "sessions.go:113", after := #[{ on := 0, ground := Ground.data }], guard := none }) rfl (fun K hK => ?_) ?_
    ·
      go_simp
      refine hK.out _ _ trivial (fun hHeld => ?_)
      clear hK K
      try simp only [Act.put, List.setIfInBounds_toArray, List.set_cons_zero, List.set_cons_succ]
      refine wpAnyH_ready (rs := [2]) (by kernel_rfl) (by simp) ?_
      refine AllReadyH.cons (o := { dst := some 155, op := Op.call { callee := Callee.value (Operand.func 16), args := #[Operand.tmp 154], argTypes := #[24] }, type := 24, pos := "sessions.go:113", after := #[{ on := 1, ground := Ground.data }], guard := none }) rfl (fun K hK => ?_) ?_
      ·
        go_simp
        go_at_call 16; go_must (refine (clone (.slice pu l.length cu) l _ (HU.out.gr hG) (by first | omega | (simp; done) | (simp; omega))).mono ?_); rintro e c14 ⟨u2, rfl, ho2, hg2⟩
        have hz2 := hG.size
        have hG := hG.trans hg2
        have k1 := hg2.cell k1
        have k2 := hg2.cell k2
        have f1 := blk_free (hG.heap HGX.out) 1
        have f2 := blk_free (hG.heap HGX.out) 2
        obtain ⟨p2, c2, rfl, _⟩ := id ho2.rd
        go_wp2_with fail
        refine hK.out _ _ trivial (fun hHeld => ?_)
        clear hK K
        try simp only [Act.put, List.setIfInBounds_toArray, List.set_cons_zero, List.set_cons_succ]
        refine wpAnyH_take (i := 6) (oi := { dst := some 159, op := Op.fieldAddr 31 (Operand.tmp 5) 1, type := 0, pos := "sessions.go:113", after := #[{ on := 0, ground := Ground.phase }, { on := 1, ground := Ground.phase }, { on := 2, ground := Ground.phase }, { on := 3, ground := Ground.phase }, { on := 4, ground := Ground.phase }, { on := 5, ground := Ground.textOnly Departure.lateStoresUnsure }], guard := none }) (v := ?_) rfl (by kernel_rfl) (by kernel_rfl) (by kernel_rfl) (fun _ _ _ h => h) (Or.inl ⟨by rfl, ?_⟩) (by assumption) ?_
        rotate_left
        · (intro w hSw; (try dsimp only at hSw); go_simp; try with_reducible rfl)
        try simp only [Act.put, List.setIfInBounds_toArray, List.set_cons_zero, List.set_cons_succ]
        refine wpAnyH_ready (rs := [5]) (by kernel_rfl) (by simp) ?_
        refine AllReadyH.cons (o := { dst := some 158, op := Op.call { callee := Callee.value (Operand.func 16), args := #[Operand.tmp 157], argTypes := #[24] }, type := 24, pos := "sessions.go:113", after := #[{ on := 4, ground := Ground.data }, { on := 2, ground := Ground.chain }], guard := none }) rfl (fun K hK => ?_) ?_
        ·
          go_simp
          go_at_call 16; go_must (refine (clone (.slice none 0 0) [] _ (HV.out.gr hG) (by first | omega | (simp; done) | (simp; omega))).mono ?_); rintro e c15 ⟨u3, rfl, ho3, hg3⟩
          have hz3 := hG.size
          have ho2 := ho2.gr hg3
          have hG := hG.trans hg3
          have k1 := hg3.cell k1
          have k2 := hg3.cell k2
          have f1 := blk_free (hG.heap HGX.out) 1
          have f2 := blk_free (hG.heap HGX.out) 2
          obtain ⟨p3, c3, rfl, _⟩ := id ho3.rd
          go_wp2_with fail
          refine hK.out _ _ trivial (fun hHeld => ?_)
          clear hK K
          try simp only [Act.put, List.setIfInBounds_toArray, List.set_cons_zero, List.set_cons_succ]
          refine wpAnyH_ready (rs := [7]) (by kernel_rfl) (by simp) ?_
          refine AllReadyH.cons (o := { dst := none, op := Op.store 24 (Operand.tmp 159) (Operand.tmp 155), type := 0, pos := "sessions.go:113", after := #[{ on := 6, ground := Ground.data }, { on := 2, ground := Ground.data }, { on := 5, ground := Ground.chain }, { on := 0, ground := Ground.phase }, { on := 1, ground := Ground.phase }, { on := 2, ground := Ground.phase }, { on := 3, ground := Ground.phase }, { on := 4, ground := Ground.phase }, { on := 5, ground := Ground.textOnly Departure.lateStoresUnsure }], guard := none }) rfl (fun K hK => ?_) ?_
          ·
            go_simp
            refine hK.out _ _ trivial (fun hHeld => ?_)
            clear hK K
            try simp only [Act.put, List.setIfInBounds_toArray, List.set_cons_zero, List.set_cons_succ]
            refine wpAnyH_take (i := 8) (oi := { dst := some 160, op := Op.fieldAddr 31 (Operand.tmp 5) 2, type := 0, pos := "sessions.go:113", after := #[{ on := 0, ground := Ground.phase }, { on := 1, ground := Ground.phase }, { on := 2, ground := Ground.phase }, { on := 3, ground := Ground.phase }, { on := 4, ground := Ground.phase }, { on := 5, ground := Ground.phase }, { on := 6, ground := Ground.phase }, { on := 7, ground := Ground.phase }], guard := none }) (v := ?_) rfl (by kernel_rfl) (by kernel_rfl) (by kernel_rfl) (fun _ _ _ h => h) (Or.inl ⟨by rfl, ?_⟩) (by assumption) ?_
            rotate_left
            · (intro w hSw; (try dsimp only at hSw); go_simp; try with_reducible rfl)
            try simp only [Act.put, List.setIfInBounds_toArray, List.set_cons_zero, List.set_cons_succ]
            refine wpAnyH_ready (rs := [9]) (by kernel_rfl) (by simp) ?_
            refine AllReadyH.cons (o := { dst := none, op := Op.store 24 (Operand.tmp 160) (Operand.tmp 158), type := 0, pos := "sessions.go:113", after := #[{ on := 8, ground := Ground.data }, { on := 5, ground := Ground.data }, { on := 7, ground := Ground.chain }, { on := 0, ground := Ground.phase }, { on := 1, ground := Ground.phase }, { on := 2, ground := Ground.phase }, { on := 3, ground := Ground.phase }, { on := 4, ground := Ground.phase }, { on := 5, ground := Ground.phase }, { on := 6, ground := Ground.phase }, { on := 7, ground := Ground.phase }], guard := none }) rfl (fun K hK => ?_) ?_
            ·
              go_simp
              refine hK.out _ _ trivial (fun hHeld => ?_)
              clear hK K
              try simp only [Act.put, List.setIfInBounds_toArray, List.set_cons_zero, List.set_cons_succ]
              refine wpAnyH_done (by kernel_rfl) ?_ _
              have hgY := hG.heap HGX.out
              have hrY := hG.heap HRX.out
              have m0 := blk_cell hgY 0
              have m3 := blk_cell hgY 3
              have m4 := blk_cell hgY 4
              have n0 := blk_cell hrY 0
              have n1 := blk_cell hrY 1
              have n2 := blk_cell hrY 2
              have n3 := blk_cell hrY 3
              have n4 := blk_cell hrY 4
              have z0 := blk_free hrY 0
              have z1 := blk_free hrY 1
              have z2 := blk_free hrY 2
              have z3 := blk_free hrY 3
              have z4 := blk_free hrY 4
              simp [zeroCs] at m0 m3 m4 n0 n1 n2 n3 n4
              clear hgY hrY
              have HFIN := fun u1 u2 a0 a1 a2 a3 a4 => Lib.hid (got_fin hsl hzX HFX.out HSX.out hG (ho2.mono hz2) (ho3.mono hz3) u1 u2 a0 a1 a2 a3 a4)
              clear ho2 ho3 hG g0 g3 g4
              go_wp2_with fail
              obtain ⟨j1, j2, j3, j4⟩ := (HFIN _ _ _ _ _ _ _).out
              exact bodyPost_ret (v := .agg #[.bool true, .slice p2 _ c2, .slice p3 _ c3, .int .i64 0, .string ⟨#[]⟩]) (by simp [results, Tryd.results38, go_sem, n0, n1, n2, n3, n4] <;> rfl) rfl ⟨_, _, rfl, j1, j2, j3, j4⟩
            exact AllReadyH.nil
          exact AllReadyH.nil
        exact AllReadyH.nil
      exact AllReadyH.nil
    exact AllReadyH.nil
  exact AllReadyH.nil

end Go.Proofs.YtgkccbfepjgjoaaDoor

/- A step of a reader, as the thin package does it: where the input suffices. Printed by gen_got.py. -/
namespace Go.Proofs.YtgkccbfepjgjoaaDoor
open Go Go.RowKit

set_option maxRecDepth 100000 in
set_option maxHeartbeats 2000000 in
/-- A byte. -/
theorem got_byte (s : Nat) (big : Bool) (ch : Int) (E : Value) (r q : List Int) (b : Int) (sz : Int) (be co : Bool) (w : World) (h : Ss w s big ch E r) (hc : r = b :: q) (hsz : 0 ≤ sz) :
    Calls Tryd.prog 38 #[.pointer (some ⟨s, 0, none⟩), .agg #[.int .i64 0, .int .i64 sz, .bool be, .bool co]] w (RetG w s big ch E (some (⟨true, [], [], b, ⟨#[]⟩⟩, q))) := by
  have hsl := h.lt
  have HS := Lib.hid h
  have HN := Lib.hid (GB.new w 0 sz be co)
  have hbb : 0 ≤ b ∧ b < 256 := h.byt b (by rw [hc]; simp)
  obtain ⟨hb0, hb255⟩ := hbb
  subst hc
  have HC := fun w hs => Lib.hid (getByte_ok s big ch E b q w hs)
  clear h
  go_enter Tryd.func38, Tryd.ntmps38
  go_wp2_with (first
    | (go_at_call 63; go_must (refine (HC _ (HS.out.gr ((((Gr.refl w).alloc _).alloc _).alloc _))).out.mono ?_); rintro e w1 ⟨rfl, hs1, hf1⟩; have hb1 := HN.out.fx hf1 hsl; have g0 := blk_cell hb1.g 0; have g1 := blk_cell hb1.g 1; have g2 := blk_cell hb1.g 2; have g3 := blk_cell hb1.g 3; have g4 := blk_cell hb1.g 4; have y0 := blk_free hb1.g 0; have y1 := blk_free hb1.g 1; have y2 := blk_free hb1.g 2; have y3 := blk_free hb1.g 3; have y4 := blk_free hb1.g 4; simp [zeroCs] at g0 g1 g2 g3 g4))
  have hfx : Fx (w.heap.size + 1 + 1) w1 (((w1).setCell ⟨w.heap.size + 1 + 1, 3, none⟩ (.int .i64 b)).setCell ⟨w.heap.size + 1 + 1, 0, none⟩ (.bool true)) := ((Fx.refl _ w1).set 3 _).set 0 _
  have hgX := blk_set (blk_set (hb1.g) 3 (.int .i64 b)) 0 (.bool true)
  have huX : Rd (((w1).setCell ⟨w.heap.size + 1 + 1, 3, none⟩ (.int .i64 b)).setCell ⟨w.heap.size + 1 + 1, 0, none⟩ (.bool true)) (.slice none 0 0) [] := Rd.nil _
  have hvX : Rd (((w1).setCell ⟨w.heap.size + 1 + 1, 3, none⟩ (.int .i64 b)).setCell ⟨w.heap.size + 1 + 1, 0, none⟩ (.bool true)) (.slice none 0 0) [] := Rd.nil _
  have hrX := hfx.heap hb1.r (by omega)
  have hsX := hs1.fx2 hfx (by omega)
  have hFX : Fx s w (((w1).setCell ⟨w.heap.size + 1 + 1, 3, none⟩ (.int .i64 b)).setCell ⟨w.heap.size + 1 + 1, 0, none⟩ (.bool true)) := (((((Fx.refl s w).alloc _).alloc _).alloc _).trans hf1).below (((Below.refl w.heap.size w1).setCell (p := ⟨w.heap.size + 1 + 1, 3, none⟩) (by simp; omega) _).setCell (p := ⟨w.heap.size + 1 + 1, 0, none⟩) (by simp; omega) _) (Nat.le_refl _)
  simp [zeroCs] at hgX
  clear g0 g1 g2 g3 g4 y0 y1 y2 y3 y4 hb1 hfx
  generalize ((w1).setCell ⟨w.heap.size + 1 + 1, 3, none⟩ (.int .i64 b)).setCell ⟨w.heap.size + 1 + 1, 0, none⟩ (.bool true) = X at *
  have hzX := lt_of_some hgX
  have g0 := blk_cell hgX 0
  have g1 := blk_cell hgX 1
  have g2 := blk_cell hgX 2
  have g3 := blk_cell hgX 3
  have g4 := blk_cell hgX 4
  simp at g0 g1 g2 g3 g4
  have HU := Lib.hid huX
  have HV := Lib.hid hvX
  have HSX := Lib.hid hsX
  have HFX := Lib.hid hFX
  have HGX := Lib.hid hgX
  have HRX := Lib.hid hrX
  clear huX hvX hsX hFX hgX hrX
  have hG := (Gr.refl X).drew
  refine wp_region_held_drew (S := fun _ => True) (by kernel_rfl) trivial (fun hHeld => ?_)
  have k1 : X.drew.cell? ⟨w.heap.size + 1 + 1, 1, none⟩ = some (.slice none 0 0) := g1
  have k2 : X.drew.cell? ⟨w.heap.size + 1 + 1, 2, none⟩ = some (.slice none 0 0) := g2
  generalize hcc : X.drew = c0 at *
  clear hcc g1 g2
  refine wpAnyH_take (i := 0) (oi := { dst := some 153, op := Op.fieldAddr 31 (Operand.tmp 5) 1, type := 0, pos := "sessions.go:113", after := #[], guard := none }) (v := ?_) rfl (by kernel_rfl) (by kernel_rfl) (by kernel_rfl) (fun _ _ _ h => h) (Or.inl ⟨by rfl, ?_⟩) (by assumption) ?_
  rotate_left
  · (intro w hSw; (try dsimp only at hSw); go_simp; try with_reducible rfl)
  try simp only [Act.put, List.setIfInBounds_toArray, List.set_cons_zero, List.set_cons_succ]
  refine wpAnyH_take (i := 3) (oi := { dst := some 156, op := Op.fieldAddr 31 (Operand.tmp 5) 2, type := 0, pos := "sessions.go:113", after := #[], guard := none }) (v := ?_) rfl (by kernel_rfl) (by kernel_rfl) (by kernel_rfl) (fun _ _ _ h => h) (Or.inl ⟨by rfl, ?_⟩) (by assumption) ?_
  rotate_left
  · (intro w hSw; (try dsimp only at hSw); go_simp; try with_reducible rfl)
  try simp only [Act.put, List.setIfInBounds_toArray, List.set_cons_zero, List.set_cons_succ]
  refine wpAnyH_ready (rs := [1, 4]) (by kernel_rfl) (by simp) ?_
  refine AllReadyH.cons (o := { dst := some 154, op := Op.load 24 (Operand.tmp 153), type := 24, pos := "sessions.go:113", after := #[{ on := 0, ground := Ground.data }], guard := none }) rfl (fun K hK => ?_) ?_
  ·
    go_simp
    refine hK.out _ _ trivial (fun hHeld => ?_)
    clear hK K
    try simp only [Act.put, List.setIfInBounds_toArray, List.set_cons_zero, List.set_cons_succ]
    refine wpAnyH_ready (rs := [2, 4]) (by kernel_rfl) (by simp) ?_
    refine AllReadyH.cons (o := { dst := some 155, op := Op.call { callee := Callee.value (Operand.func 16), args := #[Operand.tmp 154], argTypes := #[24] }, type := 24, pos := "sessions.go:113", after := #[{ on := 1, ground := Ground.data }], guard := none }) rfl (fun K hK => ?_) ?_
    ·
      go_simp
      go_at_call 16; go_must (refine (clone (.slice none 0 0) [] _ (HU.out.gr hG) (by first | omega | (simp; done) | (simp; omega))).mono ?_); rintro e c2 ⟨u2, rfl, ho2, hg2⟩
      have hz2 := hG.size
      have hG := hG.trans hg2
      have k1 := hg2.cell k1
      have k2 := hg2.cell k2
      have f1 := blk_free (hG.heap HGX.out) 1
      have f2 := blk_free (hG.heap HGX.out) 2
      obtain ⟨p2, c2, rfl, _⟩ := id ho2.rd
      go_wp2_with fail
      refine hK.out _ _ trivial (fun hHeld => ?_)
      clear hK K
      try simp only [Act.put, List.setIfInBounds_toArray, List.set_cons_zero, List.set_cons_succ]
      refine wpAnyH_ready (rs := [4]) (by kernel_rfl) (by simp) ?_
      refine AllReadyH.cons (o := { dst := some 157, op := Op.load 24 (Operand.tmp 156), type := 24, pos := "sessions.go:113", after := #[{ on := 3, ground := Ground.data }], guard := none }) rfl (fun K hK => ?_) ?_
      ·
        go_simp
        refine hK.out _ _ trivial (fun hHeld => ?_)
        clear hK K
        try simp only [Act.put, List.setIfInBounds_toArray, List.set_cons_zero, List.set_cons_succ]
        refine wpAnyH_take (i := 6) (oi := { dst := some 159, op := Op.fieldAddr 31 (Operand.tmp 5) 1, type := 0, pos := "sessions.go:113", after := #[{ on := 0, ground := Ground.phase }, { on := 1, ground := Ground.phase }, { on := 2, ground := Ground.phase }, { on := 3, ground := Ground.phase }, { on := 4, ground := Ground.phase }, { on := 5, ground := Ground.textOnly Departure.lateStoresUnsure }], guard := none }) (v := ?_) rfl (by kernel_rfl) (by kernel_rfl) (by kernel_rfl) (fun _ _ _ h => h) (Or.inl ⟨by rfl, ?_⟩) (by assumption) ?_
        rotate_left
        · (intro w hSw; (try dsimp only at hSw); go_simp; try with_reducible rfl)
        try simp only [Act.put, List.setIfInBounds_toArray, List.set_cons_zero, List.set_cons_succ]
        refine wpAnyH_ready (rs := [5]) (by kernel_rfl) (by simp) ?_
        refine AllReadyH.cons (o := { dst := some 158, op := Op.call { callee := Callee.value (Operand.func 16), args := #[Operand.tmp 157], argTypes := #[24] }, type := 24, pos := "sessions.go:113", after := #[{ on := 4, ground := Ground.data }, { on := 2, ground := Ground.chain }], guard := none }) rfl (fun K hK => ?_) ?_
        ·
          go_simp
          go_at_call 16; go_must (refine (clone (.slice none 0 0) [] _ (HV.out.gr hG) (by first | omega | (simp; done) | (simp; omega))).mono ?_); rintro e c4 ⟨u3, rfl, ho3, hg3⟩
          have hz3 := hG.size
          have ho2 := ho2.gr hg3
          have hG := hG.trans hg3
          have k1 := hg3.cell k1
          have k2 := hg3.cell k2
          have f1 := blk_free (hG.heap HGX.out) 1
          have f2 := blk_free (hG.heap HGX.out) 2
          obtain ⟨p3, c3, rfl, _⟩ := id ho3.rd
          go_wp2_with fail
          refine hK.out _ _ trivial (fun hHeld => ?_)
          clear hK K
          try simp only [Act.put, List.setIfInBounds_toArray, List.set_cons_zero, List.set_cons_succ]
          refine wpAnyH_ready (rs := [7]) (by kernel_rfl) (by simp) ?_
          refine AllReadyH.cons (o := { dst := none, op := Op.store 24 (Operand.tmp 159) (Operand.tmp 155), type := 0, pos := "sessions.go:113", after := #[{ on := 6, ground := Ground.data }, { on := 2, ground := Ground.data }, { on := 5, ground := Ground.chain }, { on := 0, ground := Ground.phase }, { on := 1, ground := Ground.phase }, { on := 2, ground := Ground.phase }, { on := 3, ground := Ground.phase }, { on := 4, ground := Ground.phase }, { on := 5, ground := Ground.textOnly Departure.lateStoresUnsure }], guard := none }) rfl (fun K hK => ?_) ?_
          ·
            go_simp
            refine hK.out _ _ trivial (fun hHeld => ?_)
            clear hK K
            try simp only [Act.put, List.setIfInBounds_toArray, List.set_cons_zero, List.set_cons_succ]
            refine wpAnyH_take (i := 8) (oi := { dst := some 160, op := Op.fieldAddr 31 (Operand.tmp 5) 2, type := 0, pos := "sessions.go:113", after := #[{ on := 0, ground := Ground.phase }, { on := 1, ground := Ground.phase }, { on := 2, ground := Ground.phase }, { on := 3, ground := Ground.phase }, { on := 4, ground := Ground.phase }, { on := 5, ground := Ground.phase }, { on := 6, ground := Ground.phase }, { on := 7, ground := Ground.phase }], guard := none }) (v := ?_) rfl (by kernel_rfl) (by kernel_rfl) (by kernel_rfl) (fun _ _ _ h => h) (Or.inl ⟨by rfl, ?_⟩) (by assumption) ?_
            rotate_left
            · (intro w hSw; (try dsimp only at hSw); go_simp; try with_reducible rfl)
            try simp only [Act.put, List.setIfInBounds_toArray, List.set_cons_zero, List.set_cons_succ]
            refine wpAnyH_ready (rs := [9]) (by kernel_rfl) (by simp) ?_
            refine AllReadyH.cons (o := { dst := none, op := Op.store 24 (Operand.tmp 160) (Operand.tmp 158), type := 0, pos := "sessions.go:113", after := #[{ on := 8, ground := Ground.data }, { on := 5, ground := Ground.data }, { on := 7, ground := Ground.chain }, { on := 0, ground := Ground.phase }, { on := 1, ground := Ground.phase }, { on := 2, ground := Ground.phase }, { on := 3, ground := Ground.phase }, { on := 4, ground := Ground.phase }, { on := 5, ground := Ground.phase }, { on := 6, ground := Ground.phase }, { on := 7, ground := Ground.phase }], guard := none }) rfl (fun K hK => ?_) ?_
            ·
              go_simp
              refine hK.out _ _ trivial (fun hHeld => ?_)
              clear hK K
              try simp only [Act.put, List.setIfInBounds_toArray, List.set_cons_zero, List.set_cons_succ]
              refine wpAnyH_done (by kernel_rfl) ?_ _
              have hgY := hG.heap HGX.out
              have hrY := hG.heap HRX.out
              have m0 := blk_cell hgY 0
              have m3 := blk_cell hgY 3
              have m4 := blk_cell hgY 4
              have n0 := blk_cell hrY 0
              have n1 := blk_cell hrY 1
              have n2 := blk_cell hrY 2
              have n3 := blk_cell hrY 3
              have n4 := blk_cell hrY 4
              have z0 := blk_free hrY 0
              have z1 := blk_free hrY 1
              have z2 := blk_free hrY 2
              have z3 := blk_free hrY 3
              have z4 := blk_free hrY 4
              simp [zeroCs] at m0 m3 m4 n0 n1 n2 n3 n4
              clear hgY hrY
              have HFIN := fun u1 u2 a0 a1 a2 a3 a4 => Lib.hid (got_fin hsl hzX HFX.out HSX.out hG (ho2.mono hz2) (ho3.mono hz3) u1 u2 a0 a1 a2 a3 a4)
              clear ho2 ho3 hG g0 g3 g4
              go_wp2_with fail
              obtain ⟨j1, j2, j3, j4⟩ := (HFIN _ _ _ _ _ _ _).out
              exact bodyPost_ret (v := .agg #[.bool true, .slice p2 _ c2, .slice p3 _ c3, .int .i64 b, .string ⟨#[]⟩]) (by simp [results, Tryd.results38, go_sem, n0, n1, n2, n3, n4] <;> rfl) rfl ⟨_, _, rfl, j1, j2, j3, j4⟩
            exact AllReadyH.nil
          exact AllReadyH.nil
        exact AllReadyH.nil
      exact AllReadyH.nil
    refine AllReadyH.cons (o := { dst := some 157, op := Op.load 24 (Operand.tmp 156), type := 24, pos := "sessions.go:113", after := #[{ on := 3, ground := Ground.data }], guard := none }) rfl (fun K hK => ?_) ?_
    ·
      go_simp
      refine hK.out _ _ trivial (fun hHeld => ?_)
      clear hK K
      try simp only [Act.put, List.setIfInBounds_toArray, List.set_cons_zero, List.set_cons_succ]
      refine wpAnyH_ready (rs := [2]) (by kernel_rfl) (by simp) ?_
      refine AllReadyH.cons (o := { dst := some 155, op := Op.call { callee := Callee.value (Operand.func 16), args := #[Operand.tmp 154], argTypes := #[24] }, type := 24, pos := "sessions.go:113", after := #[{ on := 1, ground := Ground.data }], guard := none }) rfl (fun K hK => ?_) ?_
      ·
        go_simp
        go_at_call 16; go_must (refine (clone (.slice none 0 0) [] _ (HU.out.gr hG) (by first | omega | (simp; done) | (simp; omega))).mono ?_); rintro e c8 ⟨u2, rfl, ho2, hg2⟩
        have hz2 := hG.size
        have hG := hG.trans hg2
        have k1 := hg2.cell k1
        have k2 := hg2.cell k2
        have f1 := blk_free (hG.heap HGX.out) 1
        have f2 := blk_free (hG.heap HGX.out) 2
        obtain ⟨p2, c2, rfl, _⟩ := id ho2.rd
        go_wp2_with fail
        refine hK.out _ _ trivial (fun hHeld => ?_)
        clear hK K
        try simp only [Act.put, List.setIfInBounds_toArray, List.set_cons_zero, List.set_cons_succ]
        refine wpAnyH_take (i := 6) (oi := { dst := some 159, op := Op.fieldAddr 31 (Operand.tmp 5) 1, type := 0, pos := "sessions.go:113", after := #[{ on := 0, ground := Ground.phase }, { on := 1, ground := Ground.phase }, { on := 2, ground := Ground.phase }, { on := 3, ground := Ground.phase }, { on := 4, ground := Ground.phase }, { on := 5, ground := Ground.textOnly Departure.lateStoresUnsure }], guard := none }) (v := ?_) rfl (by kernel_rfl) (by kernel_rfl) (by kernel_rfl) (fun _ _ _ h => h) (Or.inl ⟨by rfl, ?_⟩) (by assumption) ?_
        rotate_left
        · (intro w hSw; (try dsimp only at hSw); go_simp; try with_reducible rfl)
        try simp only [Act.put, List.setIfInBounds_toArray, List.set_cons_zero, List.set_cons_succ]
        refine wpAnyH_ready (rs := [5]) (by kernel_rfl) (by simp) ?_
        refine AllReadyH.cons (o := { dst := some 158, op := Op.call { callee := Callee.value (Operand.func 16), args := #[Operand.tmp 157], argTypes := #[24] }, type := 24, pos := "sessions.go:113", after := #[{ on := 4, ground := Ground.data }, { on := 2, ground := Ground.chain }], guard := none }) rfl (fun K hK => ?_) ?_
        ·
          go_simp
          go_at_call 16; go_must (refine (clone (.slice none 0 0) [] _ (HV.out.gr hG) (by first | omega | (simp; done) | (simp; omega))).mono ?_); rintro e c9 ⟨u3, rfl, ho3, hg3⟩
          have hz3 := hG.size
          have ho2 := ho2.gr hg3
          have hG := hG.trans hg3
          have k1 := hg3.cell k1
          have k2 := hg3.cell k2
          have f1 := blk_free (hG.heap HGX.out) 1
          have f2 := blk_free (hG.heap HGX.out) 2
          obtain ⟨p3, c3, rfl, _⟩ := id ho3.rd
          go_wp2_with fail
          refine hK.out _ _ trivial (fun hHeld => ?_)
          clear hK K
          try simp only [Act.put, List.setIfInBounds_toArray, List.set_cons_zero, List.set_cons_succ]
          refine wpAnyH_ready (rs := [7]) (by kernel_rfl) (by simp) ?_
          refine AllReadyH.cons (o := { dst := none, op := Op.store 24 (Operand.tmp 159) (Operand.tmp 155), type := 0, pos := "sessions.go:113", after := #[{ on := 6, ground := Ground.data }, { on := 2, ground := Ground.data }, { on := 5, ground := Ground.chain }, { on := 0, ground := Ground.phase }, { on := 1, ground := Ground.phase }, { on := 2, ground := Ground.phase }, { on := 3, ground := Ground.phase }, { on := 4, ground := Ground.phase }, { on := 5, ground := Ground.textOnly Departure.lateStoresUnsure }], guard := none }) rfl (fun K hK => ?_) ?_
          ·
            go_simp
            refine hK.out _ _ trivial (fun hHeld => ?_)
            clear hK K
            try simp only [Act.put, List.setIfInBounds_toArray, List.set_cons_zero, List.set_cons_succ]
            refine wpAnyH_take (i := 8) (oi := { dst := some 160, op := Op.fieldAddr 31 (Operand.tmp 5) 2, type := 0, pos := "sessions.go:113", after := #[{ on := 0, ground := Ground.phase }, { on := 1, ground := Ground.phase }, { on := 2, ground := Ground.phase }, { on := 3, ground := Ground.phase }, { on := 4, ground := Ground.phase }, { on := 5, ground := Ground.phase }, { on := 6, ground := Ground.phase }, { on := 7, ground := Ground.phase }], guard := none }) (v := ?_) rfl (by kernel_rfl) (by kernel_rfl) (by kernel_rfl) (fun _ _ _ h => h) (Or.inl ⟨by rfl, ?_⟩) (by assumption) ?_
            rotate_left
            · (intro w hSw; (try dsimp only at hSw); go_simp; try with_reducible rfl)
            try simp only [Act.put, List.setIfInBounds_toArray, List.set_cons_zero, List.set_cons_succ]
            refine wpAnyH_ready (rs := [9]) (by kernel_rfl) (by simp) ?_
            refine AllReadyH.cons (o := { dst := none, op := Op.store 24 (Operand.tmp 160) (Operand.tmp 158), type := 0, pos := "sessions.go:113", after := #[{ on := 8, ground := Ground.data }, { on := 5, ground := Ground.data }, { on := 7, ground := Ground.chain }, { on := 0, ground := Ground.phase }, { on := 1, ground := Ground.phase }, { on := 2, ground := Ground.phase }, { on := 3, ground := Ground.phase }, { on := 4, ground := Ground.phase }, { on := 5, ground := Ground.phase }, { on := 6, ground := Ground.phase }, { on := 7, ground := Ground.phase }], guard := none }) rfl (fun K hK => ?_) ?_
            ·
              go_simp
              refine hK.out _ _ trivial (fun hHeld => ?_)
              clear hK K
              try simp only [Act.put, List.setIfInBounds_toArray, List.set_cons_zero, List.set_cons_succ]
              refine wpAnyH_done (by kernel_rfl) ?_ _
              have hgY := hG.heap HGX.out
              have hrY := hG.heap HRX.out
              have m0 := blk_cell hgY 0
              have m3 := blk_cell hgY 3
              have m4 := blk_cell hgY 4
              have n0 := blk_cell hrY 0
              have n1 := blk_cell hrY 1
              have n2 := blk_cell hrY 2
              have n3 := blk_cell hrY 3
              have n4 := blk_cell hrY 4
              have z0 := blk_free hrY 0
              have z1 := blk_free hrY 1
              have z2 := blk_free hrY 2
              have z3 := blk_free hrY 3
              have z4 := blk_free hrY 4
              simp [zeroCs] at m0 m3 m4 n0 n1 n2 n3 n4
              clear hgY hrY
              have HFIN := fun u1 u2 a0 a1 a2 a3 a4 => Lib.hid (got_fin hsl hzX HFX.out HSX.out hG (ho2.mono hz2) (ho3.mono hz3) u1 u2 a0 a1 a2 a3 a4)
              clear ho2 ho3 hG g0 g3 g4
              go_wp2_with fail
              obtain ⟨j1, j2, j3, j4⟩ := (HFIN _ _ _ _ _ _ _).out
              exact bodyPost_ret (v := .agg #[.bool true, .slice p2 _ c2, .slice p3 _ c3, .int .i64 b, .string ⟨#[]⟩]) (by simp [results, Tryd.results38, go_sem, n0, n1, n2, n3, n4] <;> rfl) rfl ⟨_, _, rfl, j1, j2, j3, j4⟩
            exact AllReadyH.nil
          exact AllReadyH.nil
        exact AllReadyH.nil
      exact AllReadyH.nil
    exact AllReadyH.nil
  refine AllReadyH.cons (o := { dst := some 157, op := Op.load 24 (Operand.tmp 156), type := 24, pos := "sessions.go:113", after := #[{ on := 3, ground := Ground.data }], guard := none }) rfl (fun K hK => ?_) ?_
  ·
    go_simp
    refine hK.out _ _ trivial (fun hHeld => ?_)
    clear hK K
    try simp only [Act.put, List.setIfInBounds_toArray, List.set_cons_zero, List.set_cons_succ]
    refine wpAnyH_ready (rs := [1]) (by kernel_rfl) (by simp) ?_
    refine AllReadyH.cons (o := { dst := some 154, op := Op.load 24 (Operand.tmp 153), type := 24, pos := "sessions.go:113", after := #[{ on := 0, ground := Ground.data }], guard := none }) rfl (fun K hK => ?_) ?_
    ·
      go_simp
      refine hK.out _ _ trivial (fun hHeld => ?_)
      clear hK K
      try simp only [Act.put, List.setIfInBounds_toArray, List.set_cons_zero, List.set_cons_succ]
      refine wpAnyH_ready (rs := [2]) (by kernel_rfl) (by simp) ?_
      refine AllReadyH.cons (o := { dst := some 155, op := Op.call { callee := Callee.value (Operand.func 16), args := #[Operand.tmp 154], argTypes := #[24] }, type := 24, pos := "sessions.go:113", after := #[{ on := 1, ground := Ground.data }], guard := none }) rfl (fun K hK => ?_) ?_
      ·
        go_simp
        go_at_call 16; go_must (refine (clone (.slice none 0 0) [] _ (HU.out.gr hG) (by first | omega | (simp; done) | (simp; omega))).mono ?_); rintro e c14 ⟨u2, rfl, ho2, hg2⟩
        have hz2 := hG.size
        have hG := hG.trans hg2
        have k1 := hg2.cell k1
        have k2 := hg2.cell k2
        have f1 := blk_free (hG.heap HGX.out) 1
        have f2 := blk_free (hG.heap HGX.out) 2
        obtain ⟨p2, c2, rfl, _⟩ := id ho2.rd
        go_wp2_with fail
        refine hK.out _ _ trivial (fun hHeld => ?_)
        clear hK K
        try simp only [Act.put, List.setIfInBounds_toArray, List.set_cons_zero, List.set_cons_succ]
        refine wpAnyH_take (i := 6) (oi := { dst := some 159, op := Op.fieldAddr 31 (Operand.tmp 5) 1, type := 0, pos := "sessions.go:113", after := #[{ on := 0, ground := Ground.phase }, { on := 1, ground := Ground.phase }, { on := 2, ground := Ground.phase }, { on := 3, ground := Ground.phase }, { on := 4, ground := Ground.phase }, { on := 5, ground := Ground.textOnly Departure.lateStoresUnsure }], guard := none }) (v := ?_) rfl (by kernel_rfl) (by kernel_rfl) (by kernel_rfl) (fun _ _ _ h => h) (Or.inl ⟨by rfl, ?_⟩) (by assumption) ?_
        rotate_left
        · (intro w hSw; (try dsimp only at hSw); go_simp; try with_reducible rfl)
        try simp only [Act.put, List.setIfInBounds_toArray, List.set_cons_zero, List.set_cons_succ]
        refine wpAnyH_ready (rs := [5]) (by kernel_rfl) (by simp) ?_
        refine AllReadyH.cons (o := { dst := some 158, op := Op.call { callee := Callee.value (Operand.func 16), args := #[Operand.tmp 157], argTypes := #[24] }, type := 24, pos := "sessions.go:113", after := #[{ on := 4, ground := Ground.data }, { on := 2, ground := Ground.chain }], guard := none }) rfl (fun K hK => ?_) ?_
        ·
          go_simp
          go_at_call 16; go_must (refine (clone (.slice none 0 0) [] _ (HV.out.gr hG) (by first | omega | (simp; done) | (simp; omega))).mono ?_); rintro e c15 ⟨u3, rfl, ho3, hg3⟩
          have hz3 := hG.size
          have ho2 := ho2.gr hg3
          have hG := hG.trans hg3
          have k1 := hg3.cell k1
          have k2 := hg3.cell k2
          have f1 := blk_free (hG.heap HGX.out) 1
          have f2 := blk_free (hG.heap HGX.out) 2
          obtain ⟨p3, c3, rfl, _⟩ := id ho3.rd
          go_wp2_with fail
          refine hK.out _ _ trivial (fun hHeld => ?_)
          clear hK K
          try simp only [Act.put, List.setIfInBounds_toArray, List.set_cons_zero, List.set_cons_succ]
          refine wpAnyH_ready (rs := [7]) (by kernel_rfl) (by simp) ?_
          refine AllReadyH.cons (o := { dst := none, op := Op.store 24 (Operand.tmp 159) (Operand.tmp 155), type := 0, pos := "sessions.go:113", after := #[{ on := 6, ground := Ground.data }, { on := 2, ground := Ground.data }, { on := 5, ground := Ground.chain }, { on := 0, ground := Ground.phase }, { on := 1, ground := Ground.phase }, { on := 2, ground := Ground.phase }, { on := 3, ground := Ground.phase }, { on := 4, ground := Ground.phase }, { on := 5, ground := Ground.textOnly Departure.lateStoresUnsure }], guard := none }) rfl (fun K hK => ?_) ?_
          ·
            go_simp
            refine hK.out _ _ trivial (fun hHeld => ?_)
            clear hK K
            try simp only [Act.put, List.setIfInBounds_toArray, List.set_cons_zero, List.set_cons_succ]
            refine wpAnyH_take (i := 8) (oi := { dst := some 160, op := Op.fieldAddr 31 (Operand.tmp 5) 2, type := 0, pos := "sessions.go:113", after := #[{ on := 0, ground := Ground.phase }, { on := 1, ground := Ground.phase }, { on := 2, ground := Ground.phase }, { on := 3, ground := Ground.phase }, { on := 4, ground := Ground.phase }, { on := 5, ground := Ground.phase }, { on := 6, ground := Ground.phase }, { on := 7, ground := Ground.phase }], guard := none }) (v := ?_) rfl (by kernel_rfl) (by kernel_rfl) (by kernel_rfl) (fun _ _ _ h => h) (Or.inl ⟨by rfl, ?_⟩) (by assumption) ?_
            rotate_left
            · (intro w hSw; (try dsimp only at hSw); go_simp; try with_reducible rfl)
            try simp only [Act.put, List.setIfInBounds_toArray, List.set_cons_zero, List.set_cons_succ]
            refine wpAnyH_ready (rs := [9]) (by kernel_rfl) (by simp) ?_
            refine AllReadyH.cons (o := { dst := none, op := Op.store 24 (Operand.tmp 160) (Operand.tmp 158), type := 0, pos := "sessions.go:113", after := #[{ on := 8, ground := Ground.data }, { on := 5, ground := Ground.data }, { on := 7, ground := Ground.chain }, { on := 0, ground := Ground.phase }, { on := 1, ground := Ground.phase }, { on := 2, ground := Ground.phase }, { on := 3, ground := Ground.phase }, { on := 4, ground := Ground.phase }, { on := 5, ground := Ground.phase }, { on := 6, ground := Ground.phase }, { on := 7, ground := Ground.phase }], guard := none }) rfl (fun K hK => ?_) ?_
            ·
              go_simp
              refine hK.out _ _ trivial (fun hHeld => ?_)
              clear hK K
              try simp only [Act.put, List.setIfInBounds_toArray, List.set_cons_zero, List.set_cons_succ]
              refine wpAnyH_done (by kernel_rfl) ?_ _
              have hgY := hG.heap HGX.out
              have hrY := hG.heap HRX.out
              have m0 := blk_cell hgY 0
              have m3 := blk_cell hgY 3
              have m4 := blk_cell hgY 4
              have n0 := blk_cell hrY 0
              have n1 := blk_cell hrY 1
              have n2 := blk_cell hrY 2
              have n3 := blk_cell hrY 3
              have n4 := blk_cell hrY 4
              have z0 := blk_free hrY 0
              have z1 := blk_free hrY 1
              have z2 := blk_free hrY 2
              have z3 := blk_free hrY 3
              have z4 := blk_free hrY 4
              simp [zeroCs] at m0 m3 m4 n0 n1 n2 n3 n4
              clear hgY hrY
              have HFIN := fun u1 u2 a0 a1 a2 a3 a4 => Lib.hid (got_fin hsl hzX HFX.out HSX.out hG (ho2.mono hz2) (ho3.mono hz3) u1 u2 a0 a1 a2 a3 a4)
              clear ho2 ho3 hG g0 g3 g4
              go_wp2_with fail
              obtain ⟨j1, j2, j3, j4⟩ := (HFIN _ _ _ _ _ _ _).out
              exact bodyPost_ret (v := .agg #[.bool true, .slice p2 _ c2, .slice p3 _ c3, .int .i64 b, .string ⟨#[]⟩]) (by simp [results, Tryd.results38, go_sem, n0, n1, n2, n3, n4] <;> rfl) rfl ⟨_, _, rfl, j1, j2, j3, j4⟩
            exact AllReadyH.nil
          exact AllReadyH.nil
        exact AllReadyH.nil
      exact AllReadyH.nil
    exact AllReadyH.nil
  exact AllReadyH.nil

end Go.Proofs.YtgkccbfepjgjoaaDoor
