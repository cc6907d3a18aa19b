/- FnPacketCarried: the walk. -/
import Derived.Test.YtoaajnhbcekglaaDoorPkCp
import Derived.Test.YtoaajnhbcekglaaDoorPkParts
namespace Go.Proofs.YtoaajnhbcekglaaDoor
open Go Go.RowKit

theorem rd_conv (s : ByteArray) (w : World) (C : Nat) (h1 : s.size ≤ C) (h2 : C ≤ maxLen) (fr : Nat × Nat) : Rd (w.alloc (.cells (bytesRow s C) 5 fr)) (.slice (some ⟨w.heap.size, 0, none⟩) s.size C) (nums s) := by
  refine RdAt.rd ⟨fun i hi => ?_, nums_byt s⟩ (nums_length s) h1 h2
  rw [Nat.zero_add]
  have hi' : i < s.size := by rw [nums_length] at hi; exact hi
  refine (blk_cell (heap_alloc_new w _) i).trans ?_
  unfold bytesRow
  rw [Array.getElem?_append_left (by simp; exact hi')]
  have hi3 : i < s.data.size := hi'
  simp [nums, List.getD_eq_getElem?_getD]
  exact ⟨s.data[i], Array.getElem?_eq_getElem hi3, by rw [Array.getElem?_eq_getElem hi3]; rfl⟩

set_option maxRecDepth 100000 in
theorem law_carried_short (c : Ctx) (hc : c.ok) (s : ByteArray) (w : World) (hs : s.size ≤ 230) :
    Calls Tryd.prog 9 #[c.val, .string s] w fun e w' => e = .returned (.bool true) ∧ Gr w w' := by
  have HC := fun w => Lib.hid (impl_ConnectBytes c hc s w (by omega))
  have hq : (s.toList == s.toList) = true := by simp
  unfold Ctx.val at HC ⊢
  go_enter Tryd.func9, Tryd.ntmps9
  go_upto_if 22 with (first
    | (go_at_call 25; go_must (refine (HC _).out.mono ?_); rintro e w1 ⟨v, Z, rfl, ho, hg1, hZ, ha, hb⟩))
  rw [if_pos hs] at ho
  have hlen : (Z ++ nums s).length = 70 + s.size := by rw [List.length_append, hZ, nums_length]
  obtain ⟨g, cap, hv, hg, hO⟩ := ho.form (by rw [hlen]; omega)
  rw [hlen] at hv
  subst hv
  have hcap : 70 + s.size ≤ cap := by have := hO.2.1; rw [hlen] at this; exact this
  have hcm : cap ≤ maxLen := hO.2.2.1
  have hcm2 : cap ≤ 9223372036854775807 := by simp only [maxLen] at hcm; omega
  have hrd : RdAt w1 g 0 (Z ++ nums s) := ⟨fun i hi => by rw [Nat.zero_add]; exact hO.cell i hi, hO.byt⟩
  have hpg := packetGet2At g 0 (70 + s.size) cap 24 (Z ++ nums s) w1 hrd hlen (by omega) hcap hcm
  have e24 : nat2 ((Z ++ nums s).drop 24) = (s.size : Int) := by
    have : nat2 ((Z ++ nums s).drop 24) = Z.getD 24 0 * 256 + Z.getD 25 0 := by
      simp only [nat2, List.getD_eq_getElem?_getD, List.getElem?_drop]
      rw [List.getElem?_append_left (by omega), List.getElem?_append_left (by omega)]
    rw [this, ha, hb]
    omega
  rw [e24] at hpg
  have hsl : ∀ w, (Instr.slice 30 (.slice (some ⟨g, 0, none⟩) (70 + s.size) cap) (some (.int .i64 70)) none none).run Tryd.prog w = .ok (.slice (some ⟨g, cutOff 0 cap 70, none⟩) s.size (cap - 70)) w := fun w => by
    have := run_cutAt (P := Tryd.prog) Go.Proofs.YtoaajnhbcekglaaDoor.u8 g 0 (70 + s.size) cap 70 70 rfl (by omega) w
    rwa [Nat.add_sub_cancel_left] at this
  have hcut := rd_cutAt hrd hlen hcap hcm 70 (by omega)
  rw [show (Z ++ nums s).drop 70 = nums s by rw [← hZ, List.drop_left], Nat.add_sub_cancel_left] at hcut
  have hst := str_back _ _ s w1 hcut
  generalize cutOff 0 cap 70 = o2 at *
  have HG := Lib.hid hg1
  have HP := Lib.hid hpg
  have i1 : ¬ (((70 + s.size : Nat) : Int) < 70) := by omega
  have i2 : (s.size : Int) ≤ 230 := by omega
  clear hpg e24 hcut hrd hO ho hZ ha hb hlen hg1 hcm
  go_wp2_with (first
    | (go_at_call 26; go_must (refine HP.out.mono ?_); rintro e w2 ⟨rfl, rfl⟩)
    | (go_at_call 10; refine (packetAwake _).mono ?_; rintro e w4 ⟨rfl, hg4⟩))
  go_ret
  exact ⟨rfl, Gr.trans ((Gr.refl w).alloc _) (HG.out.trans hg4)⟩

set_option maxRecDepth 100000 in
set_option maxHeartbeats 1000000 in
theorem law_carried_long (c : Ctx) (hc : c.ok) (s : ByteArray) (w : World) (hs0 : 230 < s.size) (hs : s.size ≤ 2000) :
    Calls Tryd.prog 9 #[c.val, .string s] w fun e w' => e = .returned (.bool true) ∧ Gr w w' := by
  have HC := fun w => Lib.hid (impl_ConnectBytes c hc s w (by omega))
  have hq : (s.toList == s.toList) = true := by simp
  have HB := fun v xs w => Lib.hid (impl_DataBytes c v xs w)
  have HR := fun v xs w => Lib.hid (impl_DataRead c xs v w)
  unfold Ctx.val at HC HB HR ⊢
  generalize hlong : (c.done && decide (315 ≤ c.ver)) = long at HB
  go_enter Tryd.func9, Tryd.ntmps9
  go_upto_if 22 with (first
    | (go_at_call 25; go_must (refine (HC _).out.mono ?_); rintro e w1 ⟨v, Z, rfl, ho, hg1, hZ, ha, hb⟩))
  rw [if_neg (by omega), List.append_nil] at ho
  have hlen : Z.length = 70 := hZ
  obtain ⟨g, cap, hv, hg, hO⟩ := ho.form (by rw [hlen]; omega)
  rw [hlen] at hv
  subst hv
  have hcap : 70 ≤ cap := by have := hO.2.1; rw [hlen] at this; exact this
  have hcm : cap ≤ maxLen := hO.2.2.1
  have hcm2 : cap ≤ 9223372036854775807 := by simp only [maxLen] at hcm; omega
  have hrd : RdAt w1 g 0 Z := ⟨fun i hi => by rw [Nat.zero_add]; exact hO.cell i hi, hO.byt⟩
  have hpg := packetGet2At g 0 70 cap 24 Z w1 hrd hlen (by omega) hcap hcm
  have e24 : nat2 (Z.drop 24) = (s.size : Int) := by
    have : nat2 (Z.drop 24) = Z.getD 24 0 * 256 + Z.getD 25 0 := by
      simp only [nat2, List.getD_eq_getElem?_getD, List.getElem?_drop]
    rw [this, ha, hb]
    omega
  rw [e24] at hpg
  have hcx : CtxIn w1 w.heap.size c := hg1.heap (heap_alloc_new w _)
  have HX := Lib.hid hcx
  obtain ⟨x0, x1, x2, x3, x4, x5, x6, x7, x8, x9, xb⟩ := hcx.cells
  have HG := Lib.hid hg1
  have HP := Lib.hid hpg
  have i2 : ¬ ((s.size : Int) ≤ 230) := by omega
  have hge := fun (w : World) => Lib.hid (And.intro (grownCap_ge w s.size 0 5) (grownCap_le_maxLen w s.size 0 5 (by simp only [maxLen]; omega)))
  clear hpg e24 hrd hO ho hZ ha hb hlen hg1 hcm hcx
  go_wp2_with (first
    | (go_at_call 26; go_must (refine HP.out.mono ?_); rintro e w2 ⟨rfl, rfl⟩))
  clear x0 x1 x2 x3 x4 x5 x6 x7 x8 x9 hge
  go_cut [6, 7, 8, 9] from 42 to 53 (fun _ _ u ok wc => Rd wc u (nums s) ∧ ok = .bool true ∧ Gr w1 wc)
  case first =>
    -- REGION
    have hG := (Gr.refl w1).drew
    refine wp_region_held_drew (S := (fun w' => (w'.cell? ⟨w.heap.size, 0, none⟩ = some (.int .u16 c.ver) ∧ w'.cell? ⟨w.heap.size, 1, none⟩ = some (.int .u16 c.lo) ∧ w'.cell? ⟨w.heap.size, 2, none⟩ = some (.int .u16 c.opt) ∧ w'.cell? ⟨w.heap.size, 3, none⟩ = some (.int .u16 c.our) ∧ w'.cell? ⟨w.heap.size, 4, none⟩ = some (.int .u16 c.his) ∧ w'.cell? ⟨w.heap.size, 5, none⟩ = some (.int .u8 c.a0) ∧ w'.cell? ⟨w.heap.size, 6, none⟩ = some (.int .u8 c.a1) ∧ w'.cell? ⟨w.heap.size, 7, none⟩ = some (.int .u32 c.sdu) ∧ w'.cell? ⟨w.heap.size, 8, none⟩ = some (.int .u32 c.tdu) ∧ w'.cell? ⟨w.heap.size, 9, none⟩ = some (.bool c.done)) ∧ Gr w1 w')) (by kernel_rfl) ⟨(HX.out.gr hG).ten, hG⟩ (fun hHeld => ?_)
    generalize hcc : w1.drew = c0 at *
    clear hcc
    refine wpAnyH_take (i := 0) (oi := { dst := some 43, op := Op.load 25 (Operand.tmp 2), type := 25, pos := "deep_packets.go:77", after := #[], guard := none }) (v := ?_) rfl (by kernel_rfl) (by kernel_rfl) (by kernel_rfl) (fun _ _ _ h => h) (Or.inl ⟨by rfl, ?_⟩) (by assumption) ?_
    rotate_left
    · (intro w hSw; (try dsimp only at hSw); go_simp; try with_reducible rfl)
    try simp only [Act.put, List.setIfInBounds_toArray, List.set_cons_zero, List.set_cons_succ]
    refine wpAnyH_take (i := 1) (oi := { dst := some 44, op := Op.load 25 (Operand.tmp 2), type := 25, pos := "deep_packets.go:77", after := #[], guard := none }) (v := ?_) rfl (by kernel_rfl) (by kernel_rfl) (by kernel_rfl) (fun _ _ _ h => h) (Or.inl ⟨by rfl, ?_⟩) (by assumption) ?_
    rotate_left
    · (intro w hSw; (try dsimp only at hSw); go_simp; try with_reducible rfl)
    try simp only [Act.put, List.setIfInBounds_toArray, List.set_cons_zero, List.set_cons_succ]
    refine wpAnyH_take (i := 2) (oi := { dst := some 45, op := Op.move (Operand.tmp 1), type := 9, pos := "deep_packets.go:77", after := #[], guard := none }) (v := ?_) rfl (by kernel_rfl) (by kernel_rfl) (by kernel_rfl) (fun _ _ _ h => h) (Or.inl ⟨by rfl, ?_⟩) (by assumption) ?_
    rotate_left
    · (intro w hSw; (try dsimp only at hSw); go_simp; try with_reducible rfl)
    try simp only [Act.put, List.setIfInBounds_toArray, List.set_cons_zero, List.set_cons_succ]
    refine wpAnyH_ready (rs := [3, 11]) (by kernel_rfl) (by simp) ?_
    refine AllReadyH.cons (o := { dst := some 46, op := Op.convert 9 30 (Operand.tmp 45), type := 30, pos := "deep_packets.go:77", after := #[{ on := 2, ground := Ground.data }], guard := none }) rfl (fun K hK => ?_) ?_
    ·
      obtain ⟨C, c1, hcv, hrd, hg, k1, k2⟩ := bytes_of_str s c0 (by simp only [maxLen]; omega)
      have hR := hrd.rd (nums_length s) k1 k2
      have hG := hG.trans hg
      go_simp
      clear hcv hrd hg
      refine hK.out _ _ ⟨(HX.out.gr hG).ten, hG⟩ (fun hHeld => ?_)
      clear hK K
      try simp only [Act.put, List.setIfInBounds_toArray, List.set_cons_zero, List.set_cons_succ]
      refine wpAnyH_ready (rs := [4, 11]) (by kernel_rfl) (by simp) ?_
      refine AllReadyH.cons (o := { dst := some 47, op := Op.call { callee := Callee.value (Operand.func 17), args := #[Operand.tmp 44, Operand.tmp 46], argTypes := #[25, 30] }, type := 30, pos := "deep_packets.go:77", after := #[{ on := 1, ground := Ground.data }, { on := 3, ground := Ground.data }], guard := none }) rfl (fun K hK => ?_) ?_
      ·
        go_simp
        go_at_call 17; go_must (refine ((HB _ (nums s) _).out hR (by rw [nums_length]; omega)).mono ?_); rintro e c2 ⟨u3, rfl, ho3, hg3⟩
        have hR := ho3.rd
        have hG := hG.trans hg3
        go_wp2_with fail
        clear hg3 ho3
        refine hK.out _ _ ⟨(HX.out.gr hG).ten, hG⟩ (fun hHeld => ?_)
        clear hK K
        try simp only [Act.put, List.setIfInBounds_toArray, List.set_cons_zero, List.set_cons_succ]
        refine wpAnyH_ready (rs := [5, 11]) (by kernel_rfl) (by simp) ?_
        refine AllReadyH.cons (o := { dst := some 48, op := Op.call { callee := Callee.value (Operand.func 18), args := #[Operand.tmp 43, Operand.tmp 47], argTypes := #[25, 30] }, type := 39, pos := "deep_packets.go:77", after := #[{ on := 0, ground := Ground.data }, { on := 4, ground := Ground.data }, { on := 4, ground := Ground.chain }], guard := none }) rfl (fun K hK => ?_) ?_
        ·
          go_simp
          go_at_call 18; go_must (refine ((HR _ _ _).out hR (by rw [dataL_length]; omega) (by rw [dataL_length, nums_length]; omega) (dataL_type _ _ _ _ _ _)).mono ?_); rintro e c3 ⟨u4, rfl, ho4, hg4⟩
          rw [dataL_drop] at ho4
          have hR := ho4.rd
          have hG := hG.trans hg4
          go_wp2_with fail
          clear hg4
          refine hK.out _ _ ⟨(HX.out.gr hG).ten, hG⟩ (fun hHeld => ?_)
          clear hK K
          try simp only [Act.put, List.setIfInBounds_toArray, List.set_cons_zero, List.set_cons_succ]
          refine wpAnyH_take (i := 6) (oi := { dst := some 42, op := Op.move (Operand.tmp 48), type := 39, pos := "deep_packets.go:77", after := #[{ on := 5, ground := Ground.data }], guard := none }) (v := ?_) rfl (by kernel_rfl) (by kernel_rfl) (by kernel_rfl) (fun _ _ _ h => h) (Or.inl ⟨by rfl, ?_⟩) (by assumption) ?_
          rotate_left
          · (intro w hSw; (try dsimp only at hSw); go_simp; try with_reducible rfl)
          try simp only [Act.put, List.setIfInBounds_toArray, List.set_cons_zero, List.set_cons_succ]
          refine wpAnyH_take (i := 7) (oi := { dst := some 49, op := Op.extract (Operand.tmp 42) 0, type := 27, pos := "deep_packets.go:77", after := #[{ on := 6, ground := Ground.data }], guard := none }) (v := ?_) rfl (by kernel_rfl) (by kernel_rfl) (by kernel_rfl) (fun _ _ _ h => h) (Or.inl ⟨by rfl, ?_⟩) (by assumption) ?_
          rotate_left
          · (intro w hSw; (try dsimp only at hSw); go_simp; try with_reducible rfl)
          try simp only [Act.put, List.setIfInBounds_toArray, List.set_cons_zero, List.set_cons_succ]
          refine wpAnyH_take (i := 8) (oi := { dst := some 50, op := Op.extract (Operand.tmp 42) 1, type := 22, pos := "deep_packets.go:77", after := #[{ on := 6, ground := Ground.data }, { on := 12, ground := Ground.gcOnly Departure.lateStores }], guard := none }) (v := ?_) rfl (by kernel_rfl) (by kernel_rfl) (by kernel_rfl) (fun _ _ _ h => h) (Or.inl ⟨by rfl, ?_⟩) (by assumption) ?_
          rotate_left
          · (intro w hSw; (try dsimp only at hSw); go_simp; try with_reducible rfl)
          try simp only [Act.put, List.setIfInBounds_toArray, List.set_cons_zero, List.set_cons_succ]
          refine wpAnyH_take (i := 9) (oi := { dst := some 51, op := Op.extract (Operand.tmp 42) 2, type := 30, pos := "deep_packets.go:77", after := #[{ on := 6, ground := Ground.data }, { on := 13, ground := Ground.gcOnly Departure.lateStores }], guard := none }) (v := ?_) rfl (by kernel_rfl) (by kernel_rfl) (by kernel_rfl) (fun _ _ _ h => h) (Or.inl ⟨by rfl, ?_⟩) (by assumption) ?_
          rotate_left
          · (intro w hSw; (try dsimp only at hSw); go_simp; try with_reducible rfl)
          try simp only [Act.put, List.setIfInBounds_toArray, List.set_cons_zero, List.set_cons_succ]
          refine wpAnyH_take (i := 10) (oi := { dst := some 52, op := Op.extract (Operand.tmp 42) 3, type := 4, pos := "deep_packets.go:77", after := #[{ on := 6, ground := Ground.data }, { on := 14, ground := Ground.gcOnly Departure.lateStores }], guard := none }) (v := ?_) rfl (by kernel_rfl) (by kernel_rfl) (by kernel_rfl) (fun _ _ _ h => h) (Or.inl ⟨by rfl, ?_⟩) (by assumption) ?_
          rotate_left
          · (intro w hSw; (try dsimp only at hSw); go_simp; try with_reducible rfl)
          try simp only [Act.put, List.setIfInBounds_toArray, List.set_cons_zero, List.set_cons_succ]
          refine wpAnyH_ready (rs := [11]) (by kernel_rfl) (by simp) ?_
          refine AllReadyH.cons (o := { dst := some 6, op := Op.alloc 27, type := 0, pos := "deep_packets.go:77", after := #[], guard := none }) rfl (fun K hK => ?_) ?_
          ·
            have hz := heap_new_at c3 (.cells #[.int .u32 0, .int .u8 0, .int .u8 0, .int .u16 0] 27) rfl
            have hb := hG.size
            have hR := hR.gr ((Gr.refl c3).alloc (.cells #[.int .u32 0, .int .u8 0, .int .u8 0, .int .u16 0] 27))
            have hG4 := (Gr.refl c3).alloc (.cells #[.int .u32 0, .int .u8 0, .int .u8 0, .int .u16 0] 27)
            have hG := hG.alloc (.cells #[.int .u32 0, .int .u8 0, .int .u8 0, .int .u16 0] 27)
            go_simp
            generalize hbq : c3.heap.size = hb9 at hz hb ⊢
            have hb4 := Nat.le_of_eq hbq
            clear hbq
            generalize hcc : c3.alloc (.cells #[.int .u32 0, .int .u8 0, .int .u8 0, .int .u16 0] 27) = c4 at *
            clear hcc
            refine hK.out _ _ ⟨(HX.out.gr hG).ten, hG⟩ (fun hHeld => ?_)
            clear hK K
            try simp only [Act.put, List.setIfInBounds_toArray, List.set_cons_zero, List.set_cons_succ]
            refine wpAnyH_ready (rs := [12]) (by kernel_rfl) (by simp) ?_
            refine AllReadyH.cons (o := { dst := none, op := Op.store 27 (Operand.tmp 6) (Operand.tmp 49), type := 0, pos := "deep_packets.go:77", after := #[{ on := 11, ground := Ground.data }, { on := 7, ground := Ground.data }, { on := 5, ground := Ground.chain }, { on := 0, ground := Ground.phase }, { on := 1, ground := Ground.phase }, { on := 2, ground := Ground.phase }, { on := 3, ground := Ground.phase }, { on := 4, ground := Ground.phase }, { on := 5, ground := Ground.phase }, { on := 6, ground := Ground.phase }, { on := 7, ground := Ground.phase }, { on := 8, ground := Ground.textOnly Departure.lateStores }, { on := 9, ground := Ground.textOnly Departure.lateStores }, { on := 10, ground := Ground.textOnly Departure.lateStores }, { on := 11, ground := Ground.phase }], guard := none }) rfl (fun K hK => ?_) ?_
            ·
              have z0 := (blk_cell hz 0).trans rfl
              have z1 := (blk_cell hz 1).trans rfl
              have z2 := (blk_cell hz 2).trans rfl
              have z3 := (blk_cell hz 3).trans rfl
              have y0 := blk_free hz 0
              have y1 := blk_free hz 1
              have y2 := blk_free hz 2
              have y3 := blk_free hz 3
              have hst := fun u0 u1 u2 u3 => Lib.hid (And.intro (ho4.rd.gr (hG4.st4 hb4 u0 u1 u2 u3)) (hG.st4 hb u0 u1 u2 u3))
              clear hG
              go_simp
              obtain ⟨hR, hG⟩ := (hst _ _ _ _).out
              generalize hcc : World.setCell (World.setCell (World.setCell (World.setCell c4 _ _) _ _) _ _) _ _ = c5 at *
              clear hcc
              refine hK.out _ _ ⟨(HX.out.gr hG).ten, hG⟩ (fun hHeld => ?_)
              clear hK K
              try simp only [Act.put, List.setIfInBounds_toArray, List.set_cons_zero, List.set_cons_succ]
              refine wpAnyH_take (i := 13) (oi := { dst := some 7, op := Op.assign (Operand.tmp 50), type := 22, pos := "deep_packets.go:77", after := #[{ on := 8, ground := Ground.data }, { on := 12, ground := Ground.chain }, { on := 0, ground := Ground.phase }, { on := 1, ground := Ground.phase }, { on := 2, ground := Ground.phase }, { on := 3, ground := Ground.phase }, { on := 4, ground := Ground.phase }, { on := 5, ground := Ground.phase }, { on := 6, ground := Ground.phase }, { on := 7, ground := Ground.phase }, { on := 8, ground := Ground.phase }, { on := 9, ground := Ground.textOnly Departure.lateStores }, { on := 10, ground := Ground.textOnly Departure.lateStores }, { on := 11, ground := Ground.phase }, { on := 12, ground := Ground.phase }], guard := none }) (v := ?_) rfl (by kernel_rfl) (by kernel_rfl) (by kernel_rfl) (fun _ _ _ h => h) (Or.inl ⟨by rfl, ?_⟩) (by assumption) ?_
              rotate_left
              · (intro w hSw; (try dsimp only at hSw); go_simp; try with_reducible rfl)
              try simp only [Act.put, List.setIfInBounds_toArray, List.set_cons_zero, List.set_cons_succ]
              refine wpAnyH_take (i := 14) (oi := { dst := some 8, op := Op.assign (Operand.tmp 51), type := 30, pos := "deep_packets.go:77", after := #[{ on := 9, ground := Ground.data }, { on := 13, ground := Ground.chain }, { on := 0, ground := Ground.phase }, { on := 1, ground := Ground.phase }, { on := 2, ground := Ground.phase }, { on := 3, ground := Ground.phase }, { on := 4, ground := Ground.phase }, { on := 5, ground := Ground.phase }, { on := 6, ground := Ground.phase }, { on := 7, ground := Ground.phase }, { on := 8, ground := Ground.phase }, { on := 9, ground := Ground.phase }, { on := 10, ground := Ground.textOnly Departure.lateStores }, { on := 11, ground := Ground.phase }, { on := 12, ground := Ground.phase }, { on := 13, ground := Ground.phase }], guard := none }) (v := ?_) rfl (by kernel_rfl) (by kernel_rfl) (by kernel_rfl) (fun _ _ _ h => h) (Or.inl ⟨by rfl, ?_⟩) (by assumption) ?_
              rotate_left
              · (intro w hSw; (try dsimp only at hSw); go_simp; try with_reducible rfl)
              try simp only [Act.put, List.setIfInBounds_toArray, List.set_cons_zero, List.set_cons_succ]
              refine wpAnyH_take (i := 15) (oi := { dst := some 9, op := Op.assign (Operand.tmp 52), type := 4, pos := "deep_packets.go:77", after := #[{ on := 10, ground := Ground.data }, { on := 14, ground := Ground.chain }, { on := 0, ground := Ground.phase }, { on := 1, ground := Ground.phase }, { on := 2, ground := Ground.phase }, { on := 3, ground := Ground.phase }, { on := 4, ground := Ground.phase }, { on := 5, ground := Ground.phase }, { on := 6, ground := Ground.phase }, { on := 7, ground := Ground.phase }, { on := 8, ground := Ground.phase }, { on := 9, ground := Ground.phase }, { on := 10, ground := Ground.phase }, { on := 11, ground := Ground.phase }, { on := 12, ground := Ground.phase }, { on := 13, ground := Ground.phase }, { on := 14, ground := Ground.phase }], guard := none }) (v := ?_) rfl (by kernel_rfl) (by kernel_rfl) (by kernel_rfl) (fun _ _ _ h => h) (Or.inl ⟨by rfl, ?_⟩) (by assumption) ?_
              rotate_left
              · (intro w hSw; (try dsimp only at hSw); go_simp; try with_reducible rfl)
              try simp only [Act.put, List.setIfInBounds_toArray, List.set_cons_zero, List.set_cons_succ]
              refine wpAnyH_done (by kernel_rfl) ?_ _
              go_wp2_with fail
              go_meet
              exact ⟨hR, rfl, hG⟩
            exact AllReadyH.nil
          exact AllReadyH.nil
        refine AllReadyH.cons (o := { dst := some 6, op := Op.alloc 27, type := 0, pos := "deep_packets.go:77", after := #[], guard := none }) rfl (fun K hK => ?_) ?_
        ·
          have hz := heap_new_at c2 (.cells #[.int .u32 0, .int .u8 0, .int .u8 0, .int .u16 0] 27) rfl
          have hb := hG.size
          have hR := hR.gr ((Gr.refl c2).alloc (.cells #[.int .u32 0, .int .u8 0, .int .u8 0, .int .u16 0] 27))
          have hG := hG.alloc (.cells #[.int .u32 0, .int .u8 0, .int .u8 0, .int .u16 0] 27)
          go_simp
          generalize c2.heap.size = hb9 at *
          generalize hcc : c2.alloc (.cells #[.int .u32 0, .int .u8 0, .int .u8 0, .int .u16 0] 27) = c6 at *
          clear hcc
          refine hK.out _ _ ⟨(HX.out.gr hG).ten, hG⟩ (fun hHeld => ?_)
          clear hK K
          try simp only [Act.put, List.setIfInBounds_toArray, List.set_cons_zero, List.set_cons_succ]
          refine wpAnyH_ready (rs := [5]) (by kernel_rfl) (by simp) ?_
          refine AllReadyH.cons (o := { dst := some 48, op := Op.call { callee := Callee.value (Operand.func 18), args := #[Operand.tmp 43, Operand.tmp 47], argTypes := #[25, 30] }, type := 39, pos := "deep_packets.go:77", after := #[{ on := 0, ground := Ground.data }, { on := 4, ground := Ground.data }, { on := 4, ground := Ground.chain }], guard := none }) rfl (fun K hK => ?_) ?_
          ·
            go_simp
            go_at_call 18; go_must (refine ((HR _ _ _).out hR (by rw [dataL_length]; omega) (by rw [dataL_length, nums_length]; omega) (dataL_type _ _ _ _ _ _)).mono ?_); rintro e c7 ⟨u4, rfl, ho4, hg4⟩
            rw [dataL_drop] at ho4
            have hlt := lt_of_some hz
            have hz := hg4.heap hz
            have hR := ho4.rd
            have hG := hG.trans hg4
            go_wp2_with fail
            clear hg4
            refine hK.out _ _ ⟨(HX.out.gr hG).ten, hG⟩ (fun hHeld => ?_)
            clear hK K
            try simp only [Act.put, List.setIfInBounds_toArray, List.set_cons_zero, List.set_cons_succ]
            refine wpAnyH_take (i := 6) (oi := { dst := some 42, op := Op.move (Operand.tmp 48), type := 39, pos := "deep_packets.go:77", after := #[{ on := 5, ground := Ground.data }], guard := none }) (v := ?_) rfl (by kernel_rfl) (by kernel_rfl) (by kernel_rfl) (fun _ _ _ h => h) (Or.inl ⟨by rfl, ?_⟩) (by assumption) ?_
            rotate_left
            · (intro w hSw; (try dsimp only at hSw); go_simp; try with_reducible rfl)
            try simp only [Act.put, List.setIfInBounds_toArray, List.set_cons_zero, List.set_cons_succ]
            refine wpAnyH_take (i := 7) (oi := { dst := some 49, op := Op.extract (Operand.tmp 42) 0, type := 27, pos := "deep_packets.go:77", after := #[{ on := 6, ground := Ground.data }], guard := none }) (v := ?_) rfl (by kernel_rfl) (by kernel_rfl) (by kernel_rfl) (fun _ _ _ h => h) (Or.inl ⟨by rfl, ?_⟩) (by assumption) ?_
            rotate_left
            · (intro w hSw; (try dsimp only at hSw); go_simp; try with_reducible rfl)
            try simp only [Act.put, List.setIfInBounds_toArray, List.set_cons_zero, List.set_cons_succ]
            refine wpAnyH_take (i := 8) (oi := { dst := some 50, op := Op.extract (Operand.tmp 42) 1, type := 22, pos := "deep_packets.go:77", after := #[{ on := 6, ground := Ground.data }, { on := 12, ground := Ground.gcOnly Departure.lateStores }], guard := none }) (v := ?_) rfl (by kernel_rfl) (by kernel_rfl) (by kernel_rfl) (fun _ _ _ h => h) (Or.inl ⟨by rfl, ?_⟩) (by assumption) ?_
            rotate_left
            · (intro w hSw; (try dsimp only at hSw); go_simp; try with_reducible rfl)
            try simp only [Act.put, List.setIfInBounds_toArray, List.set_cons_zero, List.set_cons_succ]
            refine wpAnyH_take (i := 9) (oi := { dst := some 51, op := Op.extract (Operand.tmp 42) 2, type := 30, pos := "deep_packets.go:77", after := #[{ on := 6, ground := Ground.data }, { on := 13, ground := Ground.gcOnly Departure.lateStores }], guard := none }) (v := ?_) rfl (by kernel_rfl) (by kernel_rfl) (by kernel_rfl) (fun _ _ _ h => h) (Or.inl ⟨by rfl, ?_⟩) (by assumption) ?_
            rotate_left
            · (intro w hSw; (try dsimp only at hSw); go_simp; try with_reducible rfl)
            try simp only [Act.put, List.setIfInBounds_toArray, List.set_cons_zero, List.set_cons_succ]
            refine wpAnyH_take (i := 10) (oi := { dst := some 52, op := Op.extract (Operand.tmp 42) 3, type := 4, pos := "deep_packets.go:77", after := #[{ on := 6, ground := Ground.data }, { on := 14, ground := Ground.gcOnly Departure.lateStores }], guard := none }) (v := ?_) rfl (by kernel_rfl) (by kernel_rfl) (by kernel_rfl) (fun _ _ _ h => h) (Or.inl ⟨by rfl, ?_⟩) (by assumption) ?_
            rotate_left
            · (intro w hSw; (try dsimp only at hSw); go_simp; try with_reducible rfl)
            try simp only [Act.put, List.setIfInBounds_toArray, List.set_cons_zero, List.set_cons_succ]
            refine wpAnyH_ready (rs := [12]) (by kernel_rfl) (by simp) ?_
            refine AllReadyH.cons (o := { dst := none, op := Op.store 27 (Operand.tmp 6) (Operand.tmp 49), type := 0, pos := "deep_packets.go:77", after := #[{ on := 11, ground := Ground.data }, { on := 7, ground := Ground.data }, { on := 5, ground := Ground.chain }, { on := 0, ground := Ground.phase }, { on := 1, ground := Ground.phase }, { on := 2, ground := Ground.phase }, { on := 3, ground := Ground.phase }, { on := 4, ground := Ground.phase }, { on := 5, ground := Ground.phase }, { on := 6, ground := Ground.phase }, { on := 7, ground := Ground.phase }, { on := 8, ground := Ground.textOnly Departure.lateStores }, { on := 9, ground := Ground.textOnly Departure.lateStores }, { on := 10, ground := Ground.textOnly Departure.lateStores }, { on := 11, ground := Ground.phase }], guard := none }) rfl (fun K hK => ?_) ?_
            ·
              have z0 := (blk_cell hz 0).trans rfl
              have z1 := (blk_cell hz 1).trans rfl
              have z2 := (blk_cell hz 2).trans rfl
              have z3 := (blk_cell hz 3).trans rfl
              have y0 := blk_free hz 0
              have y1 := blk_free hz 1
              have y2 := blk_free hz 2
              have y3 := blk_free hz 3
              have hst := fun u0 u1 u2 u3 => Lib.hid (And.intro (ho4.st4 hlt u0 u1 u2 u3).rd (hG.st4 hb u0 u1 u2 u3))
              clear hG
              go_simp
              obtain ⟨hR, hG⟩ := (hst _ _ _ _).out
              generalize hcc : World.setCell (World.setCell (World.setCell (World.setCell c7 _ _) _ _) _ _) _ _ = c8 at *
              clear hcc
              refine hK.out _ _ ⟨(HX.out.gr hG).ten, hG⟩ (fun hHeld => ?_)
              clear hK K
              try simp only [Act.put, List.setIfInBounds_toArray, List.set_cons_zero, List.set_cons_succ]
              refine wpAnyH_take (i := 13) (oi := { dst := some 7, op := Op.assign (Operand.tmp 50), type := 22, pos := "deep_packets.go:77", after := #[{ on := 8, ground := Ground.data }, { on := 12, ground := Ground.chain }, { on := 0, ground := Ground.phase }, { on := 1, ground := Ground.phase }, { on := 2, ground := Ground.phase }, { on := 3, ground := Ground.phase }, { on := 4, ground := Ground.phase }, { on := 5, ground := Ground.phase }, { on := 6, ground := Ground.phase }, { on := 7, ground := Ground.phase }, { on := 8, ground := Ground.phase }, { on := 9, ground := Ground.textOnly Departure.lateStores }, { on := 10, ground := Ground.textOnly Departure.lateStores }, { on := 11, ground := Ground.phase }, { on := 12, ground := Ground.phase }], guard := none }) (v := ?_) rfl (by kernel_rfl) (by kernel_rfl) (by kernel_rfl) (fun _ _ _ h => h) (Or.inl ⟨by rfl, ?_⟩) (by assumption) ?_
              rotate_left
              · (intro w hSw; (try dsimp only at hSw); go_simp; try with_reducible rfl)
              try simp only [Act.put, List.setIfInBounds_toArray, List.set_cons_zero, List.set_cons_succ]
              refine wpAnyH_take (i := 14) (oi := { dst := some 8, op := Op.assign (Operand.tmp 51), type := 30, pos := "deep_packets.go:77", after := #[{ on := 9, ground := Ground.data }, { on := 13, ground := Ground.chain }, { on := 0, ground := Ground.phase }, { on := 1, ground := Ground.phase }, { on := 2, ground := Ground.phase }, { on := 3, ground := Ground.phase }, { on := 4, ground := Ground.phase }, { on := 5, ground := Ground.phase }, { on := 6, ground := Ground.phase }, { on := 7, ground := Ground.phase }, { on := 8, ground := Ground.phase }, { on := 9, ground := Ground.phase }, { on := 10, ground := Ground.textOnly Departure.lateStores }, { on := 11, ground := Ground.phase }, { on := 12, ground := Ground.phase }, { on := 13, ground := Ground.phase }], guard := none }) (v := ?_) rfl (by kernel_rfl) (by kernel_rfl) (by kernel_rfl) (fun _ _ _ h => h) (Or.inl ⟨by rfl, ?_⟩) (by assumption) ?_
              rotate_left
              · (intro w hSw; (try dsimp only at hSw); go_simp; try with_reducible rfl)
              try simp only [Act.put, List.setIfInBounds_toArray, List.set_cons_zero, List.set_cons_succ]
              refine wpAnyH_take (i := 15) (oi := { dst := some 9, op := Op.assign (Operand.tmp 52), type := 4, pos := "deep_packets.go:77", after := #[{ on := 10, ground := Ground.data }, { on := 14, ground := Ground.chain }, { on := 0, ground := Ground.phase }, { on := 1, ground := Ground.phase }, { on := 2, ground := Ground.phase }, { on := 3, ground := Ground.phase }, { on := 4, ground := Ground.phase }, { on := 5, ground := Ground.phase }, { on := 6, ground := Ground.phase }, { on := 7, ground := Ground.phase }, { on := 8, ground := Ground.phase }, { on := 9, ground := Ground.phase }, { on := 10, ground := Ground.phase }, { on := 11, ground := Ground.phase }, { on := 12, ground := Ground.phase }, { on := 13, ground := Ground.phase }, { on := 14, ground := Ground.phase }], guard := none }) (v := ?_) rfl (by kernel_rfl) (by kernel_rfl) (by kernel_rfl) (fun _ _ _ h => h) (Or.inl ⟨by rfl, ?_⟩) (by assumption) ?_
              rotate_left
              · (intro w hSw; (try dsimp only at hSw); go_simp; try with_reducible rfl)
              try simp only [Act.put, List.setIfInBounds_toArray, List.set_cons_zero, List.set_cons_succ]
              refine wpAnyH_done (by kernel_rfl) ?_ _
              go_wp2_with fail
              go_meet
              exact ⟨hR, rfl, hG⟩
            exact AllReadyH.nil
          exact AllReadyH.nil
        exact AllReadyH.nil
      refine AllReadyH.cons (o := { dst := some 6, op := Op.alloc 27, type := 0, pos := "deep_packets.go:77", after := #[], guard := none }) rfl (fun K hK => ?_) ?_
      ·
        have hz := heap_new_at c1 (.cells #[.int .u32 0, .int .u8 0, .int .u8 0, .int .u16 0] 27) rfl
        have hb := hG.size
        have hR := hR.gr ((Gr.refl c1).alloc (.cells #[.int .u32 0, .int .u8 0, .int .u8 0, .int .u16 0] 27))
        have hG := hG.alloc (.cells #[.int .u32 0, .int .u8 0, .int .u8 0, .int .u16 0] 27)
        go_simp
        generalize c1.heap.size = hb9 at *
        generalize hcc : c1.alloc (.cells #[.int .u32 0, .int .u8 0, .int .u8 0, .int .u16 0] 27) = c9 at *
        clear hcc
        refine hK.out _ _ ⟨(HX.out.gr hG).ten, hG⟩ (fun hHeld => ?_)
        clear hK K
        try simp only [Act.put, List.setIfInBounds_toArray, List.set_cons_zero, List.set_cons_succ]
        refine wpAnyH_ready (rs := [4]) (by kernel_rfl) (by simp) ?_
        refine AllReadyH.cons (o := { dst := some 47, op := Op.call { callee := Callee.value (Operand.func 17), args := #[Operand.tmp 44, Operand.tmp 46], argTypes := #[25, 30] }, type := 30, pos := "deep_packets.go:77", after := #[{ on := 1, ground := Ground.data }, { on := 3, ground := Ground.data }], guard := none }) rfl (fun K hK => ?_) ?_
        ·
          go_simp
          go_at_call 17; go_must (refine ((HB _ (nums s) _).out hR (by rw [nums_length]; omega)).mono ?_); rintro e c10 ⟨u3, rfl, ho3, hg3⟩
          have hR := ho3.rd
          have hG := hG.trans hg3
          have hz := hg3.heap hz
          go_wp2_with fail
          clear hg3 ho3
          refine hK.out _ _ ⟨(HX.out.gr hG).ten, hG⟩ (fun hHeld => ?_)
          clear hK K
          try simp only [Act.put, List.setIfInBounds_toArray, List.set_cons_zero, List.set_cons_succ]
          refine wpAnyH_ready (rs := [5]) (by kernel_rfl) (by simp) ?_
          refine AllReadyH.cons (o := { dst := some 48, op := Op.call { callee := Callee.value (Operand.func 18), args := #[Operand.tmp 43, Operand.tmp 47], argTypes := #[25, 30] }, type := 39, pos := "deep_packets.go:77", after := #[{ on := 0, ground := Ground.data }, { on := 4, ground := Ground.data }, { on := 4, ground := Ground.chain }], guard := none }) rfl (fun K hK => ?_) ?_
          ·
            go_simp
            go_at_call 18; go_must (refine ((HR _ _ _).out hR (by rw [dataL_length]; omega) (by rw [dataL_length, nums_length]; omega) (dataL_type _ _ _ _ _ _)).mono ?_); rintro e c11 ⟨u4, rfl, ho4, hg4⟩
            rw [dataL_drop] at ho4
            have hlt := lt_of_some hz
            have hz := hg4.heap hz
            have hR := ho4.rd
            have hG := hG.trans hg4
            go_wp2_with fail
            clear hg4
            refine hK.out _ _ ⟨(HX.out.gr hG).ten, hG⟩ (fun hHeld => ?_)
            clear hK K
            try simp only [Act.put, List.setIfInBounds_toArray, List.set_cons_zero, List.set_cons_succ]
            refine wpAnyH_take (i := 6) (oi := { dst := some 42, op := Op.move (Operand.tmp 48), type := 39, pos := "deep_packets.go:77", after := #[{ on := 5, ground := Ground.data }], guard := none }) (v := ?_) rfl (by kernel_rfl) (by kernel_rfl) (by kernel_rfl) (fun _ _ _ h => h) (Or.inl ⟨by rfl, ?_⟩) (by assumption) ?_
            rotate_left
            · (intro w hSw; (try dsimp only at hSw); go_simp; try with_reducible rfl)
            try simp only [Act.put, List.setIfInBounds_toArray, List.set_cons_zero, List.set_cons_succ]
            refine wpAnyH_take (i := 7) (oi := { dst := some 49, op := Op.extract (Operand.tmp 42) 0, type := 27, pos := "deep_packets.go:77", after := #[{ on := 6, ground := Ground.data }], guard := none }) (v := ?_) rfl (by kernel_rfl) (by kernel_rfl) (by kernel_rfl) (fun _ _ _ h => h) (Or.inl ⟨by rfl, ?_⟩) (by assumption) ?_
            rotate_left
            · (intro w hSw; (try dsimp only at hSw); go_simp; try with_reducible rfl)
            try simp only [Act.put, List.setIfInBounds_toArray, List.set_cons_zero, List.set_cons_succ]
            refine wpAnyH_take (i := 8) (oi := { dst := some 50, op := Op.extract (Operand.tmp 42) 1, type := 22, pos := "deep_packets.go:77", after := #[{ on := 6, ground := Ground.data }, { on := 12, ground := Ground.gcOnly Departure.lateStores }], guard := none }) (v := ?_) rfl (by kernel_rfl) (by kernel_rfl) (by kernel_rfl) (fun _ _ _ h => h) (Or.inl ⟨by rfl, ?_⟩) (by assumption) ?_
            rotate_left
            · (intro w hSw; (try dsimp only at hSw); go_simp; try with_reducible rfl)
            try simp only [Act.put, List.setIfInBounds_toArray, List.set_cons_zero, List.set_cons_succ]
            refine wpAnyH_take (i := 9) (oi := { dst := some 51, op := Op.extract (Operand.tmp 42) 2, type := 30, pos := "deep_packets.go:77", after := #[{ on := 6, ground := Ground.data }, { on := 13, ground := Ground.gcOnly Departure.lateStores }], guard := none }) (v := ?_) rfl (by kernel_rfl) (by kernel_rfl) (by kernel_rfl) (fun _ _ _ h => h) (Or.inl ⟨by rfl, ?_⟩) (by assumption) ?_
            rotate_left
            · (intro w hSw; (try dsimp only at hSw); go_simp; try with_reducible rfl)
            try simp only [Act.put, List.setIfInBounds_toArray, List.set_cons_zero, List.set_cons_succ]
            refine wpAnyH_take (i := 10) (oi := { dst := some 52, op := Op.extract (Operand.tmp 42) 3, type := 4, pos := "deep_packets.go:77", after := #[{ on := 6, ground := Ground.data }, { on := 14, ground := Ground.gcOnly Departure.lateStores }], guard := none }) (v := ?_) rfl (by kernel_rfl) (by kernel_rfl) (by kernel_rfl) (fun _ _ _ h => h) (Or.inl ⟨by rfl, ?_⟩) (by assumption) ?_
            rotate_left
            · (intro w hSw; (try dsimp only at hSw); go_simp; try with_reducible rfl)
            try simp only [Act.put, List.setIfInBounds_toArray, List.set_cons_zero, List.set_cons_succ]
            refine wpAnyH_ready (rs := [12]) (by kernel_rfl) (by simp) ?_
            refine AllReadyH.cons (o := { dst := none, op := Op.store 27 (Operand.tmp 6) (Operand.tmp 49), type := 0, pos := "deep_packets.go:77", after := #[{ on := 11, ground := Ground.data }, { on := 7, ground := Ground.data }, { on := 5, ground := Ground.chain }, { on := 0, ground := Ground.phase }, { on := 1, ground := Ground.phase }, { on := 2, ground := Ground.phase }, { on := 3, ground := Ground.phase }, { on := 4, ground := Ground.phase }, { on := 5, ground := Ground.phase }, { on := 6, ground := Ground.phase }, { on := 7, ground := Ground.phase }, { on := 8, ground := Ground.textOnly Departure.lateStores }, { on := 9, ground := Ground.textOnly Departure.lateStores }, { on := 10, ground := Ground.textOnly Departure.lateStores }, { on := 11, ground := Ground.phase }], guard := none }) rfl (fun K hK => ?_) ?_
            ·
              have z0 := (blk_cell hz 0).trans rfl
              have z1 := (blk_cell hz 1).trans rfl
              have z2 := (blk_cell hz 2).trans rfl
              have z3 := (blk_cell hz 3).trans rfl
              have y0 := blk_free hz 0
              have y1 := blk_free hz 1
              have y2 := blk_free hz 2
              have y3 := blk_free hz 3
              have hst := fun u0 u1 u2 u3 => Lib.hid (And.intro (ho4.st4 hlt u0 u1 u2 u3).rd (hG.st4 hb u0 u1 u2 u3))
              clear hG
              go_simp
              obtain ⟨hR, hG⟩ := (hst _ _ _ _).out
              generalize hcc : World.setCell (World.setCell (World.setCell (World.setCell c11 _ _) _ _) _ _) _ _ = c12 at *
              clear hcc
              refine hK.out _ _ ⟨(HX.out.gr hG).ten, hG⟩ (fun hHeld => ?_)
              clear hK K
              try simp only [Act.put, List.setIfInBounds_toArray, List.set_cons_zero, List.set_cons_succ]
              refine wpAnyH_take (i := 13) (oi := { dst := some 7, op := Op.assign (Operand.tmp 50), type := 22, pos := "deep_packets.go:77", after := #[{ on := 8, ground := Ground.data }, { on := 12, ground := Ground.chain }, { on := 0, ground := Ground.phase }, { on := 1, ground := Ground.phase }, { on := 2, ground := Ground.phase }, { on := 3, ground := Ground.phase }, { on := 4, ground := Ground.phase }, { on := 5, ground := Ground.phase }, { on := 6, ground := Ground.phase }, { on := 7, ground := Ground.phase }, { on := 8, ground := Ground.phase }, { on := 9, ground := Ground.textOnly Departure.lateStores }, { on := 10, ground := Ground.textOnly Departure.lateStores }, { on := 11, ground := Ground.phase }, { on := 12, ground := Ground.phase }], guard := none }) (v := ?_) rfl (by kernel_rfl) (by kernel_rfl) (by kernel_rfl) (fun _ _ _ h => h) (Or.inl ⟨by rfl, ?_⟩) (by assumption) ?_
              rotate_left
              · (intro w hSw; (try dsimp only at hSw); go_simp; try with_reducible rfl)
              try simp only [Act.put, List.setIfInBounds_toArray, List.set_cons_zero, List.set_cons_succ]
              refine wpAnyH_take (i := 14) (oi := { dst := some 8, op := Op.assign (Operand.tmp 51), type := 30, pos := "deep_packets.go:77", after := #[{ on := 9, ground := Ground.data }, { on := 13, ground := Ground.chain }, { on := 0, ground := Ground.phase }, { on := 1, ground := Ground.phase }, { on := 2, ground := Ground.phase }, { on := 3, ground := Ground.phase }, { on := 4, ground := Ground.phase }, { on := 5, ground := Ground.phase }, { on := 6, ground := Ground.phase }, { on := 7, ground := Ground.phase }, { on := 8, ground := Ground.phase }, { on := 9, ground := Ground.phase }, { on := 10, ground := Ground.textOnly Departure.lateStores }, { on := 11, ground := Ground.phase }, { on := 12, ground := Ground.phase }, { on := 13, ground := Ground.phase }], guard := none }) (v := ?_) rfl (by kernel_rfl) (by kernel_rfl) (by kernel_rfl) (fun _ _ _ h => h) (Or.inl ⟨by rfl, ?_⟩) (by assumption) ?_
              rotate_left
              · (intro w hSw; (try dsimp only at hSw); go_simp; try with_reducible rfl)
              try simp only [Act.put, List.setIfInBounds_toArray, List.set_cons_zero, List.set_cons_succ]
              refine wpAnyH_take (i := 15) (oi := { dst := some 9, op := Op.assign (Operand.tmp 52), type := 4, pos := "deep_packets.go:77", after := #[{ on := 10, ground := Ground.data }, { on := 14, ground := Ground.chain }, { on := 0, ground := Ground.phase }, { on := 1, ground := Ground.phase }, { on := 2, ground := Ground.phase }, { on := 3, ground := Ground.phase }, { on := 4, ground := Ground.phase }, { on := 5, ground := Ground.phase }, { on := 6, ground := Ground.phase }, { on := 7, ground := Ground.phase }, { on := 8, ground := Ground.phase }, { on := 9, ground := Ground.phase }, { on := 10, ground := Ground.phase }, { on := 11, ground := Ground.phase }, { on := 12, ground := Ground.phase }, { on := 13, ground := Ground.phase }, { on := 14, ground := Ground.phase }], guard := none }) (v := ?_) rfl (by kernel_rfl) (by kernel_rfl) (by kernel_rfl) (fun _ _ _ h => h) (Or.inl ⟨by rfl, ?_⟩) (by assumption) ?_
              rotate_left
              · (intro w hSw; (try dsimp only at hSw); go_simp; try with_reducible rfl)
              try simp only [Act.put, List.setIfInBounds_toArray, List.set_cons_zero, List.set_cons_succ]
              refine wpAnyH_done (by kernel_rfl) ?_ _
              go_wp2_with fail
              go_meet
              exact ⟨hR, rfl, hG⟩
            exact AllReadyH.nil
          exact AllReadyH.nil
        exact AllReadyH.nil
      exact AllReadyH.nil
    refine AllReadyH.cons (o := { dst := some 6, op := Op.alloc 27, type := 0, pos := "deep_packets.go:77", after := #[], guard := none }) rfl (fun K hK => ?_) ?_
    ·
      have hz := heap_new_at c0 (.cells #[.int .u32 0, .int .u8 0, .int .u8 0, .int .u16 0] 27) rfl
      have hb := hG.size
      have hG := hG.alloc (.cells #[.int .u32 0, .int .u8 0, .int .u8 0, .int .u16 0] 27)
      go_simp
      generalize c0.heap.size = hb9 at *
      generalize hcc : c0.alloc (.cells #[.int .u32 0, .int .u8 0, .int .u8 0, .int .u16 0] 27) = c13 at *
      clear hcc
      refine hK.out _ _ ⟨(HX.out.gr hG).ten, hG⟩ (fun hHeld => ?_)
      clear hK K
      try simp only [Act.put, List.setIfInBounds_toArray, List.set_cons_zero, List.set_cons_succ]
      refine wpAnyH_ready (rs := [3]) (by kernel_rfl) (by simp) ?_
      refine AllReadyH.cons (o := { dst := some 46, op := Op.convert 9 30 (Operand.tmp 45), type := 30, pos := "deep_packets.go:77", after := #[{ on := 2, ground := Ground.data }], guard := none }) rfl (fun K hK => ?_) ?_
      ·
        obtain ⟨C, c14, hcv, hrd, hg, k1, k2⟩ := bytes_of_str s c13 (by simp only [maxLen]; omega)
        have hR := hrd.rd (nums_length s) k1 k2
        have hz := hg.heap hz
        have hG := hG.trans hg
        go_simp
        clear hcv hrd hg
        refine hK.out _ _ ⟨(HX.out.gr hG).ten, hG⟩ (fun hHeld => ?_)
        clear hK K
        try simp only [Act.put, List.setIfInBounds_toArray, List.set_cons_zero, List.set_cons_succ]
        refine wpAnyH_ready (rs := [4]) (by kernel_rfl) (by simp) ?_
        refine AllReadyH.cons (o := { dst := some 47, op := Op.call { callee := Callee.value (Operand.func 17), args := #[Operand.tmp 44, Operand.tmp 46], argTypes := #[25, 30] }, type := 30, pos := "deep_packets.go:77", after := #[{ on := 1, ground := Ground.data }, { on := 3, ground := Ground.data }], guard := none }) rfl (fun K hK => ?_) ?_
        ·
          go_simp
          go_at_call 17; go_must (refine ((HB _ (nums s) _).out hR (by rw [nums_length]; omega)).mono ?_); rintro e c15 ⟨u3, rfl, ho3, hg3⟩
          have hR := ho3.rd
          have hG := hG.trans hg3
          have hz := hg3.heap hz
          go_wp2_with fail
          clear hg3 ho3
          refine hK.out _ _ ⟨(HX.out.gr hG).ten, hG⟩ (fun hHeld => ?_)
          clear hK K
          try simp only [Act.put, List.setIfInBounds_toArray, List.set_cons_zero, List.set_cons_succ]
          refine wpAnyH_ready (rs := [5]) (by kernel_rfl) (by simp) ?_
          refine AllReadyH.cons (o := { dst := some 48, op := Op.call { callee := Callee.value (Operand.func 18), args := #[Operand.tmp 43, Operand.tmp 47], argTypes := #[25, 30] }, type := 39, pos := "deep_packets.go:77", after := #[{ on := 0, ground := Ground.data }, { on := 4, ground := Ground.data }, { on := 4, ground := Ground.chain }], guard := none }) rfl (fun K hK => ?_) ?_
          ·
            go_simp
            go_at_call 18; go_must (refine ((HR _ _ _).out hR (by rw [dataL_length]; omega) (by rw [dataL_length, nums_length]; omega) (dataL_type _ _ _ _ _ _)).mono ?_); rintro e c16 ⟨u4, rfl, ho4, hg4⟩
            rw [dataL_drop] at ho4
            have hlt := lt_of_some hz
            have hz := hg4.heap hz
            have hR := ho4.rd
            have hG := hG.trans hg4
            go_wp2_with fail
            clear hg4
            refine hK.out _ _ ⟨(HX.out.gr hG).ten, hG⟩ (fun hHeld => ?_)
            clear hK K
            try simp only [Act.put, List.setIfInBounds_toArray, List.set_cons_zero, List.set_cons_succ]
            refine wpAnyH_take (i := 6) (oi := { dst := some 42, op := Op.move (Operand.tmp 48), type := 39, pos := "deep_packets.go:77", after := #[{ on := 5, ground := Ground.data }], guard := none }) (v := ?_) rfl (by kernel_rfl) (by kernel_rfl) (by kernel_rfl) (fun _ _ _ h => h) (Or.inl ⟨by rfl, ?_⟩) (by assumption) ?_
            rotate_left
            · (intro w hSw; (try dsimp only at hSw); go_simp; try with_reducible rfl)
            try simp only [Act.put, List.setIfInBounds_toArray, List.set_cons_zero, List.set_cons_succ]
            refine wpAnyH_take (i := 7) (oi := { dst := some 49, op := Op.extract (Operand.tmp 42) 0, type := 27, pos := "deep_packets.go:77", after := #[{ on := 6, ground := Ground.data }], guard := none }) (v := ?_) rfl (by kernel_rfl) (by kernel_rfl) (by kernel_rfl) (fun _ _ _ h => h) (Or.inl ⟨by rfl, ?_⟩) (by assumption) ?_
            rotate_left
            · (intro w hSw; (try dsimp only at hSw); go_simp; try with_reducible rfl)
            try simp only [Act.put, List.setIfInBounds_toArray, List.set_cons_zero, List.set_cons_succ]
            refine wpAnyH_take (i := 8) (oi := { dst := some 50, op := Op.extract (Operand.tmp 42) 1, type := 22, pos := "deep_packets.go:77", after := #[{ on := 6, ground := Ground.data }, { on := 12, ground := Ground.gcOnly Departure.lateStores }], guard := none }) (v := ?_) rfl (by kernel_rfl) (by kernel_rfl) (by kernel_rfl) (fun _ _ _ h => h) (Or.inl ⟨by rfl, ?_⟩) (by assumption) ?_
            rotate_left
            · (intro w hSw; (try dsimp only at hSw); go_simp; try with_reducible rfl)
            try simp only [Act.put, List.setIfInBounds_toArray, List.set_cons_zero, List.set_cons_succ]
            refine wpAnyH_take (i := 9) (oi := { dst := some 51, op := Op.extract (Operand.tmp 42) 2, type := 30, pos := "deep_packets.go:77", after := #[{ on := 6, ground := Ground.data }, { on := 13, ground := Ground.gcOnly Departure.lateStores }], guard := none }) (v := ?_) rfl (by kernel_rfl) (by kernel_rfl) (by kernel_rfl) (fun _ _ _ h => h) (Or.inl ⟨by rfl, ?_⟩) (by assumption) ?_
            rotate_left
            · (intro w hSw; (try dsimp only at hSw); go_simp; try with_reducible rfl)
            try simp only [Act.put, List.setIfInBounds_toArray, List.set_cons_zero, List.set_cons_succ]
            refine wpAnyH_take (i := 10) (oi := { dst := some 52, op := Op.extract (Operand.tmp 42) 3, type := 4, pos := "deep_packets.go:77", after := #[{ on := 6, ground := Ground.data }, { on := 14, ground := Ground.gcOnly Departure.lateStores }], guard := none }) (v := ?_) rfl (by kernel_rfl) (by kernel_rfl) (by kernel_rfl) (fun _ _ _ h => h) (Or.inl ⟨by rfl, ?_⟩) (by assumption) ?_
            rotate_left
            · (intro w hSw; (try dsimp only at hSw); go_simp; try with_reducible rfl)
            try simp only [Act.put, List.setIfInBounds_toArray, List.set_cons_zero, List.set_cons_succ]
            refine wpAnyH_ready (rs := [12]) (by kernel_rfl) (by simp) ?_
            refine AllReadyH.cons (o := { dst := none, op := Op.store 27 (Operand.tmp 6) (Operand.tmp 49), type := 0, pos := "deep_packets.go:77", after := #[{ on := 11, ground := Ground.data }, { on := 7, ground := Ground.data }, { on := 5, ground := Ground.chain }, { on := 0, ground := Ground.phase }, { on := 1, ground := Ground.phase }, { on := 2, ground := Ground.phase }, { on := 3, ground := Ground.phase }, { on := 4, ground := Ground.phase }, { on := 5, ground := Ground.phase }, { on := 6, ground := Ground.phase }, { on := 7, ground := Ground.phase }, { on := 8, ground := Ground.textOnly Departure.lateStores }, { on := 9, ground := Ground.textOnly Departure.lateStores }, { on := 10, ground := Ground.textOnly Departure.lateStores }, { on := 11, ground := Ground.phase }], guard := none }) rfl (fun K hK => ?_) ?_
            ·
              have z0 := (blk_cell hz 0).trans rfl
              have z1 := (blk_cell hz 1).trans rfl
              have z2 := (blk_cell hz 2).trans rfl
              have z3 := (blk_cell hz 3).trans rfl
              have y0 := blk_free hz 0
              have y1 := blk_free hz 1
              have y2 := blk_free hz 2
              have y3 := blk_free hz 3
              have hst := fun u0 u1 u2 u3 => Lib.hid (And.intro (ho4.st4 hlt u0 u1 u2 u3).rd (hG.st4 hb u0 u1 u2 u3))
              clear hG
              go_simp
              obtain ⟨hR, hG⟩ := (hst _ _ _ _).out
              generalize hcc : World.setCell (World.setCell (World.setCell (World.setCell c16 _ _) _ _) _ _) _ _ = c17 at *
              clear hcc
              refine hK.out _ _ ⟨(HX.out.gr hG).ten, hG⟩ (fun hHeld => ?_)
              clear hK K
              try simp only [Act.put, List.setIfInBounds_toArray, List.set_cons_zero, List.set_cons_succ]
              refine wpAnyH_take (i := 13) (oi := { dst := some 7, op := Op.assign (Operand.tmp 50), type := 22, pos := "deep_packets.go:77", after := #[{ on := 8, ground := Ground.data }, { on := 12, ground := Ground.chain }, { on := 0, ground := Ground.phase }, { on := 1, ground := Ground.phase }, { on := 2, ground := Ground.phase }, { on := 3, ground := Ground.phase }, { on := 4, ground := Ground.phase }, { on := 5, ground := Ground.phase }, { on := 6, ground := Ground.phase }, { on := 7, ground := Ground.phase }, { on := 8, ground := Ground.phase }, { on := 9, ground := Ground.textOnly Departure.lateStores }, { on := 10, ground := Ground.textOnly Departure.lateStores }, { on := 11, ground := Ground.phase }, { on := 12, ground := Ground.phase }], guard := none }) (v := ?_) rfl (by kernel_rfl) (by kernel_rfl) (by kernel_rfl) (fun _ _ _ h => h) (Or.inl ⟨by rfl, ?_⟩) (by assumption) ?_
              rotate_left
              · (intro w hSw; (try dsimp only at hSw); go_simp; try with_reducible rfl)
              try simp only [Act.put, List.setIfInBounds_toArray, List.set_cons_zero, List.set_cons_succ]
              refine wpAnyH_take (i := 14) (oi := { dst := some 8, op := Op.assign (Operand.tmp 51), type := 30, pos := "deep_packets.go:77", after := #[{ on := 9, ground := Ground.data }, { on := 13, ground := Ground.chain }, { on := 0, ground := Ground.phase }, { on := 1, ground := Ground.phase }, { on := 2, ground := Ground.phase }, { on := 3, ground := Ground.phase }, { on := 4, ground := Ground.phase }, { on := 5, ground := Ground.phase }, { on := 6, ground := Ground.phase }, { on := 7, ground := Ground.phase }, { on := 8, ground := Ground.phase }, { on := 9, ground := Ground.phase }, { on := 10, ground := Ground.textOnly Departure.lateStores }, { on := 11, ground := Ground.phase }, { on := 12, ground := Ground.phase }, { on := 13, ground := Ground.phase }], guard := none }) (v := ?_) rfl (by kernel_rfl) (by kernel_rfl) (by kernel_rfl) (fun _ _ _ h => h) (Or.inl ⟨by rfl, ?_⟩) (by assumption) ?_
              rotate_left
              · (intro w hSw; (try dsimp only at hSw); go_simp; try with_reducible rfl)
              try simp only [Act.put, List.setIfInBounds_toArray, List.set_cons_zero, List.set_cons_succ]
              refine wpAnyH_take (i := 15) (oi := { dst := some 9, op := Op.assign (Operand.tmp 52), type := 4, pos := "deep_packets.go:77", after := #[{ on := 10, ground := Ground.data }, { on := 14, ground := Ground.chain }, { on := 0, ground := Ground.phase }, { on := 1, ground := Ground.phase }, { on := 2, ground := Ground.phase }, { on := 3, ground := Ground.phase }, { on := 4, ground := Ground.phase }, { on := 5, ground := Ground.phase }, { on := 6, ground := Ground.phase }, { on := 7, ground := Ground.phase }, { on := 8, ground := Ground.phase }, { on := 9, ground := Ground.phase }, { on := 10, ground := Ground.phase }, { on := 11, ground := Ground.phase }, { on := 12, ground := Ground.phase }, { on := 13, ground := Ground.phase }, { on := 14, ground := Ground.phase }], guard := none }) (v := ?_) rfl (by kernel_rfl) (by kernel_rfl) (by kernel_rfl) (fun _ _ _ h => h) (Or.inl ⟨by rfl, ?_⟩) (by assumption) ?_
              rotate_left
              · (intro w hSw; (try dsimp only at hSw); go_simp; try with_reducible rfl)
              try simp only [Act.put, List.setIfInBounds_toArray, List.set_cons_zero, List.set_cons_succ]
              refine wpAnyH_done (by kernel_rfl) ?_ _
              go_wp2_with fail
              go_meet
              exact ⟨hR, rfl, hG⟩
            exact AllReadyH.nil
          exact AllReadyH.nil
        exact AllReadyH.nil
      exact AllReadyH.nil
    exact AllReadyH.nil
    -- END
  case rest =>
    obtain ⟨hu, rfl, hgc⟩ := hcut
    have hu2 := hu
    obtain ⟨b4, o4, c4, hv, hc4, hm4, hat⟩ := hu2.at' (by rw [nums_length]; omega)
    rw [nums_length] at hv
    subst hv
    have hst := str_back _ _ s _ hu
    have HGC := Lib.hid hgc
    clear hu hc4 hm4 hat hgc
    go_wp2_with (first
      | (go_at_call 10; refine (packetAwake _).mono ?_; rintro e w4 ⟨rfl, hg4⟩))
    go_ret
    exact ⟨rfl, Gr.trans ((Gr.refl w).alloc _) (HG.out.trans (HGC.out.trans hg4))⟩

theorem law_carried (c : Ctx) (hc : c.ok) (s : ByteArray) (w : World) :
    Calls Tryd.prog 9 #[c.val, .string s] w fun e w' => e = .returned (.bool true) ∧ Gr w w' := by
  by_cases h1 : s.size ≤ 230
  · exact law_carried_short c hc s w h1
  · by_cases h2 : s.size ≤ 2000
    · exact law_carried_long c hc s w (by omega) h2
    · unfold Ctx.val
      by_cases h3 : 2147483647 < s.size
      · go_enter Tryd.func9, Tryd.ntmps9
        go_wp2_with fail
        go_ret
        exact ⟨rfl, (Gr.refl w).alloc _⟩
      · go_enter Tryd.func9, Tryd.ntmps9
        go_wp2_with (first | (go_at_call 10; refine (packetAwake _).mono ?_; rintro e w4 ⟨rfl, hg4⟩))
        go_ret
        exact ⟨rfl, Gr.trans ((Gr.refl w).alloc _) hg4⟩
end Go.Proofs.YtoaajnhbcekglaaDoor
