/- Packets ACCEPT: what is told of them. -/
import Derived.Test.YtoaajnhbcekglaaDoorPkAc
namespace Go.Proofs.YtoaajnhbcekglaaDoor
open Go Go.RowKit

theorem Own.but {B : Nat} {a w : World} {v : Value} {xs : List Int} (r : Own B a v xs) {Z : Nat} (hZ : Z < B) (g : ∀ k o, k ≠ Z → a.heap[k]? = some o → w.heap[k]? = some o) : Own B w v xs := by
  obtain ⟨⟨h1, h2⟩, h3⟩ := r
  refine ⟨⟨h1, ?_⟩, h3⟩
  rcases h2 with h2 | ⟨g', cap, cur, hv, hg, hh, r⟩
  · exact Or.inl h2
  · exact Or.inr ⟨g', cap, cur, hv, hg, g _ _ (by omega) hh, r⟩

set_option maxRecDepth 100000 in
theorem net_AcceptRead (xs : List Int) (v : Value) (w : World) (h : Rd w v xs) (h41 : 41 ≤ xs.length) (hn2 : xs.length ≤ 60000) (h28 : nat2 (xs.drop 28) = 0)
    (D : Nat) (hD : D ≤ xs.length) (h20 : nat2 (xs.drop 20) = (D : Int)) (h18 : nat2 (xs.drop 18) = ((xs.length - D : Nat) : Int)) (hfl : bits .and .u8 (xs.getD 5 0) 1 = 0) :
    Calls Tryd.prog 37 #[v] w fun e w' => ∃ J K u, e = .returned (.tuple #[.pointer (some ⟨J, 0, none⟩), u]) ∧ Rd w' u (xs.drop D) ∧
      w'.heap[J]? = some (.cells #[.int .u16 (D : Nat), .int .u32 (nat2 xs), .int .u8 (xs.getD 4 0), .int .u8 (xs.getD 5 0), .pointer (some ⟨K, 0, none⟩), u] 91 (0, 0)) ∧
      w'.heap[K]? = some (.cells (accCtx (nat2 (xs.drop 8)) (nat2 (xs.drop 10)) (nat2 (xs.drop 16)) (xs.getD 22 0) (xs.getD 23 0)
        (capOf (unitOf (nat2 (xs.drop 8)) (nat4 (xs.drop 32)) (nat2 (xs.drop 12))) (unitOf (nat2 (xs.drop 8)) (nat4 (xs.drop 36)) (nat2 (xs.drop 14)))) (unitOf (nat2 (xs.drop 8)) (nat4 (xs.drop 36)) (nat2 (xs.drop 14)))) 93 (0, 0)) ∧ Gr w w' := by
  obtain ⟨b, o, c, rfl, hc, hm, hr⟩ := h.at' (by omega)
  have HF := Lib.hid (accFrom b o xs.length c xs w hr rfl h41 hn2 hc hm h28 D hD h20 h18 hfl)
  clear h41 hn2 h28 hD h20 h18 hfl hc hm hr h
  generalize unitOf (nat2 (xs.drop 8)) (nat4 (xs.drop 32)) (nat2 (xs.drop 12)) = S at *
  generalize unitOf (nat2 (xs.drop 8)) (nat4 (xs.drop 36)) (nat2 (xs.drop 14)) = T at *
  generalize nat2 (xs.drop 8) = V8 at *
  generalize nat2 (xs.drop 10) = V10 at *
  generalize nat2 (xs.drop 16) = V16 at *
  generalize nat2 xs = V0 at *
  generalize xs.getD 4 0 = TY at *
  generalize xs.getD 5 0 = FL at *
  generalize xs.getD 22 0 = A0 at *
  generalize xs.getD 23 0 = A1 at *
  generalize xs.drop D = ys at *
  go_enter Tryd.func37, Tryd.ntmps37
  go_wp2_with (first | (go_at_call 49; refine HF.out.mono ?_; rintro e w1 ⟨J, K, u, rfl, hJ, hK, hu, hg1⟩; have c5 : w1.cell? ⟨J, 5, none⟩ = some u := (blk_cell hJ 5).trans rfl))
  go_quiet (fail)
  go_wp2
  exact bodyPost_ret (v := .tuple #[.pointer (some ⟨J, 0, none⟩), u]) (by simp [results, Tryd.results37, go_sem]) rfl ⟨J, K, u, rfl, hu.gr ((Gr.refl _).drewN _), ((Gr.refl _).drewN _).heap hJ, ((Gr.refl _).drewN _).heap hK, hg1.drewN _⟩

theorem pktContext (J K : Nat) (w : World) (h : w.cell? ⟨J, 4, none⟩ = some (.pointer (some ⟨K, 0, none⟩))) :
    Calls Tryd.prog 38 #[.pointer (some ⟨J, 0, none⟩)] w fun e w' => e = .returned (.pointer (some ⟨K, 0, none⟩)) ∧ w' = w := by
  have hb : J < w.heap.size := World.block_lt_of_cell? w _ h
  go_enter Tryd.func38, Tryd.ntmps38
  go_wp2
  go_ret
  exact ⟨rfl, rfl⟩
/-- The cells of what is told of a packet ACCEPT, before anything is told. -/
def acd0 : Array Value := #[.int .u32 0, .int .u8 0, .int .u8 0, .int .u16 0, .int .u16 0, .int .u16 0, .int .u16 0, .int .u8 0, .int .u8 0, .int .u32 0, .int .u32 0, .string ⟨#[]⟩, .slice none 0 0]
theorem acd_cells {W : World} {Z : Nat} {T : TypeId} (hz : W.heap[Z]? = some (.cells acd0 T (0, 0))) :
    (W.cell? ⟨Z, 0, none⟩ = some (.int .u32 0) ∧ W.cell? ⟨Z, 1, none⟩ = some (.int .u8 0) ∧ W.cell? ⟨Z, 2, none⟩ = some (.int .u8 0) ∧ W.cell? ⟨Z, 3, none⟩ = some (.int .u16 0) ∧ W.cell? ⟨Z, 4, none⟩ = some (.int .u16 0) ∧ W.cell? ⟨Z, 5, none⟩ = some (.int .u16 0) ∧ W.cell? ⟨Z, 6, none⟩ = some (.int .u16 0) ∧ W.cell? ⟨Z, 7, none⟩ = some (.int .u8 0) ∧ W.cell? ⟨Z, 8, none⟩ = some (.int .u8 0) ∧ W.cell? ⟨Z, 9, none⟩ = some (.int .u32 0) ∧ W.cell? ⟨Z, 10, none⟩ = some (.int .u32 0) ∧ W.cell? ⟨Z, 11, none⟩ = some (.string ⟨#[]⟩) ∧ W.cell? ⟨Z, 12, none⟩ = some (.slice none 0 0)) ∧ (W.frozen? ⟨Z, 0, none⟩ = false ∧ W.frozen? ⟨Z, 1, none⟩ = false ∧ W.frozen? ⟨Z, 2, none⟩ = false ∧ W.frozen? ⟨Z, 3, none⟩ = false ∧ W.frozen? ⟨Z, 4, none⟩ = false ∧ W.frozen? ⟨Z, 5, none⟩ = false ∧ W.frozen? ⟨Z, 6, none⟩ = false ∧ W.frozen? ⟨Z, 7, none⟩ = false ∧ W.frozen? ⟨Z, 8, none⟩ = false ∧ W.frozen? ⟨Z, 9, none⟩ = false ∧ W.frozen? ⟨Z, 10, none⟩ = false ∧ W.frozen? ⟨Z, 11, none⟩ = false ∧ W.frozen? ⟨Z, 12, none⟩ = false) :=
  ⟨⟨(blk_cell hz 0).trans rfl, (blk_cell hz 1).trans rfl, (blk_cell hz 2).trans rfl, (blk_cell hz 3).trans rfl, (blk_cell hz 4).trans rfl, (blk_cell hz 5).trans rfl, (blk_cell hz 6).trans rfl, (blk_cell hz 7).trans rfl, (blk_cell hz 8).trans rfl, (blk_cell hz 9).trans rfl, (blk_cell hz 10).trans rfl, (blk_cell hz 11).trans rfl, (blk_cell hz 12).trans rfl⟩, ⟨blk_free hz 0, blk_free hz 1, blk_free hz 2, blk_free hz 3, blk_free hz 4, blk_free hz 5, blk_free hz 6, blk_free hz 7, blk_free hz 8, blk_free hz 9, blk_free hz 10, blk_free hz 11, blk_free hz 12⟩⟩
theorem acd_store {W : World} {Z : Nat} {T : TypeId} (hz : W.heap[Z]? = some (.cells acd0 T (0, 0))) (u0 u1 u2 u3 u4 u5 u6 u7 u8 u9 u10 u11 u12 : Value) (w' : World) (hw : w' = (((((((((((((W.setCell ⟨Z, 0, none⟩ u0).setCell ⟨Z, 1, none⟩ u1).setCell ⟨Z, 2, none⟩ u2).setCell ⟨Z, 3, none⟩ u3).setCell ⟨Z, 4, none⟩ u4).setCell ⟨Z, 5, none⟩ u5).setCell ⟨Z, 6, none⟩ u6).setCell ⟨Z, 7, none⟩ u7).setCell ⟨Z, 8, none⟩ u8).setCell ⟨Z, 9, none⟩ u9).setCell ⟨Z, 10, none⟩ u10).setCell ⟨Z, 11, none⟩ u11).setCell ⟨Z, 12, none⟩ u12)) :
    w'.heap[Z]? = some (.cells #[u0, u1, u2, u3, u4, u5, u6, u7, u8, u9, u10, u11, u12] T (0, 0)) ∧ (∀ k o, k ≠ Z → W.heap[k]? = some o → w'.heap[k]? = some o) ∧ (∀ w, w.heap.size ≤ Z → Gr w W → Gr w w') := by
  subst hw
  refine ⟨?_, fun k o hk h => ?_, fun w hb hg => ?_⟩
  · have h := blk_set (blk_set (blk_set (blk_set (blk_set (blk_set (blk_set (blk_set (blk_set (blk_set (blk_set (blk_set (blk_set (hz) 0 u0) 1 u1) 2 u2) 3 u3) 4 u4) 5 u5) 6 u6) 7 u7) 8 u8) 9 u9) 10 u10) 11 u11) 12 u12
    simpa [acd0] using h
  · rw [Below.heap_setCell _ _ _ _ hk, Below.heap_setCell _ _ _ _ hk, Below.heap_setCell _ _ _ _ hk, Below.heap_setCell _ _ _ _ hk, Below.heap_setCell _ _ _ _ hk, Below.heap_setCell _ _ _ _ hk, Below.heap_setCell _ _ _ _ hk, Below.heap_setCell _ _ _ _ hk, Below.heap_setCell _ _ _ _ hk, Below.heap_setCell _ _ _ _ hk, Below.heap_setCell _ _ _ _ hk, Below.heap_setCell _ _ _ _ hk, Below.heap_setCell _ _ _ _ hk]; exact h
  · exact (((((((((((((hg.setCell (p := ⟨Z, 0, none⟩) hb u0).setCell (p := ⟨Z, 1, none⟩) hb u1).setCell (p := ⟨Z, 2, none⟩) hb u2).setCell (p := ⟨Z, 3, none⟩) hb u3).setCell (p := ⟨Z, 4, none⟩) hb u4).setCell (p := ⟨Z, 5, none⟩) hb u5).setCell (p := ⟨Z, 6, none⟩) hb u6).setCell (p := ⟨Z, 7, none⟩) hb u7).setCell (p := ⟨Z, 8, none⟩) hb u8).setCell (p := ⟨Z, 9, none⟩) hb u9).setCell (p := ⟨Z, 10, none⟩) hb u10).setCell (p := ⟨Z, 11, none⟩) hb u11).setCell (p := ⟨Z, 12, none⟩) hb u12)
/-- What impl.AcceptRead tells. -/
def accV (D : Nat) (V0 TY FL V8 V10 V16 A0 A1 S T : Int) (u : Value) : Value := .agg #[.int .u32 V0, .int .u8 TY, .int .u8 FL, .int .u16 (D : Nat), .int .u16 V8, .int .u16 V10, .int .u16 V16, .int .u8 A0, .int .u8 A1, .int .u32 S, .int .u32 T, .string ⟨#[]⟩, u]

set_option maxRecDepth 100000 in
set_option maxHeartbeats 4000000 in
theorem impl_AcceptRead (xs : List Int) (v : Value) (w : World) (h : Rd w v xs) (h41 : 41 ≤ xs.length) (hn2 : xs.length ≤ 60000) (h28 : nat2 (xs.drop 28) = 0)
    (D : Nat) (hD : D ≤ xs.length) (h20 : nat2 (xs.drop 20) = (D : Int)) (h18 : nat2 (xs.drop 18) = ((xs.length - D : Nat) : Int)) (hfl : bits .and .u8 (xs.getD 5 0) 1 = 0) :
    Calls Tryd.prog 23 #[v] w fun e w' => ∃ u, e = .returned (.tuple #[accV D (nat2 xs) (xs.getD 4 0) (xs.getD 5 0) (nat2 (xs.drop 8)) (nat2 (xs.drop 10)) (nat2 (xs.drop 16)) (xs.getD 22 0) (xs.getD 23 0)
        (capOf (unitOf (nat2 (xs.drop 8)) (nat4 (xs.drop 32)) (nat2 (xs.drop 12))) (unitOf (nat2 (xs.drop 8)) (nat4 (xs.drop 36)) (nat2 (xs.drop 14)))) (unitOf (nat2 (xs.drop 8)) (nat4 (xs.drop 36)) (nat2 (xs.drop 14))) u, .bool true]) ∧
      Own w.heap.size w' u (xs.drop D) ∧ Gr w w' := by
  have HN := fun v w h => Lib.hid (net_AcceptRead xs v w h h41 hn2 h28 D hD h20 h18 hfl)
  have HL := Lib.hid hn2
  have HLD : Hid ((xs.drop D).length ≤ 140737488355328) := Lib.hid (by rw [List.length_drop]; omega)
  clear h41 hn2 h28 hD h20 h18 hfl
  generalize capOf (unitOf (nat2 (xs.drop 8)) (nat4 (xs.drop 32)) (nat2 (xs.drop 12))) (unitOf (nat2 (xs.drop 8)) (nat4 (xs.drop 36)) (nat2 (xs.drop 14))) = S at *
  generalize unitOf (nat2 (xs.drop 8)) (nat4 (xs.drop 36)) (nat2 (xs.drop 14)) = T at *
  generalize nat2 (xs.drop 8) = V8 at *
  generalize nat2 (xs.drop 10) = V10 at *
  generalize nat2 (xs.drop 16) = V16 at *
  generalize nat2 xs = V0 at *
  generalize xs.getD 4 0 = TY at *
  generalize xs.getD 5 0 = FL at *
  generalize xs.getD 22 0 = A0 at *
  generalize xs.getD 23 0 = A1 at *
  unfold accV
  go_enter Tryd.func23, Tryd.ntmps23
  go_wp2_with (first
    | (go_at_call 16; go_must (refine (clone v xs _ (h.gr ((Gr.refl w).alloc _)) (by have := HL.out; omega)).mono ?_); rintro e w2 ⟨u2, rfl, ho2, hg2⟩)
    | (go_at_call 37; go_must (refine ((HN u2 w2 ho2.rd).out).mono ?_); rintro e w3 ⟨J, K, u3, rfl, hu3, hJ, hK, hg3⟩; have hz : w3.heap[w.heap.size]? = some (.cells acd0 48 (0, 0)) := hg3.heap (hg2.heap (heap_alloc_new w _)); have hjl : J < w3.heap.size := lt_of_some hJ; have hkl : K < w3.heap.size := lt_of_some hK; have hzl : w.heap.size < w3.heap.size := lt_of_some hz)
    | (go_at_call 38; go_must (refine (pktContext J K _ ((blk_cell hJ 4).trans rfl)).mono ?_); rintro e w4 ⟨rfl, hw⟩; obtain rfl := hw.symm))
  have m2 : w3.cell? ⟨K, 2, none⟩ = some (.int .u16 V8) := (blk_cell hK 2).trans rfl
  have m5 : w3.cell? ⟨K, 5, none⟩ = some (.int .u16 V10) := (blk_cell hK 5).trans rfl
  have m7 : w3.cell? ⟨K, 7, none⟩ = some (.int .u16 V16) := (blk_cell hK 7).trans rfl
  have m10 : w3.cell? ⟨K, 10, none⟩ = some (.int .u8 A0) := (blk_cell hK 10).trans rfl
  have m11 : w3.cell? ⟨K, 11, none⟩ = some (.int .u8 A1) := (blk_cell hK 11).trans rfl
  have m12 : w3.cell? ⟨K, 12, none⟩ = some (.int .u32 S) := (blk_cell hK 12).trans rfl
  have m13 : w3.cell? ⟨K, 13, none⟩ = some (.int .u32 T) := (blk_cell hK 13).trans rfl
  have m8 : w3.cell? ⟨K, 8, none⟩ = some (.string ⟨#[]⟩) := (blk_cell hK 8).trans rfl
  have c0 : w3.cell? ⟨J, 0, none⟩ = some (.int .u16 (D : Nat)) := (blk_cell hJ 0).trans rfl
  have c1 : w3.cell? ⟨J, 1, none⟩ = some (.int .u32 V0) := (blk_cell hJ 1).trans rfl
  have c2 : w3.cell? ⟨J, 2, none⟩ = some (.int .u8 TY) := (blk_cell hJ 2).trans rfl
  have c3 : w3.cell? ⟨J, 3, none⟩ = some (.int .u8 FL) := (blk_cell hJ 3).trans rfl
  have hKZ : K ≠ w.heap.size := by rintro rfl; rw [hK] at hz; cases hz
  generalize hZ : w.heap.size = Z at *
  clear hJ
  · skip
    -- REGION
    have hG := (Gr.refl w3).drew
    refine wp_region_held_drew (S := fun w' => w'.cell? ⟨K, 2, none⟩ = some (.int .u16 V8) ∧ w'.cell? ⟨K, 5, none⟩ = some (.int .u16 V10) ∧ w'.cell? ⟨K, 7, none⟩ = some (.int .u16 V16) ∧ w'.cell? ⟨K, 10, none⟩ = some (.int .u8 A0) ∧ w'.cell? ⟨K, 11, none⟩ = some (.int .u8 A1) ∧ w'.cell? ⟨K, 12, none⟩ = some (.int .u32 S) ∧ w'.cell? ⟨K, 13, none⟩ = some (.int .u32 T) ∧ w'.cell? ⟨K, 8, none⟩ = some (.string ⟨#[]⟩)) (by kernel_rfl) ⟨hG.cell m2, hG.cell m5, hG.cell m7, hG.cell m10, hG.cell m11, hG.cell m12, hG.cell m13, hG.cell m8⟩ (fun hHeld => ?_)
    generalize hcc : w3.drew = q0 at *
    clear hcc
    refine wpAnyH_take (i := 0) (oi := { dst := some 20, op := Op.move (Operand.tmp 4), type := 86, pos := "packets.go:100", after := #[], guard := none }) (v := ?_) rfl (by kernel_rfl) (by kernel_rfl) (by kernel_rfl) (fun _ _ _ h => h) (Or.inl ⟨by rfl, ?_⟩) (by assumption) ?_
    rotate_left
    · (intro w hSw; (try dsimp only at hSw); go_simp; try with_reducible rfl)
    try simp only [Act.put, List.setIfInBounds_toArray, List.set_cons_zero, List.set_cons_succ]
    refine wpAnyH_take (i := 1) (oi := { dst := some 21, op := Op.nilCheck (Operand.tmp 20), type := 0, pos := "packets.go:100", after := #[{ on := 0, ground := Ground.data }], guard := none }) (v := ?_) rfl (by kernel_rfl) (by kernel_rfl) (by kernel_rfl) (fun _ _ _ h => h) (Or.inl ⟨by rfl, ?_⟩) (by assumption) ?_
    rotate_left
    · (intro w hSw; (try dsimp only at hSw); go_simp; try with_reducible rfl)
    try simp only [Act.put, List.setIfInBounds_toArray, List.set_cons_zero, List.set_cons_succ]
    refine wpAnyH_take (i := 2) (oi := { dst := some 22, op := Op.fieldAddr 91 (Operand.tmp 21) 0, type := 0, pos := "packets.go:100", after := #[{ on := 1, ground := Ground.data }], guard := none }) (v := ?_) rfl (by kernel_rfl) (by kernel_rfl) (by kernel_rfl) (fun _ _ _ h => h) (Or.inl ⟨by rfl, ?_⟩) (by assumption) ?_
    rotate_left
    · (intro w hSw; (try dsimp only at hSw); go_simp; try with_reducible rfl)
    try simp only [Act.put, List.setIfInBounds_toArray, List.set_cons_zero, List.set_cons_succ]
    refine wpAnyH_take (i := 4) (oi := { dst := some 24, op := Op.move (Operand.tmp 6), type := 58, pos := "packets.go:100", after := #[], guard := none }) (v := ?_) rfl (by kernel_rfl) (by kernel_rfl) (by kernel_rfl) (fun _ _ _ h => h) (Or.inl ⟨by rfl, ?_⟩) (by assumption) ?_
    rotate_left
    · (intro w hSw; (try dsimp only at hSw); go_simp; try with_reducible rfl)
    try simp only [Act.put, List.setIfInBounds_toArray, List.set_cons_zero, List.set_cons_succ]
    refine wpAnyH_take (i := 5) (oi := { dst := some 25, op := Op.nilCheck (Operand.tmp 24), type := 0, pos := "packets.go:100", after := #[{ on := 4, ground := Ground.data }], guard := none }) (v := ?_) rfl (by kernel_rfl) (by kernel_rfl) (by kernel_rfl) (fun _ _ _ h => h) (Or.inl ⟨by rfl, ?_⟩) (by assumption) ?_
    rotate_left
    · (intro w hSw; (try dsimp only at hSw); go_simp; try with_reducible rfl)
    try simp only [Act.put, List.setIfInBounds_toArray, List.set_cons_zero, List.set_cons_succ]
    refine wpAnyH_take (i := 6) (oi := { dst := some 26, op := Op.fieldAddr 93 (Operand.tmp 25) 2, type := 0, pos := "packets.go:100", after := #[{ on := 5, ground := Ground.data }], guard := none }) (v := ?_) rfl (by kernel_rfl) (by kernel_rfl) (by kernel_rfl) (fun _ _ _ h => h) (Or.inl ⟨by rfl, ?_⟩) (by assumption) ?_
    rotate_left
    · (intro w hSw; (try dsimp only at hSw); go_simp; try with_reducible rfl)
    try simp only [Act.put, List.setIfInBounds_toArray, List.set_cons_zero, List.set_cons_succ]
    refine wpAnyH_take (i := 7) (oi := { dst := some 27, op := Op.load 22 (Operand.tmp 26), type := 22, pos := "packets.go:100", after := #[{ on := 6, ground := Ground.data }], guard := none }) (v := ?_) rfl (by kernel_rfl) (by kernel_rfl) (by kernel_rfl) (fun _ _ _ h => h) (Or.inl ⟨by rfl, ?_⟩) (by assumption) ?_
    rotate_left
    · (intro w hSw; (try dsimp only at hSw); go_simp; try with_reducible rfl)
    try simp only [Act.put, List.setIfInBounds_toArray, List.set_cons_zero, List.set_cons_succ]
    refine wpAnyH_take (i := 8) (oi := { dst := some 28, op := Op.move (Operand.tmp 6), type := 58, pos := "packets.go:100", after := #[], guard := none }) (v := ?_) rfl (by kernel_rfl) (by kernel_rfl) (by kernel_rfl) (fun _ _ _ h => h) (Or.inl ⟨by rfl, ?_⟩) (by assumption) ?_
    rotate_left
    · (intro w hSw; (try dsimp only at hSw); go_simp; try with_reducible rfl)
    try simp only [Act.put, List.setIfInBounds_toArray, List.set_cons_zero, List.set_cons_succ]
    refine wpAnyH_take (i := 9) (oi := { dst := some 29, op := Op.nilCheck (Operand.tmp 28), type := 0, pos := "packets.go:100", after := #[{ on := 8, ground := Ground.data }], guard := none }) (v := ?_) rfl (by kernel_rfl) (by kernel_rfl) (by kernel_rfl) (fun _ _ _ h => h) (Or.inl ⟨by rfl, ?_⟩) (by assumption) ?_
    rotate_left
    · (intro w hSw; (try dsimp only at hSw); go_simp; try with_reducible rfl)
    try simp only [Act.put, List.setIfInBounds_toArray, List.set_cons_zero, List.set_cons_succ]
    refine wpAnyH_take (i := 10) (oi := { dst := some 30, op := Op.fieldAddr 93 (Operand.tmp 29) 5, type := 0, pos := "packets.go:100", after := #[{ on := 9, ground := Ground.data }], guard := none }) (v := ?_) rfl (by kernel_rfl) (by kernel_rfl) (by kernel_rfl) (fun _ _ _ h => h) (Or.inl ⟨by rfl, ?_⟩) (by assumption) ?_
    rotate_left
    · (intro w hSw; (try dsimp only at hSw); go_simp; try with_reducible rfl)
    try simp only [Act.put, List.setIfInBounds_toArray, List.set_cons_zero, List.set_cons_succ]
    refine wpAnyH_take (i := 11) (oi := { dst := some 31, op := Op.load 22 (Operand.tmp 30), type := 22, pos := "packets.go:100", after := #[{ on := 10, ground := Ground.data }], guard := none }) (v := ?_) rfl (by kernel_rfl) (by kernel_rfl) (by kernel_rfl) (fun _ _ _ h => h) (Or.inl ⟨by rfl, ?_⟩) (by assumption) ?_
    rotate_left
    · (intro w hSw; (try dsimp only at hSw); go_simp; try with_reducible rfl)
    try simp only [Act.put, List.setIfInBounds_toArray, List.set_cons_zero, List.set_cons_succ]
    refine wpAnyH_take (i := 12) (oi := { dst := some 32, op := Op.move (Operand.tmp 6), type := 58, pos := "packets.go:100", after := #[], guard := none }) (v := ?_) rfl (by kernel_rfl) (by kernel_rfl) (by kernel_rfl) (fun _ _ _ h => h) (Or.inl ⟨by rfl, ?_⟩) (by assumption) ?_
    rotate_left
    · (intro w hSw; (try dsimp only at hSw); go_simp; try with_reducible rfl)
    try simp only [Act.put, List.setIfInBounds_toArray, List.set_cons_zero, List.set_cons_succ]
    refine wpAnyH_take (i := 13) (oi := { dst := some 33, op := Op.nilCheck (Operand.tmp 32), type := 0, pos := "packets.go:100", after := #[{ on := 12, ground := Ground.data }], guard := none }) (v := ?_) rfl (by kernel_rfl) (by kernel_rfl) (by kernel_rfl) (fun _ _ _ h => h) (Or.inl ⟨by rfl, ?_⟩) (by assumption) ?_
    rotate_left
    · (intro w hSw; (try dsimp only at hSw); go_simp; try with_reducible rfl)
    try simp only [Act.put, List.setIfInBounds_toArray, List.set_cons_zero, List.set_cons_succ]
    refine wpAnyH_take (i := 14) (oi := { dst := some 34, op := Op.fieldAddr 93 (Operand.tmp 33) 7, type := 0, pos := "packets.go:100", after := #[{ on := 13, ground := Ground.data }], guard := none }) (v := ?_) rfl (by kernel_rfl) (by kernel_rfl) (by kernel_rfl) (fun _ _ _ h => h) (Or.inl ⟨by rfl, ?_⟩) (by assumption) ?_
    rotate_left
    · (intro w hSw; (try dsimp only at hSw); go_simp; try with_reducible rfl)
    try simp only [Act.put, List.setIfInBounds_toArray, List.set_cons_zero, List.set_cons_succ]
    refine wpAnyH_take (i := 15) (oi := { dst := some 35, op := Op.load 22 (Operand.tmp 34), type := 22, pos := "packets.go:100", after := #[{ on := 14, ground := Ground.data }], guard := none }) (v := ?_) rfl (by kernel_rfl) (by kernel_rfl) (by kernel_rfl) (fun _ _ _ h => h) (Or.inl ⟨by rfl, ?_⟩) (by assumption) ?_
    rotate_left
    · (intro w hSw; (try dsimp only at hSw); go_simp; try with_reducible rfl)
    try simp only [Act.put, List.setIfInBounds_toArray, List.set_cons_zero, List.set_cons_succ]
    refine wpAnyH_take (i := 16) (oi := { dst := some 36, op := Op.move (Operand.tmp 6), type := 58, pos := "packets.go:100", after := #[], guard := none }) (v := ?_) rfl (by kernel_rfl) (by kernel_rfl) (by kernel_rfl) (fun _ _ _ h => h) (Or.inl ⟨by rfl, ?_⟩) (by assumption) ?_
    rotate_left
    · (intro w hSw; (try dsimp only at hSw); go_simp; try with_reducible rfl)
    try simp only [Act.put, List.setIfInBounds_toArray, List.set_cons_zero, List.set_cons_succ]
    refine wpAnyH_take (i := 17) (oi := { dst := some 37, op := Op.nilCheck (Operand.tmp 36), type := 0, pos := "packets.go:100", after := #[{ on := 16, ground := Ground.data }], guard := none }) (v := ?_) rfl (by kernel_rfl) (by kernel_rfl) (by kernel_rfl) (fun _ _ _ h => h) (Or.inl ⟨by rfl, ?_⟩) (by assumption) ?_
    rotate_left
    · (intro w hSw; (try dsimp only at hSw); go_simp; try with_reducible rfl)
    try simp only [Act.put, List.setIfInBounds_toArray, List.set_cons_zero, List.set_cons_succ]
    refine wpAnyH_take (i := 18) (oi := { dst := some 38, op := Op.fieldAddr 93 (Operand.tmp 37) 10, type := 0, pos := "packets.go:100", after := #[{ on := 17, ground := Ground.data }], guard := none }) (v := ?_) rfl (by kernel_rfl) (by kernel_rfl) (by kernel_rfl) (fun _ _ _ h => h) (Or.inl ⟨by rfl, ?_⟩) (by assumption) ?_
    rotate_left
    · (intro w hSw; (try dsimp only at hSw); go_simp; try with_reducible rfl)
    try simp only [Act.put, List.setIfInBounds_toArray, List.set_cons_zero, List.set_cons_succ]
    refine wpAnyH_take (i := 19) (oi := { dst := some 39, op := Op.load 5 (Operand.tmp 38), type := 5, pos := "packets.go:100", after := #[{ on := 18, ground := Ground.data }], guard := none }) (v := ?_) rfl (by kernel_rfl) (by kernel_rfl) (by kernel_rfl) (fun _ _ _ h => h) (Or.inl ⟨by rfl, ?_⟩) (by assumption) ?_
    rotate_left
    · (intro w hSw; (try dsimp only at hSw); go_simp; try with_reducible rfl)
    try simp only [Act.put, List.setIfInBounds_toArray, List.set_cons_zero, List.set_cons_succ]
    refine wpAnyH_take (i := 20) (oi := { dst := some 40, op := Op.move (Operand.tmp 6), type := 58, pos := "packets.go:100", after := #[], guard := none }) (v := ?_) rfl (by kernel_rfl) (by kernel_rfl) (by kernel_rfl) (fun _ _ _ h => h) (Or.inl ⟨by rfl, ?_⟩) (by assumption) ?_
    rotate_left
    · (intro w hSw; (try dsimp only at hSw); go_simp; try with_reducible rfl)
    try simp only [Act.put, List.setIfInBounds_toArray, List.set_cons_zero, List.set_cons_succ]
    refine wpAnyH_take (i := 21) (oi := { dst := some 41, op := Op.nilCheck (Operand.tmp 40), type := 0, pos := "packets.go:100", after := #[{ on := 20, ground := Ground.data }], guard := none }) (v := ?_) rfl (by kernel_rfl) (by kernel_rfl) (by kernel_rfl) (fun _ _ _ h => h) (Or.inl ⟨by rfl, ?_⟩) (by assumption) ?_
    rotate_left
    · (intro w hSw; (try dsimp only at hSw); go_simp; try with_reducible rfl)
    try simp only [Act.put, List.setIfInBounds_toArray, List.set_cons_zero, List.set_cons_succ]
    refine wpAnyH_take (i := 22) (oi := { dst := some 42, op := Op.fieldAddr 93 (Operand.tmp 41) 11, type := 0, pos := "packets.go:100", after := #[{ on := 21, ground := Ground.data }], guard := none }) (v := ?_) rfl (by kernel_rfl) (by kernel_rfl) (by kernel_rfl) (fun _ _ _ h => h) (Or.inl ⟨by rfl, ?_⟩) (by assumption) ?_
    rotate_left
    · (intro w hSw; (try dsimp only at hSw); go_simp; try with_reducible rfl)
    try simp only [Act.put, List.setIfInBounds_toArray, List.set_cons_zero, List.set_cons_succ]
    refine wpAnyH_take (i := 23) (oi := { dst := some 43, op := Op.load 5 (Operand.tmp 42), type := 5, pos := "packets.go:100", after := #[{ on := 22, ground := Ground.data }], guard := none }) (v := ?_) rfl (by kernel_rfl) (by kernel_rfl) (by kernel_rfl) (fun _ _ _ h => h) (Or.inl ⟨by rfl, ?_⟩) (by assumption) ?_
    rotate_left
    · (intro w hSw; (try dsimp only at hSw); go_simp; try with_reducible rfl)
    try simp only [Act.put, List.setIfInBounds_toArray, List.set_cons_zero, List.set_cons_succ]
    refine wpAnyH_take (i := 24) (oi := { dst := some 44, op := Op.move (Operand.tmp 6), type := 58, pos := "packets.go:100", after := #[], guard := none }) (v := ?_) rfl (by kernel_rfl) (by kernel_rfl) (by kernel_rfl) (fun _ _ _ h => h) (Or.inl ⟨by rfl, ?_⟩) (by assumption) ?_
    rotate_left
    · (intro w hSw; (try dsimp only at hSw); go_simp; try with_reducible rfl)
    try simp only [Act.put, List.setIfInBounds_toArray, List.set_cons_zero, List.set_cons_succ]
    refine wpAnyH_take (i := 25) (oi := { dst := some 45, op := Op.nilCheck (Operand.tmp 44), type := 0, pos := "packets.go:100", after := #[{ on := 24, ground := Ground.data }], guard := none }) (v := ?_) rfl (by kernel_rfl) (by kernel_rfl) (by kernel_rfl) (fun _ _ _ h => h) (Or.inl ⟨by rfl, ?_⟩) (by assumption) ?_
    rotate_left
    · (intro w hSw; (try dsimp only at hSw); go_simp; try with_reducible rfl)
    try simp only [Act.put, List.setIfInBounds_toArray, List.set_cons_zero, List.set_cons_succ]
    refine wpAnyH_take (i := 26) (oi := { dst := some 46, op := Op.fieldAddr 93 (Operand.tmp 45) 12, type := 0, pos := "packets.go:100", after := #[{ on := 25, ground := Ground.data }], guard := none }) (v := ?_) rfl (by kernel_rfl) (by kernel_rfl) (by kernel_rfl) (fun _ _ _ h => h) (Or.inl ⟨by rfl, ?_⟩) (by assumption) ?_
    rotate_left
    · (intro w hSw; (try dsimp only at hSw); go_simp; try with_reducible rfl)
    try simp only [Act.put, List.setIfInBounds_toArray, List.set_cons_zero, List.set_cons_succ]
    refine wpAnyH_take (i := 27) (oi := { dst := some 47, op := Op.load 23 (Operand.tmp 46), type := 23, pos := "packets.go:100", after := #[{ on := 26, ground := Ground.data }], guard := none }) (v := ?_) rfl (by kernel_rfl) (by kernel_rfl) (by kernel_rfl) (fun _ _ _ h => h) (Or.inl ⟨by rfl, ?_⟩) (by assumption) ?_
    rotate_left
    · (intro w hSw; (try dsimp only at hSw); go_simp; try with_reducible rfl)
    try simp only [Act.put, List.setIfInBounds_toArray, List.set_cons_zero, List.set_cons_succ]
    refine wpAnyH_take (i := 28) (oi := { dst := some 48, op := Op.move (Operand.tmp 6), type := 58, pos := "packets.go:100", after := #[], guard := none }) (v := ?_) rfl (by kernel_rfl) (by kernel_rfl) (by kernel_rfl) (fun _ _ _ h => h) (Or.inl ⟨by rfl, ?_⟩) (by assumption) ?_
    rotate_left
    · (intro w hSw; (try dsimp only at hSw); go_simp; try with_reducible rfl)
    try simp only [Act.put, List.setIfInBounds_toArray, List.set_cons_zero, List.set_cons_succ]
    refine wpAnyH_take (i := 29) (oi := { dst := some 49, op := Op.nilCheck (Operand.tmp 48), type := 0, pos := "packets.go:100", after := #[{ on := 28, ground := Ground.data }], guard := none }) (v := ?_) rfl (by kernel_rfl) (by kernel_rfl) (by kernel_rfl) (fun _ _ _ h => h) (Or.inl ⟨by rfl, ?_⟩) (by assumption) ?_
    rotate_left
    · (intro w hSw; (try dsimp only at hSw); go_simp; try with_reducible rfl)
    try simp only [Act.put, List.setIfInBounds_toArray, List.set_cons_zero, List.set_cons_succ]
    refine wpAnyH_take (i := 30) (oi := { dst := some 50, op := Op.fieldAddr 93 (Operand.tmp 49) 13, type := 0, pos := "packets.go:100", after := #[{ on := 29, ground := Ground.data }], guard := none }) (v := ?_) rfl (by kernel_rfl) (by kernel_rfl) (by kernel_rfl) (fun _ _ _ h => h) (Or.inl ⟨by rfl, ?_⟩) (by assumption) ?_
    rotate_left
    · (intro w hSw; (try dsimp only at hSw); go_simp; try with_reducible rfl)
    try simp only [Act.put, List.setIfInBounds_toArray, List.set_cons_zero, List.set_cons_succ]
    refine wpAnyH_take (i := 31) (oi := { dst := some 51, op := Op.load 23 (Operand.tmp 50), type := 23, pos := "packets.go:100", after := #[{ on := 30, ground := Ground.data }], guard := none }) (v := ?_) rfl (by kernel_rfl) (by kernel_rfl) (by kernel_rfl) (fun _ _ _ h => h) (Or.inl ⟨by rfl, ?_⟩) (by assumption) ?_
    rotate_left
    · (intro w hSw; (try dsimp only at hSw); go_simp; try with_reducible rfl)
    try simp only [Act.put, List.setIfInBounds_toArray, List.set_cons_zero, List.set_cons_succ]
    refine wpAnyH_take (i := 32) (oi := { dst := some 52, op := Op.move (Operand.tmp 6), type := 58, pos := "packets.go:100", after := #[], guard := none }) (v := ?_) rfl (by kernel_rfl) (by kernel_rfl) (by kernel_rfl) (fun _ _ _ h => h) (Or.inl ⟨by rfl, ?_⟩) (by assumption) ?_
    rotate_left
    · (intro w hSw; (try dsimp only at hSw); go_simp; try with_reducible rfl)
    try simp only [Act.put, List.setIfInBounds_toArray, List.set_cons_zero, List.set_cons_succ]
    refine wpAnyH_take (i := 33) (oi := { dst := some 53, op := Op.nilCheck (Operand.tmp 52), type := 0, pos := "packets.go:100", after := #[{ on := 32, ground := Ground.data }], guard := none }) (v := ?_) rfl (by kernel_rfl) (by kernel_rfl) (by kernel_rfl) (fun _ _ _ h => h) (Or.inl ⟨by rfl, ?_⟩) (by assumption) ?_
    rotate_left
    · (intro w hSw; (try dsimp only at hSw); go_simp; try with_reducible rfl)
    try simp only [Act.put, List.setIfInBounds_toArray, List.set_cons_zero, List.set_cons_succ]
    refine wpAnyH_take (i := 34) (oi := { dst := some 54, op := Op.fieldAddr 93 (Operand.tmp 53) 8, type := 0, pos := "packets.go:100", after := #[{ on := 33, ground := Ground.data }], guard := none }) (v := ?_) rfl (by kernel_rfl) (by kernel_rfl) (by kernel_rfl) (fun _ _ _ h => h) (Or.inl ⟨by rfl, ?_⟩) (by assumption) ?_
    rotate_left
    · (intro w hSw; (try dsimp only at hSw); go_simp; try with_reducible rfl)
    try simp only [Act.put, List.setIfInBounds_toArray, List.set_cons_zero, List.set_cons_succ]
    refine wpAnyH_take (i := 35) (oi := { dst := some 55, op := Op.load 9 (Operand.tmp 54), type := 9, pos := "packets.go:100", after := #[{ on := 34, ground := Ground.data }], guard := none }) (v := ?_) rfl (by kernel_rfl) (by kernel_rfl) (by kernel_rfl) (fun _ _ _ h => h) (Or.inl ⟨by rfl, ?_⟩) (by assumption) ?_
    rotate_left
    · (intro w hSw; (try dsimp only at hSw); go_simp; try with_reducible rfl)
    try simp only [Act.put, List.setIfInBounds_toArray, List.set_cons_zero, List.set_cons_succ]
    refine wpAnyH_take (i := 36) (oi := { dst := some 56, op := Op.move (Operand.tmp 5), type := 30, pos := "packets.go:100", after := #[], guard := none }) (v := ?_) rfl (by kernel_rfl) (by kernel_rfl) (by kernel_rfl) (fun _ _ _ h => h) (Or.inl ⟨by rfl, ?_⟩) (by assumption) ?_
    rotate_left
    · (intro w hSw; (try dsimp only at hSw); go_simp; try with_reducible rfl)
    try simp only [Act.put, List.setIfInBounds_toArray, List.set_cons_zero, List.set_cons_succ]
    refine wpAnyH_ready (rs := [3]) (by kernel_rfl) (by simp) ?_
    refine AllReadyH.cons (o := { dst := some 23, op := Op.call { callee := Callee.value (Operand.func 32), args := #[Operand.tmp 22], argTypes := #[67] }, type := 27, pos := "packets.go:100", after := #[{ on := 2, ground := Ground.data }], guard := none }) rfl (fun K' hK' => ?_) ?_
    ·
      go_simp
      go_at_call 32; go_must (refine (headOf J D V0 TY FL _ (hG.cell c0) (hG.cell c1) (hG.cell c2) (hG.cell c3)).mono ?_); rintro e c1 ⟨rfl, hg⟩
      have hG := hG.trans hg
      go_wp2_with fail
      clear hg
      refine hK'.out _ _ ⟨hG.cell m2, hG.cell m5, hG.cell m7, hG.cell m10, hG.cell m11, hG.cell m12, hG.cell m13, hG.cell m8⟩ (fun hHeld => ?_)
      clear hK' K'
      try simp only [Act.put, List.setIfInBounds_toArray, List.set_cons_zero, List.set_cons_succ]
      refine wpAnyH_ready (rs := [37]) (by kernel_rfl) (by simp) ?_
      refine AllReadyH.cons (o := { dst := some 57, op := Op.call { callee := Callee.value (Operand.func 16), args := #[Operand.tmp 56], argTypes := #[30] }, type := 30, pos := "packets.go:100", after := #[{ on := 36, ground := Ground.data }, { on := 3, ground := Ground.chain }], guard := none }) rfl (fun K' hK' => ?_) ?_
      ·
        go_simp
        go_at_call 16; go_must (refine (clone _ _ _ (hu3.gr hG) HLD.out).mono ?_); rintro e c2 ⟨u5, rfl, ho5, hg⟩
        obtain ⟨p5, n5, c5, hv5⟩ : ∃ p n c, u5 = .slice p n c := by obtain ⟨p, c, rfl, _⟩ := ho5.rd; exact ⟨_, _, _, rfl⟩
        subst hv5
        have hB := hG.size
        have HO5 := Lib.hid ho5
        clear ho5
        have hG := hG.trans hg
        go_wp2_with fail
        have HBB := Lib.hid hB
        clear hg hB
        refine hK'.out _ _ ⟨hG.cell m2, hG.cell m5, hG.cell m7, hG.cell m10, hG.cell m11, hG.cell m12, hG.cell m13, hG.cell m8⟩ (fun hHeld => ?_)
        clear hK' K'
        try simp only [Act.put, List.setIfInBounds_toArray, List.set_cons_zero, List.set_cons_succ]
        refine wpAnyH_take (i := 38) (oi := { dst := some 58, op := Op.build 48 #[(0, Operand.tmp 23), (1, Operand.tmp 27), (2, Operand.tmp 31), (3, Operand.tmp 35), (4, Operand.tmp 39), (5, Operand.tmp 43), (6, Operand.tmp 47), (7, Operand.tmp 51), (8, Operand.tmp 55), (9, Operand.tmp 57)], type := 48, pos := "packets.go:100", after := #[{ on := 3, ground := Ground.data }, { on := 7, ground := Ground.data }, { on := 11, ground := Ground.data }, { on := 15, ground := Ground.data }, { on := 19, ground := Ground.data }, { on := 23, ground := Ground.data }, { on := 27, ground := Ground.data }, { on := 31, ground := Ground.data }, { on := 35, ground := Ground.data }, { on := 37, ground := Ground.data }], guard := none }) (v := ?_) rfl (by kernel_rfl) (by kernel_rfl) (by kernel_rfl) (fun _ _ _ h => h) (Or.inl ⟨by rfl, ?_⟩) (by assumption) ?_
        rotate_left
        · (intro w hSw; (try dsimp only at hSw); go_simp; try with_reducible rfl)
        try simp only [Act.put, List.setIfInBounds_toArray, List.set_cons_zero, List.set_cons_succ]
        refine wpAnyH_ready (rs := [39]) (by kernel_rfl) (by simp) ?_
        refine AllReadyH.cons (o := { dst := none, op := Op.store 48 (Operand.tmp 2) (Operand.tmp 58), type := 0, pos := "packets.go:100", after := #[{ on := 38, ground := Ground.data }, { on := 37, ground := Ground.chain }, { on := 0, ground := Ground.phase }, { on := 1, ground := Ground.phase }, { on := 2, ground := Ground.phase }, { on := 3, ground := Ground.phase }, { on := 4, ground := Ground.phase }, { on := 5, ground := Ground.phase }, { on := 6, ground := Ground.phase }, { on := 7, ground := Ground.phase }, { on := 8, ground := Ground.phase }, { on := 9, ground := Ground.phase }, { on := 10, ground := Ground.phase }, { on := 11, ground := Ground.phase }, { on := 12, ground := Ground.phase }, { on := 13, ground := Ground.phase }, { on := 14, ground := Ground.phase }, { on := 15, ground := Ground.phase }, { on := 16, ground := Ground.phase }, { on := 17, ground := Ground.phase }, { on := 18, ground := Ground.phase }, { on := 19, ground := Ground.phase }, { on := 20, ground := Ground.phase }, { on := 21, ground := Ground.phase }, { on := 22, ground := Ground.phase }, { on := 23, ground := Ground.phase }, { on := 24, ground := Ground.phase }, { on := 25, ground := Ground.phase }, { on := 26, ground := Ground.phase }, { on := 27, ground := Ground.phase }, { on := 28, ground := Ground.phase }, { on := 29, ground := Ground.phase }, { on := 30, ground := Ground.phase }, { on := 31, ground := Ground.phase }, { on := 32, ground := Ground.phase }, { on := 33, ground := Ground.phase }, { on := 34, ground := Ground.phase }, { on := 35, ground := Ground.phase }, { on := 36, ground := Ground.phase }, { on := 37, ground := Ground.phase }, { on := 38, ground := Ground.phase }], guard := none }) rfl (fun K' hK' => ?_) ?_
        ·
          have hz := hG.heap hz
          obtain ⟨hR, hO, hGG⟩ := acd_store hz (.int .u32 V0) (.int .u8 TY) (.int .u8 FL) (.int .u16 (D : Nat)) (.int .u16 V8) (.int .u16 V10) (.int .u16 V16) (.int .u8 A0) (.int .u8 A1) (.int .u32 S) (.int .u32 T) (.string ⟨#[]⟩) (.slice p5 n5 c5) (((((((((((((c2.setCell ⟨Z, 0, none⟩ (.int .u32 V0)).setCell ⟨Z, 1, none⟩ (.int .u8 TY)).setCell ⟨Z, 2, none⟩ (.int .u8 FL)).setCell ⟨Z, 3, none⟩ (.int .u16 (D : Nat))).setCell ⟨Z, 4, none⟩ (.int .u16 V8)).setCell ⟨Z, 5, none⟩ (.int .u16 V10)).setCell ⟨Z, 6, none⟩ (.int .u16 V16)).setCell ⟨Z, 7, none⟩ (.int .u8 A0)).setCell ⟨Z, 8, none⟩ (.int .u8 A1)).setCell ⟨Z, 9, none⟩ (.int .u32 S)).setCell ⟨Z, 10, none⟩ (.int .u32 T)).setCell ⟨Z, 11, none⟩ (.string ⟨#[]⟩)).setCell ⟨Z, 12, none⟩ (.slice p5 n5 c5)) rfl
          obtain ⟨⟨z0, z1, z2, z3, z4, z5, z6, z7, z8, z9, z10, z11, z12⟩, ⟨y0, y1, y2, y3, y4, y5, y6, y7, y8, y9, y10, y11, y12⟩⟩ := acd_cells hz
          have HR := Lib.hid hR
          have HO := Lib.hid hO
          have HGG := Lib.hid hGG
          clear hR hO hGG
          go_simp
          generalize (((((((((((((c2.setCell ⟨Z, 0, none⟩ (.int .u32 V0)).setCell ⟨Z, 1, none⟩ (.int .u8 TY)).setCell ⟨Z, 2, none⟩ (.int .u8 FL)).setCell ⟨Z, 3, none⟩ (.int .u16 (D : Nat))).setCell ⟨Z, 4, none⟩ (.int .u16 V8)).setCell ⟨Z, 5, none⟩ (.int .u16 V10)).setCell ⟨Z, 6, none⟩ (.int .u16 V16)).setCell ⟨Z, 7, none⟩ (.int .u8 A0)).setCell ⟨Z, 8, none⟩ (.int .u8 A1)).setCell ⟨Z, 9, none⟩ (.int .u32 S)).setCell ⟨Z, 10, none⟩ (.int .u32 T)).setCell ⟨Z, 11, none⟩ (.string ⟨#[]⟩)).setCell ⟨Z, 12, none⟩ (.slice p5 n5 c5)) = wf at *
          have hR := HR.out
          clear z0 y0 z1 y1 z2 y2 z3 y3 z4 y4 z5 y5 z6 y6 z7 y7 z8 y8 z9 y9 z10 y10 z11 y11 z12 y12
          have hO := HO.out
          have hk := hO K _ hKZ (hG.heap hK)
          refine hK'.out _ _ ⟨(blk_cell hk 2).trans rfl, (blk_cell hk 5).trans rfl, (blk_cell hk 7).trans rfl, (blk_cell hk 10).trans rfl, (blk_cell hk 11).trans rfl, (blk_cell hk 12).trans rfl, (blk_cell hk 13).trans rfl, (blk_cell hk 8).trans rfl⟩ (fun hHeld => ?_)
          clear hK' K'
          try simp only [Act.put, List.setIfInBounds_toArray, List.set_cons_zero, List.set_cons_succ]
          refine wpAnyH_take (i := 40) (oi := { dst := some 3, op := Op.assign (Operand.const (Value.bool true)), type := 4, pos := "packets.go:100", after := #[{ on := 39, ground := Ground.chain }, { on := 0, ground := Ground.phase }, { on := 1, ground := Ground.phase }, { on := 2, ground := Ground.phase }, { on := 3, ground := Ground.phase }, { on := 4, ground := Ground.phase }, { on := 5, ground := Ground.phase }, { on := 6, ground := Ground.phase }, { on := 7, ground := Ground.phase }, { on := 8, ground := Ground.phase }, { on := 9, ground := Ground.phase }, { on := 10, ground := Ground.phase }, { on := 11, ground := Ground.phase }, { on := 12, ground := Ground.phase }, { on := 13, ground := Ground.phase }, { on := 14, ground := Ground.phase }, { on := 15, ground := Ground.phase }, { on := 16, ground := Ground.phase }, { on := 17, ground := Ground.phase }, { on := 18, ground := Ground.phase }, { on := 19, ground := Ground.phase }, { on := 20, ground := Ground.phase }, { on := 21, ground := Ground.phase }, { on := 22, ground := Ground.phase }, { on := 23, ground := Ground.phase }, { on := 24, ground := Ground.phase }, { on := 25, ground := Ground.phase }, { on := 26, ground := Ground.phase }, { on := 27, ground := Ground.phase }, { on := 28, ground := Ground.phase }, { on := 29, ground := Ground.phase }, { on := 30, ground := Ground.phase }, { on := 31, ground := Ground.phase }, { on := 32, ground := Ground.phase }, { on := 33, ground := Ground.phase }, { on := 34, ground := Ground.phase }, { on := 35, ground := Ground.phase }, { on := 36, ground := Ground.phase }, { on := 37, ground := Ground.phase }, { on := 38, ground := Ground.phase }, { on := 39, ground := Ground.phase }], guard := none }) (v := ?_) rfl (by kernel_rfl) (by kernel_rfl) (by kernel_rfl) (fun _ _ _ h => h) (Or.inl ⟨by rfl, ?_⟩) (by assumption) ?_
          rotate_left
          · (intro w hSw; (try dsimp only at hSw); go_simp; try with_reducible rfl)
          try simp only [Act.put, List.setIfInBounds_toArray, List.set_cons_zero, List.set_cons_succ]
          refine wpAnyH_done (by kernel_rfl) ?_ _
          clear hk
          go_wp2_with fail
          have f0 : wf.cell? ⟨Z, 0, none⟩ = some (.int .u32 V0) := (blk_cell hR 0).trans rfl
          have f1 : wf.cell? ⟨Z, 1, none⟩ = some (.int .u8 TY) := (blk_cell hR 1).trans rfl
          have f2 : wf.cell? ⟨Z, 2, none⟩ = some (.int .u8 FL) := (blk_cell hR 2).trans rfl
          have f3 : wf.cell? ⟨Z, 3, none⟩ = some (.int .u16 (D : Nat)) := (blk_cell hR 3).trans rfl
          have f4 : wf.cell? ⟨Z, 4, none⟩ = some (.int .u16 V8) := (blk_cell hR 4).trans rfl
          have f5 : wf.cell? ⟨Z, 5, none⟩ = some (.int .u16 V10) := (blk_cell hR 5).trans rfl
          have f6 : wf.cell? ⟨Z, 6, none⟩ = some (.int .u16 V16) := (blk_cell hR 6).trans rfl
          have f7 : wf.cell? ⟨Z, 7, none⟩ = some (.int .u8 A0) := (blk_cell hR 7).trans rfl
          have f8 : wf.cell? ⟨Z, 8, none⟩ = some (.int .u8 A1) := (blk_cell hR 8).trans rfl
          have f9 : wf.cell? ⟨Z, 9, none⟩ = some (.int .u32 S) := (blk_cell hR 9).trans rfl
          have f10 : wf.cell? ⟨Z, 10, none⟩ = some (.int .u32 T) := (blk_cell hR 10).trans rfl
          have f11 : wf.cell? ⟨Z, 11, none⟩ = some (.string ⟨#[]⟩) := (blk_cell hR 11).trans rfl
          have f12 : wf.cell? ⟨Z, 12, none⟩ = some (.slice p5 n5 c5) := (blk_cell hR 12).trans rfl
          refine bodyPost_ret (v := .tuple #[accV D V0 TY FL V8 V10 V16 A0 A1 S T (.slice p5 n5 c5), .bool true]) (by simp [results, Tryd.results23, go_sem, accV, f0, f1, f2, f3, f4, f5, f6, f7, f8, f9, f10, f11, f12]) rfl ⟨_, rfl, ?_, ?_⟩
          · have hBB := HBB.out
            exact (HO5.out.but (Z := Z) (by omega) hO).mono (by omega)
          · exact HGG.out w (by omega) ((((Gr.refl w).alloc _).trans hg2).trans (hg3.trans hG))
        exact AllReadyH.nil
      exact AllReadyH.nil
    exact AllReadyH.nil
    -- END
end Go.Proofs.YtoaajnhbcekglaaDoor
