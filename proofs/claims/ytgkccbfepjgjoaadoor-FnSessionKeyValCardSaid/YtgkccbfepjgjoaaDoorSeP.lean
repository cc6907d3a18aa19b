/- A session that writes: its buffer grows, and is written; what becomes of every other block. Printed by gen_sep.py out of sep_head.txt. -/
import Derived.Test.YtgkccbfepjgjoaaDoorSeF
import Derived.Deep.RegionHeld3
import Derived.Lib.BufferMore
namespace Go.Proofs.YtgkccbfepjgjoaaDoor
open Go Go.RowKit

/-- The cells of a session that writes. -/
def swCells (v : Value) (lr : Int) (big : Bool) (ch : Int) : Array Value := #[.slice none 0 0, v, .int .i64 0, .int .i8 lr, .int .i64 0, .bool big, .int .i64 ch]
def swBlk (w : World) (s : Nat) (v : Value) (lr : Int) (big : Bool) (ch : Int) : Prop := w.heap[s]? = some (.cells (swCells v lr big ch) 81 (0, 0))

theorem lenAt (s : Nat) (p : Option Addr) (n c : Nat) (lr : Int) (big : Bool) (ch : Int) (w : World) (h : swBlk w s (.slice p n c) lr big ch) (hn : n ≤ 140737488355328) :
    Calls Tryd.prog 92 #[.pointer (some ⟨s, 1, none⟩)] w fun e w' => e = .returned (.int .i64 n) ∧ ∃ k, w' = w.drewN k := by
  have c1 : w.cell? ⟨s, 1, none⟩ = some (.slice p n c) := (blk_cell h 1).trans rfl
  have c2 : w.cell? ⟨s, 2, none⟩ = some (.int .i64 0) := (blk_cell h 2).trans rfl
  have hw : IntKind.i64.wrap ((n : Int) - 0) = n := by rw [IntKind.wrap_i64]; omega
  clear h
  go_enter Tryd.func92, Tryd.ntmps92
  go_wp2
  go_quiet (fail)
  go_wp2
  go_ret
  exact ⟨by simp, _, rfl⟩

/-- Behind grow: a new row, with room. -/
def Grown (s : Nat) (big : Bool) (ch : Int) (xs : List Int) (n : Nat) (w : World) (e : Ending) (w' : World) : Prop :=
  e = .returned (.int .i64 xs.length) ∧ ∃ g cap cells lr, w.heap.size ≤ g ∧ swBlk w' s (.slice (some ⟨g, 0, none⟩) (xs.length + n) cap) lr big ch ∧ w'.heap[g]? = some (.cells cells 5 (0, 0)) ∧ cells.size = cap ∧
    cells.toList.take xs.length = xs.map (Value.int .u8) ∧ xs.length + n ≤ cap ∧ cap ≤ maxLen ∧ w.grownBy w' (some s)

theorem grownBy_sets {w W w2 : World} {s : Nat} (h0 : w.grownBy W (some s)) (h : Below W.heap.size W w2) (v1 v2 v3 : Value) : w.grownBy (((w2.setCell ⟨s, 1, none⟩ v1).setCell ⟨s, 2, none⟩ v2).setCell ⟨s, 1, none⟩ v3) (some s) :=
  Lib.grownBy_setB (Lib.grownBy_setB (Lib.grownBy_setB (Lib.grownBy_below h0 h) 1 v1) 2 v2) 1 v3

set_option maxRecDepth 100000 in
set_option maxHeartbeats 4000000 in
theorem grow_row (s g cap n : Nat) (lr : Int) (big : Bool) (ch : Int) (xs : List Int) (w : World) (h : swBlk w s (.slice (some ⟨g, 0, none⟩) xs.length cap) lr big ch) (hO : OwnAt w g cap xs) (hx : 1 ≤ xs.length)
    (hn : 1 ≤ n) (hroom : cap - xs.length < n) (hlim : xs.length + n ≤ 140737488355328) :
    Calls Tryd.prog 90 #[.pointer (some ⟨s, 1, none⟩), .int .i64 n] w (Grown s big ch xs n w) := by
  have hsl := lt_of_some h
  obtain ⟨⟨cur, hg, hcs, htk0⟩, hlc, hcm, hbyt⟩ := hO
  have hc2 : cap ≤ 140737488355328 := by omega
  have h1 : ∀ v ∈ cur.toList.take xs.length, v.oneCell' = true := by rw [htk0]; exact one_cells _
  have hnil : ∀ W, (binOp .eql 24 (.slice (some ⟨g, 0, none⟩) xs.length cap) (.slice none 0 0)).run Tryd.prog W = .ok (.bool false) W := fun W => Lib.run_eql_slice_some_nil W _ _ _ Tryd.underlying24
  have hcm2 : cap ≤ 9223372036854775807 := by omega
  have hwn : IntKind.i64.wrap (n : Int) = n := by rw [IntKind.wrap_i64]; omega
  have HL := Lib.hid (lenAt s _ _ cap lr big ch w h (by omega))
  have HB := Lib.hid h
  have HG := Lib.hid hg
  have HT := Lib.hid htk0
  have HBY := Lib.hid hbyt
  clear h hg htk0 hbyt hcm
  have e0 : ((xs.length : Int) == 0) = false := beq_eq_false_iff_ne.2 (by omega)
  go_enter Tryd.func90, Tryd.ntmps90
  go_wp2_with (first
    | (go_at_call 92; go_must (refine HL.out.mono ?_); rintro e w' ⟨rfl, k, rfl⟩)
    | (go_at_call 89; go_must (refine (Tryd.Buffer_tryGrow_none_at s 1 _ xs.length cap n (w.drewN k) ((blk_cell HB.out 1).trans rfl) hlc (by simp only [maxLen]; omega) hroom).mono ?_); rintro e w' ⟨rfl, rfl⟩; have c1 : (w.drewN k).cell? ⟨s, 1, none⟩ = some (.slice (some ⟨g, 0, none⟩) xs.length cap) := (blk_cell HB.out 1).trans rfl; have c2 : (w.drewN k).cell? ⟨s, 2, none⟩ = some (.int .i64 0) := (blk_cell HB.out 2).trans rfl))
  have hgr0 : w.grownBy (w.drewN k) (some s) := (Fx.refl s w).drewN k
  have HZZ := Lib.hid (show (w.drewN k).heap.size = w.heap.size from rfl)
  have HBK := Lib.hid (show (w.drewN k).heap[s]? = some (.cells (swCells (.slice (some ⟨g, 0, none⟩) xs.length cap) lr big ch) 81 (0, 0)) from HB.out)
  have HG0 := Lib.hid (show (w.drewN k).heap[g]? = some (.cells cur 5 (0, 0)) from HG.out)
  clear HB HG HL
  have hsl : s < (w.drewN k).heap.size := hsl
  generalize w.drewN k = W0 at *
  have o2 : W0.drew.cell? ⟨s, 2, none⟩ = some (.int .i64 0) := c2
  refine wp_region_held_drew (S := fun w' => w'.cell? ⟨s, 2, none⟩ = some (.int .i64 0)) (by kernel_rfl) o2 (fun hHeld => ?_)
  refine wpAnyH_take (i := 0) (oi := { dst := some 76, op := Op.move (Operand.tmp 0), type := 88, pos := "buffer.go:169", after := #[], guard := none }) (v := ?_) rfl (by kernel_rfl) (by kernel_rfl) (by kernel_rfl) (fun _ _ _ h => h) (Or.inl ⟨by rfl, ?_⟩) (by assumption) ?_
  rotate_left
  · (intro w hSw; (try dsimp only at hSw); go_simp; try with_reducible rfl)
  try simp only [Act.put, List.setIfInBounds_toArray, List.set_cons_zero, List.set_cons_succ]
  refine wpAnyH_take (i := 1) (oi := { dst := some 77, op := Op.move (Operand.tmp 0), type := 88, pos := "buffer.go:169", after := #[], guard := none }) (v := ?_) rfl (by kernel_rfl) (by kernel_rfl) (by kernel_rfl) (fun _ _ _ h => h) (Or.inl ⟨by rfl, ?_⟩) (by assumption) ?_
  rotate_left
  · (intro w hSw; (try dsimp only at hSw); go_simp; try with_reducible rfl)
  try simp only [Act.put, List.setIfInBounds_toArray, List.set_cons_zero, List.set_cons_succ]
  refine wpAnyH_take (i := 2) (oi := { dst := some 78, op := Op.nilCheck (Operand.tmp 77), type := 0, pos := "buffer.go:169", after := #[{ on := 1, ground := Ground.data }], guard := none }) (v := ?_) rfl (by kernel_rfl) (by kernel_rfl) (by kernel_rfl) (fun _ _ _ h => h) (Or.inl ⟨by rfl, ?_⟩) (by assumption) ?_
  rotate_left
  · (intro w hSw; (try dsimp only at hSw); go_simp; try with_reducible rfl)
  try simp only [Act.put, List.setIfInBounds_toArray, List.set_cons_zero, List.set_cons_succ]
  refine wpAnyH_take (i := 3) (oi := { dst := some 79, op := Op.fieldAddr 79 (Operand.tmp 78) 0, type := 0, pos := "buffer.go:169", after := #[{ on := 2, ground := Ground.data }], guard := none }) (v := ?_) rfl (by kernel_rfl) (by kernel_rfl) (by kernel_rfl) (fun _ _ _ h => h) (Or.inl ⟨by rfl, ?_⟩) (by assumption) ?_
  rotate_left
  · (intro w hSw; (try dsimp only at hSw); go_simp; try with_reducible rfl)
  try simp only [Act.put, List.setIfInBounds_toArray, List.set_cons_zero, List.set_cons_succ]
  refine wpAnyH_take (i := 5) (oi := { dst := some 81, op := Op.move (Operand.tmp 0), type := 88, pos := "buffer.go:169", after := #[], guard := none }) (v := ?_) rfl (by kernel_rfl) (by kernel_rfl) (by kernel_rfl) (fun _ _ _ h => h) (Or.inl ⟨by rfl, ?_⟩) (by assumption) ?_
  rotate_left
  · (intro w hSw; (try dsimp only at hSw); go_simp; try with_reducible rfl)
  try simp only [Act.put, List.setIfInBounds_toArray, List.set_cons_zero, List.set_cons_succ]
  refine wpAnyH_take (i := 6) (oi := { dst := some 82, op := Op.nilCheck (Operand.tmp 81), type := 0, pos := "buffer.go:169", after := #[{ on := 5, ground := Ground.data }], guard := none }) (v := ?_) rfl (by kernel_rfl) (by kernel_rfl) (by kernel_rfl) (fun _ _ _ h => h) (Or.inl ⟨by rfl, ?_⟩) (by assumption) ?_
  rotate_left
  · (intro w hSw; (try dsimp only at hSw); go_simp; try with_reducible rfl)
  try simp only [Act.put, List.setIfInBounds_toArray, List.set_cons_zero, List.set_cons_succ]
  refine wpAnyH_take (i := 7) (oi := { dst := some 83, op := Op.fieldAddr 79 (Operand.tmp 82) 1, type := 0, pos := "buffer.go:169", after := #[{ on := 6, ground := Ground.data }], guard := none }) (v := ?_) rfl (by kernel_rfl) (by kernel_rfl) (by kernel_rfl) (fun _ _ _ h => h) (Or.inl ⟨by rfl, ?_⟩) (by assumption) ?_
  rotate_left
  · (intro w hSw; (try dsimp only at hSw); go_simp; try with_reducible rfl)
  try simp only [Act.put, List.setIfInBounds_toArray, List.set_cons_zero, List.set_cons_succ]
  refine wpAnyH_take (i := 8) (oi := { dst := some 84, op := Op.load 3 (Operand.tmp 83), type := 3, pos := "buffer.go:169", after := #[{ on := 7, ground := Ground.data }], guard := none }) (v := ?_) rfl (by kernel_rfl) (by kernel_rfl) (by kernel_rfl) (fun _ _ _ h => h) (Or.inl ⟨by rfl, ?_⟩) (by assumption) ?_
  rotate_left
  · (intro w hSw; (try dsimp only at hSw); go_simp; try with_reducible rfl)
  try simp only [Act.put, List.setIfInBounds_toArray, List.set_cons_zero, List.set_cons_succ]
  refine wpAnyH_take (i := 10) (oi := { dst := some 86, op := Op.move (Operand.tmp 0), type := 88, pos := "buffer.go:169", after := #[], guard := none }) (v := ?_) rfl (by kernel_rfl) (by kernel_rfl) (by kernel_rfl) (fun _ _ _ h => h) (Or.inl ⟨by rfl, ?_⟩) (by assumption) ?_
  rotate_left
  · (intro w hSw; (try dsimp only at hSw); go_simp; try with_reducible rfl)
  try simp only [Act.put, List.setIfInBounds_toArray, List.set_cons_zero, List.set_cons_succ]
  refine wpAnyH_take (i := 11) (oi := { dst := some 87, op := Op.nilCheck (Operand.tmp 86), type := 0, pos := "buffer.go:169", after := #[{ on := 10, ground := Ground.data }], guard := none }) (v := ?_) rfl (by kernel_rfl) (by kernel_rfl) (by kernel_rfl) (fun _ _ _ h => h) (Or.inl ⟨by rfl, ?_⟩) (by assumption) ?_
  rotate_left
  · (intro w hSw; (try dsimp only at hSw); go_simp; try with_reducible rfl)
  try simp only [Act.put, List.setIfInBounds_toArray, List.set_cons_zero, List.set_cons_succ]
  refine wpAnyH_take (i := 12) (oi := { dst := some 88, op := Op.fieldAddr 79 (Operand.tmp 87) 1, type := 0, pos := "buffer.go:169", after := #[{ on := 11, ground := Ground.data }], guard := none }) (v := ?_) rfl (by kernel_rfl) (by kernel_rfl) (by kernel_rfl) (fun _ _ _ h => h) (Or.inl ⟨by rfl, ?_⟩) (by assumption) ?_
  rotate_left
  · (intro w hSw; (try dsimp only at hSw); go_simp; try with_reducible rfl)
  try simp only [Act.put, List.setIfInBounds_toArray, List.set_cons_zero, List.set_cons_succ]
  refine wpAnyH_take (i := 13) (oi := { dst := some 89, op := Op.load 3 (Operand.tmp 88), type := 3, pos := "buffer.go:169", after := #[{ on := 12, ground := Ground.data }], guard := none }) (v := ?_) rfl (by kernel_rfl) (by kernel_rfl) (by kernel_rfl) (fun _ _ _ h => h) (Or.inl ⟨by rfl, ?_⟩) (by assumption) ?_
  rotate_left
  · (intro w hSw; (try dsimp only at hSw); go_simp; try with_reducible rfl)
  try simp only [Act.put, List.setIfInBounds_toArray, List.set_cons_zero, List.set_cons_succ]
  refine wpAnyH_take (i := 14) (oi := { dst := some 90, op := Op.move (Operand.tmp 1), type := 3, pos := "buffer.go:169", after := #[], guard := none }) (v := ?_) rfl (by kernel_rfl) (by kernel_rfl) (by kernel_rfl) (fun _ _ _ h => h) (Or.inl ⟨by rfl, ?_⟩) (by assumption) ?_
  rotate_left
  · (intro w hSw; (try dsimp only at hSw); go_simp; try with_reducible rfl)
  try simp only [Act.put, List.setIfInBounds_toArray, List.set_cons_zero, List.set_cons_succ]
  refine wpAnyH_take (i := 15) (oi := { dst := some 91, op := Op.binOp BinOp.add 3 (Operand.tmp 89) (Operand.tmp 90) 3, type := 3, pos := "buffer.go:169", after := #[{ on := 13, ground := Ground.data }, { on := 14, ground := Ground.data }], guard := none }) (v := ?_) rfl (by kernel_rfl) (by kernel_rfl) (by kernel_rfl) (fun _ _ _ h => h) (Or.inl ⟨by rfl, ?_⟩) (by assumption) ?_
  rotate_left
  · (intro w hSw; (try dsimp only at hSw); go_simp; try with_reducible rfl)
  try simp only [Act.put, List.setIfInBounds_toArray, List.set_cons_zero, List.set_cons_succ]
  refine wpAnyH_ready (rs := [4]) (by kernel_rfl) (by simp) ?_
  refine AllReadyH.cons (o := { dst := some 80, op := Op.load 24 (Operand.tmp 79), type := 24, pos := "buffer.go:169", after := #[{ on := 3, ground := Ground.data }], guard := none }) rfl (fun K hK => ?_) ?_
  ·
    go_simp
    refine hK.out _ _ o2 (fun hHeld => ?_)
    clear hK K
    try simp only [Act.put, List.setIfInBounds_toArray, List.set_cons_zero, List.set_cons_succ]
    refine wpAnyH_take (i := 9) (oi := { dst := some 85, op := Op.slice 24 (Operand.tmp 80) (some (Operand.tmp 84)) none none, type := 24, pos := "buffer.go:169", after := #[{ on := 4, ground := Ground.data }, { on := 8, ground := Ground.data }], guard := none }) (v := ?_) rfl (by kernel_rfl) (by kernel_rfl) (by kernel_rfl) (fun _ _ _ h => h) (Or.inl ⟨by rfl, ?_⟩) (by assumption) ?_
    rotate_left
    · (intro w hSw; (try dsimp only at hSw); go_simp; try with_reducible rfl)
    try simp only [Act.put, List.setIfInBounds_toArray, List.set_cons_zero, List.set_cons_succ]
    refine wpAnyH_ready (rs := [16]) (by kernel_rfl) (by simp) ?_
    refine AllReadyH.cons (o := { dst := some 92, op := Op.call { callee := Callee.value (Operand.func 94), args := #[Operand.tmp 85, Operand.tmp 91], argTypes := #[24, 3] }, type := 24, pos := "buffer.go:169", after := #[{ on := 9, ground := Ground.data }, { on := 15, ground := Ground.data }], guard := none }) rfl (fun K hK => ?_) ?_
    ·
      go_simp
      go_at_call 94; go_must (refine (Tryd.bytes_growSlice_row g xs.length cap n cur W0.drew HG0.out hcs hlc hn hlim hc2 h1).mono ?_); rintro e w2 ⟨cap2, cells, rfl, hN, hcsz, htk, hcap2, hcm2, hbel⟩
      have hb2 := hbel.block s hsl
      have hk2 := hb2.trans HBK.out
      have d1 := blk_cell hk2 1
      have d2 := blk_cell hk2 2
      have e1 := blk_free hk2 1
      have e2 := blk_free hk2 2
      simp [swCells] at d1 d2
      have o2 := d2
      go_wp2_with fail
      refine hK.out _ _ o2 (fun hHeld => ?_)
      clear hK K
      try simp only [Act.put, List.setIfInBounds_toArray, List.set_cons_zero, List.set_cons_succ]
      refine wpAnyH_take (i := 17) (oi := { dst := some 93, op := Op.nilCheck (Operand.tmp 76), type := 0, pos := "buffer.go:169", after := #[{ on := 0, ground := Ground.data }, { on := 0, ground := Ground.phase }, { on := 1, ground := Ground.phase }, { on := 2, ground := Ground.phase }, { on := 3, ground := Ground.phase }, { on := 4, ground := Ground.phase }, { on := 5, ground := Ground.phase }, { on := 6, ground := Ground.phase }, { on := 7, ground := Ground.phase }, { on := 8, ground := Ground.phase }, { on := 9, ground := Ground.phase }, { on := 10, ground := Ground.phase }, { on := 11, ground := Ground.phase }, { on := 12, ground := Ground.phase }, { on := 13, ground := Ground.phase }, { on := 14, ground := Ground.phase }, { on := 15, ground := Ground.phase }, { on := 16, ground := Ground.phase }], guard := none }) (v := ?_) rfl (by kernel_rfl) (by kernel_rfl) (by kernel_rfl) (fun _ _ _ h => h) (Or.inl ⟨by rfl, ?_⟩) (by assumption) ?_
      rotate_left
      · (intro w hSw; (try dsimp only at hSw); go_simp; try with_reducible rfl)
      try simp only [Act.put, List.setIfInBounds_toArray, List.set_cons_zero, List.set_cons_succ]
      refine wpAnyH_take (i := 18) (oi := { dst := some 94, op := Op.fieldAddr 79 (Operand.tmp 93) 0, type := 0, pos := "buffer.go:169", after := #[{ on := 17, ground := Ground.data }, { on := 0, ground := Ground.phase }, { on := 1, ground := Ground.phase }, { on := 2, ground := Ground.phase }, { on := 3, ground := Ground.phase }, { on := 4, ground := Ground.phase }, { on := 5, ground := Ground.phase }, { on := 6, ground := Ground.phase }, { on := 7, ground := Ground.phase }, { on := 8, ground := Ground.phase }, { on := 9, ground := Ground.phase }, { on := 10, ground := Ground.phase }, { on := 11, ground := Ground.phase }, { on := 12, ground := Ground.phase }, { on := 13, ground := Ground.phase }, { on := 14, ground := Ground.phase }, { on := 15, ground := Ground.phase }, { on := 16, ground := Ground.phase }], guard := none }) (v := ?_) rfl (by kernel_rfl) (by kernel_rfl) (by kernel_rfl) (fun _ _ _ h => h) (Or.inl ⟨by rfl, ?_⟩) (by assumption) ?_
      rotate_left
      · (intro w hSw; (try dsimp only at hSw); go_simp; try with_reducible rfl)
      try simp only [Act.put, List.setIfInBounds_toArray, List.set_cons_zero, List.set_cons_succ]
      refine wpAnyH_ready (rs := [19]) (by kernel_rfl) (by simp) ?_
      refine AllReadyH.cons (o := { dst := none, op := Op.store 24 (Operand.tmp 94) (Operand.tmp 92), type := 0, pos := "buffer.go:169", after := #[{ on := 18, ground := Ground.data }, { on := 16, ground := Ground.data }, { on := 16, ground := Ground.chain }, { on := 0, ground := Ground.phase }, { on := 1, ground := Ground.phase }, { on := 2, ground := Ground.phase }, { on := 3, ground := Ground.phase }, { on := 4, ground := Ground.phase }, { on := 5, ground := Ground.phase }, { on := 6, ground := Ground.phase }, { on := 7, ground := Ground.phase }, { on := 8, ground := Ground.phase }, { on := 9, ground := Ground.phase }, { on := 10, ground := Ground.phase }, { on := 11, ground := Ground.phase }, { on := 12, ground := Ground.phase }, { on := 13, ground := Ground.phase }, { on := 14, ground := Ground.phase }, { on := 15, ground := Ground.phase }, { on := 16, ground := Ground.phase }], guard := none }) rfl (fun K hK => ?_) ?_
      ·
        go_simp
        have o3 : ∀ v, (w2.setCell ⟨s, 1, none⟩ v).cell? ⟨s, 2, none⟩ = some (.int .i64 0) := fun v => (World.cell?_setCell_other _ _ _ _ (by intro e; injection e with _ e; cases e)).trans d2
        refine hK.out _ _ (o3 _) (fun hHeld => ?_)
        clear hK K
        try simp only [Act.put, List.setIfInBounds_toArray, List.set_cons_zero, List.set_cons_succ]
        refine wpAnyH_done (by kernel_rfl) ?_ _
        go_wp2
        go_ret
        have hk3 := blk_set (blk_set (blk_set hk2 1 (.slice (some ⟨W0.drew.heap.size, 0, none⟩) xs.length cap2)) 2 (.int .i64 0)) 1 (.slice (some ⟨W0.drew.heap.size, 0, none⟩) (xs.length + n) cap2)
        have hne : W0.drew.heap.size ≠ s := by show W0.heap.size ≠ s; omega
        refine ⟨rfl, W0.drew.heap.size, cap2, cells, lr, Nat.le_of_eq HZZ.out.symm, ?_, ?_, hcsz, htk.trans HT.out, hcap2, hcm2, grownBy_sets (show w.grownBy W0.drew (some s) from ⟨hgr0.os, hgr0.tape, hgr0.output, hgr0.size, hgr0.block⟩) hbel _ _ _⟩
        · unfold swBlk
          refine hk3.trans ?_
          simp [swCells]
        · rw [Below.heap_setCell _ _ _ _ hne, Below.heap_setCell _ _ _ _ hne, Below.heap_setCell _ _ _ _ hne]
          exact hN
      exact AllReadyH.nil
    exact AllReadyH.nil
  exact AllReadyH.nil

theorem run_makeSmall (n : Nat) (h : n ≤ 64) : ∃ M : Array Value, M.size = 64 ∧ ∀ W : World, (Instr.makeSlice 24 (.int .i64 (n : Int)) (.int .i64 64)).run Tryd.prog W = .ok (.slice (some ⟨W.heap.size, 0, none⟩) n 64) (W.alloc (.cells M 5)) := by
  obtain ⟨i, hi, hz0, hz1, hz2⟩ := info_parts u8.info
  refine ⟨madeCells (Value.int .u8 0).cells ((64 : Int).toNat * i.size), by rw [size_madeCells, hz1]; rfl, fun W => ?_⟩
  have h := run_makeSlice (P := Tryd.prog) W 24 5 i (.int .u8 0) Tryd.underlying24 hi hz0 .i64 .i64 (n : Int) 64 (by omega) (by omega) (by rw [hz1]; decide) (by rw [hz2]; decide) (by decide)
  simpa using h

set_option maxRecDepth 100000 in
set_option maxHeartbeats 4000000 in
theorem grow_small (s n : Nat) (lr : Int) (big : Bool) (ch : Int) (w : World) (h : swBlk w s (.slice none 0 0) lr big ch) (hn : 1 ≤ n) (h64 : n ≤ 64) :
    Calls Tryd.prog 90 #[.pointer (some ⟨s, 1, none⟩), .int .i64 n] w (Grown s big ch [] n w) := by
  have hsl := lt_of_some h
  obtain ⟨M, hMs, hmk⟩ := run_makeSmall n h64
  have hnil : ∀ W, (binOp .eql 24 (.slice none 0 0) (.slice none 0 0)).run Tryd.prog W = .ok (.bool true) W := fun W => Lib.run_eql_slice_nil_nil W _ _ Tryd.underlying24
  have HL := Lib.hid (lenAt s _ _ 0 lr big ch w h (by omega))
  have HB := Lib.hid h
  clear h
  go_enter Tryd.func90, Tryd.ntmps90
  go_wp2_with (first
    | (go_at_call 92; go_must (refine HL.out.mono ?_); rintro e w' ⟨rfl, k, rfl⟩; have c1 : (w.drewN k).cell? ⟨s, 1, none⟩ = some (.slice none 0 0) := (blk_cell HB.out 1).trans rfl; have c2 : (w.drewN k).cell? ⟨s, 2, none⟩ = some (.int .i64 0) := (blk_cell HB.out 2).trans rfl)
    | (go_at_call 89; go_must (refine (Tryd.Buffer_tryGrow_none_at s 1 none 0 0 n (w.drewN k) ((blk_cell HB.out 1).trans rfl) (Nat.le_refl _) (by simp [maxLen]) (by omega)).mono ?_); rintro e w' ⟨rfl, rfl⟩; have f1 : ∀ o, ((w.drewN k).alloc o).frozen? ⟨s, 1, none⟩ = false := (fun o => blk_free (((Gr.refl (w.drewN k)).alloc o).heap HB.out) 1); have k1 : ∀ o, ((w.drewN k).alloc o).cell? ⟨s, 1, none⟩ = some (.slice none 0 0) := (fun o => (blk_cell (((Gr.refl (w.drewN k)).alloc o).heap HB.out) 1).trans rfl)))
  go_ret
  have hkb := blk_set (((Gr.refl (w.drewN k)).alloc (.cells M 5)).heap HB.out) 1 (.slice (some ⟨w.heap.size, 0, none⟩) n 64)
  have hne : w.heap.size ≠ s := by omega
  refine ⟨rfl, w.heap.size, 64, M, lr, Nat.le_refl _, ?_, ?_, hMs, by simp, by simpa using h64, by simp [maxLen], Lib.grownBy_setB (Lib.grownBy_allocR ((Fx.refl s w).drewN k) _) 1 _⟩
  · unfold swBlk
    refine hkb.trans ?_
    simp [swCells]
  · rw [Below.heap_setCell _ _ _ _ hne]
    exact heap_alloc_new (w.drewN k) _

set_option maxRecDepth 100000 in
set_option maxHeartbeats 4000000 in
theorem grow_nil (s n : Nat) (lr : Int) (big : Bool) (ch : Int) (w : World) (h : swBlk w s (.slice none 0 0) lr big ch) (h64 : 64 < n) (hlim : n ≤ 140737488355328) :
    Calls Tryd.prog 90 #[.pointer (some ⟨s, 1, none⟩), .int .i64 n] w (Grown s big ch [] n w) := by
  have hsl := lt_of_some h
  have hn : 1 ≤ n := by omega
  have hnil : ∀ W, (binOp .eql 24 (.slice none 0 0) (.slice none 0 0)).run Tryd.prog W = .ok (.bool true) W := fun W => Lib.run_eql_slice_nil_nil W _ _ Tryd.underlying24
  have hwn : IntKind.i64.wrap (n : Int) = n := by rw [IntKind.wrap_i64]; omega
  have HL := Lib.hid (lenAt s _ _ 0 lr big ch w h (by omega))
  have HB := Lib.hid h
  clear h
  go_enter Tryd.func90, Tryd.ntmps90
  go_wp2_with (first
    | (go_at_call 92; go_must (refine HL.out.mono ?_); rintro e w' ⟨rfl, k, rfl⟩; have c1 : (w.drewN k).cell? ⟨s, 1, none⟩ = some (.slice none 0 0) := (blk_cell HB.out 1).trans rfl; have c2 : (w.drewN k).cell? ⟨s, 2, none⟩ = some (.int .i64 0) := (blk_cell HB.out 2).trans rfl)
    | (go_at_call 89; go_must (refine (Tryd.Buffer_tryGrow_none_at s 1 none 0 0 n (w.drewN k) ((blk_cell HB.out 1).trans rfl) (Nat.le_refl _) (by simp [maxLen]) (by omega)).mono ?_); rintro e w' ⟨rfl, rfl⟩))
  have hgr0 : w.grownBy (w.drewN k) (some s) := (Fx.refl s w).drewN k
  have HZZ := Lib.hid (show (w.drewN k).heap.size = w.heap.size from rfl)
  have HBK := Lib.hid (show (w.drewN k).heap[s]? = some (.cells (swCells (.slice none 0 0) lr big ch) 81 (0, 0)) from HB.out)
  clear HB HL
  have hsl : s < (w.drewN k).heap.size := hsl
  generalize w.drewN k = W0 at *
  have o2 : W0.drew.cell? ⟨s, 2, none⟩ = some (.int .i64 0) := c2
  refine wp_region_held_drew (S := fun w' => w'.cell? ⟨s, 2, none⟩ = some (.int .i64 0)) (by kernel_rfl) o2 (fun hHeld => ?_)
  refine wpAnyH_take (i := 0) (oi := { dst := some 76, op := Op.move (Operand.tmp 0), type := 88, pos := "buffer.go:169", after := #[], guard := none }) (v := ?_) rfl (by kernel_rfl) (by kernel_rfl) (by kernel_rfl) (fun _ _ _ h => h) (Or.inl ⟨by rfl, ?_⟩) (by assumption) ?_
  rotate_left
  · (intro w hSw; (try dsimp only at hSw); go_simp; try with_reducible rfl)
  try simp only [Act.put, List.setIfInBounds_toArray, List.set_cons_zero, List.set_cons_succ]
  refine wpAnyH_take (i := 1) (oi := { dst := some 77, op := Op.move (Operand.tmp 0), type := 88, pos := "buffer.go:169", after := #[], guard := none }) (v := ?_) rfl (by kernel_rfl) (by kernel_rfl) (by kernel_rfl) (fun _ _ _ h => h) (Or.inl ⟨by rfl, ?_⟩) (by assumption) ?_
  rotate_left
  · (intro w hSw; (try dsimp only at hSw); go_simp; try with_reducible rfl)
  try simp only [Act.put, List.setIfInBounds_toArray, List.set_cons_zero, List.set_cons_succ]
  refine wpAnyH_take (i := 2) (oi := { dst := some 78, op := Op.nilCheck (Operand.tmp 77), type := 0, pos := "buffer.go:169", after := #[{ on := 1, ground := Ground.data }], guard := none }) (v := ?_) rfl (by kernel_rfl) (by kernel_rfl) (by kernel_rfl) (fun _ _ _ h => h) (Or.inl ⟨by rfl, ?_⟩) (by assumption) ?_
  rotate_left
  · (intro w hSw; (try dsimp only at hSw); go_simp; try with_reducible rfl)
  try simp only [Act.put, List.setIfInBounds_toArray, List.set_cons_zero, List.set_cons_succ]
  refine wpAnyH_take (i := 3) (oi := { dst := some 79, op := Op.fieldAddr 79 (Operand.tmp 78) 0, type := 0, pos := "buffer.go:169", after := #[{ on := 2, ground := Ground.data }], guard := none }) (v := ?_) rfl (by kernel_rfl) (by kernel_rfl) (by kernel_rfl) (fun _ _ _ h => h) (Or.inl ⟨by rfl, ?_⟩) (by assumption) ?_
  rotate_left
  · (intro w hSw; (try dsimp only at hSw); go_simp; try with_reducible rfl)
  try simp only [Act.put, List.setIfInBounds_toArray, List.set_cons_zero, List.set_cons_succ]
  refine wpAnyH_take (i := 5) (oi := { dst := some 81, op := Op.move (Operand.tmp 0), type := 88, pos := "buffer.go:169", after := #[], guard := none }) (v := ?_) rfl (by kernel_rfl) (by kernel_rfl) (by kernel_rfl) (fun _ _ _ h => h) (Or.inl ⟨by rfl, ?_⟩) (by assumption) ?_
  rotate_left
  · (intro w hSw; (try dsimp only at hSw); go_simp; try with_reducible rfl)
  try simp only [Act.put, List.setIfInBounds_toArray, List.set_cons_zero, List.set_cons_succ]
  refine wpAnyH_take (i := 6) (oi := { dst := some 82, op := Op.nilCheck (Operand.tmp 81), type := 0, pos := "buffer.go:169", after := #[{ on := 5, ground := Ground.data }], guard := none }) (v := ?_) rfl (by kernel_rfl) (by kernel_rfl) (by kernel_rfl) (fun _ _ _ h => h) (Or.inl ⟨by rfl, ?_⟩) (by assumption) ?_
  rotate_left
  · (intro w hSw; (try dsimp only at hSw); go_simp; try with_reducible rfl)
  try simp only [Act.put, List.setIfInBounds_toArray, List.set_cons_zero, List.set_cons_succ]
  refine wpAnyH_take (i := 7) (oi := { dst := some 83, op := Op.fieldAddr 79 (Operand.tmp 82) 1, type := 0, pos := "buffer.go:169", after := #[{ on := 6, ground := Ground.data }], guard := none }) (v := ?_) rfl (by kernel_rfl) (by kernel_rfl) (by kernel_rfl) (fun _ _ _ h => h) (Or.inl ⟨by rfl, ?_⟩) (by assumption) ?_
  rotate_left
  · (intro w hSw; (try dsimp only at hSw); go_simp; try with_reducible rfl)
  try simp only [Act.put, List.setIfInBounds_toArray, List.set_cons_zero, List.set_cons_succ]
  refine wpAnyH_take (i := 8) (oi := { dst := some 84, op := Op.load 3 (Operand.tmp 83), type := 3, pos := "buffer.go:169", after := #[{ on := 7, ground := Ground.data }], guard := none }) (v := ?_) rfl (by kernel_rfl) (by kernel_rfl) (by kernel_rfl) (fun _ _ _ h => h) (Or.inl ⟨by rfl, ?_⟩) (by assumption) ?_
  rotate_left
  · (intro w hSw; (try dsimp only at hSw); go_simp; try with_reducible rfl)
  try simp only [Act.put, List.setIfInBounds_toArray, List.set_cons_zero, List.set_cons_succ]
  refine wpAnyH_take (i := 10) (oi := { dst := some 86, op := Op.move (Operand.tmp 0), type := 88, pos := "buffer.go:169", after := #[], guard := none }) (v := ?_) rfl (by kernel_rfl) (by kernel_rfl) (by kernel_rfl) (fun _ _ _ h => h) (Or.inl ⟨by rfl, ?_⟩) (by assumption) ?_
  rotate_left
  · (intro w hSw; (try dsimp only at hSw); go_simp; try with_reducible rfl)
  try simp only [Act.put, List.setIfInBounds_toArray, List.set_cons_zero, List.set_cons_succ]
  refine wpAnyH_take (i := 11) (oi := { dst := some 87, op := Op.nilCheck (Operand.tmp 86), type := 0, pos := "buffer.go:169", after := #[{ on := 10, ground := Ground.data }], guard := none }) (v := ?_) rfl (by kernel_rfl) (by kernel_rfl) (by kernel_rfl) (fun _ _ _ h => h) (Or.inl ⟨by rfl, ?_⟩) (by assumption) ?_
  rotate_left
  · (intro w hSw; (try dsimp only at hSw); go_simp; try with_reducible rfl)
  try simp only [Act.put, List.setIfInBounds_toArray, List.set_cons_zero, List.set_cons_succ]
  refine wpAnyH_take (i := 12) (oi := { dst := some 88, op := Op.fieldAddr 79 (Operand.tmp 87) 1, type := 0, pos := "buffer.go:169", after := #[{ on := 11, ground := Ground.data }], guard := none }) (v := ?_) rfl (by kernel_rfl) (by kernel_rfl) (by kernel_rfl) (fun _ _ _ h => h) (Or.inl ⟨by rfl, ?_⟩) (by assumption) ?_
  rotate_left
  · (intro w hSw; (try dsimp only at hSw); go_simp; try with_reducible rfl)
  try simp only [Act.put, List.setIfInBounds_toArray, List.set_cons_zero, List.set_cons_succ]
  refine wpAnyH_take (i := 13) (oi := { dst := some 89, op := Op.load 3 (Operand.tmp 88), type := 3, pos := "buffer.go:169", after := #[{ on := 12, ground := Ground.data }], guard := none }) (v := ?_) rfl (by kernel_rfl) (by kernel_rfl) (by kernel_rfl) (fun _ _ _ h => h) (Or.inl ⟨by rfl, ?_⟩) (by assumption) ?_
  rotate_left
  · (intro w hSw; (try dsimp only at hSw); go_simp; try with_reducible rfl)
  try simp only [Act.put, List.setIfInBounds_toArray, List.set_cons_zero, List.set_cons_succ]
  refine wpAnyH_take (i := 14) (oi := { dst := some 90, op := Op.move (Operand.tmp 1), type := 3, pos := "buffer.go:169", after := #[], guard := none }) (v := ?_) rfl (by kernel_rfl) (by kernel_rfl) (by kernel_rfl) (fun _ _ _ h => h) (Or.inl ⟨by rfl, ?_⟩) (by assumption) ?_
  rotate_left
  · (intro w hSw; (try dsimp only at hSw); go_simp; try with_reducible rfl)
  try simp only [Act.put, List.setIfInBounds_toArray, List.set_cons_zero, List.set_cons_succ]
  refine wpAnyH_take (i := 15) (oi := { dst := some 91, op := Op.binOp BinOp.add 3 (Operand.tmp 89) (Operand.tmp 90) 3, type := 3, pos := "buffer.go:169", after := #[{ on := 13, ground := Ground.data }, { on := 14, ground := Ground.data }], guard := none }) (v := ?_) rfl (by kernel_rfl) (by kernel_rfl) (by kernel_rfl) (fun _ _ _ h => h) (Or.inl ⟨by rfl, ?_⟩) (by assumption) ?_
  rotate_left
  · (intro w hSw; (try dsimp only at hSw); go_simp; try with_reducible rfl)
  try simp only [Act.put, List.setIfInBounds_toArray, List.set_cons_zero, List.set_cons_succ]
  refine wpAnyH_ready (rs := [4]) (by kernel_rfl) (by simp) ?_
  refine AllReadyH.cons (o := { dst := some 80, op := Op.load 24 (Operand.tmp 79), type := 24, pos := "buffer.go:169", after := #[{ on := 3, ground := Ground.data }], guard := none }) rfl (fun K hK => ?_) ?_
  ·
    go_simp
    refine hK.out _ _ o2 (fun hHeld => ?_)
    clear hK K
    try simp only [Act.put, List.setIfInBounds_toArray, List.set_cons_zero, List.set_cons_succ]
    refine wpAnyH_take (i := 9) (oi := { dst := some 85, op := Op.slice 24 (Operand.tmp 80) (some (Operand.tmp 84)) none none, type := 24, pos := "buffer.go:169", after := #[{ on := 4, ground := Ground.data }, { on := 8, ground := Ground.data }], guard := none }) (v := ?_) rfl (by kernel_rfl) (by kernel_rfl) (by kernel_rfl) (fun _ _ _ h => h) (Or.inl ⟨by rfl, ?_⟩) (by assumption) ?_
    rotate_left
    · (intro w hSw; (try dsimp only at hSw); go_simp; try with_reducible rfl)
    try simp only [Act.put, List.setIfInBounds_toArray, List.set_cons_zero, List.set_cons_succ]
    refine wpAnyH_ready (rs := [16]) (by kernel_rfl) (by simp) ?_
    refine AllReadyH.cons (o := { dst := some 92, op := Op.call { callee := Callee.value (Operand.func 94), args := #[Operand.tmp 85, Operand.tmp 91], argTypes := #[24, 3] }, type := 24, pos := "buffer.go:169", after := #[{ on := 9, ground := Ground.data }, { on := 15, ground := Ground.data }], guard := none }) rfl (fun K hK => ?_) ?_
    ·
      go_simp
      go_at_call 94; go_must (refine (Tryd.bytes_growSlice_nil n W0.drew hn hlim).mono ?_); rintro e w2 ⟨cap2, cells, rfl, hN, hcsz, hcap2, hcm2, hbel⟩
      have hb2 := hbel.block s hsl
      have hk2 := hb2.trans HBK.out
      have d1 := blk_cell hk2 1
      have d2 := blk_cell hk2 2
      have e1 := blk_free hk2 1
      have e2 := blk_free hk2 2
      simp [swCells] at d1 d2
      have o2 := d2
      go_wp2_with fail
      refine hK.out _ _ o2 (fun hHeld => ?_)
      clear hK K
      try simp only [Act.put, List.setIfInBounds_toArray, List.set_cons_zero, List.set_cons_succ]
      refine wpAnyH_take (i := 17) (oi := { dst := some 93, op := Op.nilCheck (Operand.tmp 76), type := 0, pos := "buffer.go:169", after := #[{ on := 0, ground := Ground.data }, { on := 0, ground := Ground.phase }, { on := 1, ground := Ground.phase }, { on := 2, ground := Ground.phase }, { on := 3, ground := Ground.phase }, { on := 4, ground := Ground.phase }, { on := 5, ground := Ground.phase }, { on := 6, ground := Ground.phase }, { on := 7, ground := Ground.phase }, { on := 8, ground := Ground.phase }, { on := 9, ground := Ground.phase }, { on := 10, ground := Ground.phase }, { on := 11, ground := Ground.phase }, { on := 12, ground := Ground.phase }, { on := 13, ground := Ground.phase }, { on := 14, ground := Ground.phase }, { on := 15, ground := Ground.phase }, { on := 16, ground := Ground.phase }], guard := none }) (v := ?_) rfl (by kernel_rfl) (by kernel_rfl) (by kernel_rfl) (fun _ _ _ h => h) (Or.inl ⟨by rfl, ?_⟩) (by assumption) ?_
      rotate_left
      · (intro w hSw; (try dsimp only at hSw); go_simp; try with_reducible rfl)
      try simp only [Act.put, List.setIfInBounds_toArray, List.set_cons_zero, List.set_cons_succ]
      refine wpAnyH_take (i := 18) (oi := { dst := some 94, op := Op.fieldAddr 79 (Operand.tmp 93) 0, type := 0, pos := "buffer.go:169", after := #[{ on := 17, ground := Ground.data }, { on := 0, ground := Ground.phase }, { on := 1, ground := Ground.phase }, { on := 2, ground := Ground.phase }, { on := 3, ground := Ground.phase }, { on := 4, ground := Ground.phase }, { on := 5, ground := Ground.phase }, { on := 6, ground := Ground.phase }, { on := 7, ground := Ground.phase }, { on := 8, ground := Ground.phase }, { on := 9, ground := Ground.phase }, { on := 10, ground := Ground.phase }, { on := 11, ground := Ground.phase }, { on := 12, ground := Ground.phase }, { on := 13, ground := Ground.phase }, { on := 14, ground := Ground.phase }, { on := 15, ground := Ground.phase }, { on := 16, ground := Ground.phase }], guard := none }) (v := ?_) rfl (by kernel_rfl) (by kernel_rfl) (by kernel_rfl) (fun _ _ _ h => h) (Or.inl ⟨by rfl, ?_⟩) (by assumption) ?_
      rotate_left
      · (intro w hSw; (try dsimp only at hSw); go_simp; try with_reducible rfl)
      try simp only [Act.put, List.setIfInBounds_toArray, List.set_cons_zero, List.set_cons_succ]
      refine wpAnyH_ready (rs := [19]) (by kernel_rfl) (by simp) ?_
      refine AllReadyH.cons (o := { dst := none, op := Op.store 24 (Operand.tmp 94) (Operand.tmp 92), type := 0, pos := "buffer.go:169", after := #[{ on := 18, ground := Ground.data }, { on := 16, ground := Ground.data }, { on := 16, ground := Ground.chain }, { on := 0, ground := Ground.phase }, { on := 1, ground := Ground.phase }, { on := 2, ground := Ground.phase }, { on := 3, ground := Ground.phase }, { on := 4, ground := Ground.phase }, { on := 5, ground := Ground.phase }, { on := 6, ground := Ground.phase }, { on := 7, ground := Ground.phase }, { on := 8, ground := Ground.phase }, { on := 9, ground := Ground.phase }, { on := 10, ground := Ground.phase }, { on := 11, ground := Ground.phase }, { on := 12, ground := Ground.phase }, { on := 13, ground := Ground.phase }, { on := 14, ground := Ground.phase }, { on := 15, ground := Ground.phase }, { on := 16, ground := Ground.phase }], guard := none }) rfl (fun K hK => ?_) ?_
      ·
        go_simp
        have o3 : ∀ v, (w2.setCell ⟨s, 1, none⟩ v).cell? ⟨s, 2, none⟩ = some (.int .i64 0) := fun v => (World.cell?_setCell_other _ _ _ _ (by intro e; injection e with _ e; cases e)).trans d2
        refine hK.out _ _ (o3 _) (fun hHeld => ?_)
        clear hK K
        try simp only [Act.put, List.setIfInBounds_toArray, List.set_cons_zero, List.set_cons_succ]
        refine wpAnyH_done (by kernel_rfl) ?_ _
        go_wp2
        go_ret
        have hk3 := blk_set (blk_set (blk_set hk2 1 (.slice (some ⟨W0.drew.heap.size, 0, none⟩) 0 cap2)) 2 (.int .i64 0)) 1 (.slice (some ⟨W0.drew.heap.size, 0, none⟩) (n) cap2)
        have hne : W0.drew.heap.size ≠ s := by show W0.heap.size ≠ s; omega
        refine ⟨rfl, W0.drew.heap.size, cap2, cells, lr, Nat.le_of_eq HZZ.out.symm, ?_, ?_, hcsz, by simp, (by simpa using hcap2), hcm2, grownBy_sets (show w.grownBy W0.drew (some s) from ⟨hgr0.os, hgr0.tape, hgr0.output, hgr0.size, hgr0.block⟩) hbel _ _ _⟩
        · unfold swBlk
          refine hk3.trans ?_
          simp [swCells]
        · rw [Below.heap_setCell _ _ _ _ hne, Below.heap_setCell _ _ _ _ hne, Below.heap_setCell _ _ _ _ hne]
          exact hN
      exact AllReadyH.nil
    exact AllReadyH.nil
  exact AllReadyH.nil
end Go.Proofs.YtgkccbfepjgjoaaDoor
