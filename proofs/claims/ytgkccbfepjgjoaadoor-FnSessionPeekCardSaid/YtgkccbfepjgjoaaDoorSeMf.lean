/- Several texts in one (merge.py): SeP, SeQ. -/
import Derived.Test.YtgkccbfepjgjoaaDoorSeMb
import Derived.Deep.RegionHeld3
import Derived.Lib.BufferMore
/- A session that writes: its buffer grows, and is written; what becomes of every other block. Printed by gen_sep.py out of sep_head.txt. -/
namespace Go.Proofs.YtgkccbfepjgjoaaDoor
open Go Go.RowKit

/-- The cells of a session that writes. -/
def swCells (v : Value) (lr : Int) (big : Bool) (ch : Int) : Array Value := #[.slice none 0 0, v, .int .i64 0, .int .i8 lr, .int .i64 0, .bool big, .int .i64 ch]
def swBlk (w : World) (s : Nat) (v : Value) (lr : Int) (big : Bool) (ch : Int) : Prop := w.heap[s]? = some (.cells (swCells v lr big ch) 81 (0, 0))

theorem lenAt (s : Nat) (p : Option Addr) (n c : Nat) (lr : Int) (big : Bool) (ch : Int) (w : World) (h : swBlk w s (.slice p n c) lr big ch) (hn : n ≤ 140737488355328) :
    Calls Tryd.prog 92 #[.pointer (some ⟨s, 1, none⟩)] w fun e w' => e = .returned (.int .i64 n) ∧ ∃ k, w' = w.drewN k := by
  have c1 : w.cell? ⟨s, 1, none⟩ = some (.slice p n c) := (blk_cell h 1).trans rfl
  have c2 : w.cell? ⟨s, 2, none⟩ = some (.int .i64 0) := (blk_cell h 2).trans rfl
  have hw : IntKind.i64.wrap ((n : Int) - 0) = n := by rw [IntKind.wrap_i64]; omega
  clear h
  go_enter Tryd.func92, Tryd.ntmps92
  go_wp2
  go_quiet (fail)
  go_wp2
  go_ret
  exact ⟨by simp, _, rfl⟩

/-- Behind grow: a new row, with room. -/
def Grown (s : Nat) (big : Bool) (ch : Int) (xs : List Int) (n : Nat) (w : World) (e : Ending) (w' : World) : Prop :=
  e = .returned (.int .i64 xs.length) ∧ ∃ g cap cells lr, w.heap.size ≤ g ∧ swBlk w' s (.slice (some ⟨g, 0, none⟩) (xs.length + n) cap) lr big ch ∧ w'.heap[g]? = some (.cells cells 5 (0, 0)) ∧ cells.size = cap ∧
    cells.toList.take xs.length = xs.map (Value.int .u8) ∧ xs.length + n ≤ cap ∧ cap ≤ maxLen ∧ w.grownBy w' (some s)

theorem grownBy_sets {w W w2 : World} {s : Nat} (h0 : w.grownBy W (some s)) (h : Below W.heap.size W w2) (v1 v2 v3 : Value) : w.grownBy (((w2.setCell ⟨s, 1, none⟩ v1).setCell ⟨s, 2, none⟩ v2).setCell ⟨s, 1, none⟩ v3) (some s) :=
  Lib.grownBy_setB (Lib.grownBy_setB (Lib.grownBy_setB (Lib.grownBy_below h0 h) 1 v1) 2 v2) 1 v3

set_option maxRecDepth 100000 in
set_option maxHeartbeats 4000000 in
theorem grow_row (s g cap n : Nat) (lr : Int) (big : Bool) (ch : Int) (xs : List Int) (w : World) (h : swBlk w s (.slice (some ⟨g, 0, none⟩) xs.length cap) lr big ch) (hO : OwnAt w g cap xs) (hx : 1 ≤ xs.length)
    (hn : 1 ≤ n) (hroom : cap - xs.length < n) (hlim : xs.length + n ≤ 140737488355328) :
    Calls Tryd.prog 90 #[.pointer (some ⟨s, 1, none⟩), .int .i64 n] w (Grown s big ch xs n w) := by
  have hsl := lt_of_some h
  obtain ⟨⟨cur, hg, hcs, htk0⟩, hlc, hcm, hbyt⟩ := hO
  have hc2 : cap ≤ 140737488355328 := by omega
  have h1 : ∀ v ∈ cur.toList.take xs.length, v.oneCell' = true := by rw [htk0]; exact one_cells _
  have hnil : ∀ W, (binOp .eql 24 (.slice (some ⟨g, 0, none⟩) xs.length cap) (.slice none 0 0)).run Tryd.prog W = .ok (.bool false) W := fun W => Lib.run_eql_slice_some_nil W _ _ _ Tryd.underlying24
  have hcm2 : cap ≤ 9223372036854775807 := by omega
  have hwn : IntKind.i64.wrap (n : Int) = n := by rw [IntKind.wrap_i64]; omega
  have HL := Lib.hid (lenAt s _ _ cap lr big ch w h (by omega))
  have HB := Lib.hid h
  have HG := Lib.hid hg
  have HT := Lib.hid htk0
  have HBY := Lib.hid hbyt
  clear h hg htk0 hbyt hcm
  have e0 : ((xs.length : Int) == 0) = false := beq_eq_false_iff_ne.2 (by omega)
  go_enter Tryd.func90, Tryd.ntmps90
  go_wp2_with (first
    | (go_at_call 92; go_must (refine HL.out.mono ?_); rintro e w' ⟨rfl, k, rfl⟩)
    | (go_at_call 89; go_must (refine (Tryd.Buffer_tryGrow_none_at s 1 _ xs.length cap n (w.drewN k) ((blk_cell HB.out 1).trans rfl) hlc (by simp only [maxLen]; omega) hroom).mono ?_); rintro e w' ⟨rfl, rfl⟩; have c1 : (w.drewN k).cell? ⟨s, 1, none⟩ = some (.slice (some ⟨g, 0, none⟩) xs.length cap) := (blk_cell HB.out 1).trans rfl; have c2 : (w.drewN k).cell? ⟨s, 2, none⟩ = some (.int .i64 0) := (blk_cell HB.out 2).trans rfl))
  have hgr0 : w.grownBy (w.drewN k) (some s) := (Fx.refl s w).drewN k
  have HZZ := Lib.hid (show (w.drewN k).heap.size = w.heap.size from rfl)
  have HBK := Lib.hid (show (w.drewN k).heap[s]? = some (.cells (swCells (.slice (some ⟨g, 0, none⟩) xs.length cap) lr big ch) 81 (0, 0)) from HB.out)
  have HG0 := Lib.hid (show (w.drewN k).heap[g]? = some (.cells cur 5 (0, 0)) from HG.out)
  clear HB HG HL
  have hsl : s < (w.drewN k).heap.size := hsl
  generalize w.drewN k = W0 at *
  have o2 : W0.drew.cell? ⟨s, 2, none⟩ = some (.int .i64 0) := c2
  refine wp_region_held_drew (S := fun w' => w'.cell? ⟨s, 2, none⟩ = some (.int .i64 0)) (by kernel_rfl) o2 (fun hHeld => ?_)
  refine wpAnyH_take (i := 0) (oi := { dst := some 76, op := Op.move (Operand.tmp 0), type := 88, pos := "buffer.go:169", after := #[], guard := none }) (v := ?_) rfl (by kernel_rfl) (by kernel_rfl) (by kernel_rfl) (fun _ _ _ h => h) (Or.inl ⟨by rfl, ?_⟩) (by assumption) ?_
  rotate_left
  · (intro w hSw; (try dsimp only at hSw); go_simp; try with_reducible rfl)
  try simp only [Act.put, List.setIfInBounds_toArray, List.set_cons_zero, List.set_cons_succ]
  refine wpAnyH_take (i := 1) (oi := { dst := some 77, op := Op.move (Operand.tmp 0), type := 88, pos := "buffer.go:169", after := #[], guard := none }) (v := ?_) rfl (by kernel_rfl) (by kernel_rfl) (by kernel_rfl) (fun _ _ _ h => h) (Or.inl ⟨by rfl, ?_⟩) (by assumption) ?_
  rotate_left
  · (intro w hSw; (try dsimp only at hSw); go_simp; try with_reducible rfl)
  try simp only [Act.put, List.setIfInBounds_toArray, List.set_cons_zero, List.set_cons_succ]
  refine wpAnyH_take (i := 2) (oi := { dst := some 78, op := Op.nilCheck (Operand.tmp 77), type := 0, pos := "buffer.go:169", after := #[{ on := 1, ground := Ground.data }], guard := none }) (v := ?_) rfl (by kernel_rfl) (by kernel_rfl) (by kernel_rfl) (fun _ _ _ h => h) (Or.inl ⟨by rfl, ?_⟩) (by assumption) ?_
  rotate_left
  · (intro w hSw; (try dsimp only at hSw); go_simp; try with_reducible rfl)
  try simp only [Act.put, List.setIfInBounds_toArray, List.set_cons_zero, List.set_cons_succ]
  refine wpAnyH_take (i := 3) (oi := { dst := some 79, op := Op.fieldAddr 79 (Operand.tmp 78) 0, type := 0, pos := "buffer.go:169", after := #[{ on := 2, ground := Ground.data }], guard := none }) (v := ?_) rfl (by kernel_rfl) (by kernel_rfl) (by kernel_rfl) (fun _ _ _ h => h) (Or.inl ⟨by rfl, ?_⟩) (by assumption) ?_
  rotate_left
  · (intro w hSw; (try dsimp only at hSw); go_simp; try with_reducible rfl)
  try simp only [Act.put, List.setIfInBounds_toArray, List.set_cons_zero, List.set_cons_succ]
  refine wpAnyH_take (i := 5) (oi := { dst := some 81, op := Op.move (Operand.tmp 0), type := 88, pos := "buffer.go:169", after := #[], guard := none }) (v := ?_) rfl (by kernel_rfl) (by kernel_rfl) (by kernel_rfl) (fun _ _ _ h => h) (Or.inl ⟨by rfl, ?_⟩) (by assumption) ?_
  rotate_left
  · (intro w hSw; (try dsimp only at hSw); go_simp; try with_reducible rfl)
  try simp only [Act.put, List.setIfInBounds_toArray, List.set_cons_zero, List.set_cons_succ]
  refine wpAnyH_take (i := 6) (oi := { dst := some 82, op := Op.nilCheck (Operand.tmp 81), type := 0, pos := "buffer.go:169", after := #[{ on := 5, ground := Ground.data }], guard := none }) (v := ?_) rfl (by kernel_rfl) (by kernel_rfl) (by kernel_rfl) (fun _ _ _ h => h) (Or.inl ⟨by rfl, ?_⟩) (by assumption) ?_
  rotate_left
  · (intro w hSw; (try dsimp only at hSw); go_simp; try with_reducible rfl)
  try simp only [Act.put, List.setIfInBounds_toArray, List.set_cons_zero, List.set_cons_succ]
  refine wpAnyH_take (i := 7) (oi := { dst := some 83, op := Op.fieldAddr 79 (Operand.tmp 82) 1, type := 0, pos := "buffer.go:169", after := #[{ on := 6, ground := Ground.data }], guard := none }) (v := ?_) rfl (by kernel_rfl) (by kernel_rfl) (by kernel_rfl) (fun _ _ _ h => h) (Or.inl ⟨by rfl, ?_⟩) (by assumption) ?_
  rotate_left
  · (intro w hSw; (try dsimp only at hSw); go_simp; try with_reducible rfl)
  try simp only [Act.put, List.setIfInBounds_toArray, List.set_cons_zero, List.set_cons_succ]
  refine wpAnyH_take (i := 8) (oi := { dst := some 84, op := Op.load 3 (Operand.tmp 83), type := 3, pos := "buffer.go:169", after := #[{ on := 7, ground := Ground.data }], guard := none }) (v := ?_) rfl (by kernel_rfl) (by kernel_rfl) (by kernel_rfl) (fun _ _ _ h => h) (Or.inl ⟨by rfl, ?_⟩) (by assumption) ?_
  rotate_left
  · (intro w hSw; (try dsimp only at hSw); go_simp; try with_reducible rfl)
  try simp only [Act.put, List.setIfInBounds_toArray, List.set_cons_zero, List.set_cons_succ]
  refine wpAnyH_take (i := 10) (oi := { dst := some 86, op := Op.move (Operand.tmp 0), type := 88, pos := "buffer.go:169", after := #[], guard := none }) (v := ?_) rfl (by kernel_rfl) (by kernel_rfl) (by kernel_rfl) (fun _ _ _ h => h) (Or.inl ⟨by rfl, ?_⟩) (by assumption) ?_
  rotate_left
  · (intro w hSw; (try dsimp only at hSw); go_simp; try with_reducible rfl)
  try simp only [Act.put, List.setIfInBounds_toArray, List.set_cons_zero, List.set_cons_succ]
  refine wpAnyH_take (i := 11) (oi := { dst := some 87, op := Op.nilCheck (Operand.tmp 86), type := 0, pos := "buffer.go:169", after := #[{ on := 10, ground := Ground.data }], guard := none }) (v := ?_) rfl (by kernel_rfl) (by kernel_rfl) (by kernel_rfl) (fun _ _ _ h => h) (Or.inl ⟨by rfl, ?_⟩) (by assumption) ?_
  rotate_left
  · (intro w hSw; (try dsimp only at hSw); go_simp; try with_reducible rfl)
  try simp only [Act.put, List.setIfInBounds_toArray, List.set_cons_zero, List.set_cons_succ]
  refine wpAnyH_take (i := 12) (oi := { dst := some 88, op := Op.fieldAddr 79 (Operand.tmp 87) 1, type := 0, pos := "buffer.go:169", after := #[{ on := 11, ground := Ground.data }], guard := none }) (v := ?_) rfl (by kernel_rfl) (by kernel_rfl) (by kernel_rfl) (fun _ _ _ h => h) (Or.inl ⟨by rfl, ?_⟩) (by assumption) ?_
  rotate_left
  · (intro w hSw; (try dsimp only at hSw); go_simp; try with_reducible rfl)
  try simp only [Act.put, List.setIfInBounds_toArray, List.set_cons_zero, List.set_cons_succ]
  refine wpAnyH_take (i := 13) (oi := { dst := some 89, op := Op.load 3 (Operand.tmp 88), type := 3, pos := "buffer.go:169", after := #[{ on := 12, ground := Ground.data }], guard := none }) (v := ?_) rfl (by kernel_rfl) (by kernel_rfl) (by kernel_rfl) (fun _ _ _ h => h) (Or.inl ⟨by rfl, ?_⟩) (by assumption) ?_
  rotate_left
  · (intro w hSw; (try dsimp only at hSw); go_simp; try with_reducible rfl)
  try simp only [Act.put, List.setIfInBounds_toArray, List.set_cons_zero, List.set_cons_succ]
  refine wpAnyH_take (i := 14) (oi := { dst := some 90, op := Op.move (Operand.tmp 1), type := 3, pos := "buffer.go:169", after := #[], guard := none }) (v := ?_) rfl (by kernel_rfl) (by kernel_rfl) (by kernel_rfl) (fun _ _ _ h => h) (Or.inl ⟨by rfl, ?_⟩) (by assumption) ?_
  rotate_left
  · (intro w hSw; (try dsimp only at hSw); go_simp; try with_reducible rfl)
  try simp only [Act.put, List.setIfInBounds_toArray, List.set_cons_zero, List.set_cons_succ]
  refine wpAnyH_take (i := 15) (oi := { dst := some 91, op := Op.binOp BinOp.add 3 (Operand.tmp 89) (Operand.tmp 90) 3, type := 3, pos := "buffer.go:169", after := #[{ on := 13, ground := Ground.data }, { on := 14, ground := Ground.data }], guard := none }) (v := ?_) rfl (by kernel_rfl) (by kernel_rfl) (by kernel_rfl) (fun _ _ _ h => h) (Or.inl ⟨by rfl, ?_⟩) (by assumption) ?_
  rotate_left
  · (intro w hSw; (try dsimp only at hSw); go_simp; try with_reducible rfl)
  try simp only [Act.put, List.setIfInBounds_toArray, List.set_cons_zero, List.set_cons_succ]
  refine wpAnyH_ready (rs := [4]) (by kernel_rfl) (by simp) ?_
  refine AllReadyH.cons (o := { dst := some 80, op := Op.load 24 (Operand.tmp 79), type := 24, pos := "buffer.go:169", after := #[{ on := 3, ground := Ground.data }], guard := none }) rfl (fun K hK => ?_) ?_
  ·
    go_simp
    refine hK.out _ _ o2 (fun hHeld => ?_)
    clear hK K
    try simp only [Act.put, List.setIfInBounds_toArray, List.set_cons_zero, List.set_cons_succ]
    refine wpAnyH_take (i := 9) (oi := { dst := some 85, op := Op.slice 24 (Operand.tmp 80) (some (Operand.tmp 84)) none none, type := 24, pos := "buffer.go:169", after := #[{ on := 4, ground := Ground.data }, { on := 8, ground := Ground.data }], guard := none }) (v := ?_) rfl (by kernel_rfl) (by kernel_rfl) (by kernel_rfl) (fun _ _ _ h => h) (Or.inl ⟨by rfl, ?_⟩) (by assumption) ?_
    rotate_left
    · (intro w hSw; (try dsimp only at hSw); go_simp; try with_reducible rfl)
    try simp only [Act.put, List.setIfInBounds_toArray, List.set_cons_zero, List.set_cons_succ]
    refine wpAnyH_ready (rs := [16]) (by kernel_rfl) (by simp) ?_
    refine AllReadyH.cons (o := { dst := some 92, op := Op.call { callee := Callee.value (Operand.func 94), args := #[Operand.tmp 85, Operand.tmp 91], argTypes := #[24, 3] }, type := 24, pos := "buffer.go:169", after := #[{ on := 9, ground := Ground.data }, { on := 15, ground := Ground.data }], guard := none }) rfl (fun K hK => ?_) ?_
    ·
      go_simp
      go_at_call 94; go_must (refine (Tryd.bytes_growSlice_row g xs.length cap n cur W0.drew HG0.out hcs hlc hn hlim hc2 h1).mono ?_); rintro e w2 ⟨cap2, cells, rfl, hN, hcsz, htk, hcap2, hcm2, hbel⟩
      have hb2 := hbel.block s hsl
      have hk2 := hb2.trans HBK.out
      have d1 := blk_cell hk2 1
      have d2 := blk_cell hk2 2
      have e1 := blk_free hk2 1
      have e2 := blk_free hk2 2
      simp [swCells] at d1 d2
      have o2 := d2
      go_wp2_with fail
      refine hK.out _ _ o2 (fun hHeld => ?_)
      clear hK K
      try simp only [Act.put, List.setIfInBounds_toArray, List.set_cons_zero, List.set_cons_succ]
      refine wpAnyH_take (i := 17) (oi := { dst := some 93, op := Op.nilCheck (Operand.tmp 76), type := 0, pos := "buffer.go:169", after := #[{ on := 0, ground := Ground.data }, { on := 0, ground := Ground.phase }, { on := 1, ground := Ground.phase }, { on := 2, ground := Ground.phase }, { on := 3, ground := Ground.phase }, { on := 4, ground := Ground.phase }, { on := 5, ground := Ground.phase }, { on := 6, ground := Ground.phase }, { on := 7, ground := Ground.phase }, { on := 8, ground := Ground.phase }, { on := 9, ground := Ground.phase }, { on := 10, ground := Ground.phase }, { on := 11, ground := Ground.phase }, { on := 12, ground := Ground.phase }, { on := 13, ground := Ground.phase }, { on := 14, ground := Ground.phase }, { on := 15, ground := Ground.phase }, { on := 16, ground := Ground.phase }], guard := none }) (v := ?_) rfl (by kernel_rfl) (by kernel_rfl) (by kernel_rfl) (fun _ _ _ h => h) (Or.inl ⟨by rfl, ?_⟩) (by assumption) ?_
      rotate_left
      · (intro w hSw; (try dsimp only at hSw); go_simp; try with_reducible rfl)
      try simp only [Act.put, List.setIfInBounds_toArray, List.set_cons_zero, List.set_cons_succ]
      refine wpAnyH_take (i := 18) (oi := { dst := some 94, op := Op.fieldAddr 79 (Operand.tmp 93) 0, type := 0, pos := "buffer.go:169", after := #[{ on := 17, ground := Ground.data }, { on := 0, ground := Ground.phase }, { on := 1, ground := Ground.phase }, { on := 2, ground := Ground.phase }, { on := 3, ground := Ground.phase }, { on := 4, ground := Ground.phase }, { on := 5, ground := Ground.phase }, { on := 6, ground := Ground.phase }, { on := 7, ground := Ground.phase }, { on := 8, ground := Ground.phase }, { on := 9, ground := Ground.phase }, { on := 10, ground := Ground.phase }, { on := 11, ground := Ground.phase }, { on := 12, ground := Ground.phase }, { on := 13, ground := Ground.phase }, { on := 14, ground := Ground.phase }, { on := 15, ground := Ground.phase }, { on := 16, ground := Ground.phase }], guard := none }) (v := ?_) rfl (by kernel_rfl) (by kernel_rfl) (by kernel_rfl) (fun _ _ _ h => h) (Or.inl ⟨by rfl, ?_⟩) (by assumption) ?_
      rotate_left
      · (intro w hSw; (try dsimp only at hSw); go_simp; try with_reducible rfl)
      try simp only [Act.put, List.setIfInBounds_toArray, List.set_cons_zero, List.set_cons_succ]
      refine wpAnyH_ready (rs := [19]) (by kernel_rfl) (by simp) ?_
      refine AllReadyH.cons (o := { dst := none, op := Op.store 24 (Operand.tmp 94) (Operand.tmp 92), type := 0, pos := "buffer.go:169", after := #[{ on := 18, ground := Ground.data }, { on := 16, ground := Ground.data }, { on := 16, ground := Ground.chain }, { on := 0, ground := Ground.phase }, { on := 1, ground := Ground.phase }, { on := 2, ground := Ground.phase }, { on := 3, ground := Ground.phase }, { on := 4, ground := Ground.phase }, { on := 5, ground := Ground.phase }, { on := 6, ground := Ground.phase }, { on := 7, ground := Ground.phase }, { on := 8, ground := Ground.phase }, { on := 9, ground := Ground.phase }, { on := 10, ground := Ground.phase }, { on := 11, ground := Ground.phase }, { on := 12, ground := Ground.phase }, { on := 13, ground := Ground.phase }, { on := 14, ground := Ground.phase }, { on := 15, ground := Ground.phase }, { on := 16, ground := Ground.phase }], guard := none }) rfl (fun K hK => ?_) ?_
      ·
        go_simp
        have o3 : ∀ v, (w2.setCell ⟨s, 1, none⟩ v).cell? ⟨s, 2, none⟩ = some (.int .i64 0) := fun v => (World.cell?_setCell_other _ _ _ _ (by intro e; injection e with _ e; cases e)).trans d2
        refine hK.out _ _ (o3 _) (fun hHeld => ?_)
        clear hK K
        try simp only [Act.put, List.setIfInBounds_toArray, List.set_cons_zero, List.set_cons_succ]
        refine wpAnyH_done (by kernel_rfl) ?_ _
        go_wp2
        go_ret
        have hk3 := blk_set (blk_set (blk_set hk2 1 (.slice (some ⟨W0.drew.heap.size, 0, none⟩) xs.length cap2)) 2 (.int .i64 0)) 1 (.slice (some ⟨W0.drew.heap.size, 0, none⟩) (xs.length + n) cap2)
        have hne : W0.drew.heap.size ≠ s := by show W0.heap.size ≠ s; omega
        refine ⟨rfl, W0.drew.heap.size, cap2, cells, lr, Nat.le_of_eq HZZ.out.symm, ?_, ?_, hcsz, htk.trans HT.out, hcap2, hcm2, grownBy_sets (show w.grownBy W0.drew (some s) from ⟨hgr0.os, hgr0.tape, hgr0.output, hgr0.size, hgr0.block⟩) hbel _ _ _⟩
        · unfold swBlk
          refine hk3.trans ?_
          simp [swCells]
        · rw [Below.heap_setCell _ _ _ _ hne, Below.heap_setCell _ _ _ _ hne, Below.heap_setCell _ _ _ _ hne]
          exact hN
      exact AllReadyH.nil
    exact AllReadyH.nil
  exact AllReadyH.nil

theorem run_makeSmall (n : Nat) (h : n ≤ 64) : ∃ M : Array Value, M.size = 64 ∧ ∀ W : World, (Instr.makeSlice 24 (.int .i64 (n : Int)) (.int .i64 64)).run Tryd.prog W = .ok (.slice (some ⟨W.heap.size, 0, none⟩) n 64) (W.alloc (.cells M 5)) := by
  obtain ⟨i, hi, hz0, hz1, hz2⟩ := info_parts u8.info
  refine ⟨madeCells (Value.int .u8 0).cells ((64 : Int).toNat * i.size), by rw [size_madeCells, hz1]; rfl, fun W => ?_⟩
  have h := run_makeSlice (P := Tryd.prog) W 24 5 i (.int .u8 0) Tryd.underlying24 hi hz0 .i64 .i64 (n : Int) 64 (by omega) (by omega) (by rw [hz1]; decide) (by rw [hz2]; decide) (by decide)
  simpa using h

set_option maxRecDepth 100000 in
set_option maxHeartbeats 4000000 in
theorem grow_small (s n : Nat) (lr : Int) (big : Bool) (ch : Int) (w : World) (h : swBlk w s (.slice none 0 0) lr big ch) (hn : 1 ≤ n) (h64 : n ≤ 64) :
    Calls Tryd.prog 90 #[.pointer (some ⟨s, 1, none⟩), .int .i64 n] w (Grown s big ch [] n w) := by
  have hsl := lt_of_some h
  obtain ⟨M, hMs, hmk⟩ := run_makeSmall n h64
  have hnil : ∀ W, (binOp .eql 24 (.slice none 0 0) (.slice none 0 0)).run Tryd.prog W = .ok (.bool true) W := fun W => Lib.run_eql_slice_nil_nil W _ _ Tryd.underlying24
  have HL := Lib.hid (lenAt s _ _ 0 lr big ch w h (by omega))
  have HB := Lib.hid h
  clear h
  go_enter Tryd.func90, Tryd.ntmps90
  go_wp2_with (first
    | (go_at_call 92; go_must (refine HL.out.mono ?_); rintro e w' ⟨rfl, k, rfl⟩; have c1 : (w.drewN k).cell? ⟨s, 1, none⟩ = some (.slice none 0 0) := (blk_cell HB.out 1).trans rfl; have c2 : (w.drewN k).cell? ⟨s, 2, none⟩ = some (.int .i64 0) := (blk_cell HB.out 2).trans rfl)
    | (go_at_call 89; go_must (refine (Tryd.Buffer_tryGrow_none_at s 1 none 0 0 n (w.drewN k) ((blk_cell HB.out 1).trans rfl) (Nat.le_refl _) (by simp [maxLen]) (by omega)).mono ?_); rintro e w' ⟨rfl, rfl⟩; have f1 : ∀ o, ((w.drewN k).alloc o).frozen? ⟨s, 1, none⟩ = false := (fun o => blk_free (((Gr.refl (w.drewN k)).alloc o).heap HB.out) 1); have k1 : ∀ o, ((w.drewN k).alloc o).cell? ⟨s, 1, none⟩ = some (.slice none 0 0) := (fun o => (blk_cell (((Gr.refl (w.drewN k)).alloc o).heap HB.out) 1).trans rfl)))
  go_ret
  have hkb := blk_set (((Gr.refl (w.drewN k)).alloc (.cells M 5)).heap HB.out) 1 (.slice (some ⟨w.heap.size, 0, none⟩) n 64)
  have hne : w.heap.size ≠ s := by omega
  refine ⟨rfl, w.heap.size, 64, M, lr, Nat.le_refl _, ?_, ?_, hMs, by simp, by simpa using h64, by simp [maxLen], Lib.grownBy_setB (Lib.grownBy_allocR ((Fx.refl s w).drewN k) _) 1 _⟩
  · unfold swBlk
    refine hkb.trans ?_
    simp [swCells]
  · rw [Below.heap_setCell _ _ _ _ hne]
    exact heap_alloc_new (w.drewN k) _

set_option maxRecDepth 100000 in
set_option maxHeartbeats 4000000 in
theorem grow_nil (s n : Nat) (lr : Int) (big : Bool) (ch : Int) (w : World) (h : swBlk w s (.slice none 0 0) lr big ch) (h64 : 64 < n) (hlim : n ≤ 140737488355328) :
    Calls Tryd.prog 90 #[.pointer (some ⟨s, 1, none⟩), .int .i64 n] w (Grown s big ch [] n w) := by
  have hsl := lt_of_some h
  have hn : 1 ≤ n := by omega
  have hnil : ∀ W, (binOp .eql 24 (.slice none 0 0) (.slice none 0 0)).run Tryd.prog W = .ok (.bool true) W := fun W => Lib.run_eql_slice_nil_nil W _ _ Tryd.underlying24
  have hwn : IntKind.i64.wrap (n : Int) = n := by rw [IntKind.wrap_i64]; omega
  have HL := Lib.hid (lenAt s _ _ 0 lr big ch w h (by omega))
  have HB := Lib.hid h
  clear h
  go_enter Tryd.func90, Tryd.ntmps90
  go_wp2_with (first
    | (go_at_call 92; go_must (refine HL.out.mono ?_); rintro e w' ⟨rfl, k, rfl⟩; have c1 : (w.drewN k).cell? ⟨s, 1, none⟩ = some (.slice none 0 0) := (blk_cell HB.out 1).trans rfl; have c2 : (w.drewN k).cell? ⟨s, 2, none⟩ = some (.int .i64 0) := (blk_cell HB.out 2).trans rfl)
    | (go_at_call 89; go_must (refine (Tryd.Buffer_tryGrow_none_at s 1 none 0 0 n (w.drewN k) ((blk_cell HB.out 1).trans rfl) (Nat.le_refl _) (by simp [maxLen]) (by omega)).mono ?_); rintro e w' ⟨rfl, rfl⟩))
  have hgr0 : w.grownBy (w.drewN k) (some s) := (Fx.refl s w).drewN k
  have HZZ := Lib.hid (show (w.drewN k).heap.size = w.heap.size from rfl)
  have HBK := Lib.hid (show (w.drewN k).heap[s]? = some (.cells (swCells (.slice none 0 0) lr big ch) 81 (0, 0)) from HB.out)
  clear HB HL
  have hsl : s < (w.drewN k).heap.size := hsl
  generalize w.drewN k = W0 at *
  have o2 : W0.drew.cell? ⟨s, 2, none⟩ = some (.int .i64 0) := c2
  refine wp_region_held_drew (S := fun w' => w'.cell? ⟨s, 2, none⟩ = some (.int .i64 0)) (by kernel_rfl) o2 (fun hHeld => ?_)
  refine wpAnyH_take (i := 0) (oi := { dst := some 76, op := Op.move (Operand.tmp 0), type := 88, pos := "buffer.go:169", after := #[], guard := none }) (v := ?_) rfl (by kernel_rfl) (by kernel_rfl) (by kernel_rfl) (fun _ _ _ h => h) (Or.inl ⟨by rfl, ?_⟩) (by assumption) ?_
  rotate_left
  · (intro w hSw; (try dsimp only at hSw); go_simp; try with_reducible rfl)
  try simp only [Act.put, List.setIfInBounds_toArray, List.set_cons_zero, List.set_cons_succ]
  refine wpAnyH_take (i := 1) (oi := { dst := some 77, op := Op.move (Operand.tmp 0), type := 88, pos := "buffer.go:169", after := #[], guard := none }) (v := ?_) rfl (by kernel_rfl) (by kernel_rfl) (by kernel_rfl) (fun _ _ _ h => h) (Or.inl ⟨by rfl, ?_⟩) (by assumption) ?_
  rotate_left
  · (intro w hSw; (try dsimp only at hSw); go_simp; try with_reducible rfl)
  try simp only [Act.put, List.setIfInBounds_toArray, List.set_cons_zero, List.set_cons_succ]
  refine wpAnyH_take (i := 2) (oi := { dst := some 78, op := Op.nilCheck (Operand.tmp 77), type := 0, pos := "buffer.go:169", after := #[{ on := 1, ground := Ground.data }], guard := none }) (v := ?_) rfl (by kernel_rfl) (by kernel_rfl) (by kernel_rfl) (fun _ _ _ h => h) (Or.inl ⟨by rfl, ?_⟩) (by assumption) ?_
  rotate_left
  · (intro w hSw; (try dsimp only at hSw); go_simp; try with_reducible rfl)
  try simp only [Act.put, List.setIfInBounds_toArray, List.set_cons_zero, List.set_cons_succ]
  refine wpAnyH_take (i := 3) (oi := { dst := some 79, op := Op.fieldAddr 79 (Operand.tmp 78) 0, type := 0, pos := "buffer.go:169", after := #[{ on := 2, ground := Ground.data }], guard := none }) (v := ?_) rfl (by kernel_rfl) (by kernel_rfl) (by kernel_rfl) (fun _ _ _ h => h) (Or.inl ⟨by rfl, ?_⟩) (by assumption) ?_
  rotate_left
  · (intro w hSw; (try dsimp only at hSw); go_simp; try with_reducible rfl)
  try simp only [Act.put, List.setIfInBounds_toArray, List.set_cons_zero, List.set_cons_succ]
  refine wpAnyH_take (i := 5) (oi := { dst := some 81, op := Op.move (Operand.tmp 0), type := 88, pos := "buffer.go:169", after := #[], guard := none }) (v := ?_) rfl (by kernel_rfl) (by kernel_rfl) (by kernel_rfl) (fun _ _ _ h => h) (Or.inl ⟨by rfl, ?_⟩) (by assumption) ?_
  rotate_left
  · (intro w hSw; (try dsimp only at hSw); go_simp; try with_reducible rfl)
  try simp only [Act.put, List.setIfInBounds_toArray, List.set_cons_zero, List.set_cons_succ]
  refine wpAnyH_take (i := 6) (oi := { dst := some 82, op := Op.nilCheck (Operand.tmp 81), type := 0, pos := "buffer.go:169", after := #[{ on := 5, ground := Ground.data }], guard := none }) (v := ?_) rfl (by kernel_rfl) (by kernel_rfl) (by kernel_rfl) (fun _ _ _ h => h) (Or.inl ⟨by rfl, ?_⟩) (by assumption) ?_
  rotate_left
  · (intro w hSw; (try dsimp only at hSw); go_simp; try with_reducible rfl)
  try simp only [Act.put, List.setIfInBounds_toArray, List.set_cons_zero, List.set_cons_succ]
  refine wpAnyH_take (i := 7) (oi := { dst := some 83, op := Op.fieldAddr 79 (Operand.tmp 82) 1, type := 0, pos := "buffer.go:169", after := #[{ on := 6, ground := Ground.data }], guard := none }) (v := ?_) rfl (by kernel_rfl) (by kernel_rfl) (by kernel_rfl) (fun _ _ _ h => h) (Or.inl ⟨by rfl, ?_⟩) (by assumption) ?_
  rotate_left
  · (intro w hSw; (try dsimp only at hSw); go_simp; try with_reducible rfl)
  try simp only [Act.put, List.setIfInBounds_toArray, List.set_cons_zero, List.set_cons_succ]
  refine wpAnyH_take (i := 8) (oi := { dst := some 84, op := Op.load 3 (Operand.tmp 83), type := 3, pos := "buffer.go:169", after := #[{ on := 7, ground := Ground.data }], guard := none }) (v := ?_) rfl (by kernel_rfl) (by kernel_rfl) (by kernel_rfl) (fun _ _ _ h => h) (Or.inl ⟨by rfl, ?_⟩) (by assumption) ?_
  rotate_left
  · (intro w hSw; (try dsimp only at hSw); go_simp; try with_reducible rfl)
  try simp only [Act.put, List.setIfInBounds_toArray, List.set_cons_zero, List.set_cons_succ]
  refine wpAnyH_take (i := 10) (oi := { dst := some 86, op := Op.move (Operand.tmp 0), type := 88, pos := "buffer.go:169", after := #[], guard := none }) (v := ?_) rfl (by kernel_rfl) (by kernel_rfl) (by kernel_rfl) (fun _ _ _ h => h) (Or.inl ⟨by rfl, ?_⟩) (by assumption) ?_
  rotate_left
  · (intro w hSw; (try dsimp only at hSw); go_simp; try with_reducible rfl)
  try simp only [Act.put, List.setIfInBounds_toArray, List.set_cons_zero, List.set_cons_succ]
  refine wpAnyH_take (i := 11) (oi := { dst := some 87, op := Op.nilCheck (Operand.tmp 86), type := 0, pos := "buffer.go:169", after := #[{ on := 10, ground := Ground.data }], guard := none }) (v := ?_) rfl (by kernel_rfl) (by kernel_rfl) (by kernel_rfl) (fun _ _ _ h => h) (Or.inl ⟨by rfl, ?_⟩) (by assumption) ?_
  rotate_left
  · (intro w hSw; (try dsimp only at hSw); go_simp; try with_reducible rfl)
  try simp only [Act.put, List.setIfInBounds_toArray, List.set_cons_zero, List.set_cons_succ]
  refine wpAnyH_take (i := 12) (oi := { dst := some 88, op := Op.fieldAddr 79 (Operand.tmp 87) 1, type := 0, pos := "buffer.go:169", after := #[{ on := 11, ground := Ground.data }], guard := none }) (v := ?_) rfl (by kernel_rfl) (by kernel_rfl) (by kernel_rfl) (fun _ _ _ h => h) (Or.inl ⟨by rfl, ?_⟩) (by assumption) ?_
  rotate_left
  · (intro w hSw; (try dsimp only at hSw); go_simp; try with_reducible rfl)
  try simp only [Act.put, List.setIfInBounds_toArray, List.set_cons_zero, List.set_cons_succ]
  refine wpAnyH_take (i := 13) (oi := { dst := some 89, op := Op.load 3 (Operand.tmp 88), type := 3, pos := "buffer.go:169", after := #[{ on := 12, ground := Ground.data }], guard := none }) (v := ?_) rfl (by kernel_rfl) (by kernel_rfl) (by kernel_rfl) (fun _ _ _ h => h) (Or.inl ⟨by rfl, ?_⟩) (by assumption) ?_
  rotate_left
  · (intro w hSw; (try dsimp only at hSw); go_simp; try with_reducible rfl)
  try simp only [Act.put, List.setIfInBounds_toArray, List.set_cons_zero, List.set_cons_succ]
  refine wpAnyH_take (i := 14) (oi := { dst := some 90, op := Op.move (Operand.tmp 1), type := 3, pos := "buffer.go:169", after := #[], guard := none }) (v := ?_) rfl (by kernel_rfl) (by kernel_rfl) (by kernel_rfl) (fun _ _ _ h => h) (Or.inl ⟨by rfl, ?_⟩) (by assumption) ?_
  rotate_left
  · (intro w hSw; (try dsimp only at hSw); go_simp; try with_reducible rfl)
  try simp only [Act.put, List.setIfInBounds_toArray, List.set_cons_zero, List.set_cons_succ]
  refine wpAnyH_take (i := 15) (oi := { dst := some 91, op := Op.binOp BinOp.add 3 (Operand.tmp 89) (Operand.tmp 90) 3, type := 3, pos := "buffer.go:169", after := #[{ on := 13, ground := Ground.data }, { on := 14, ground := Ground.data }], guard := none }) (v := ?_) rfl (by kernel_rfl) (by kernel_rfl) (by kernel_rfl) (fun _ _ _ h => h) (Or.inl ⟨by rfl, ?_⟩) (by assumption) ?_
  rotate_left
  · (intro w hSw; (try dsimp only at hSw); go_simp; try with_reducible rfl)
  try simp only [Act.put, List.setIfInBounds_toArray, List.set_cons_zero, List.set_cons_succ]
  refine wpAnyH_ready (rs := [4]) (by kernel_rfl) (by simp) ?_
  refine AllReadyH.cons (o := { dst := some 80, op := Op.load 24 (Operand.tmp 79), type := 24, pos := "buffer.go:169", after := #[{ on := 3, ground := Ground.data }], guard := none }) rfl (fun K hK => ?_) ?_
  ·
    go_simp
    refine hK.out _ _ o2 (fun hHeld => ?_)
    clear hK K
    try simp only [Act.put, List.setIfInBounds_toArray, List.set_cons_zero, List.set_cons_succ]
    refine wpAnyH_take (i := 9) (oi := { dst := some 85, op := Op.slice 24 (Operand.tmp 80) (some (Operand.tmp 84)) none none, type := 24, pos := "buffer.go:169", after := #[{ on := 4, ground := Ground.data }, { on := 8, ground := Ground.data }], guard := none }) (v := ?_) rfl (by kernel_rfl) (by kernel_rfl) (by kernel_rfl) (fun _ _ _ h => h) (Or.inl ⟨by rfl, ?_⟩) (by assumption) ?_
    rotate_left
    · (intro w hSw; (try dsimp only at hSw); go_simp; try with_reducible rfl)
    try simp only [Act.put, List.setIfInBounds_toArray, List.set_cons_zero, List.set_cons_succ]
    refine wpAnyH_ready (rs := [16]) (by kernel_rfl) (by simp) ?_
    refine AllReadyH.cons (o := { dst := some 92, op := Op.call { callee := Callee.value (Operand.func 94), args := #[Operand.tmp 85, Operand.tmp 91], argTypes := #[24, 3] }, type := 24, pos := "buffer.go:169", after := #[{ on := 9, ground := Ground.data }, { on := 15, ground := Ground.data }], guard := none }) rfl (fun K hK => ?_) ?_
    ·
      go_simp
      go_at_call 94; go_must (refine (Tryd.bytes_growSlice_nil n W0.drew hn hlim).mono ?_); rintro e w2 ⟨cap2, cells, rfl, hN, hcsz, hcap2, hcm2, hbel⟩
      have hb2 := hbel.block s hsl
      have hk2 := hb2.trans HBK.out
      have d1 := blk_cell hk2 1
      have d2 := blk_cell hk2 2
      have e1 := blk_free hk2 1
      have e2 := blk_free hk2 2
      simp [swCells] at d1 d2
      have o2 := d2
      go_wp2_with fail
      refine hK.out _ _ o2 (fun hHeld => ?_)
      clear hK K
      try simp only [Act.put, List.setIfInBounds_toArray, List.set_cons_zero, List.set_cons_succ]
      refine wpAnyH_take (i := 17) (oi := { dst := some 93, op := Op.nilCheck (Operand.tmp 76), type := 0, pos := "buffer.go:169", after := #[{ on := 0, ground := Ground.data }, { on := 0, ground := Ground.phase }, { on := 1, ground := Ground.phase }, { on := 2, ground := Ground.phase }, { on := 3, ground := Ground.phase }, { on := 4, ground := Ground.phase }, { on := 5, ground := Ground.phase }, { on := 6, ground := Ground.phase }, { on := 7, ground := Ground.phase }, { on := 8, ground := Ground.phase }, { on := 9, ground := Ground.phase }, { on := 10, ground := Ground.phase }, { on := 11, ground := Ground.phase }, { on := 12, ground := Ground.phase }, { on := 13, ground := Ground.phase }, { on := 14, ground := Ground.phase }, { on := 15, ground := Ground.phase }, { on := 16, ground := Ground.phase }], guard := none }) (v := ?_) rfl (by kernel_rfl) (by kernel_rfl) (by kernel_rfl) (fun _ _ _ h => h) (Or.inl ⟨by rfl, ?_⟩) (by assumption) ?_
      rotate_left
      · (intro w hSw; (try dsimp only at hSw); go_simp; try with_reducible rfl)
      try simp only [Act.put, List.setIfInBounds_toArray, List.set_cons_zero, List.set_cons_succ]
      refine wpAnyH_take (i := 18) (oi := { dst := some 94, op := Op.fieldAddr 79 (Operand.tmp 93) 0, type := 0, pos := "buffer.go:169", after := #[{ on := 17, ground := Ground.data }, { on := 0, ground := Ground.phase }, { on := 1, ground := Ground.phase }, { on := 2, ground := Ground.phase }, { on := 3, ground := Ground.phase }, { on := 4, ground := Ground.phase }, { on := 5, ground := Ground.phase }, { on := 6, ground := Ground.phase }, { on := 7, ground := Ground.phase }, { on := 8, ground := Ground.phase }, { on := 9, ground := Ground.phase }, { on := 10, ground := Ground.phase }, { on := 11, ground := Ground.phase }, { on := 12, ground := Ground.phase }, { on := 13, ground := Ground.phase }, { on := 14, ground := Ground.phase }, { on := 15, ground := Ground.phase }, { on := 16, ground := Ground.phase }], guard := none }) (v := ?_) rfl (by kernel_rfl) (by kernel_rfl) (by kernel_rfl) (fun _ _ _ h => h) (Or.inl ⟨by rfl, ?_⟩) (by assumption) ?_
      rotate_left
      · (intro w hSw; (try dsimp only at hSw); go_simp; try with_reducible rfl)
      try simp only [Act.put, List.setIfInBounds_toArray, List.set_cons_zero, List.set_cons_succ]
      refine wpAnyH_ready (rs := [19]) (by kernel_rfl) (by simp) ?_
      refine AllReadyH.cons (o := { dst := none, op := Op.store 24 (Operand.tmp 94) (Operand.tmp 92), type := 0, pos := "buffer.go:169", after := #[{ on := 18, ground := Ground.data }, { on := 16, ground := Ground.data }, { on := 16, ground := Ground.chain }, { on := 0, ground := Ground.phase }, { on := 1, ground := Ground.phase }, { on := 2, ground := Ground.phase }, { on := 3, ground := Ground.phase }, { on := 4, ground := Ground.phase }, { on := 5, ground := Ground.phase }, { on := 6, ground := Ground.phase }, { on := 7, ground := Ground.phase }, { on := 8, ground := Ground.phase }, { on := 9, ground := Ground.phase }, { on := 10, ground := Ground.phase }, { on := 11, ground := Ground.phase }, { on := 12, ground := Ground.phase }, { on := 13, ground := Ground.phase }, { on := 14, ground := Ground.phase }, { on := 15, ground := Ground.phase }, { on := 16, ground := Ground.phase }], guard := none }) rfl (fun K hK => ?_) ?_
      ·
        go_simp
        have o3 : ∀ v, (w2.setCell ⟨s, 1, none⟩ v).cell? ⟨s, 2, none⟩ = some (.int .i64 0) := fun v => (World.cell?_setCell_other _ _ _ _ (by intro e; injection e with _ e; cases e)).trans d2
        refine hK.out _ _ (o3 _) (fun hHeld => ?_)
        clear hK K
        try simp only [Act.put, List.setIfInBounds_toArray, List.set_cons_zero, List.set_cons_succ]
        refine wpAnyH_done (by kernel_rfl) ?_ _
        go_wp2
        go_ret
        have hk3 := blk_set (blk_set (blk_set hk2 1 (.slice (some ⟨W0.drew.heap.size, 0, none⟩) 0 cap2)) 2 (.int .i64 0)) 1 (.slice (some ⟨W0.drew.heap.size, 0, none⟩) (n) cap2)
        have hne : W0.drew.heap.size ≠ s := by show W0.heap.size ≠ s; omega
        refine ⟨rfl, W0.drew.heap.size, cap2, cells, lr, Nat.le_of_eq HZZ.out.symm, ?_, ?_, hcsz, by simp, (by simpa using hcap2), hcm2, grownBy_sets (show w.grownBy W0.drew (some s) from ⟨hgr0.os, hgr0.tape, hgr0.output, hgr0.size, hgr0.block⟩) hbel _ _ _⟩
        · unfold swBlk
          refine hk3.trans ?_
          simp [swCells]
        · rw [Below.heap_setCell _ _ _ _ hne, Below.heap_setCell _ _ _ _ hne, Below.heap_setCell _ _ _ _ hne]
          exact hN
      exact AllReadyH.nil
    exact AllReadyH.nil
  exact AllReadyH.nil
end Go.Proofs.YtgkccbfepjgjoaaDoor

/- A session that writes: Write and WriteByte into its buffer. -/
namespace Go.Proofs.YtgkccbfepjgjoaaDoor
open Go Go.RowKit

/-- A session that has written the bytes xs. -/
def Sw (w : World) (s : Nat) (big : Bool) (ch : Int) (xs : List Int) : Prop :=
  ∃ v lr, swBlk w s v lr big ch ∧ ((v = .slice none 0 0 ∧ xs = []) ∨ ∃ g cap, v = .slice (some ⟨g, 0, none⟩) xs.length cap ∧ 1 ≤ xs.length ∧ s < g ∧ OwnAt w g cap xs)
/-- The block of a session's row. -/
def rowOf (s : Nat) (w : World) : Option Nat := (w.cell? ⟨s, 1, none⟩).bind Value.ownBlock
/-- All that was there is as it was, but for the session and its row; its new row is the old one, or a new block. -/
structure Wx (s : Nat) (w w' : World) : Prop where
  os : w'.os = w.os
  tape : w'.tape = w.tape
  output : w'.output = w.output
  size : w.heap.size ≤ w'.heap.size
  block : ∀ k, k < w.heap.size → k ≠ s → some k ≠ rowOf s w → w'.heap[k]? = w.heap[k]?
  row : ∀ k, rowOf s w' = some k → rowOf s w = some k ∨ w.heap.size ≤ k

theorem rowOf_heap {s : Nat} {w w' : World} (h : w'.heap[s]? = w.heap[s]?) : rowOf s w' = rowOf s w := by
  unfold rowOf
  rw [World.cell?_of_block (a := ⟨s, 1, none⟩) h]
theorem Wx.refl (s : Nat) (w : World) : Wx s w w := ⟨rfl, rfl, rfl, Nat.le_refl _, fun _ _ _ _ => rfl, fun _ h => .inl h⟩
theorem Wx.trans {s : Nat} {a b c : World} (h : Wx s a b) (k : Wx s b c) : Wx s a c := by
  refine ⟨k.os.trans h.os, k.tape.trans h.tape, k.output.trans h.output, Nat.le_trans h.size k.size, fun i hi hs hr => ?_, fun i hi => ?_⟩
  · rw [k.block i (Nat.lt_of_lt_of_le hi h.size) hs (fun e => ?_), h.block i hi hs hr]
    rcases h.row i e.symm with h1 | h1
    · exact hr h1.symm
    · omega
  · rcases k.row i hi with h1 | h1
    · exact h.row i h1
    · exact .inr (Nat.le_trans h.size h1)
theorem Wx.gr {s : Nat} {a w w' : World} (h : Wx s a w) (g : Gr w w') (hs : s < a.heap.size) : Wx s a w' :=
  h.trans ⟨g.os, g.tape, g.output, g.size, fun k hk _ _ => g.block hk, fun k hk => .inl (by rw [← rowOf_heap (g.block (Nat.lt_of_lt_of_le hs h.size))]; exact hk)⟩
theorem Wx.heap {s : Nat} {a w : World} (h : Wx s a w) {k : Nat} {o : Obj} (hk : a.heap[k]? = some o) (hs : k ≠ s) (hr : some k ≠ rowOf s a) : w.heap[k]? = some o := by
  rw [h.block k (lt_of_some hk) hs hr]; exact hk
/-- A slice is no part of the session. -/
def Aside (s : Nat) (w : World) (v : Value) : Prop := ∀ a n c, v = .slice (some a) n c → a.block ≠ s ∧ some a.block ≠ rowOf s w ∧ a.block < w.heap.size
theorem Rd.wx {s : Nat} {a w : World} {v : Value} {xs : List Int} (r : Rd a v xs) (h : Wx s a w) (ho : Aside s a v) : Rd w v xs := by
  obtain ⟨p, c, rfl, h1, h2, h3, h4, h5⟩ := r
  refine ⟨p, c, rfl, h1, h2, h3, ?_, h5⟩
  intro hn
  obtain ⟨b, o, rfl, hc⟩ := h4 hn
  obtain ⟨k1, k2, k3⟩ := ho ⟨b, o, none⟩ _ _ rfl
  exact ⟨b, o, rfl, fun i hi => (World.cell?_of_block (a := ⟨b, o + i, none⟩) (h.block b k3 k1 k2)).trans (hc i hi)⟩
theorem Aside.wx {s : Nat} {a w : World} {v : Value} (ho : Aside s a v) (h : Wx s a w) : Aside s w v := by
  intro x n c e
  obtain ⟨k1, k2, k3⟩ := ho x n c e
  refine ⟨k1, fun e2 => ?_, Nat.lt_of_lt_of_le k3 h.size⟩
  rcases h.row _ e2.symm with h1 | h1
  · exact k2 h1.symm
  · omega
theorem Own.aside {s B : Nat} {w : World} {v : Value} {xs : List Int} (r : Own B w v xs) (hs : s < B) (hr : ∀ k, rowOf s w = some k → k < B) : Aside s w v := by
  obtain ⟨⟨h1, h2⟩, h3⟩ := r
  rcases h2 with ⟨rfl, _⟩ | ⟨g, cap, cur, rfl, hg, hh, _⟩
  · intro a n c e; cases e
  · intro a n c e
    injection e with e
    injection e with e
    subst e
    exact ⟨by show g ≠ s; omega, fun e => by have h := hr g e.symm; omega, lt_of_some hh⟩
theorem Sw.row_lt {w : World} {s : Nat} {big : Bool} {ch : Int} {xs : List Int} (h : Sw w s big ch xs) : ∀ k, rowOf s w = some k → k < w.heap.size := by
  obtain ⟨v, lr, hb, hv⟩ := h
  intro k hk
  have e : w.cell? ⟨s, 1, none⟩ = some v := (blk_cell hb 1).trans rfl
  unfold rowOf at hk
  rw [e] at hk
  rcases hv with ⟨rfl, _⟩ | ⟨g, cap, rfl, _, _, ho⟩
  · cases hk
  · simp [Value.ownBlock] at hk
    subst hk
    exact ho.lt
theorem Sw.lt {w : World} {s : Nat} {big : Bool} {ch : Int} {xs : List Int} (h : Sw w s big ch xs) : s < w.heap.size := by
  obtain ⟨v, lr, hb, _⟩ := h
  exact lt_of_some hb
theorem Sw.byt {w : World} {s : Nat} {big : Bool} {ch : Int} {xs : List Int} (h : Sw w s big ch xs) : Byt xs := by
  obtain ⟨v, lr, hb, hv⟩ := h
  rcases hv with ⟨_, rfl⟩ | ⟨g, cap, _, _, _, ho⟩
  · exact fun _ h => by cases h
  · exact ho.byt
theorem Sw.gr {w w' : World} {s : Nat} {big : Bool} {ch : Int} {xs : List Int} (h : Sw w s big ch xs) (g : Gr w w') : Sw w' s big ch xs := by
  obtain ⟨v, lr, hb, hv⟩ := h
  refine ⟨v, lr, g.heap hb, ?_⟩
  rcases hv with hv | ⟨g', cap, h1, h2, h3, h4⟩
  · exact .inl hv
  · exact .inr ⟨g', cap, h1, h2, h3, h4.gr g⟩
theorem Sw.c5 {w : World} {s : Nat} {big : Bool} {ch : Int} {xs : List Int} (h : Sw w s big ch xs) : w.cell? ⟨s, 5, none⟩ = some (.bool big) := by
  obtain ⟨v, lr, hb, hv⟩ := h
  exact (blk_cell hb 5).trans rfl
theorem Sw.c6 {w : World} {s : Nat} {big : Bool} {ch : Int} {xs : List Int} (h : Sw w s big ch xs) : w.cell? ⟨s, 6, none⟩ = some (.int .i64 ch) := by
  obtain ⟨v, lr, hb, hv⟩ := h
  exact (blk_cell hb 6).trans rfl

/-- There is room in a row g, which is the session's old one or a new one. -/
structure Room (s : Nat) (big : Bool) (ch : Int) (xs : List Int) (n : Nat) (w W : World) (g cap : Nat) (cells : Array Value) (lr : Int) : Prop where
  blk : swBlk W s (.slice (some ⟨g, 0, none⟩) (xs.length + n) cap) lr big ch
  row : W.heap[g]? = some (.cells cells 5 (0, 0))
  csz : cells.size = cap
  tk : cells.toList.take xs.length = xs.map (Value.int .u8)
  fit : xs.length + n ≤ cap
  max : cap ≤ maxLen
  gr : w.grownBy W (some s)
  hg : s < g
  own : rowOf s w = some g ∨ w.heap.size ≤ g

/-- The bytes are written into the room. -/
theorem Room.fill {s : Nat} {big : Bool} {ch : Int} {xs l : List Int} {n : Nat} {w W : World} {g cap : Nat} {cells : Array Value} {lr : Int} (h : Room s big ch xs n w W g cap cells lr) (hl : l.length = n) (hn : 1 ≤ n) (hx : Byt xs) (hb : Byt l) (W2 : World)
    (h2 : W2.heap[g]? = some (.cells (cells.toList.take xs.length ++ l.map (Value.int .u8) ++ cells.toList.drop (xs.length + n)).toArray 5 (0, 0))) (ho : ∀ k, k ≠ g → W2.heap[k]? = W.heap[k]?) (hsz : W2.heap.size = W.heap.size) (e1 : W2.os = W.os) (e2 : W2.tape = W.tape) (e3 : W2.output = W.output) :
    Sw W2 s big ch (xs ++ l) ∧ Wx s w W2 := by
  have hgs : s ≠ g := Nat.ne_of_lt h.hg
  have hblk : swBlk W2 s (.slice (some ⟨g, 0, none⟩) (xs.length + n) cap) lr big ch := (ho s hgs).trans h.blk
  have hlc : cells.toList.length = cap := by rw [Array.length_toList]; exact h.csz
  have hfit := h.fit
  refine ⟨⟨_, lr, hblk, .inr ⟨g, cap, by rw [List.length_append, hl], by rw [List.length_append]; omega, h.hg, ?_⟩⟩, ⟨e1.trans h.gr.os, e2.trans h.gr.tape, e3.trans h.gr.output, by rw [hsz]; exact h.gr.size, fun k hk hs hr => ?_, fun k hk => ?_⟩⟩
  · refine ⟨⟨_, h2, ?_, ?_⟩, by rw [List.length_append]; omega, h.max, byt_append hx hb⟩
    · simp only [List.size_toArray, List.length_append, List.length_take, List.length_map, List.length_drop]
      omega
    · rw [List.toList_toArray, List.take_append_of_le_length (by simp only [List.length_append, List.length_take, List.length_map]; omega), List.take_of_length_le (by simp only [List.length_append, List.length_take, List.length_map]; omega), h.tk, List.map_append]
  · have hkg : k ≠ g := by
      rintro rfl
      rcases h.own with h1 | h1
      · exact hr h1.symm
      · omega
    rw [ho k hkg]
    exact h.gr.block k hk (fun e => hs (by injection e))
  · have e : W2.cell? ⟨s, 1, none⟩ = some (.slice (some ⟨g, 0, none⟩) (xs.length + n) cap) := (blk_cell hblk 1).trans rfl
    unfold rowOf at hk
    rw [e] at hk
    simp [Value.ownBlock] at hk
    subst hk
    exact h.own

theorem Grown.room {s : Nat} {big : Bool} {ch : Int} {xs : List Int} {n : Nat} {w w0 : World} {e : Ending} {w' : World} (h : Grown s big ch xs n w0 e w') (hs : s < w0.heap.size) (h0 : w.grownBy w0 (some s)) (hz : w0.heap.size = w.heap.size) :
    e = .returned (.int .i64 xs.length) ∧ ∃ g cap cells lr, Room s big ch xs n w w' g cap cells lr := by
  obtain ⟨h1, g, cap, cells, lr, h2, h3, h4, h5, h6, h7, h8, h9⟩ := h
  exact ⟨h1, g, cap, cells, lr, ⟨h3, h4, h5, h6, h7, h8, Lib.grownBy_trans h0 h9, by omega, .inr (by omega)⟩⟩

theorem swCells_last (v : Value) (lr : Int) (big : Bool) (ch : Int) (x : Int) : (swCells v lr big ch).setIfInBounds 3 (.int .i8 x) = swCells v x big ch := by simp [swCells]

set_option maxRecDepth 100000 in
set_option maxHeartbeats 4000000 in
theorem write_sw (s : Nat) (big : Bool) (ch : Int) (xs l : List Int) (v : Value) (w : World) (hS : Sw w s big ch xs) (hv : Rd w v l) (ha : Aside s w v) (hlim : xs.length + l.length ≤ 100000000000) :
    Calls Tryd.prog 74 #[.pointer (some ⟨s, 1, none⟩), v] w fun e w' => e = .returned (.tuple #[.int .i64 l.length, .nilIface]) ∧ Sw w' s big ch (xs ++ l) ∧ Wx s w w' := by
  have hbx := hS.byt
  obtain ⟨bv, lr, hblk, hbv⟩ := hS
  have hsl := lt_of_some hblk
  have c3 : w.cell? ⟨s, 3, none⟩ = some (.int .i8 lr) := (blk_cell hblk 3).trans rfl
  have f3 := blk_free hblk 3
  have hblk3 : swBlk (w.setCell ⟨s, 3, none⟩ (.int .i8 0)) s bv 0 big ch := by unfold swBlk; rw [blk_set hblk, swCells_last]
  have hg3 : w.grownBy (w.setCell ⟨s, 3, none⟩ (.int .i8 0)) (some s) := Lib.grownBy_setCell w s 3 _
  have hz3 : (w.setCell ⟨s, 3, none⟩ (.int .i8 0)).heap.size = w.heap.size := by simp [World.setCell]
  have hby := hv.byt
  obtain ⟨p, c, rfl, hlc, hcm, hpn, hbi, _⟩ := hv
  obtain ⟨n, hn⟩ : ∃ n, l.length = n := ⟨_, rfl⟩
  rw [hn] at hlc hlim hbi ha ⊢
  have hw3c : ∀ k, k ≠ s → (w.setCell ⟨s, 3, none⟩ (.int .i8 0)).heap[k]? = w.heap[k]? := fun k hk => Below.heap_setCell _ _ _ _ hk
  -- the copy, where there is room
  have hcopy : ∀ W g cap cells lr', 1 ≤ n → Room s big ch xs n w W g cap cells lr' → ∃ W2, (∀ ty, (Builtin.copy_ #[24, 24] ty #[.slice (some ⟨g, xs.length, none⟩) n (cap - xs.length), .slice p n c]).run Tryd.prog W = .ok (goInt n) W2) ∧ Sw W2 s big ch (xs ++ l) ∧ Wx s w W2 := by
    intro W g cap cells lr' h1 hR
    obtain ⟨b, o, rfl, hcell⟩ := hbi (by omega)
    obtain ⟨k1, k2, k3⟩ := ha ⟨b, o, none⟩ _ _ rfl
    have hsrc : ∀ j u, (l.map (Value.int .u8))[j]? = some u → W.cell? ((⟨b, o, none⟩ : Addr).add j) = some u := by
      intro j u hu
      have := src_cells (w := w) (b := b) (o := o) (xs := l) ⟨fun i hi => hcell i (by omega), hby⟩ j u hu
      exact World.grownBy.cell hR.gr this (fun e => k1 (by rw [Lib.block_add] at e; injection e))
    have hrun := fun ty => run_copy_row (P := Tryd.prog) W 24 24 ty 5 g xs.length n (cap - xs.length) ⟨b, o, none⟩ n c cells 5 (l.map (Value.int .u8)) Tryd.underlying24 u8size hR.row (by rw [List.length_map, hn]; exact (Nat.min_self n).symm) hsrc (by rw [List.length_map, hn, hR.csz]; exact hR.fit) (one_cells _)
    simp only [List.length_map, hn] at hrun
    refine ⟨_, hrun, hR.fill hn h1 hbx hby _ (setRow_heap W g _ _ _ _ hR.row) (fun k hk => setRow_other _ _ _ _ hk) (by simp) rfl rfl rfl⟩
  have HC := Lib.hid hcopy
  clear hcopy hbi
  by_cases h0 : n = 0
  · obtain rfl : l = [] := List.eq_nil_of_length_eq_zero (by omega)
    subst h0
    have hce : ∀ d dLen dCap W, (Builtin.copy_ #[24, 24] 3 #[.slice d dLen dCap, .slice p 0 c]).run Tryd.prog W = .ok (goInt 0) W := fun d dLen dCap W => run_copy_none W 24 24 3 5 d p dLen dCap 0 c Tryd.underlying24 u8size (by simp)
    have same : ∀ (v' : Value), (v' = bv) → Sw ((w.setCell ⟨s, 3, none⟩ (.int .i8 0)).setCell ⟨s, 1, none⟩ v') s big ch (xs ++ []) ∧ Wx s w ((w.setCell ⟨s, 3, none⟩ (.int .i8 0)).setCell ⟨s, 1, none⟩ v') := by
      rintro v' rfl
      have hk : swBlk ((w.setCell ⟨s, 3, none⟩ (.int .i8 0)).setCell ⟨s, 1, none⟩ v') s v' 0 big ch := by
        unfold swBlk
        rw [blk_set hblk3]
        simp [swCells]
      have hother : ∀ k, k ≠ s → ((w.setCell ⟨s, 3, none⟩ (.int .i8 0)).setCell ⟨s, 1, none⟩ v').heap[k]? = w.heap[k]? := fun k hk => (Below.heap_setCell _ _ _ _ hk).trans (hw3c k hk)
      refine ⟨⟨v', 0, hk, ?_⟩, ⟨rfl, rfl, rfl, by simp [World.setCell], fun k _ hk _ => hother k hk, fun k hk' => ?_⟩⟩
      · rw [List.append_nil]
        rcases hbv with hbv | ⟨g, cap, h1, h2, h3, ⟨⟨cur, h4, h5⟩, h6⟩⟩
        · exact .inl hbv
        · exact .inr ⟨g, cap, h1, h2, h3, ⟨⟨cur, (hother g (by omega)).trans h4, h5⟩, h6⟩⟩
      · have e1 : ((w.setCell ⟨s, 3, none⟩ (.int .i8 0)).setCell ⟨s, 1, none⟩ v').cell? ⟨s, 1, none⟩ = some v' := (blk_cell hk 1).trans rfl
        have e2 : w.cell? ⟨s, 1, none⟩ = some v' := (blk_cell hblk 1).trans rfl
        unfold rowOf at hk' ⊢
        rw [e1] at hk'
        rw [e2]
        exact .inl hk'
    have HSM := Lib.hid same
    clear same HC
    rcases hbv with ⟨rfl, rfl⟩ | ⟨g, cap, rfl, h1, h2, hO⟩
    · have HT := Lib.hid (Tryd.Buffer_tryGrow_room_at s 1 none 0 0 0 (w.setCell ⟨s, 3, none⟩ (.int .i8 0)) ((blk_cell hblk3 1).trans rfl) (blk_free hblk3 1) (Nat.le_refl _) (Nat.zero_le _) (Nat.le_refl _))
      have k1 : ((w.setCell ⟨s, 3, none⟩ (.int .i8 0)).setCell ⟨s, 1, none⟩ (.slice none 0 0)).cell? ⟨s, 1, none⟩ = some (.slice none 0 0) := World.cell?_setCell_same _ _ _ ((blk_cell hblk3 1).trans rfl)
      clear hblk hblk3 hg3 hz3 hw3c hpn
      go_enter Tryd.func74, Tryd.ntmps74
      go_wp2_with (first | (go_at_call 89; go_must (refine HT.out.mono ?_); rintro e W1 ⟨rfl, rfl⟩))
      go_ret2
      exact ⟨rfl, HSM.out _ rfl⟩
    · have hcap := hO.2.1
      have hcapm := hO.2.2.1
      have HT := Lib.hid (Tryd.Buffer_tryGrow_room_at s 1 (some ⟨g, 0, none⟩) xs.length cap 0 (w.setCell ⟨s, 3, none⟩ (.int .i8 0)) ((blk_cell hblk3 1).trans rfl) (blk_free hblk3 1) hcap hcapm (Nat.zero_le _))
      have k1 : ((w.setCell ⟨s, 3, none⟩ (.int .i8 0)).setCell ⟨s, 1, none⟩ (.slice (some ⟨g, 0, none⟩) (xs.length + 0) cap)).cell? ⟨s, 1, none⟩ = some (.slice (some ⟨g, 0, none⟩) (xs.length + 0) cap) := World.cell?_setCell_same _ _ _ ((blk_cell hblk3 1).trans rfl)
      have hcm2 : cap ≤ 9223372036854775807 := by simp only [maxLen] at hcapm; omega
      rw [Nat.add_zero] at HT k1
      have hsl2 := fun W => run_cut1 (P := Tryd.prog) u8 g 0 xs.length cap xs.length (xs.length : Int) rfl (Nat.le_refl _) W
      rw [Nat.sub_self] at hsl2
      generalize cutOff 0 cap xs.length = og at hsl2
      clear hblk hblk3 hg3 hz3 hw3c hpn hO
      go_enter Tryd.func74, Tryd.ntmps74
      go_wp2_with (first | (go_at_call 89; go_must (refine HT.out.mono ?_); rintro e W1 ⟨rfl, rfl⟩))
      go_ret2
      exact ⟨rfl, by simpa using HSM.out _ rfl⟩
  · have h1 : 1 ≤ n := by omega
    have key : ∀ W g cap cells lr', Room s big ch xs n w W g cap cells lr' → ∃ W2 og, (∀ ty, (Builtin.copy_ #[24, 24] ty #[.slice (some ⟨g, og, none⟩) n (cap - xs.length), .slice p n c]).run Tryd.prog W = .ok (goInt n) W2) ∧ (∀ W, (Instr.slice 24 (.slice (some ⟨g, 0, none⟩) (xs.length + n) cap) (some (.int .i64 (xs.length : Int))) none none).run Tryd.prog W = .ok (.slice (some ⟨g, og, none⟩) n (cap - xs.length)) W) ∧
        W.cell? ⟨s, 1, none⟩ = some (.slice (some ⟨g, 0, none⟩) (xs.length + n) cap) ∧ cap ≤ 9223372036854775807 ∧ Sw W2 s big ch (xs ++ l) ∧ Wx s w W2 := by
      intro W g cap cells lr' hR
      obtain ⟨W2, e1, e2, e3⟩ := HC.out W g cap cells lr' h1 hR
      have hf := hR.fit
      have hm := hR.max
      refine ⟨W2, xs.length, e1, fun W => ?_, (blk_cell hR.blk 1).trans rfl, by simp only [maxLen] at hm; omega, e2, e3⟩
      have := run_cut1 (P := Tryd.prog) u8 g 0 (xs.length + n) cap xs.length (xs.length : Int) rfl (by omega) W
      rw [Nat.add_sub_cancel_left] at this
      rw [this]
      unfold cutOff
      rw [if_neg (by omega), Nat.zero_add]
    have KEY := Lib.hid key
    have hs3 : s < (w.setCell ⟨s, 3, none⟩ (.int .i8 0)).heap.size := by rw [hz3]; exact hsl
    clear key HC
    rcases hbv with ⟨rfl, hxe⟩ | ⟨g, cap, rfl, hx1, hgs, hO⟩
    · have HT := Lib.hid (Tryd.Buffer_tryGrow_none_at s 1 none 0 0 n (w.setCell ⟨s, 3, none⟩ (.int .i8 0)) ((blk_cell hblk3 1).trans rfl) (Nat.le_refl _) (Nat.zero_le _) (by omega))
      have hG : Calls Tryd.prog 90 #[.pointer (some ⟨s, 1, none⟩), .int .i64 n] (w.setCell ⟨s, 3, none⟩ (.int .i8 0)) (Grown s big ch [] n (w.setCell ⟨s, 3, none⟩ (.int .i8 0))) := by
        by_cases h64 : n ≤ 64
        · exact grow_small s n 0 big ch _ hblk3 h1 h64
        · exact grow_nil s n 0 big ch _ hblk3 (by omega) (by omega)
      rw [← hxe] at hG
      have HG := Lib.hid hG
      have HG3 := Lib.hid (And.intro hg3 hz3)
      clear hG hblk hblk3 hg3 hz3 hw3c hpn hxe
      go_enter Tryd.func74, Tryd.ntmps74
      go_wp2_with (first
        | (go_at_call 89; go_must (refine HT.out.mono ?_); rintro e W1 ⟨rfl, rfl⟩)
        | (go_at_call 90; go_must (refine HG.out.mono ?_); intro e W1 hgr; obtain ⟨rfl, g, cap, cells, lr', hR⟩ := hgr.room hs3 HG3.out.1 HG3.out.2; obtain ⟨W2, og, hcp, hct, d0, hcm2, hsw, hwx⟩ := KEY.out _ _ _ _ _ hR))
      go_ret2
      exact ⟨rfl, hsw, hwx⟩
    · have hcap := hO.2.1
      have hcapm := hO.2.2.1
      by_cases hroom : n ≤ cap - xs.length
      · have HT := Lib.hid (Tryd.Buffer_tryGrow_room_at s 1 (some ⟨g, 0, none⟩) xs.length cap n (w.setCell ⟨s, 3, none⟩ (.int .i8 0)) ((blk_cell hblk3 1).trans rfl) (blk_free hblk3 1) hcap hcapm hroom)
        have hb1 := blk_set hblk3 1 (.slice (some ⟨g, 0, none⟩) (xs.length + n) cap)
        obtain ⟨⟨cur, h4, h5, h6⟩, _⟩ := id hO
        have hR : Room s big ch xs n w ((w.setCell ⟨s, 3, none⟩ (.int .i8 0)).setCell ⟨s, 1, none⟩ (.slice (some ⟨g, 0, none⟩) (xs.length + n) cap)) g cap cur 0 := by
          refine ⟨by unfold swBlk; rw [hb1]; simp [swCells], ?_, h5, h6, by omega, hcapm, Lib.grownBy_setB hg3 1 _, hgs, .inl ?_⟩
          · rw [Below.heap_setCell _ _ _ _ (by show g ≠ s; omega), Below.heap_setCell _ _ _ _ (by show g ≠ s; omega)]
            exact h4
          · unfold rowOf
            rw [show w.cell? ⟨s, 1, none⟩ = some (Value.slice (some ⟨g, 0, none⟩) xs.length cap) from (blk_cell hblk 1).trans rfl]
            rfl
        obtain ⟨W2, og, hcp, hct, d0, hcm2, hsw, hwx⟩ := KEY.out _ _ _ _ _ hR
        clear hblk hblk3 hg3 hz3 hw3c hpn hO hR hb1 h4 h5 h6 KEY
        go_enter Tryd.func74, Tryd.ntmps74
        go_wp2_with (first
          | (go_at_call 89; go_must (refine HT.out.mono ?_); rintro e W1 ⟨rfl, rfl⟩))
        go_ret2
        exact ⟨rfl, hsw, hwx⟩
      · have HT := Lib.hid (Tryd.Buffer_tryGrow_none_at s 1 (some ⟨g, 0, none⟩) xs.length cap n (w.setCell ⟨s, 3, none⟩ (.int .i8 0)) ((blk_cell hblk3 1).trans rfl) hcap hcapm (by omega))
        have hO3 : OwnAt (w.setCell ⟨s, 3, none⟩ (.int .i8 0)) g cap xs := hO.setCell_far (by show g ≠ s; omega) _
        have HG := Lib.hid (grow_row s g cap n 0 big ch xs _ hblk3 hO3 hx1 h1 (by omega) (by omega))
        have HG3 := Lib.hid (And.intro hg3 hz3)
        clear hblk hblk3 hg3 hz3 hw3c hpn hO hO3
        go_enter Tryd.func74, Tryd.ntmps74
        go_wp2_with (first
          | (go_at_call 89; go_must (refine HT.out.mono ?_); rintro e W1 ⟨rfl, rfl⟩)
          | (go_at_call 90; go_must (refine HG.out.mono ?_); intro e W1 hgr; obtain ⟨rfl, g2, cap2, cells, lr', hR⟩ := hgr.room hs3 HG3.out.1 HG3.out.2; obtain ⟨W2, og, hcp, hct, d0, hcm2, hsw, hwx⟩ := KEY.out _ _ _ _ _ hR))
        go_ret2
        exact ⟨rfl, hsw, hwx⟩

set_option maxRecDepth 100000 in
set_option maxHeartbeats 4000000 in
theorem writeByte_sw (s : Nat) (big : Bool) (ch : Int) (xs : List Int) (c : Int) (w : World) (hS : Sw w s big ch xs) (hc : 0 ≤ c ∧ c < 256) (hlim : xs.length ≤ 100000000000) :
    Calls Tryd.prog 75 #[.pointer (some ⟨s, 1, none⟩), .int .u8 c] w fun e w' => e = .returned .nilIface ∧ Sw w' s big ch (xs ++ [c]) ∧ Wx s w w' := by
  have hbx := hS.byt
  obtain ⟨bv, lr, hblk, hbv⟩ := hS
  have hsl := lt_of_some hblk
  have c3 : w.cell? ⟨s, 3, none⟩ = some (.int .i8 lr) := (blk_cell hblk 3).trans rfl
  have f3 := blk_free hblk 3
  have hblk3 : swBlk (w.setCell ⟨s, 3, none⟩ (.int .i8 0)) s bv 0 big ch := by unfold swBlk; rw [blk_set hblk, swCells_last]
  have hg3 : w.grownBy (w.setCell ⟨s, 3, none⟩ (.int .i8 0)) (some s) := Lib.grownBy_setCell w s 3 _
  have hz3 : (w.setCell ⟨s, 3, none⟩ (.int .i8 0)).heap.size = w.heap.size := by simp [World.setCell]
  have key : ∀ W g cap cells lr', Room s big ch xs 1 w W g cap cells lr' → ∃ x, W.cell? ⟨g, xs.length, none⟩ = some x ∧ W.frozen? ⟨g, xs.length, none⟩ = false ∧
      W.cell? ⟨s, 1, none⟩ = some (.slice (some ⟨g, 0, none⟩) (xs.length + 1) cap) ∧ Sw (W.setCell ⟨g, xs.length, none⟩ (.int .u8 c)) s big ch (xs ++ [c]) ∧ Wx s w (W.setCell ⟨g, xs.length, none⟩ (.int .u8 c)) := by
    intro W g cap cells lr' hR
    have hf := hR.fit
    have hsz := hR.csz
    refine ⟨cells[xs.length]'(by omega), by rw [blk_cell hR.row]; exact Array.getElem?_eq_getElem _, blk_free hR.row _, (blk_cell hR.blk 1).trans rfl, ?_⟩
    refine hR.fill (l := [c]) rfl (Nat.le_refl _) hbx (fun x hx => by simp at hx; subst hx; exact hc) _ ?_ (fun k hk => Below.heap_setCell _ _ _ _ hk) (by simp [World.setCell]) rfl rfl rfl
    rw [blk_set hR.row]
    congr 2
    apply Array.ext'
    rw [Array.toList_setIfInBounds, List.set_eq_take_append_cons_drop, if_pos (by have : cells.toList.length = cells.size := Array.length_toList; omega)]
    simp
  have KEY := Lib.hid key
  have hs3 : s < (w.setCell ⟨s, 3, none⟩ (.int .i8 0)).heap.size := by rw [hz3]; exact hsl
  clear key
  rcases hbv with ⟨rfl, hxe⟩ | ⟨g, cap, rfl, hx1, hgs, hO⟩
  · have HT := Lib.hid (Tryd.Buffer_tryGrow_none_at s 1 none 0 0 1 (w.setCell ⟨s, 3, none⟩ (.int .i8 0)) ((blk_cell hblk3 1).trans rfl) (Nat.le_refl _) (Nat.zero_le _) (by omega))
    have hG := grow_small s 1 0 big ch _ hblk3 (Nat.le_refl _) (by omega)
    rw [← hxe] at hG
    have HG := Lib.hid hG
    have HG3 := Lib.hid (And.intro hg3 hz3)
    clear hG hblk hblk3 hg3 hz3 hxe
    go_enter Tryd.func75, Tryd.ntmps75
    go_wp2_with (first
      | (go_at_call 89; go_must (refine HT.out.mono ?_); rintro e W1 ⟨rfl, rfl⟩)
      | (go_at_call 90; go_must (refine HG.out.mono ?_); intro e W1 hgr; obtain ⟨rfl, g, cap, cells, lr', hR⟩ := hgr.room hs3 HG3.out.1 HG3.out.2; obtain ⟨x, e1, e2, e3, hsw, hwx⟩ := KEY.out _ _ _ _ _ hR))
    go_ret
    exact ⟨rfl, hsw, hwx⟩
  · have hcap := hO.2.1
    have hcapm := hO.2.2.1
    by_cases hroom : 1 ≤ cap - xs.length
    · have HT := Lib.hid (Tryd.Buffer_tryGrow_room_at s 1 (some ⟨g, 0, none⟩) xs.length cap 1 (w.setCell ⟨s, 3, none⟩ (.int .i8 0)) ((blk_cell hblk3 1).trans rfl) (blk_free hblk3 1) hcap hcapm hroom)
      have hb1 := blk_set hblk3 1 (.slice (some ⟨g, 0, none⟩) (xs.length + 1) cap)
      obtain ⟨⟨cur, h4, h5, h6⟩, _⟩ := id hO
      have hR : Room s big ch xs 1 w ((w.setCell ⟨s, 3, none⟩ (.int .i8 0)).setCell ⟨s, 1, none⟩ (.slice (some ⟨g, 0, none⟩) (xs.length + 1) cap)) g cap cur 0 := by
        refine ⟨by unfold swBlk; rw [hb1]; simp [swCells], ?_, h5, h6, by omega, hcapm, Lib.grownBy_setB hg3 1 _, hgs, .inl ?_⟩
        · rw [Below.heap_setCell _ _ _ _ (by show g ≠ s; omega), Below.heap_setCell _ _ _ _ (by show g ≠ s; omega)]
          exact h4
        · unfold rowOf
          rw [show w.cell? ⟨s, 1, none⟩ = some (Value.slice (some ⟨g, 0, none⟩) xs.length cap) from (blk_cell hblk 1).trans rfl]
          rfl
      obtain ⟨x, e1, e2, e3, hsw, hwx⟩ := KEY.out _ _ _ _ _ hR
      have hgs' : ¬ (s = g) := by omega
      have hgs2 : ¬ (g = s) := by omega
      clear hblk hblk3 hg3 hz3 hO hR hb1 h4 h5 h6 KEY
      go_enter Tryd.func75, Tryd.ntmps75
      go_wp2_with (first
        | (go_at_call 89; go_must (refine HT.out.mono ?_); rintro e W1 ⟨rfl, rfl⟩))
      go_ret
      exact ⟨rfl, hsw, hwx⟩
    · have HT := Lib.hid (Tryd.Buffer_tryGrow_none_at s 1 (some ⟨g, 0, none⟩) xs.length cap 1 (w.setCell ⟨s, 3, none⟩ (.int .i8 0)) ((blk_cell hblk3 1).trans rfl) hcap hcapm (by omega))
      have hO3 : OwnAt (w.setCell ⟨s, 3, none⟩ (.int .i8 0)) g cap xs := hO.setCell_far (by show g ≠ s; omega) _
      have HG := Lib.hid (grow_row s g cap 1 0 big ch xs _ hblk3 hO3 hx1 (Nat.le_refl _) (by omega) (by omega))
      have HG3 := Lib.hid (And.intro hg3 hz3)
      clear hblk hblk3 hg3 hz3 hO hO3
      go_enter Tryd.func75, Tryd.ntmps75
      go_wp2_with (first
        | (go_at_call 89; go_must (refine HT.out.mono ?_); rintro e W1 ⟨rfl, rfl⟩)
        | (go_at_call 90; go_must (refine HG.out.mono ?_); intro e W1 hgr; obtain ⟨rfl, g2, cap2, cells, lr', hR⟩ := hgr.room hs3 HG3.out.1 HG3.out.2; obtain ⟨x, e1, e2, e3, hsw, hwx⟩ := KEY.out _ _ _ _ _ hR))
      go_ret
      exact ⟨rfl, hsw, hwx⟩

/-- PutBytes. -/
theorem putBytes (s : Nat) (big : Bool) (ch : Int) (xs l : List Int) (v : Value) (w : World) (hS : Sw w s big ch xs) (hv : Rd w v l) (ha : Aside s w v) (hlim : xs.length + l.length ≤ 100000000000) :
    Calls Tryd.prog 40 #[.pointer (some ⟨s, 0, none⟩), v] w fun e w' => e = .returned (.tuple #[]) ∧ Sw w' s big ch (xs ++ l) ∧ Wx s w w' := by
  have H := Lib.hid (write_sw s big ch xs l v w hS hv ha hlim)
  clear hS hv ha
  go_enter Tryd.func40, Tryd.ntmps40
  go_wp2_with (first | (go_at_call 74; go_must (refine H.out.mono ?_); rintro e W1 ⟨rfl, h1, h2⟩))
  go_end0
  exact ⟨rfl, h1, h2⟩
end Go.Proofs.YtgkccbfepjgjoaaDoor
