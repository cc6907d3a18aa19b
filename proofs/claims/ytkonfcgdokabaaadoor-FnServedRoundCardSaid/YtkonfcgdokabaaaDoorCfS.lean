/- Servers are equal: both ways of asking. -/
import Derived.Test.YtkonfcgdokabaaaDoorCfC
import Derived.Lib.Fold
namespace Go.Proofs.YtkonfcgdokabaaaDoor
open Go Go.RowKit

theorem upperB_val (x : UInt8) : (Lib.upperB x).toNat = if 97 ≤ x.toNat ∧ x.toNat ≤ 122 then x.toNat - 32 else x.toNat := by
  have : ∀ x : Fin 256, (Lib.upperB (UInt8.ofNat x)).toNat = if 97 ≤ (UInt8.ofNat x).toNat ∧ (UInt8.ofNat x).toNat ≤ 122 then (UInt8.ofNat x).toNat - 32 else (UInt8.ofNat x).toNat := by decide +kernel
  have := this ⟨x.toNat, x.toNat_lt⟩
  simp only [UInt8.ofNat_toNat] at this
  exact this
theorem lowB_val (x : UInt8) : (lowB x).toNat = if 65 ≤ x.toNat ∧ x.toNat ≤ 90 then x.toNat + 32 else x.toNat := by
  have : ∀ x : Fin 256, (lowB (UInt8.ofNat x)).toNat = if 65 ≤ (UInt8.ofNat x).toNat ∧ (UInt8.ofNat x).toNat ≤ 90 then (UInt8.ofNat x).toNat + 32 else (UInt8.ofNat x).toNat := by decide +kernel
  have := this ⟨x.toNat, x.toNat_lt⟩
  simp only [UInt8.ofNat_toNat] at this
  exact this
theorem fold_low (x y : UInt8) : Lib.foldEq (Lib.upperB x) (Lib.upperB y) = decide (lowB x = lowB y) := by
  unfold Lib.foldEq
  rw [decide_eq_decide, ← UInt8.toNat_inj, upperB_val, upperB_val, lowB_val, lowB_val]
  split <;> split <;> split <;> split <;> omega
theorem equalFold_low : ∀ (a b : List UInt8), Lib.equalFold (Lib.toUpperA a) (Lib.toUpperA b) = decide (a.map lowB = b.map lowB)
  | [], [] => rfl
  | [], _ :: _ => by simp [Lib.toUpperA, Lib.equalFold]
  | _ :: _, [] => by simp [Lib.toUpperA, Lib.equalFold]
  | x :: s, y :: t => by
    have := equalFold_low s t
    unfold Lib.toUpperA at *
    simp only [List.map_cons, Lib.equalFold, this, fold_low, List.cons.injEq, Bool.decide_and]

/-- Two servers are one. -/
def srvEq (a : List UInt8) (m : Int) (b : List UInt8) (n : Int) : Bool := decide (a.map lowB = b.map lowB) && (m == n)

theorem upperC (L : List UInt8) (hl : L.length ≤ 100000) (ha : ∀ b ∈ L, b.toNat < 128) (w : World) :
    Calls Tryd.prog 41 #[.string (bs L)] w fun e w' => e = .returned (.string ⟨(Lib.toUpperA L).toArray⟩) ∧ Gr w w' := by
  have hu := Tryd.strings_ToUpper_ascii (bs L) w (by rw [bs_size]; omega) (fun j b hj => ha b (by have := List.mem_of_getElem? hj; simpa [bs] using this))
  have e : (bs L).data.toList = L := by simp [bs]
  rw [e] at hu
  exact hu
theorem upper_ascii (L : List UInt8) (ha : ∀ b ∈ L, b.toNat < 128) : ∀ b ∈ Lib.toUpperA L, b.toNat < 128 := by
  intro b hb
  obtain ⟨x, hx, rfl⟩ := List.mem_map.1 hb
  have := ha x hx
  rw [upperB_val]
  split <;> omega
theorem foldC (A B : List UInt8) (hl : A.length ≤ 100000) (ha : ∀ b ∈ A, b.toNat < 128) (hb : ∀ b ∈ B, b.toNat < 128) (w : World) :
    Calls Tryd.prog 40 #[.string ⟨A.toArray⟩, .string ⟨B.toArray⟩] w fun e w' => e = .returned (.bool (Lib.equalFold A B)) ∧ w' = w := by
  have hs : (⟨A.toArray⟩ : ByteArray).size = A.length := by simp [ByteArray.size]
  have h := Tryd.strings_EqualFold ⟨A.toArray⟩ ⟨B.toArray⟩ w (by rw [hs]; omega) (fun j b hj => ha b (by have := List.mem_of_getElem? hj; simpa using this)) (fun j b hj => hb b (by have := List.mem_of_getElem? hj; simpa using this))
  simpa using h

set_option maxRecDepth 100000 in
set_option maxHeartbeats 4000000 in
theorem isEqual (b1 b2 : Nat) (L1 L2 : List UInt8) (n1 n2 : Int) (hl1 : L1.length ≤ 100000) (hl2 : L2.length ≤ 100000) (ha1 : ∀ b ∈ L1, b.toNat < 128) (ha2 : ∀ b ∈ L2, b.toNat < 128) (w : World)
    (c11 : w.cell? ⟨b1, 1, none⟩ = some (.string (bs L1))) (c12 : w.cell? ⟨b1, 2, none⟩ = some (.int .i64 n1)) (c21 : w.cell? ⟨b2, 1, none⟩ = some (.string (bs L2))) (c22 : w.cell? ⟨b2, 2, none⟩ = some (.int .i64 n2)) :
    Calls Tryd.prog 36 #[.pointer (some ⟨b1, 0, none⟩), .pointer (some ⟨b2, 0, none⟩)] w fun e w' => e = .returned (.bool (srvEq L1 n1 L2 n2)) ∧ Gr w w' := by
  have HU1 := fun w => Lib.hid (upperC L1 hl1 ha1 w)
  have HU2 := fun w => Lib.hid (upperC L2 hl2 ha2 w)
  have HE := fun w => Lib.hid (foldC (Lib.toUpperA L1) (Lib.toUpperA L2) (by unfold Lib.toUpperA; simpa using hl1) (upper_ascii L1 ha1) (upper_ascii L2 ha2) w)
  rw [show srvEq L1 n1 L2 n2 = (decide (L1.map lowB = L2.map lowB) && (n1 == n2)) from rfl, ← equalFold_low]
  generalize Lib.equalFold (Lib.toUpperA L1) (Lib.toUpperA L2) = q at *
  generalize (⟨(Lib.toUpperA L1).toArray⟩ : ByteArray) = U1 at *
  generalize (⟨(Lib.toUpperA L2).toArray⟩ : ByteArray) = U2 at *
  generalize bs L1 = S1 at *
  generalize bs L2 = S2 at *
  clear ha1 ha2 hl1 hl2
  cases q
  · have hG := Gr.refl w
    go_enter Tryd.func36, Tryd.ntmps36
    go_wp2
    have hG := hG.drew
    -- OFF
    refine wp_region_held_drew (S := fun w' => w'.cell? ⟨b1, 1, none⟩ = some (.string S1) ∧ w'.cell? ⟨b1, 2, none⟩ = some (.int .i64 n1) ∧ w'.cell? ⟨b2, 1, none⟩ = some (.string S2) ∧ w'.cell? ⟨b2, 2, none⟩ = some (.int .i64 n2)) (by kernel_rfl) (by first | assumption | (with_reducible exact ⟨hG.cell c11, hG.cell c12, hG.cell c21, hG.cell c22⟩)) (fun hHeld => ?_)
    refine wpAnyH_take (i := 0) (oi := { dst := some 5, op := Op.move (Operand.tmp 0), type := 56, pos := "database_info.go:65", after := #[], guard := none }) (v := ?_) rfl (by kernel_rfl) (by kernel_rfl) (by kernel_rfl) (fun _ _ _ h => h) (Or.inl ⟨by rfl, ?_⟩) (by assumption) ?_
    rotate_left
    · (intro w hSw; (try dsimp only at hSw); go_simp; try with_reducible rfl)
    try simp only [Act.put, List.setIfInBounds_toArray, List.set_cons_zero, List.set_cons_succ]
    refine wpAnyH_take (i := 1) (oi := { dst := some 6, op := Op.nilCheck (Operand.tmp 5), type := 0, pos := "database_info.go:65", after := #[{ on := 0, ground := Ground.data }], guard := none }) (v := ?_) rfl (by kernel_rfl) (by kernel_rfl) (by kernel_rfl) (fun _ _ _ h => h) (Or.inl ⟨by rfl, ?_⟩) (by assumption) ?_
    rotate_left
    · (intro w hSw; (try dsimp only at hSw); go_simp; try with_reducible rfl)
    try simp only [Act.put, List.setIfInBounds_toArray, List.set_cons_zero, List.set_cons_succ]
    refine wpAnyH_take (i := 2) (oi := { dst := some 7, op := Op.fieldAddr 58 (Operand.tmp 6) 1, type := 0, pos := "database_info.go:65", after := #[{ on := 1, ground := Ground.data }], guard := none }) (v := ?_) rfl (by kernel_rfl) (by kernel_rfl) (by kernel_rfl) (fun _ _ _ h => h) (Or.inl ⟨by rfl, ?_⟩) (by assumption) ?_
    rotate_left
    · (intro w hSw; (try dsimp only at hSw); go_simp; try with_reducible rfl)
    try simp only [Act.put, List.setIfInBounds_toArray, List.set_cons_zero, List.set_cons_succ]
    refine wpAnyH_take (i := 3) (oi := { dst := some 8, op := Op.load 9 (Operand.tmp 7), type := 9, pos := "database_info.go:65", after := #[{ on := 2, ground := Ground.data }], guard := none }) (v := ?_) rfl (by kernel_rfl) (by kernel_rfl) (by kernel_rfl) (fun _ _ _ h => h) (Or.inl ⟨by rfl, ?_⟩) (by assumption) ?_
    rotate_left
    · (intro w hSw; (try dsimp only at hSw); go_simp; try with_reducible rfl)
    try simp only [Act.put, List.setIfInBounds_toArray, List.set_cons_zero, List.set_cons_succ]
    refine wpAnyH_take (i := 5) (oi := { dst := some 10, op := Op.move (Operand.tmp 1), type := 56, pos := "database_info.go:65", after := #[], guard := none }) (v := ?_) rfl (by kernel_rfl) (by kernel_rfl) (by kernel_rfl) (fun _ _ _ h => h) (Or.inl ⟨by rfl, ?_⟩) (by assumption) ?_
    rotate_left
    · (intro w hSw; (try dsimp only at hSw); go_simp; try with_reducible rfl)
    try simp only [Act.put, List.setIfInBounds_toArray, List.set_cons_zero, List.set_cons_succ]
    refine wpAnyH_take (i := 6) (oi := { dst := some 11, op := Op.nilCheck (Operand.tmp 10), type := 0, pos := "database_info.go:65", after := #[{ on := 5, ground := Ground.data }], guard := none }) (v := ?_) rfl (by kernel_rfl) (by kernel_rfl) (by kernel_rfl) (fun _ _ _ h => h) (Or.inl ⟨by rfl, ?_⟩) (by assumption) ?_
    rotate_left
    · (intro w hSw; (try dsimp only at hSw); go_simp; try with_reducible rfl)
    try simp only [Act.put, List.setIfInBounds_toArray, List.set_cons_zero, List.set_cons_succ]
    refine wpAnyH_take (i := 7) (oi := { dst := some 12, op := Op.fieldAddr 58 (Operand.tmp 11) 1, type := 0, pos := "database_info.go:65", after := #[{ on := 6, ground := Ground.data }], guard := none }) (v := ?_) rfl (by kernel_rfl) (by kernel_rfl) (by kernel_rfl) (fun _ _ _ h => h) (Or.inl ⟨by rfl, ?_⟩) (by assumption) ?_
    rotate_left
    · (intro w hSw; (try dsimp only at hSw); go_simp; try with_reducible rfl)
    try simp only [Act.put, List.setIfInBounds_toArray, List.set_cons_zero, List.set_cons_succ]
    refine wpAnyH_take (i := 8) (oi := { dst := some 13, op := Op.load 9 (Operand.tmp 12), type := 9, pos := "database_info.go:65", after := #[{ on := 7, ground := Ground.data }], guard := none }) (v := ?_) rfl (by kernel_rfl) (by kernel_rfl) (by kernel_rfl) (fun _ _ _ h => h) (Or.inl ⟨by rfl, ?_⟩) (by assumption) ?_
    rotate_left
    · (intro w hSw; (try dsimp only at hSw); go_simp; try with_reducible rfl)
    try simp only [Act.put, List.setIfInBounds_toArray, List.set_cons_zero, List.set_cons_succ]
    refine wpAnyH_ready (rs := [4]) (by kernel_rfl) (by simp) ?_
    refine AllReadyH.cons (o := { dst := some 9, op := Op.call { callee := Callee.value (Operand.func 41), args := #[Operand.tmp 8], argTypes := #[9] }, type := 9, pos := "database_info.go:65", after := #[{ on := 3, ground := Ground.data }], guard := none }) rfl (fun K hK => ?_) ?_
    ·
      go_simp
      go_at_call 41; with_reducible refine (HU1 _).out.mono ?_; rintro e w2 ⟨rfl, hg2⟩; have hG : Gr w w2 := Gr.trans (by with_reducible first | exact hG | exact Gr.refl _ | exact (Gr.refl _).drew) hg2
      go_wp2_with fail
      refine hK.out _ _ (by first | assumption | (with_reducible exact ⟨hG.cell c11, hG.cell c12, hG.cell c21, hG.cell c22⟩)) (fun hHeld => ?_)
      clear hK K
      try simp only [Act.put, List.setIfInBounds_toArray, List.set_cons_zero, List.set_cons_succ]
      refine wpAnyH_ready (rs := [9]) (by kernel_rfl) (by simp) ?_
      refine AllReadyH.cons (o := { dst := some 14, op := Op.call { callee := Callee.value (Operand.func 41), args := #[Operand.tmp 13], argTypes := #[9] }, type := 9, pos := "database_info.go:65", after := #[{ on := 8, ground := Ground.data }, { on := 4, ground := Ground.chain }], guard := none }) rfl (fun K hK => ?_) ?_
      ·
        go_simp
        go_at_call 41; with_reducible refine (HU2 _).out.mono ?_; rintro e w2 ⟨rfl, hg2⟩; have hG : Gr w w2 := Gr.trans (by with_reducible first | exact hG | exact Gr.refl _ | exact (Gr.refl _).drew) hg2
        go_wp2_with fail
        refine hK.out _ _ (by first | assumption | (with_reducible exact ⟨hG.cell c11, hG.cell c12, hG.cell c21, hG.cell c22⟩)) (fun hHeld => ?_)
        clear hK K
        try simp only [Act.put, List.setIfInBounds_toArray, List.set_cons_zero, List.set_cons_succ]
        refine wpAnyH_ready (rs := [10]) (by kernel_rfl) (by simp) ?_
        refine AllReadyH.cons (o := { dst := some 15, op := Op.call { callee := Callee.value (Operand.func 40), args := #[Operand.tmp 9, Operand.tmp 14], argTypes := #[9, 9] }, type := 4, pos := "database_info.go:65", after := #[{ on := 4, ground := Ground.data }, { on := 9, ground := Ground.data }, { on := 9, ground := Ground.chain }], guard := none }) rfl (fun K hK => ?_) ?_
        ·
          go_simp
          go_at_call 40; with_reducible refine (HE _).out.mono ?_; rintro e w3 ⟨rfl, rfl⟩
          go_wp2_with fail
          refine hK.out _ _ (by first | assumption | (with_reducible exact ⟨hG.cell c11, hG.cell c12, hG.cell c21, hG.cell c22⟩)) (fun hHeld => ?_)
          clear hK K
          try simp only [Act.put, List.setIfInBounds_toArray, List.set_cons_zero, List.set_cons_succ]
          refine wpAnyH_take (i := 11) (oi := { dst := some 16, op := Op.move (Operand.tmp 15), type := 4, pos := "database_info.go:65", after := #[{ on := 10, ground := Ground.data }, { on := 10, ground := Ground.chain }], guard := none }) (v := ?_) rfl (by kernel_rfl) (by kernel_rfl) (by kernel_rfl) (fun _ _ _ h => h) (Or.inl ⟨by rfl, ?_⟩) (by assumption) ?_
          rotate_left
          · (intro w hSw; (try dsimp only at hSw); go_simp; try with_reducible rfl)
          try simp only [Act.put, List.setIfInBounds_toArray, List.set_cons_zero, List.set_cons_succ]
          refine wpAnyH_take (i := 12) (oi := { dst := some 17, op := Op.move (Operand.tmp 0), type := 56, pos := "database_info.go:65", after := #[{ on := 11, ground := Ground.guard }], guard := some (11, true) }) (v := undef) rfl (by kernel_rfl) (by kernel_rfl) (by kernel_rfl) (fun _ _ _ h => h) (Or.inr ⟨by rfl, rfl⟩) (by assumption) ?_
          try simp only [Act.put, List.setIfInBounds_toArray, List.set_cons_zero, List.set_cons_succ]
          refine wpAnyH_take (i := 13) (oi := { dst := some 18, op := Op.nilCheck (Operand.tmp 17), type := 0, pos := "database_info.go:65", after := #[{ on := 12, ground := Ground.data }, { on := 11, ground := Ground.guard }], guard := some (11, true) }) (v := undef) rfl (by kernel_rfl) (by kernel_rfl) (by kernel_rfl) (fun _ _ _ h => h) (Or.inr ⟨by rfl, rfl⟩) (by assumption) ?_
          try simp only [Act.put, List.setIfInBounds_toArray, List.set_cons_zero, List.set_cons_succ]
          refine wpAnyH_take (i := 14) (oi := { dst := some 19, op := Op.fieldAddr 58 (Operand.tmp 18) 2, type := 0, pos := "database_info.go:65", after := #[{ on := 13, ground := Ground.data }, { on := 11, ground := Ground.guard }], guard := some (11, true) }) (v := undef) rfl (by kernel_rfl) (by kernel_rfl) (by kernel_rfl) (fun _ _ _ h => h) (Or.inr ⟨by rfl, rfl⟩) (by assumption) ?_
          try simp only [Act.put, List.setIfInBounds_toArray, List.set_cons_zero, List.set_cons_succ]
          refine wpAnyH_take (i := 15) (oi := { dst := some 20, op := Op.load 3 (Operand.tmp 19), type := 3, pos := "database_info.go:65", after := #[{ on := 14, ground := Ground.data }, { on := 11, ground := Ground.guard }], guard := some (11, true) }) (v := undef) rfl (by kernel_rfl) (by kernel_rfl) (by kernel_rfl) (fun _ _ _ h => h) (Or.inr ⟨by rfl, rfl⟩) (by assumption) ?_
          try simp only [Act.put, List.setIfInBounds_toArray, List.set_cons_zero, List.set_cons_succ]
          refine wpAnyH_take (i := 16) (oi := { dst := some 21, op := Op.move (Operand.tmp 1), type := 56, pos := "database_info.go:65", after := #[{ on := 11, ground := Ground.guard }], guard := some (11, true) }) (v := undef) rfl (by kernel_rfl) (by kernel_rfl) (by kernel_rfl) (fun _ _ _ h => h) (Or.inr ⟨by rfl, rfl⟩) (by assumption) ?_
          try simp only [Act.put, List.setIfInBounds_toArray, List.set_cons_zero, List.set_cons_succ]
          refine wpAnyH_take (i := 17) (oi := { dst := some 22, op := Op.nilCheck (Operand.tmp 21), type := 0, pos := "database_info.go:65", after := #[{ on := 16, ground := Ground.data }, { on := 11, ground := Ground.guard }], guard := some (11, true) }) (v := undef) rfl (by kernel_rfl) (by kernel_rfl) (by kernel_rfl) (fun _ _ _ h => h) (Or.inr ⟨by rfl, rfl⟩) (by assumption) ?_
          try simp only [Act.put, List.setIfInBounds_toArray, List.set_cons_zero, List.set_cons_succ]
          refine wpAnyH_take (i := 18) (oi := { dst := some 23, op := Op.fieldAddr 58 (Operand.tmp 22) 2, type := 0, pos := "database_info.go:65", after := #[{ on := 17, ground := Ground.data }, { on := 11, ground := Ground.guard }], guard := some (11, true) }) (v := undef) rfl (by kernel_rfl) (by kernel_rfl) (by kernel_rfl) (fun _ _ _ h => h) (Or.inr ⟨by rfl, rfl⟩) (by assumption) ?_
          try simp only [Act.put, List.setIfInBounds_toArray, List.set_cons_zero, List.set_cons_succ]
          refine wpAnyH_take (i := 19) (oi := { dst := some 24, op := Op.load 3 (Operand.tmp 23), type := 3, pos := "database_info.go:65", after := #[{ on := 18, ground := Ground.data }, { on := 11, ground := Ground.guard }], guard := some (11, true) }) (v := undef) rfl (by kernel_rfl) (by kernel_rfl) (by kernel_rfl) (fun _ _ _ h => h) (Or.inr ⟨by rfl, rfl⟩) (by assumption) ?_
          try simp only [Act.put, List.setIfInBounds_toArray, List.set_cons_zero, List.set_cons_succ]
          refine wpAnyH_take (i := 20) (oi := { dst := some 25, op := Op.binOp BinOp.eql 3 (Operand.tmp 20) (Operand.tmp 24) 3, type := 4, pos := "database_info.go:65", after := #[{ on := 15, ground := Ground.data }, { on := 19, ground := Ground.data }, { on := 11, ground := Ground.guard }], guard := some (11, true) }) (v := undef) rfl (by kernel_rfl) (by kernel_rfl) (by kernel_rfl) (fun _ _ _ h => h) (Or.inr ⟨by rfl, rfl⟩) (by assumption) ?_
          try simp only [Act.put, List.setIfInBounds_toArray, List.set_cons_zero, List.set_cons_succ]
          refine wpAnyH_take (i := 21) (oi := { dst := some 26, op := Op.pick (Operand.tmp 16) (Operand.tmp 25) (Operand.const (Value.bool false)), type := 4, pos := "database_info.go:65", after := #[{ on := 11, ground := Ground.data }, { on := 20, ground := Ground.data }], guard := none }) (v := ?_) rfl (by kernel_rfl) (by kernel_rfl) (by kernel_rfl) (fun _ _ _ h => h) (Or.inl ⟨by rfl, ?_⟩) (by assumption) ?_
          rotate_left
          · (intro w hSw; (try dsimp only at hSw); go_simp; try with_reducible rfl)
          try simp only [Act.put, List.setIfInBounds_toArray, List.set_cons_zero, List.set_cons_succ]
          refine wpAnyH_take (i := 22) (oi := { dst := some 4, op := Op.assign (Operand.tmp 26), type := 4, pos := "database_info.go:65", after := #[{ on := 21, ground := Ground.data }, { on := 11, ground := Ground.chain }, { on := 0, ground := Ground.phase }, { on := 1, ground := Ground.phase }, { on := 2, ground := Ground.phase }, { on := 3, ground := Ground.phase }, { on := 4, ground := Ground.phase }, { on := 5, ground := Ground.phase }, { on := 6, ground := Ground.phase }, { on := 7, ground := Ground.phase }, { on := 8, ground := Ground.phase }, { on := 9, ground := Ground.phase }, { on := 10, ground := Ground.phase }, { on := 11, ground := Ground.phase }, { on := 12, ground := Ground.phase }, { on := 13, ground := Ground.phase }, { on := 14, ground := Ground.phase }, { on := 15, ground := Ground.phase }, { on := 16, ground := Ground.phase }, { on := 17, ground := Ground.phase }, { on := 18, ground := Ground.phase }, { on := 19, ground := Ground.phase }, { on := 20, ground := Ground.phase }, { on := 21, ground := Ground.phase }], guard := none }) (v := ?_) rfl (by kernel_rfl) (by kernel_rfl) (by kernel_rfl) (fun _ _ _ h => h) (Or.inl ⟨by rfl, ?_⟩) (by assumption) ?_
          rotate_left
          · (intro w hSw; (try dsimp only at hSw); go_simp; try with_reducible rfl)
          try simp only [Act.put, List.setIfInBounds_toArray, List.set_cons_zero, List.set_cons_succ]
          refine wpAnyH_done (by kernel_rfl) ?_ _
          go_wp2
          go_ret
          exact ⟨rfl, hG⟩
        exact AllReadyH.nil
      exact AllReadyH.nil
    exact AllReadyH.nil
    -- NO
  ·
    go_enter Tryd.func36, Tryd.ntmps36
    go_wp2
    go_region_held3 (fun w' => w'.cell? ⟨b1, 1, none⟩ = some (.string S1) ∧ w'.cell? ⟨b1, 2, none⟩ = some (.int .i64 n1) ∧ w'.cell? ⟨b2, 1, none⟩ = some (.string S2) ∧ w'.cell? ⟨b2, 2, none⟩ = some (.int .i64 n2)) (first | go_keep | (with_reducible exact ⟨hG.cell c11, hG.cell c12, hG.cell c21, hG.cell c22⟩))
      ((first
        | (go_at_call 41; with_reducible refine (HU1 _).out.mono ?_; rintro e w2 ⟨rfl, hg2⟩; have hG : Gr w w2 := Gr.trans (by with_reducible first | exact hG | exact Gr.refl _ | exact (Gr.refl _).drew) hg2)
        | (go_at_call 41; with_reducible refine (HU2 _).out.mono ?_; rintro e w2 ⟨rfl, hg2⟩; have hG : Gr w w2 := Gr.trans (by with_reducible first | exact hG | exact Gr.refl _ | exact (Gr.refl _).drew) hg2)
        | (go_at_call 40; go_must (with_reducible refine (HE _).out.mono ?_); rintro e w3 ⟨rfl, rfl⟩)))
    all_goals (go_wp2; go_ret; exact ⟨rfl, hG⟩)
end Go.Proofs.YtkonfcgdokabaaaDoor
