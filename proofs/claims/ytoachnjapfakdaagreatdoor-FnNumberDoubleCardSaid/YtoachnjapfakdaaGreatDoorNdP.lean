/- NumberDouble, numberNear and numberOwn: the walks. -/
import Derived.Test.YtoachnjapfakdaaGreatDoorNdO
namespace Go.Proofs.YtoachnjapfakdaaGreatDoor
open Go Go.RowKit

set_option maxRecDepth 100000 in
theorem nearW (s : Bool) (m N : Nat) (e : Int) (r D : Nat) (hN : 0 < N) (hN2 : N < 9007199254740992) (hm : Nm m e) (h : Dif s m e N r D) (w : World) :
    Calls Tryz.prog 7 #[.float .f64 (fw s m e), .float .f64 (fn s N)] w fun e w' => e = .returned (.bool true) ∧ w = w' := by
  obtain ⟨h1, h2, h3, h4⟩ := h
  have ha1 := fun w1 => Lib.hid (absW r h2 w1)
  have hnn := (fn_nm hN hN2).2
  have ha2 := fun w1 => absW (fn s N) (fw_lt hnn) w1
  rw [show fn s N % 9223372036854775808 = fn false N from fw_abs hnn] at ha2
  have ha2 := fun w1 => Lib.hid (ha2 w1)
  generalize r % 9223372036854775808 = R at *
  generalize fn false N = B at *
  generalize fn s N = C at *
  generalize fw s m e = A at *
  have o1 : ∀ t w, (binOp .sub t (.float .f64 A) (.float .f64 C)).run Tryz.prog w = .ok (.float .f64 r) w := fun t w => run_float_arith w .sub t .f64 A C r h1
  have o2 : ∀ t w, (binOp .quo t (.float .f64 B) (.float .f64 4823355200913801216)).run Tryz.prog w = .ok (.float .f64 D) w := fun t w => run_float_arith w .quo t .f64 B 4823355200913801216 D h3
  clear h1 h2 h3 hnn hm
  go_enter Tryz.func7, Tryz.ntmps7
  go_wp2_with (first
    | (go_at_call 15; with_reducible refine (ha1 _).out.mono ?_; rintro e w1 ⟨rfl, hw1⟩; obtain rfl := hw1)
    | (go_at_call 15; with_reducible refine (ha2 _).out.mono ?_; rintro e w1 ⟨rfl, hw1⟩; obtain rfl := hw1)
    | (simp only [o1, o2]))
  go_ret
  exact ⟨rfl, rfl⟩

set_option maxRecDepth 100000 in
theorem near0 (w : World) : Calls Tryz.prog 7 #[.float .f64 0, .float .f64 0] w fun e w' => e = .returned (.bool true) ∧ w = w' := by
  have ha1 := fun w1 => Lib.hid (absW 0 (by omega) w1)
  have o1 : ∀ t w, (binOp .sub t (.float .f64 0) (.float .f64 0)).run Tryz.prog w = .ok (.float .f64 0) w := fun t w => run_float_arith w .sub t .f64 0 0 0 (by decide +kernel)
  have o2 : ∀ t w, (binOp .quo t (.float .f64 0) (.float .f64 4823355200913801216)).run Tryz.prog w = .ok (.float .f64 0) w := fun t w => run_float_arith w .quo t .f64 0 4823355200913801216 0 (by decide +kernel)
  have o3 : (FloatKind.f64.format.order 0 0 == some .lt || FloatKind.f64.format.order 0 0 == some .eq) = true := by decide +kernel
  go_enter Tryz.func7, Tryz.ntmps7
  go_wp2_with (first
    | (go_at_call 15; with_reducible refine (ha1 _).out.mono ?_; rintro e w1 ⟨rfl, hw1⟩; obtain rfl := hw1)
    | (simp only [o1, o2]))
  go_ret
  exact ⟨rfl, rfl⟩

set_option maxRecDepth 100000 in
theorem round0 (w : World) : Calls Tryz.prog 28 #[.float .f64 0] w fun e' w' => e' = .returned (.float .f64 0) ∧ w = w' := by
  have hb := tobits 0
  have hf : ∀ w, (callFunc 24 #[.int .u64 0]).run Tryz.prog w = .ok (.value (.float .f64 0)) w := frombits 0
  have q1 : bits .and .u64 0 2047 = 0 := rfl
  have q2 : bits .and .u64 0 9223372036854775808 = 0 := by decide +kernel
  go_enter Tryz.func28, Tryz.ntmps28
  go_wp2
  go_ret
  exact ⟨rfl, rfl⟩

set_option maxRecDepth 100000 in
theorem from0 (v : Value) (w : World) (h : Rd w v [128]) : Calls Tryz.prog 26 #[v] w fun e w' => e = .returned (.tuple #[.int .u64 0, .bool false, .int .i64 0, .int .i64 0, .nilIface]) ∧ w' = w := by
  obtain ⟨b, o, c, rfl, hc, hm, hr⟩ := h.at' (by simp)
  have k0 := hr.cell 0 (by simp)
  rw [Nat.add_zero, List.getD_cons_zero] at k0
  simp only [List.length_singleton] at hc ⊢
  clear h hr
  go_enter Tryz.func26, Tryz.ntmps26
  go_wp2
  exact bodyPost_ret (v := .tuple #[.int .u64 0, .bool false, .int .i64 0, .int .i64 0, .nilIface]) (by simp [results, Tryz.results26, go_sem]) rfl ⟨rfl, rfl⟩

set_option maxRecDepth 100000 in
theorem own (v : Value) (xs : List Int) (w : World) (h : Rd w v xs) (hl : xs.length ≤ 100) :
    Calls Tryz.prog 9 #[v] w fun e w' => ∃ u, e = .returned u ∧ Own w.heap.size w' u xs ∧ Gr w w' := by
  have H := Lib.hid h
  have hO := fun (w : World) => Lib.hid (show Own w.heap.size (w.alloc (.cells #[] 5)) (.slice (some ⟨w.heap.size, 0, none⟩) 0 0) [] from (OwnAt.fresh' w [] #[] 0 w.heap.size byt_nil rfl rfl (Nat.zero_le _) rfl).own (Nat.le_refl _))
  clear h
  go_enter Tryz.func9, Tryz.ntmps9
  go_wp2_with (at_builtin; go_must (refine wpList_append_gr Go.Proofs.YtoachnjapfakdaaGreatDoor.u8 rfl _ _ rfl (w0 := w) ((Gr.refl _).alloc _) rfl (hO w).out rfl (H.out.gr ((Gr.refl w).alloc _)) (by simp; omega) ?_); intro v2 w2 ho2 hg2)
  go_ret
  exact ⟨_, rfl, ho2, hg2⟩

set_option maxRecDepth 100000 in
set_option maxHeartbeats 1000000 in
theorem decD0 (v : Value) (w : World) (hP : PowF w) (h : Rd w v [128]) :
    Calls Tryz.prog 16 #[v] w fun e w' => e = .returned (.float .f64 0) ∧ Gr w w' := by
  have hFr := Lib.hid (from0 v w h)
  have hW : ∀ w1, Gr w w1 → Hid (Calls Tryz.prog 29 #[.int .i64 0] w1 fun e w' => e = .returned (.float .f64 (fn false 1)) ∧ Gr w1 w') := fun w1 g => Lib.hid (powW 0 (by omega) rfl w1 (hP.gr g))
  have hR := fun w1 => Lib.hid (round0 w1)
  have hab := fun w1 => Lib.hid (absW 0 (by omega) w1)
  have hf0 : floatOfInt .f64 0 = 0 := ofInt_zero
  have hcv : ∀ w, (convert 25 3 (.float .f64 0)).run Tryz.prog w = .ok (.int .i64 0) w := fun w => run_convert_float_int w 25 3 .f64 .i64 0 0 (by rw [Tryz.underlying25]; rfl) Tryz.underlying3 (by decide +kernel)
  have m1 : floatBits .mul .f64 0 (fn false 1) = some 0 := by decide +kernel
  have m2 : floatBits .quo .f64 0 (fn false 1) = some 0 := by decide +kernel
  generalize fn false 1 = O at *
  have o1 : ∀ t w, (binOp .mul t (.float .f64 0) (.float .f64 O)).run Tryz.prog w = .ok (.float .f64 0) w := fun t w => run_float_arith w .mul t .f64 0 O 0 m1
  have o2 : ∀ t w, (binOp .quo t (.float .f64 0) (.float .f64 O)).run Tryz.prog w = .ok (.float .f64 0) w := fun t w => run_float_arith w .quo t .f64 0 O 0 m2
  have HGc := Lib.hid (Gr.refl w)
  clear m1 m2 hP h
  go_enter Tryz.func16, Tryz.ntmps16
  go_wp2_with (first
      | (go_at_call 26; refine hFr.out.mono ?_; rintro e w1 ⟨rfl, hw1⟩; obtain rfl := hw1)
      | (go_at_call 15; refine (hab _).out.mono ?_; rintro e w1 ⟨rfl, hw1⟩; obtain rfl := hw1)
      | (go_at_call 28; refine (hR _).out.mono ?_; rintro e w1 ⟨rfl, hw1⟩; obtain rfl := hw1)
      | (go_at_call 29; refine (hW _ HGc.out).out.mono ?_; rintro e w2 ⟨rfl, hg2⟩; replace HGc := Lib.hid (HGc.out.trans hg2); clear hg2)
      | (simp only [o1, o2, hcv]))
  go_ret
  exact ⟨rfl, HGc.out⟩

set_option maxRecDepth 100000 in
theorem numDbl (v : Value) (xs : List Int) (Q : Nat → Prop) (w : World) (h : Rd w v xs) (hl : xs.length ≤ 100)
    (hD : ∀ v w', Gr w w' → Rd w' v xs → Calls Tryz.prog 16 #[v] w' fun e w'' => ∃ z, e = .returned (.float .f64 z) ∧ Q z ∧ Gr w' w'') :
    Calls Tryz.prog 8 #[v] w fun e w' => ∃ z, e = .returned (.float .f64 z) ∧ Q z ∧ Gr w w' := by
  have HC := Lib.hid (clone v xs w h (by omega))
  have HD := fun v w' g r => Lib.hid (hD v w' g r)
  clear h hD
  go_enter Tryz.func8, Tryz.ntmps8
  go_wp2_with (first
    | (go_at_call 17; refine HC.out.mono ?_; rintro e w1 ⟨u, rfl, hou, hg1⟩)
    | (go_at_call 16; refine (HD _ _ hg1 hou.rd).out.mono ?_; rintro e w2 ⟨z, rfl, hz, hg2⟩))
  go_ret
  exact ⟨z, rfl, hz, hg1.trans hg2⟩
end Go.Proofs.YtoachnjapfakdaaGreatDoor
