/- Packets ACCEPT: the reference's bytes. -/
import Derived.Test.YtoaajnhbcekglaaDoorPkAd
namespace Go.Proofs.YtoaajnhbcekglaaDoor
open Go Go.RowKit

/-- The bytes of a packet ACCEPT. -/
def accH (V0 TY FL V8 V10 V16 A0 A1 S16 T16 S T : Int) (n : Nat) : List Int :=
  be2 V0 ++ [0, 0, TY, FL, 0, 0] ++ be2 V8 ++ be2 V10 ++ be2 S16 ++ be2 T16 ++ be2 V16 ++ be2 n ++ [0, 41, A0, A1, 0, 0, 0, 0, 0, 0, 0, 0] ++ (if 315 ≤ V8 then be4 S ++ be4 T else [0, 0, 0, 0, 0, 0, 0, 0]) ++ [0]

/-- The row, before the version is asked. -/
def accX (V0 TY FL V8 V10 V16 A0 A1 S16 T16 : Int) (n : Nat) : List Int := [V0 / 256 % 256, V0 % 256, 0, 0, TY, FL, 0, 0, V8 / 256 % 256, V8 % 256, V10 / 256 % 256, V10 % 256, S16 / 256 % 256, S16 % 256, T16 / 256 % 256, T16 % 256, V16 / 256 % 256, V16 % 256, (n : Int) / 256 % 256, (n : Int) % 256, 0, 41, A0, A1, 0, 0, 0, 0, 0, 0, 0, 0, 0, 0, 0, 0, 0, 0, 0, 0, 0]
theorem acc_l1 (V0 TY FL V8 V10 V16 A0 A1 S16 T16 : Int) (n : Nat) : ((putAt (putAt (putAt (putAt (putAt (putAt (putAt (((putAt (List.replicate 41 0) 0 (be2 V0)).set 4 TY).set 5 FL) 8 (be2 V8)) 10 (be2 V10)) 12 (be2 S16)) 14 (be2 T16)) 16 (be2 V16)) 18 (be2 (n : Int))) 20 (be2 41)).set 22 A0).set 23 A1 = accX V0 TY FL V8 V10 V16 A0 A1 S16 T16 n := by
  rw [show List.replicate 41 (0 : Int) = [0, 0, 0, 0, 0, 0, 0, 0, 0, 0, 0, 0, 0, 0, 0, 0, 0, 0, 0, 0, 0, 0, 0, 0, 0, 0, 0, 0, 0, 0, 0, 0, 0, 0, 0, 0, 0, 0, 0, 0, 0] from rfl]
  simp [putAt, be2, accX]
theorem acc_l2 (V0 TY FL V8 V10 V16 A0 A1 S16 T16 S T : Int) (n : Nat) (h : 315 ≤ V8) : putAt (putAt (accX V0 TY FL V8 V10 V16 A0 A1 S16 T16 n) 32 (be4 S)) 36 (be4 T) = accH V0 TY FL V8 V10 V16 A0 A1 S16 T16 S T n := by
  unfold accH
  rw [if_pos h]
  simp [putAt, be2, be4, accX]
theorem acc_l3 (V0 TY FL V8 V10 V16 A0 A1 S16 T16 S T : Int) (n : Nat) (h : ¬ 315 ≤ V8) : accX V0 TY FL V8 V10 V16 A0 A1 S16 T16 n = accH V0 TY FL V8 V10 V16 A0 A1 S16 T16 S T n := by
  unfold accH
  rw [if_neg h]
  simp [be2, accX]
theorem accX_len (V0 TY FL V8 V10 V16 A0 A1 S16 T16 : Int) (n : Nat) : (accX V0 TY FL V8 V10 V16 A0 A1 S16 T16 n).length = 41 := rfl
theorem accH_len (V0 TY FL V8 V10 V16 A0 A1 S16 T16 S T : Int) (n : Nat) : (accH V0 TY FL V8 V10 V16 A0 A1 S16 T16 S T n).length = 41 := by
  unfold accH
  split <;> rfl

/-- The value of a struct of what is told. -/
def accZ (V0 TY FL O V8 V10 V16 A0 A1 S T : Int) (AD : ByteArray) (v : Value) : Value := .agg #[.int .u32 V0, .int .u8 TY, .int .u8 FL, .int .u16 O, .int .u16 V8, .int .u16 V10, .int .u16 V16, .int .u8 A0, .int .u8 A1, .int .u32 S, .int .u32 T, .string AD, v]

set_option maxRecDepth 100000 in
set_option maxHeartbeats 4000000 in
theorem spec_PacketAccept (V0 TY FL O V8 V10 V16 A0 A1 S T S16 T16 : Int) (AD : ByteArray) (v : Value) (ys : List Int) (w : World) (hd : Rd w v ys) (hn : ys.length ≤ 60000)
    (h0 : 0 ≤ V0 ∧ V0 < 65536) (hty : 0 ≤ TY ∧ TY < 256) (hfl : 0 ≤ FL ∧ FL < 256) (h8 : 0 ≤ V8 ∧ V8 < 65536) (h10 : 0 ≤ V10 ∧ V10 < 65536) (h16 : 0 ≤ V16 ∧ V16 < 65536) (ha0 : 0 ≤ A0 ∧ A0 < 256) (ha1 : 0 ≤ A1 ∧ A1 < 256)
    (hS : 0 ≤ S ∧ S < 4294967296) (hT : 0 ≤ T ∧ T < 4294967296) (hS6 : bits .and .u32 S 65535 = S16) (hT6 : bits .and .u32 T 65535 = T16) (hS7 : 0 ≤ S16 ∧ S16 < 65536) (hT7 : 0 ≤ T16 ∧ T16 < 65536) :
    Calls Tryd.prog 24 #[accZ V0 TY FL O V8 V10 V16 A0 A1 S T AD v, .bool false] w fun e w' => ∃ u, e = .returned u ∧ Own w.heap.size w' u (accH V0 TY FL V8 V10 V16 A0 A1 S16 T16 S T ys.length ++ ys) ∧ Gr w w' := by
  obtain ⟨p, c, rfl, hc1, hc2, hc3, hc4, hc5⟩ := hd
  have hd : Rd w (.slice p ys.length c) ys := ⟨p, c, rfl, hc1, hc2, hc3, hc4, hc5⟩
  obtain ⟨n, hyn⟩ : ∃ n, ys.length = n := ⟨_, rfl⟩
  rw [hyn] at hd hn ⊢
  have HD := Lib.hid hd
  have HYN := Lib.hid hyn
  clear hc1 hc2 hc3 hc4 hc5 hd hyn
  obtain ⟨h00, h01⟩ := h0; obtain ⟨hty0, hty1⟩ := hty; obtain ⟨hfl0, hfl1⟩ := hfl; obtain ⟨h80, h81⟩ := h8; obtain ⟨h100, h101⟩ := h10; obtain ⟨h160, h161⟩ := h16
  obtain ⟨ha00, ha01⟩ := ha0; obtain ⟨ha10, ha11⟩ := ha1; obtain ⟨hS0, hS1⟩ := hS; obtain ⟨hT0, hT1⟩ := hT; obtain ⟨hS70, hS71⟩ := hS7; obtain ⟨hT70, hT71⟩ := hT7
  have e0 : IntKind.u64.wrap V0 = V0 := IntWalk.u64_in _ (by omega)
  have e8 : IntKind.u64.wrap V8 = V8 := IntWalk.u64_in _ (by omega)
  have e10 : IntKind.u64.wrap V10 = V10 := IntWalk.u64_in _ (by omega)
  have e16 : IntKind.u64.wrap V16 = V16 := IntWalk.u64_in _ (by omega)
  have eS : IntKind.u64.wrap S = S := IntWalk.u64_in _ (by omega)
  have eT : IntKind.u64.wrap T = T := IntWalk.u64_in _ (by omega)
  have eS6 : IntKind.u64.wrap S16 = S16 := IntWalk.u64_in _ (by omega)
  have eT6 : IntKind.u64.wrap T16 = T16 := IntWalk.u64_in _ (by omega)
  have en : IntKind.u64.wrap (n : Int) = n := IntWalk.u64_in _ (by omega)
  have tok1 := True.intro; have tok2 := True.intro; have tok3 := True.intro; have tok4 := True.intro; have tok5 := True.intro; have tok6 := True.intro; have tok7 := True.intro; have tok8 := True.intro; have tok9 := True.intro; have tokA := True.intro
  unfold accZ
  go_enter Tryd.func24, Tryd.ntmps24
  go_wp2_with (first
    | (at_make; go_must (refine wpList_make_gr u8 rfl _ _ rfl ((Gr.refl w).alloc (.cells #[.int .u32 V0, .int .u8 TY, .int .u8 FL, .int .u16 O, .int .u16 V8, .int .u16 V10, .int .u16 V16, .int .u8 A0, .int .u8 A1, .int .u32 S, .int .u32 T, .string AD, .slice p n c] 48)) .i64 .i64 41 41 41 rfl rfl rfl rfl (by omega) (w.heap.size + 1) (by simp) ?_); intro w1 ho hG hGW hb1; clear hb1; have hH : (w.alloc (.cells #[.int .u32 V0, .int .u8 TY, .int .u8 FL, .int .u16 O, .int .u16 V8, .int .u16 V10, .int .u16 V16, .int .u8 A0, .int .u8 A1, .int .u32 S, .int .u32 T, .string AD, .slice p n c] 48)).heap.size ≤ w.heap.size + 1 := by simp
       have hWB := heap_alloc_new w (.cells #[.int .u32 V0, .int .u8 TY, .int .u8 FL, .int .u16 O, .int .u16 V8, .int .u16 V10, .int .u16 V16, .int .u8 A0, .int .u8 A1, .int .u32 S, .int .u32 T, .string AD, .slice p n c] 48)
       generalize w.alloc (.cells #[.int .u32 V0, .int .u8 TY, .int .u8 FL, .int .u16 O, .int .u16 V8, .int .u16 V10, .int .u16 V16, .int .u8 A0, .int .u8 A1, .int .u32 S, .int .u32 T, .string AD, .slice p n c] 48) = WB at hG hH hWB
       have b0 : WB.cell? ⟨w.heap.size, 0, none⟩ = some (.int .u32 V0) := (blk_cell hWB 0).trans rfl; have b1 : WB.cell? ⟨w.heap.size, 1, none⟩ = some (.int .u8 TY) := (blk_cell hWB 1).trans rfl; have b2 : WB.cell? ⟨w.heap.size, 2, none⟩ = some (.int .u8 FL) := (blk_cell hWB 2).trans rfl; have b4 : WB.cell? ⟨w.heap.size, 4, none⟩ = some (.int .u16 V8) := (blk_cell hWB 4).trans rfl; have b5 : WB.cell? ⟨w.heap.size, 5, none⟩ = some (.int .u16 V10) := (blk_cell hWB 5).trans rfl; have b6 : WB.cell? ⟨w.heap.size, 6, none⟩ = some (.int .u16 V16) := (blk_cell hWB 6).trans rfl; have b7 : WB.cell? ⟨w.heap.size, 7, none⟩ = some (.int .u8 A0) := (blk_cell hWB 7).trans rfl; have b8 : WB.cell? ⟨w.heap.size, 8, none⟩ = some (.int .u8 A1) := (blk_cell hWB 8).trans rfl; have b9 : WB.cell? ⟨w.heap.size, 9, none⟩ = some (.int .u32 S) := (blk_cell hWB 9).trans rfl; have b10 : WB.cell? ⟨w.heap.size, 10, none⟩ = some (.int .u32 T) := (blk_cell hWB 10).trans rfl; have b12 : WB.cell? ⟨w.heap.size, 12, none⟩ = some (.slice p n c) := (blk_cell hWB 12).trans rfl
       clear hWB
       have x0 := hG.cell b0)
    | (have _t := tok1; go_at_call 30; clear tok1 _t; go_must (refine (packetPut2 (w.heap.size + 1) 41 _ 0 41 V0 _ ho (by omega) (by simp [putAt_length]) (by omega)).mono ?_); rintro e u1 ⟨rfl, ho', hf⟩; have hG := hf _ hG hH; have hGW := hf _ hGW (by omega); clear ho hf; have ho := ho'; clear ho'; clear x0; have x1 := hG.cell b1; have x2 := hG.cell b2; have k4 := ho.cell 4 (by simp [putAt_length]); have k5 := ho.cell 5 (by simp [putAt_length]); have f4 := ho.free 4; have f5 := ho.free 5))
  go_region
  have ho := ((ho.setCell 4 (by simp [putAt_length]) TY ⟨hty0, hty1⟩).setCell 5 (by simp [putAt_length]) FL ⟨hfl0, hfl1⟩).drew
  have hG := ((hG.setCell (p := ⟨w.heap.size + 1, 4, none⟩) hH (.int .u8 TY)).setCell (p := ⟨w.heap.size + 1, 5, none⟩) hH (.int .u8 FL)).drew
  have hGW := ((hGW.setCell (p := ⟨w.heap.size + 1, 4, none⟩) (Nat.le_succ _) (.int .u8 TY)).setCell (p := ⟨w.heap.size + 1, 5, none⟩) (Nat.le_succ _) (.int .u8 FL)).drew
  generalize hcc : ((u1.setCell ⟨w.heap.size + 1, 4, none⟩ (.int .u8 TY)).setCell ⟨w.heap.size + 1, 5, none⟩ (.int .u8 FL)).drew = q1 at *
  clear hcc
  clear x1 x2 k4 k5 f4 f5
  have x4 := hG.cell b4
  go_wp2_with (first
    | (have _t := tok2; go_at_call 30; clear tok2 _t; go_must (refine (packetPut2 (w.heap.size + 1) 41 _ 8 41 V8 _ ho (by omega) (by simp [putAt_length]) (by omega)).mono ?_); rintro e u2 ⟨rfl, ho', hf⟩; have hG := hf _ hG hH; have hGW := hf _ hGW (by omega); clear ho hf; have ho := ho'; clear ho'; clear x4; have x5 := hG.cell b5)
    | (have _t := tok3; go_at_call 30; clear tok3 _t; go_must (refine (packetPut2 (w.heap.size + 1) 41 _ 10 41 V10 _ ho (by omega) (by simp [putAt_length]) (by omega)).mono ?_); rintro e u3 ⟨rfl, ho', hf⟩; have hG := hf _ hG hH; have hGW := hf _ hGW (by omega); clear ho hf; have ho := ho'; clear ho'; clear x5; have x9 := hG.cell b9)
    | (have _t := tok4; go_at_call 30; clear tok4 _t; go_must (refine (packetPut2 (w.heap.size + 1) 41 _ 12 41 S16 _ ho (by omega) (by simp [putAt_length]) (by omega)).mono ?_); rintro e u4 ⟨rfl, ho', hf⟩; have hG := hf _ hG hH; have hGW := hf _ hGW (by omega); clear ho hf; have ho := ho'; clear ho'; clear x9; have x10 := hG.cell b10)
    | (have _t := tok5; go_at_call 30; clear tok5 _t; go_must (refine (packetPut2 (w.heap.size + 1) 41 _ 14 41 T16 _ ho (by omega) (by simp [putAt_length]) (by omega)).mono ?_); rintro e u5 ⟨rfl, ho', hf⟩; have hG := hf _ hG hH; have hGW := hf _ hGW (by omega); clear ho hf; have ho := ho'; clear ho'; clear x10; have x6 := hG.cell b6)
    | (have _t := tok6; go_at_call 30; clear tok6 _t; go_must (refine (packetPut2 (w.heap.size + 1) 41 _ 16 41 V16 _ ho (by omega) (by simp [putAt_length]) (by omega)).mono ?_); rintro e u6 ⟨rfl, ho', hf⟩; have hG := hf _ hG hH; have hGW := hf _ hGW (by omega); clear ho hf; have ho := ho'; clear ho'; clear x6; have x12 := hG.cell b12)
    | (have _t := tok7; go_at_call 30; clear tok7 _t; go_must (refine (packetPut2 (w.heap.size + 1) 41 _ 18 41 n _ ho (by omega) (by simp [putAt_length]) (by omega)).mono ?_); rintro e u7 ⟨rfl, ho', hf⟩; have hG := hf _ hG hH; have hGW := hf _ hGW (by omega); clear ho hf; have ho := ho'; clear ho'; clear x12; skip)
    | (have _t := tok8; go_at_call 30; clear tok8 _t; go_must (refine (packetPut2 (w.heap.size + 1) 41 _ 20 41 41 _ ho (by omega) (by simp [putAt_length]) (by omega)).mono ?_); rintro e u8 ⟨rfl, ho', hf⟩; have hG := hf _ hG hH; have hGW := hf _ hGW (by omega); clear ho hf; have ho := ho'; clear ho'; skip; have x7 := hG.cell b7; have x8 := hG.cell b8; have k22 := ho.cell 22 (by simp [putAt_length]); have k23 := ho.cell 23 (by simp [putAt_length]); have f22 := ho.free 22; have f23 := ho.free 23))
  go_region
  have ho := ((ho.setCell 22 (by simp [putAt_length]) A0 ⟨ha00, ha01⟩).setCell 23 (by simp [putAt_length]) A1 ⟨ha10, ha11⟩).drew
  have hG := ((hG.setCell (p := ⟨w.heap.size + 1, 22, none⟩) hH (.int .u8 A0)).setCell (p := ⟨w.heap.size + 1, 23, none⟩) hH (.int .u8 A1)).drew
  have hGW := ((hGW.setCell (p := ⟨w.heap.size + 1, 22, none⟩) (Nat.le_succ _) (.int .u8 A0)).setCell (p := ⟨w.heap.size + 1, 23, none⟩) (Nat.le_succ _) (.int .u8 A1)).drew
  generalize hcc : ((u8.setCell ⟨w.heap.size + 1, 22, none⟩ (.int .u8 A0)).setCell ⟨w.heap.size + 1, 23, none⟩ (.int .u8 A1)).drew = q2 at *
  clear hcc
  rw [acc_l1] at ho
  generalize hX : accX V0 TY FL V8 V10 V16 A0 A1 S16 T16 n = X at *
  have hXl : X.length = 41 := by rw [← hX]; rfl
  have HX := Lib.hid hX
  clear hX
  clear x7 x8 k22 k23 f22 f23
  have x4 := hG.cell b4
  by_cases hv : 315 ≤ V8
  · have x9 := hG.cell b9
    go_wp2_with (first
    | (have _t := tok9; go_at_call 30; clear tok9 _t; go_must (refine (packetPut4 (w.heap.size + 1) 41 _ 32 41 S _ ho (by omega) (by simp [putAt_length, hXl]) (by omega)).mono ?_); rintro e u9 ⟨rfl, ho', hf⟩; have hG := hf _ hG hH; have hGW := hf _ hGW (by omega); clear ho hf; have ho := ho'; clear ho'; clear x9; have x10 := hG.cell b10)
    | (have _t := tokA; go_at_call 30; clear tokA _t; go_must (refine (packetPut4 (w.heap.size + 1) 41 _ 36 41 T _ ho (by omega) (by simp [putAt_length, hXl]) (by omega)).mono ?_); rintro e u10 ⟨rfl, ho', hf⟩; have hG := hf _ hG hH; have hGW := hf _ hGW (by omega); clear ho hf; have ho := ho'; clear ho'; clear x10; have x12 := hG.cell b12)
    | (at_builtin; go_must (refine wpList_append_gr (w0 := w) Go.Proofs.YtoaajnhbcekglaaDoor.u8 rfl _ _ rfl hGW rfl (by have := ho.own (Nat.le_succ w.heap.size); simp only [putAt_length, hXl] at this; exact this) rfl (HD.out.gr hGW) (by rw [HYN.out]; simp only [putAt_length, hXl]; omega) ?_); intro v5 w5 ho5 hg5))
    go_ret
    rw [← HX.out, acc_l2 _ _ _ _ _ _ _ _ _ _ _ _ _ hv] at ho5
    exact ⟨_, rfl, ho5, hg5⟩
  · have x12 := hG.cell b12
    go_wp2_with (first
    | (at_builtin; go_must (refine wpList_append_gr (w0 := w) Go.Proofs.YtoaajnhbcekglaaDoor.u8 rfl _ _ rfl hGW rfl (by have := ho.own (Nat.le_succ w.heap.size); simp only [putAt_length, hXl] at this; exact this) rfl (HD.out.gr hGW) (by rw [HYN.out]; simp only [putAt_length, hXl]; omega) ?_); intro v5 w5 ho5 hg5))
    go_ret
    rw [← HX.out, acc_l3 _ _ _ _ _ _ _ _ _ _ S T _ (by omega)] at ho5
    exact ⟨_, rfl, ho5, hg5⟩
end Go.Proofs.YtoaajnhbcekglaaDoor
