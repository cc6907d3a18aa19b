/- Packets REFUSE whose message is cut off: the reader. -/
import Derived.Test.YtoaajnhbcekglaaDoorPkMarkL
namespace Go.Proofs.YtoaajnhbcekglaaDoor
open Go Go.RowKit

/-- The cells of a packet REFUSE without a message. -/
def refCells (len ty sys usr : Int) : Array Value := #[.int .u16 12, .int .u32 len, .int .u8 ty, .int .u8 0, .pointer none, .int .u8 sys, .int .u8 usr, .string ⟨#[]⟩]

set_option maxRecDepth 100000 in
set_option maxHeartbeats 1000000 in
theorem refFrom (b o n c : Nat) (xs : List Int) (w : World) (h : RdAt w b o xs) (hn : xs.length = n) (h12 : 12 ≤ n) (hn2 : n ≤ 60000) (hc : n ≤ c) (hm : c ≤ maxLen) (hcut : (n : Int) < 12 + nat2 (xs.drop 10)) (hd : nat2 (xs.drop 10) ≤ 60000) :
    Calls Tryd.prog 43 #[.slice (some ⟨b, o, none⟩) n c] w fun e w' => ∃ k, e = .returned (.pointer (some ⟨k, 0, none⟩)) ∧
      w'.heap[k]? = some (.cells (refCells (nat2 xs) (xs.getD 4 0) (xs.getD 9 0) (xs.getD 8 0)) 71 (0, 0)) ∧ Gr w w' := by
  have HN := Lib.hid hn
  have k4 := h.cell 4 (by omega)
  have k8 := h.cell 8 (by omega)
  have k9 := h.cell 9 (by omega)
  have B2 := nat2_bd h.byt
  have B3 := nat2_bd (h.drop 10).byt
  obtain ⟨B20, B21⟩ := B2
  obtain ⟨B30, B31⟩ := B3
  have HU1 := fun w (h : RdAt w b (o + 10) (xs.drop 10)) => Lib.hid (get16 w b (o + 10) (n - 10) (c - 10) (xs.drop 10) h (by omega) (by rw [List.length_drop]; omega))
  have HU2 := fun w (h : RdAt w b o xs) => Lib.hid (get16 w b o n c xs h (by omega) (by omega))
  generalize nat2 (xs.drop 10) = D at *
  generalize nat2 xs = len at *
  generalize xs.getD 4 0 = ty at *
  generalize xs.getD 8 0 = usr at *
  generalize xs.getD 9 0 = sys at *
  have hm' : c ≤ 9223372036854775807 := by simp only [maxLen] at hm; omega
  have h10 : ¬ (c = 10) := by omega
  have i4 : (4 : Int) < (n : Nat) := by omega
  have i8 : (8 : Int) < (n : Nat) := by omega
  have i9 : (9 : Int) < (n : Nat) := by omega
  have i10 : (10 : Int) ≤ (n : Nat) := by omega
  have inc : ((n : Nat) : Int) ≤ (c : Nat) := by omega
  have e1 : IntKind.u16.wrap (n : Int) = (n : Int) := IntWalk.u16_in _ (by omega)
  have e2 : IntKind.u16.wrap (12 + D) = 12 + D := IntWalk.u16_in _ (by omega)
  have e4 : IntKind.u32.wrap len = len := IntWalk.u32_in _ (by omega)
  have e3 : ¬ (12 + D ≤ (n : Int)) := by omega
  have hb : b < w.heap.size := World.block_lt_of_cell? w _ k4
  have H := Lib.hid h
  clear hn hm h
  go_enter Tryd.func43, Tryd.ntmps43
  go_wp2_with fail
  go_region_held3 (fun w' => w'.cell? ⟨b, o + 4, none⟩ = some (.int .u8 ty)) (first | go_keep | (exact hg1.cell k4))
    ((first | (go_at_call 54; go_must (refine (HU1 _ (H.out.drew.drop 10)).out.mono ?_); rintro e w1 ⟨rfl, hg1⟩; have hg1 := Gr.trans (Gr.drew (Gr.refl w)) hg1)))
  have k4 := hg1.cell k4
  have k8 := hg1.cell k8
  have k9 := hg1.cell k9
  go_wp2_with fail
  go_region_held3 (fun w' => w'.cell? ⟨b, o + 4, none⟩ = some (.int .u8 ty) ∧ w'.cell? ⟨b, o + 9, none⟩ = some (.int .u8 sys) ∧ w'.cell? ⟨b, o + 8, none⟩ = some (.int .u8 usr)) (first | go_keep | (exact ⟨hg2.cell k4, hg2.cell k9, hg2.cell k8⟩) | (exact ⟨(hg2.alloc _).cell k4, (hg2.alloc _).cell k9, (hg2.alloc _).cell k8⟩))
    ((first | (go_at_call 54; go_must (refine (HU2 _ ((H.out.gr hg1).drew)).out.mono ?_); rintro e w2 ⟨rfl, hg2⟩; have hg2 := Gr.trans (Gr.drew (Gr.refl w1)) hg2)))
  all_goals
    go_wp2_with fail
    go_ret
    exact ⟨_, rfl, heap_alloc_new w2 _, (hg1.trans hg2).alloc _⟩

set_option maxRecDepth 100000 in
theorem net_RefuseRead (xs : List Int) (v : Value) (w : World) (h : Rd w v xs) (h12 : 12 ≤ xs.length) (hn2 : xs.length ≤ 60000) (hcut : (xs.length : Int) < 12 + nat2 (xs.drop 10)) (hd : nat2 (xs.drop 10) ≤ 60000) :
    Calls Tryd.prog 31 #[v] w fun e w' => ∃ k, e = .returned (.tuple #[.pointer (some ⟨k, 0, none⟩), .string ⟨#[]⟩]) ∧
      w'.heap[k]? = some (.cells (refCells (nat2 xs) (xs.getD 4 0) (xs.getD 9 0) (xs.getD 8 0)) 71 (0, 0)) ∧ Gr w w' := by
  obtain ⟨b, o, c, rfl, hc, hm, hr⟩ := h.at' (by omega)
  have HF := Lib.hid (refFrom b o xs.length c xs w hr rfl h12 hn2 hc hm hcut hd)
  clear h12 hn2 hcut hd hc hm hr h
  generalize nat2 xs = len at *
  generalize xs.getD 4 0 = ty at *
  generalize xs.getD 8 0 = usr at *
  generalize xs.getD 9 0 = sys at *
  go_enter Tryd.func31, Tryd.ntmps31
  go_wp2_with (first | (go_at_call 43; refine HF.out.mono ?_; rintro e w1 ⟨k, rfl, hk, hg1⟩; have c7 : w1.cell? ⟨k, 7, none⟩ = some (.string ⟨#[]⟩) := (blk_cell hk 7).trans rfl))
  go_quiet (fail)
  go_wp2
  exact bodyPost_ret (v := .tuple #[.pointer (some ⟨k, 0, none⟩), .string ⟨#[]⟩]) (by simp [results, Tryd.results31, go_sem]) rfl ⟨_, rfl, hk, hg1.drewN _⟩

set_option maxRecDepth 100000 in
set_option maxHeartbeats 1000000 in
theorem impl_RefuseRead (xs : List Int) (v : Value) (w : World) (h : Rd w v xs) (h12 : 12 ≤ xs.length) (hn2 : xs.length ≤ 60000) (hcut : (xs.length : Int) < 12 + nat2 (xs.drop 10)) (hd : nat2 (xs.drop 10) ≤ 60000) :
    Calls Tryd.prog 15 #[v] w fun e w' => e = .returned (.tuple #[.agg #[.int .u32 (nat2 xs), .int .u8 (xs.getD 4 0), .int .u8 0, .int .u16 12], .int .u8 (xs.getD 8 0), .int .u8 (xs.getD 9 0), .string ⟨#[]⟩, .bool true]) ∧ Gr w w' := by
  have HN := fun v w h => Lib.hid (net_RefuseRead xs v w h h12 hn2 hcut hd)
  have HL := Lib.hid hn2
  clear h12 hn2 hcut hd
  generalize nat2 xs = len at *
  generalize xs.getD 4 0 = ty at *
  generalize xs.getD 8 0 = usr at *
  generalize xs.getD 9 0 = sys at *
  go_enter Tryd.func15, Tryd.ntmps15
  go_wp2_with (first
    | (go_at_call 16; go_must (refine (clone v xs _ (h.gr ((Gr.refl w).alloc _)) (by have := HL.out; omega)).mono ?_); rintro e w2 ⟨u2, rfl, ho2, hg2⟩)
    | (go_at_call 31; go_must (refine ((HN u2 w2 ho2.rd).out).mono ?_); rintro e w3 ⟨k, rfl, hk, hg3⟩; have c0 : w3.cell? ⟨k, 0, none⟩ = some (.int .u16 12) := (blk_cell hk 0).trans rfl; have c1 : w3.cell? ⟨k, 1, none⟩ = some (.int .u32 len) := (blk_cell hk 1).trans rfl; have c2 : w3.cell? ⟨k, 2, none⟩ = some (.int .u8 ty) := (blk_cell hk 2).trans rfl; have c3 : w3.cell? ⟨k, 3, none⟩ = some (.int .u8 0) := (blk_cell hk 3).trans rfl; have c5 : w3.cell? ⟨k, 5, none⟩ = some (.int .u8 sys) := (blk_cell hk 5).trans rfl; have c6 : w3.cell? ⟨k, 6, none⟩ = some (.int .u8 usr) := (blk_cell hk 6).trans rfl; have hz : w3.heap[w.heap.size]? = some (.cells #[.int .u32 0, .int .u8 0, .int .u8 0, .int .u16 0] 27 (0, 0)) := hg3.heap (hg2.heap (heap_alloc_new w _)); have hkl : k < w3.heap.size := lt_of_some hk; have hzl : w.heap.size < w3.heap.size := lt_of_some hz; have hne : w.heap.size ≠ k := (by rintro rfl; rw [hk] at hz; cases hz)))
  go_region_held3 (fun w' => w'.cell? ⟨k, 5, none⟩ = some (.int .u8 sys) ∧ w'.cell? ⟨k, 6, none⟩ = some (.int .u8 usr)) (first | go_keep | (with_reducible exact ⟨hg4.cell c5, hg4.cell c6⟩))
    ((first | (go_at_call 32; go_must (refine (headOf k 12 len ty 0 _ (by first | exact c0 | exact (Gr.refl w3).drew.cell c0) (by first | exact c1 | exact (Gr.refl w3).drew.cell c1) (by first | exact c2 | exact (Gr.refl w3).drew.cell c2) (by first | exact c3 | exact (Gr.refl w3).drew.cell c3)).mono ?_); rintro e w4 ⟨rfl, hg4⟩; have hg4 : Gr w3 w4 := Gr.trans (by with_reducible first | exact Gr.refl _ | exact (Gr.refl _).drew) hg4; have hz := hg4.heap hz; have z0 := blk_cell hz 0; have z1 := blk_cell hz 1; have z2 := blk_cell hz 2; have z3 := blk_cell hz 3; have y0 := blk_free hz 0; have y1 := blk_free hz 1; have y2 := blk_free hz 2; have y3 := blk_free hz 3)))
  all_goals
    go_wp2_with fail
    have hgw : Gr w w4 := (Gr.trans ((Gr.refl w).alloc _) hg2).trans (hg3.trans hg4)
    have hH := HeadAt.st4 hz (.int .u32 len) (.int .u8 ty) (.int .u8 0) (.int .u16 12)
    obtain ⟨q0, q1, q2, q3⟩ := hH
    exact bodyPost_ret (v := .tuple #[.agg #[.int .u32 len, .int .u8 ty, .int .u8 0, .int .u16 12], .int .u8 usr, .int .u8 sys, .string ⟨#[]⟩, .bool true]) (by simp [results, Tryd.results15, go_sem, z0, z1, z2, z3]) rfl ⟨rfl, ((((hgw.setCell (Nat.le_refl _) _).setCell (Nat.le_refl _) _).setCell (Nat.le_refl _) _).setCell (Nat.le_refl _) _)⟩
end Go.Proofs.YtoaajnhbcekglaaDoor
