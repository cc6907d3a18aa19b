/- impl.DataRead of bytes that are a packet of data. -/
import Derived.Test.YtoaajnhbcekglaaDoorPkR
import Derived.Test.YtoaajnhbcekglaaDoorPkG
import Derived.Deep.RegionHeld3
import Derived.BigRegion
namespace Go.Proofs.YtoaajnhbcekglaaDoor
open Go Go.RowKit

/-- Where a slice that is cut at k begins: at its very end it keeps its address. -/
def cutOff (o c k : Nat) : Nat := if c = k then o else o + k
theorem rd_cutAt {w : World} {b o n c : Nat} {xs : List Int} (h : RdAt w b o xs) (hn : xs.length = n) (hc : n ≤ c) (hm : c ≤ maxLen) (k : Nat) (hk : k ≤ n) : Rd w (.slice (some ⟨b, cutOff o c k, none⟩) (n - k) (c - k)) (xs.drop k) := by
  subst hn
  unfold cutOff
  by_cases e : c = k
  · subst e
    obtain rfl : xs.length = c := by omega
    rw [List.drop_length, Nat.sub_self]
    exact ⟨_, 0, rfl, Nat.le_refl _, Nat.zero_le _, (fun _ => rfl), Lib.BytesIn.nil _ _ _, fun x hx => by cases hx⟩
  · rw [if_neg e]
    exact (h.drop k).rd (by simp) (by omega) (by simp only [maxLen] at hm ⊢; omega)

theorem run_cutAt {P : Program} {t : TypeId} (L : U8 P t) (b o n c k : Nat) (K : Int) (hK : K = (k : Int)) (hk : k ≤ n) (w : World) :
    (Instr.slice t (.slice (some ⟨b, o, none⟩) n c) (some (.int .i64 K)) none none).run P w = .ok (.slice (some ⟨b, cutOff o c k, none⟩) (n - k) (c - k)) w := by
  subst hK
  obtain ⟨i, hi, hz, hz1, hz2⟩ := info_parts L.info
  have h1 : (0 : Int) ≤ k ∧ (k : Int) ≤ n := by omega
  have e2 : (if c = k then (⟨b, o, none⟩ : Addr) else (⟨b, o, none⟩ : Addr).add k) = ⟨b, cutOff o c k, none⟩ := by
    unfold cutOff Addr.add
    by_cases e : c = k
    · simp [e]
    · by_cases k0 : k = 0
      · subst k0; simp
      · simp [e, k0]
  have e3 : (if c = k then some (⟨b, o, none⟩ : Addr) else some ((⟨b, o, none⟩ : Addr).add k)) = some ⟨b, cutOff o c k, none⟩ := by
    rw [← e2]; split <;> rfl
  have e4 : Instr.sliceBound (.int .i64 k) n .sliceB = pure k := by simp [Instr.sliceBound, asIntOf, h1]
  simp [Instr.slice, Instr.sliceBounds, e4, run_underlying L.under, sizeOf, typeInfo, hi, hz1, e3]

set_option maxRecDepth 100000 in
theorem dataFrom_long (b o n c q : Nat) (xs : List Int) (cx : Ctx) (w : World) (h : RdAt w b o xs) (hn : xs.length = n) (h10 : 10 ≤ n) (hc : n ≤ c) (hm : c ≤ maxLen) (h4 : xs.getD 4 0 = 6) (fl : Int) (h5 : xs.getD 5 0 = fl)
    (hq : w.heap[q]? = some (.cells (cx.cells ByteArray.empty) 93 (0, 0))) (hd : cx.done = true) (hv : 315 ≤ cx.ver) :
    Calls Tryd.prog 47 #[.slice (some ⟨b, o, none⟩) n c, .pointer (some ⟨q, 0, none⟩)] w fun e w' => ∃ k, e = .returned (.tuple #[.pointer (some ⟨k, 0, none⟩), .nilIface]) ∧
      w'.heap[k]? = some (.cells (dpkCells (nat4 xs) 6 fl q (nat2 (xs.drop 8)) (.slice (some ⟨b, cutOff o c 10, none⟩) (n - 10) (c - 10))) 80 (0, 0)) ∧ Gr w w' := by
  have HE := Lib.hid h4
  have HN := Lib.hid hn
  have k4 : w.cell? ⟨b, o + 4, none⟩ = some (.int .u8 6) := by rw [h.cell 4 (by omega), h4]
  have k5 : w.cell? ⟨b, o + 5, none⟩ = some (.int .u8 fl) := by rw [h.cell 5 (by omega), h5]
  have hm' : c ≤ 9223372036854775807 := by simp only [maxLen] at hm; omega
  have h8 : ¬ (c = 8) := by omega
  have hsl := run_cutAt (P := Tryd.prog) u8 b o n c 10 10 rfl h10
  have hq2 : w.cell? ⟨q, 2, none⟩ = some (.int .u16 cx.ver) := (blk_cell hq 2).trans rfl
  have hq9 : w.cell? ⟨q, 9, none⟩ = some (.bool cx.done) := (blk_cell hq 9).trans rfl
  have i4 : (4 : Int) < (n : Nat) := by omega
  have i5 : (5 : Int) < (n : Nat) := by omega
  have i8 : (8 : Int) ≤ (n : Nat) := by omega
  have i10 : (10 : Int) ≤ (n : Nat) := by omega
  have inc : ((n : Nat) : Int) ≤ (c : Nat) := by omega
  clear h4 h5 hn hm
  go_enter Tryd.func47, Tryd.ntmps47
  go_wp2_with fail
  go_region_held3 (fun w' => w'.cell? ⟨b, o + 4, none⟩ = some (.int .u8 6) ∧ w'.cell? ⟨b, o + 5, none⟩ = some (.int .u8 fl)) (first | go_keep | (exact ⟨hg1.cell k4, hg1.cell k5⟩) | (exact ⟨(hg1.alloc _).cell k4, (hg1.alloc _).cell k5⟩))
    ((first | (go_at_call 54; refine (get16 _ b (o + 8) (n - 8) (c - 8) (xs.drop 8) (h.drew.drop 8) (by omega) (by rw [List.length_drop, HN.out]; omega)).mono ?_; rintro e w1 ⟨rfl, hg1⟩; have hg1 := Gr.trans (Gr.drew (Gr.refl w)) hg1; have hb0 := (nat2_bd (h.drop 8).byt).1; have hb1 := (nat2_bd (h.drop 8).byt).2; have hb2 := (nat2_bd h.byt).1; have hb3 := (nat2_bd h.byt).2)))
  have hql : q < w1.heap.size := lt_of_some (hg1.heap hq)
  have hq2 := hg1.cell hq2
  have hq9 := hg1.cell hq9
  go_wp2_with (first | (go_at_call 59; refine (get32 _ b o _ _ xs (h.gr (hg1.alloc _)) (by omega) (by rw [HN.out]; omega)).mono ?_; rintro e w2 ⟨rfl, hg2⟩; have hk := hg2.heap (heap_alloc_new w1 _); have c1 : w2.cell? ⟨w1.heap.size, 1, none⟩ = some (.int .u32 0) := (blk_cell hk 1).trans rfl; have f1 := blk_free hk 1))
  go_ret2
  exact ⟨_, rfl, (blk_set hk 1 _).trans (by simp [dpkCells]), ((hg1.alloc _).trans hg2).setCell hg1.size _⟩

set_option maxRecDepth 100000 in
theorem dataFrom_undone (b o n c q : Nat) (xs : List Int) (cx : Ctx) (w : World) (h : RdAt w b o xs) (hn : xs.length = n) (h10 : 10 ≤ n) (hc : n ≤ c) (hm : c ≤ maxLen) (h4 : xs.getD 4 0 = 6) (fl : Int) (h5 : xs.getD 5 0 = fl)
    (hq : w.heap[q]? = some (.cells (cx.cells ByteArray.empty) 93 (0, 0))) (hd : cx.done = false) :
    Calls Tryd.prog 47 #[.slice (some ⟨b, o, none⟩) n c, .pointer (some ⟨q, 0, none⟩)] w fun e w' => ∃ k, e = .returned (.tuple #[.pointer (some ⟨k, 0, none⟩), .nilIface]) ∧
      w'.heap[k]? = some (.cells (dpkCells (nat2 xs) 6 fl q (nat2 (xs.drop 8)) (.slice (some ⟨b, cutOff o c 10, none⟩) (n - 10) (c - 10))) 80 (0, 0)) ∧ Gr w w' := by
  have HE := Lib.hid h4
  have HN := Lib.hid hn
  have k4 : w.cell? ⟨b, o + 4, none⟩ = some (.int .u8 6) := by rw [h.cell 4 (by omega), h4]
  have k5 : w.cell? ⟨b, o + 5, none⟩ = some (.int .u8 fl) := by rw [h.cell 5 (by omega), h5]
  have hm' : c ≤ 9223372036854775807 := by simp only [maxLen] at hm; omega
  have h8 : ¬ (c = 8) := by omega
  have hsl := run_cutAt (P := Tryd.prog) u8 b o n c 10 10 rfl h10
  have hq2 : w.cell? ⟨q, 2, none⟩ = some (.int .u16 cx.ver) := (blk_cell hq 2).trans rfl
  have hq9 : w.cell? ⟨q, 9, none⟩ = some (.bool cx.done) := (blk_cell hq 9).trans rfl
  have i4 : (4 : Int) < (n : Nat) := by omega
  have i5 : (5 : Int) < (n : Nat) := by omega
  have i8 : (8 : Int) ≤ (n : Nat) := by omega
  have i10 : (10 : Int) ≤ (n : Nat) := by omega
  have inc : ((n : Nat) : Int) ≤ (c : Nat) := by omega
  clear h4 h5 hn hm
  go_enter Tryd.func47, Tryd.ntmps47
  go_wp2_with fail
  go_region_held3 (fun w' => w'.cell? ⟨b, o + 4, none⟩ = some (.int .u8 6) ∧ w'.cell? ⟨b, o + 5, none⟩ = some (.int .u8 fl)) (first | go_keep | (exact ⟨hg1.cell k4, hg1.cell k5⟩) | (exact ⟨(hg1.alloc _).cell k4, (hg1.alloc _).cell k5⟩))
    ((first | (go_at_call 54; refine (get16 _ b (o + 8) (n - 8) (c - 8) (xs.drop 8) (h.drew.drop 8) (by omega) (by rw [List.length_drop, HN.out]; omega)).mono ?_; rintro e w1 ⟨rfl, hg1⟩; have hg1 := Gr.trans (Gr.drew (Gr.refl w)) hg1; have hb0 := (nat2_bd (h.drop 8).byt).1; have hb1 := (nat2_bd (h.drop 8).byt).2; have hb2 := (nat2_bd h.byt).1; have hb3 := (nat2_bd h.byt).2)))
  have hql : q < w1.heap.size := lt_of_some (hg1.heap hq)
  have hq2 := hg1.cell hq2
  have hq9 := hg1.cell hq9
  go_wp2_with (first | (go_at_call 54; refine (get16 _ b o _ _ xs (h.gr (hg1.alloc _)) (by omega) (by rw [HN.out]; omega)).mono ?_; rintro e w2 ⟨rfl, hg2⟩; have hk := hg2.heap (heap_alloc_new w1 _); have c1 : w2.cell? ⟨w1.heap.size, 1, none⟩ = some (.int .u32 0) := (blk_cell hk 1).trans rfl; have f1 := blk_free hk 1))
  go_ret2
  exact ⟨_, rfl, (blk_set hk 1 _).trans (by simp [dpkCells]), ((hg1.alloc _).trans hg2).setCell hg1.size _⟩

set_option maxRecDepth 100000 in
theorem dataFrom_old (b o n c q : Nat) (xs : List Int) (cx : Ctx) (w : World) (h : RdAt w b o xs) (hn : xs.length = n) (h10 : 10 ≤ n) (hc : n ≤ c) (hm : c ≤ maxLen) (h4 : xs.getD 4 0 = 6) (fl : Int) (h5 : xs.getD 5 0 = fl)
    (hq : w.heap[q]? = some (.cells (cx.cells ByteArray.empty) 93 (0, 0))) (hd : cx.done = true) (hv : cx.ver < 315) :
    Calls Tryd.prog 47 #[.slice (some ⟨b, o, none⟩) n c, .pointer (some ⟨q, 0, none⟩)] w fun e w' => ∃ k, e = .returned (.tuple #[.pointer (some ⟨k, 0, none⟩), .nilIface]) ∧
      w'.heap[k]? = some (.cells (dpkCells (nat2 xs) 6 fl q (nat2 (xs.drop 8)) (.slice (some ⟨b, cutOff o c 10, none⟩) (n - 10) (c - 10))) 80 (0, 0)) ∧ Gr w w' := by
  have HE := Lib.hid h4
  have HN := Lib.hid hn
  have k4 : w.cell? ⟨b, o + 4, none⟩ = some (.int .u8 6) := by rw [h.cell 4 (by omega), h4]
  have k5 : w.cell? ⟨b, o + 5, none⟩ = some (.int .u8 fl) := by rw [h.cell 5 (by omega), h5]
  have hm' : c ≤ 9223372036854775807 := by simp only [maxLen] at hm; omega
  have h8 : ¬ (c = 8) := by omega
  have hsl := run_cutAt (P := Tryd.prog) u8 b o n c 10 10 rfl h10
  have hq2 : w.cell? ⟨q, 2, none⟩ = some (.int .u16 cx.ver) := (blk_cell hq 2).trans rfl
  have hq9 : w.cell? ⟨q, 9, none⟩ = some (.bool cx.done) := (blk_cell hq 9).trans rfl
  have i4 : (4 : Int) < (n : Nat) := by omega
  have i5 : (5 : Int) < (n : Nat) := by omega
  have i8 : (8 : Int) ≤ (n : Nat) := by omega
  have i10 : (10 : Int) ≤ (n : Nat) := by omega
  have inc : ((n : Nat) : Int) ≤ (c : Nat) := by omega
  clear h4 h5 hn hm
  go_enter Tryd.func47, Tryd.ntmps47
  go_wp2_with fail
  go_region_held3 (fun w' => w'.cell? ⟨b, o + 4, none⟩ = some (.int .u8 6) ∧ w'.cell? ⟨b, o + 5, none⟩ = some (.int .u8 fl)) (first | go_keep | (exact ⟨hg1.cell k4, hg1.cell k5⟩) | (exact ⟨(hg1.alloc _).cell k4, (hg1.alloc _).cell k5⟩))
    ((first | (go_at_call 54; refine (get16 _ b (o + 8) (n - 8) (c - 8) (xs.drop 8) (h.drew.drop 8) (by omega) (by rw [List.length_drop, HN.out]; omega)).mono ?_; rintro e w1 ⟨rfl, hg1⟩; have hg1 := Gr.trans (Gr.drew (Gr.refl w)) hg1; have hb0 := (nat2_bd (h.drop 8).byt).1; have hb1 := (nat2_bd (h.drop 8).byt).2; have hb2 := (nat2_bd h.byt).1; have hb3 := (nat2_bd h.byt).2)))
  have hql : q < w1.heap.size := lt_of_some (hg1.heap hq)
  have hq2 := hg1.cell hq2
  have hq9 := hg1.cell hq9
  go_wp2_with (first | (go_at_call 54; refine (get16 _ b o _ _ xs (h.gr (hg1.alloc _)) (by omega) (by rw [HN.out]; omega)).mono ?_; rintro e w2 ⟨rfl, hg2⟩; have hk := hg2.heap (heap_alloc_new w1 _); have c1 : w2.cell? ⟨w1.heap.size, 1, none⟩ = some (.int .u32 0) := (blk_cell hk 1).trans rfl; have f1 := blk_free hk 1))
  go_ret2
  exact ⟨_, rfl, (blk_set hk 1 _).trans (by simp [dpkCells]), ((hg1.alloc _).trans hg2).setCell hg1.size _⟩

end Go.Proofs.YtoaajnhbcekglaaDoor
