/- impl.DataRead of bytes that are a packet of data: the head, the flag, the data. -/
import Derived.Test.YtoaajnhbcekglaaDoorPkS
namespace Go.Proofs.YtoaajnhbcekglaaDoor
open Go Go.RowKit

theorem dataFrom (b o n c q : Nat) (xs : List Int) (cx : Ctx) (w : World) (h : RdAt w b o xs) (hn : xs.length = n) (h10 : 10 ≤ n) (hc : n ≤ c) (hm : c ≤ maxLen) (h4 : xs.getD 4 0 = 6)
    (hq : w.heap[q]? = some (.cells (cx.cells ByteArray.empty) 93 (0, 0))) :
    Calls Tryd.prog 47 #[.slice (some ⟨b, o, none⟩) n c, .pointer (some ⟨q, 0, none⟩)] w fun e w' => ∃ k, e = .returned (.tuple #[.pointer (some ⟨k, 0, none⟩), .nilIface]) ∧
      w'.heap[k]? = some (.cells (dpkCells (if (cx.done && decide (315 ≤ cx.ver)) = true then nat4 xs else nat2 xs) 6 (xs.getD 5 0) q (nat2 (xs.drop 8)) (.slice (some ⟨b, cutOff o c 10, none⟩) (n - 10) (c - 10))) 80 (0, 0)) ∧ Gr w w' := by
  by_cases hd : cx.done = true
  · by_cases hv : 315 ≤ cx.ver
    · rw [if_pos (by simp [hd, hv])]
      exact dataFrom_long b o n c q xs cx w h hn h10 hc hm h4 _ rfl hq hd hv
    · rw [if_neg (by simp [hv])]
      exact dataFrom_old b o n c q xs cx w h hn h10 hc hm h4 _ rfl hq hd (by omega)
  · rw [if_neg (by simp [hd])]
    exact dataFrom_undone b o n c q xs cx w h hn h10 hc hm h4 _ rfl hq (by simpa using hd)

theorem pktHead (b : Nat) (off len ty fl : Int) (w : World) (h0 : w.cell? ⟨b, 0, none⟩ = some (.int .u16 off)) (h1 : w.cell? ⟨b, 1, none⟩ = some (.int .u32 len)) (h2 : w.cell? ⟨b, 2, none⟩ = some (.int .u8 ty)) (h3 : w.cell? ⟨b, 3, none⟩ = some (.int .u8 fl)) :
    Calls Tryd.prog 44 #[.pointer (some ⟨b, 0, none⟩)] w fun e w' => e = .returned (.tuple #[.int .u32 len, .int .u8 ty, .int .u8 fl, .int .u16 off]) ∧ ∃ n, w' = w.drewN n := by
  go_enter Tryd.func44, Tryd.ntmps44
  go_wp2
  go_quiet (fail)
  go_wp2
  exact bodyPost_ret (v := .tuple #[.int .u32 len, .int .u8 ty, .int .u8 fl, .int .u16 off]) (by simp [results, Tryd.results44, go_sem]) rfl ⟨rfl, _, rfl⟩

theorem headOf (b : Nat) (off len ty fl : Int) (w : World) (h0 : w.cell? ⟨b, 0, none⟩ = some (.int .u16 off)) (h1 : w.cell? ⟨b, 1, none⟩ = some (.int .u32 len)) (h2 : w.cell? ⟨b, 2, none⟩ = some (.int .u8 ty)) (h3 : w.cell? ⟨b, 3, none⟩ = some (.int .u8 fl)) :
    Calls Tryd.prog 32 #[.pointer (some ⟨b, 0, none⟩)] w fun e w' => e = .returned (.agg #[.int .u32 len, .int .u8 ty, .int .u8 fl, .int .u16 off]) ∧ Gr w w' := by
  have hb : b < w.heap.size := World.block_lt_of_cell? w _ h0
  go_enter Tryd.func32, Tryd.ntmps32
  go_wp2_with (first | (go_at_call 44; refine (pktHead b off len ty fl _ (((Gr.refl w).alloc _).cell h0) (((Gr.refl w).alloc _).cell h1) (((Gr.refl w).alloc _).cell h2) (((Gr.refl w).alloc _).cell h3)).mono ?_; rintro e w1 ⟨rfl, n1, rfl⟩))
  exact bodyPost_ret (v := .agg #[.int .u32 len, .int .u8 ty, .int .u8 fl, .int .u16 off]) (by simp [results, Tryd.results32, go_sem]) rfl ⟨rfl, (((((((Gr.refl w).alloc _).drewN _).setCell (Nat.le_refl _) _).setCell (Nat.le_refl _) _).setCell (Nat.le_refl _) _).setCell (Nat.le_refl _) _)⟩

/-- What DataRead tells of bytes: the length, the flag. -/
def lenOf (cx : Ctx) (xs : List Int) : Int := if (cx.done && decide (315 ≤ cx.ver)) = true then nat4 xs else nat2 xs
theorem lenOf_bd (cx : Ctx) {xs : List Int} (h : Byt xs) : 0 ≤ lenOf cx xs ∧ lenOf cx xs < 4294967296 := by
  unfold lenOf
  have h2 := nat2_bd h; have h4 := nat4_bd h
  split <;> omega

theorem net_DataRead (q : Nat) (xs : List Int) (cx : Ctx) (v : Value) (w : World) (h : Rd w v xs) (h10 : 10 ≤ xs.length) (h4 : xs.getD 4 0 = 6)
    (hq : w.heap[q]? = some (.cells (cx.cells ByteArray.empty) 93 (0, 0))) :
    Calls Tryd.prog 34 #[.pointer (some ⟨q, 0, none⟩), v] w fun e w' => ∃ k u, e = .returned (.tuple #[.pointer (some ⟨k, 0, none⟩), .int .u16 (nat2 (xs.drop 8)), u, .nilIface]) ∧
      w'.heap[k]? = some (.cells (dpkCells (lenOf cx xs) 6 (xs.getD 5 0) q (nat2 (xs.drop 8)) u) 80 (0, 0)) ∧ Rd w' u (xs.drop 10) ∧ Gr w w' := by
  obtain ⟨b, o, c, rfl, hc, hm, hr⟩ := h.at' (by omega)
  have hrd := rd_cutAt hr rfl hc hm 10 h10
  obtain ⟨n, hn⟩ : ∃ n, xs.length = n := ⟨_, rfl⟩
  have HF := Lib.hid (dataFrom b o n c q xs cx w hr hn (by omega) (by omega) hm h4 hq)
  rw [hn] at hrd ⊢
  have HR := Lib.hid hrd
  obtain ⟨fl, hfl⟩ : ∃ fl, xs.getD 5 0 = fl := ⟨_, rfl⟩
  rw [hfl] at HF ⊢
  have hLd : (if (cx.done && decide (315 ≤ cx.ver)) = true then nat4 xs else nat2 xs) = lenOf cx xs := rfl
  rw [hLd] at HF
  generalize lenOf cx xs = len at HF ⊢
  generalize nat2 (xs.drop 8) = flag at HF ⊢
  generalize cutOff o c 10 = o2 at HF HR ⊢
  clear hLd hrd hn h10 h4 hfl
  go_enter Tryd.func34, Tryd.ntmps34
  go_wp2_with (first | (go_at_call 47; refine HF.out.mono ?_; rintro e w1 ⟨k, rfl, hk, hg1⟩; have c5 : w1.cell? ⟨k, 5, none⟩ = some (.int .u16 flag) := (blk_cell hk 5).trans rfl; have c6 : w1.cell? ⟨k, 6, none⟩ = some (.slice (some ⟨b, o2, none⟩) (n - 10) (c - 10)) := (blk_cell hk 6).trans rfl))
  go_quiet (fail)
  go_wp2
  exact bodyPost_ret (v := .tuple #[.pointer (some ⟨k, 0, none⟩), .int .u16 flag, .slice (some ⟨b, o2, none⟩) (n - 10) (c - 10), .nilIface]) (by simp [results, Tryd.results34, go_sem]) rfl ⟨_, _, rfl, hk, HR.out.gr (hg1.drewN _), hg1.drewN _⟩

/-- A slice of the call's own is what it was behind a store elsewhere. -/
theorem Own.store_far {B : Nat} {w : World} {v : Value} {xs : List Int} (h : Own B w v xs) {p : Addr} (hp : p.block < B) (u : Value) : Own B (w.setCell p u) v xs := by
  obtain ⟨⟨h1, h2⟩, h3⟩ := h
  refine ⟨⟨h1, ?_⟩, h3⟩
  rcases h2 with h2 | ⟨g, cap, cur, hv, hg, hh, r⟩
  · exact Or.inl h2
  · exact Or.inr ⟨g, cap, cur, hv, hg, (Below.heap_setCell w p u g (by omega)).trans hh, r⟩

theorem impl_DataRead (cx : Ctx) (xs : List Int) (v : Value) (w : World) (h : Rd w v xs) (h10 : 10 ≤ xs.length) (hl : xs.length ≤ 100000000000) (h4 : xs.getD 4 0 = 6) :
    Calls Tryd.prog 18 #[cx.val, v] w fun e w' => ∃ u, e = .returned (.tuple #[.agg #[.int .u32 (lenOf cx xs), .int .u8 6, .int .u8 (xs.getD 5 0), .int .u16 10], .int .u16 (nat2 (xs.drop 8)), u, .bool true]) ∧
      Own w.heap.size w' u (xs.drop 10) ∧ Gr w w' := by
  have HN := fun q v w => Lib.hid (net_DataRead q xs cx v w)
  have hc := contextOf cx
  unfold Ctx.val at hc ⊢
  have HC := Lib.hid hc
  have H4 := Lib.hid h4
  clear hc h4
  obtain ⟨fl, hfl⟩ : ∃ fl, xs.getD 5 0 = fl := ⟨_, rfl⟩
  rw [hfl] at HN ⊢
  generalize lenOf cx xs = len at HN ⊢
  generalize nat2 (xs.drop 8) = flag at HN ⊢
  clear hfl
  go_enter Tryd.func18, Tryd.ntmps18
  go_wp2_with (first
    | (go_at_call 28; refine (HC.out _).mono ?_; rintro e w1 ⟨q, rfl, hq1, hq, hg1⟩; have hw1 := Gr.trans (((Gr.refl w).alloc _).alloc _) hg1)
    | (go_at_call 34; go_must (refine ((HN q u2 w2).out ho2.rd h10 H4.out (hg2.heap hq)).mono ?_); rintro e w3 ⟨k, u3, rfl, hk, hr3, hg3⟩; have c0 : w3.cell? ⟨k, 0, none⟩ = some (.int .u16 10) := (blk_cell hk 0).trans rfl; have c1 : w3.cell? ⟨k, 1, none⟩ = some (.int .u32 len) := (blk_cell hk 1).trans rfl; have c2 : w3.cell? ⟨k, 2, none⟩ = some (.int .u8 6) := (blk_cell hk 2).trans rfl; have c3 : w3.cell? ⟨k, 3, none⟩ = some (.int .u8 fl) := (blk_cell hk 3).trans rfl)
    | (go_at_call 32; go_must (refine (headOf k 10 len 6 fl _ c0 c1 c2 c3).mono ?_); rintro e w4 ⟨rfl, hg4⟩; have tok := hg4)
    | (go_at_call 16; refine (clone v xs _ (h.gr hw1) (by omega)).mono ?_; rintro e w2 ⟨u2, rfl, ho2, hg2⟩)
    | (go_at_call 16; go_must (refine (clone u3 (xs.drop 10) _ (hr3.gr hg4) (by rw [List.length_drop]; omega)).mono ?_); rintro e w5 ⟨u5, rfl, ho5, hg5⟩; have hz : w5.heap[w.heap.size + 1]? = some (.cells #[.int .u32 0, .int .u8 0, .int .u8 0, .int .u16 0] 27 (0, 0)) := hg5.heap (hg4.heap (hg3.heap (hg2.heap (hg1.heap (heap_new_at (w.alloc _) _ (by simp)))))); have z0 : w5.cell? ⟨w.heap.size + 1, 0, none⟩ = some (.int .u32 0) := (blk_cell hz 0).trans rfl; have z1 : w5.cell? ⟨w.heap.size + 1, 1, none⟩ = some (.int .u8 0) := (blk_cell hz 1).trans rfl; have z2 : w5.cell? ⟨w.heap.size + 1, 2, none⟩ = some (.int .u8 0) := (blk_cell hz 2).trans rfl; have z3 : w5.cell? ⟨w.heap.size + 1, 3, none⟩ = some (.int .u16 0) := (blk_cell hz 3).trans rfl; have y0 := blk_free hz 0; have y1 := blk_free hz 1; have y2 := blk_free hz 2; have y3 := blk_free hz 3))
  have hgw : Gr w w5 := (((hw1.trans hg2).trans hg3).trans hg4).trans hg5
  have hb : w.heap.size ≤ w.heap.size + 1 := by omega
  have hlt : w.heap.size + 1 < w4.heap.size := by
    have h1 := hg1.size
    have h2 := hg2.size
    have h3 := hg3.size
    have h4 := hg4.size
    simp at h1
    omega
  refine bodyPost_ret (v := .tuple #[.agg #[.int .u32 len, .int .u8 6, .int .u8 fl, .int .u16 10], .int .u16 flag, u5, .bool true]) (by simp [results, Tryd.results18, go_sem, z0, z1, z2, z3]) rfl ⟨u5, rfl, ?_, ((((hgw.setCell hb _).setCell hb _).setCell hb _).setCell hb _)⟩
  exact ((((ho5.store_far (p := ⟨w.heap.size + 1, 0, none⟩) hlt _).store_far (p := ⟨w.heap.size + 1, 1, none⟩) hlt _).store_far (p := ⟨w.heap.size + 1, 2, none⟩) hlt _).store_far (p := ⟨w.heap.size + 1, 3, none⟩) hlt _).mono (((hw1.trans hg2).trans hg3).trans hg4).size
end Go.Proofs.YtoaajnhbcekglaaDoor
