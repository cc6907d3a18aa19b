/- impl.ConnectBytes: the bytes of a packet CONNECT. -/
import Derived.Test.YtoaajnhbcekglaaDoorPkCn
import Derived.Test.YtoaajnhbcekglaaDoorPkRefS
import Derived.Laws.IdiomStrings
namespace Go.Proofs.YtoaajnhbcekglaaDoor
open Go Go.RowKit

/-- '[]byte(s)'. -/
theorem bytes_of_str (s : ByteArray) (w : World) (hl : s.size ≤ maxLen) :
    ∃ c W2, (convert 9 30 (.string s)).run Tryd.prog w = .ok (.slice (some ⟨w.heap.size, 0, none⟩) s.size c) W2 ∧ RdAt W2 w.heap.size 0 (nums s) ∧ Gr w W2 ∧ s.size ≤ c ∧ c ≤ maxLen := by
  have h := run_bytes_of_string (P := Tryd.prog) w 9 30 5 s Tryd.underlying9 Tryd.underlying30 Tryd.underlying5
  refine ⟨_, _, h, ?_, (Gr.refl w).drew.alloc _, grownCap_ge _ _ _ _, grownCap_le_maxLen _ _ _ _ hl⟩
  refine ⟨fun i hi => ?_, nums_byt s⟩
  rw [Nat.zero_add]
  have hi' : i < s.size := by rw [nums_length] at hi; exact hi
  refine (blk_cell (show ((w.drew).alloc _).heap[w.heap.size]? = some _ from heap_alloc_new w.drew _) i).trans ?_
  unfold bytesRow
  rw [Array.getElem?_append_left (by simp; exact hi')]
  have hi3 : i < s.data.size := hi'
  simp [nums, List.getD_eq_getElem?_getD]
  exact ⟨s.data[i], Array.getElem?_eq_getElem hi3, by rw [Array.getElem?_eq_getElem hi3]; rfl⟩

/-- A context as newConnectPacket leaves it. -/
def Ctx.con (c : Ctx) : Ctx := { c with his := 1, a0 := 1, a1 := 1 }

theorem cells_con (c : Ctx) (s : ByteArray) : ((((c.cells s).setIfInBounds 7 (.int .u16 1)).setIfInBounds 10 (.int .u8 1)).setIfInBounds 11 (.int .u8 1)) = c.con.cells s := by
  simp [Ctx.cells, Ctx.con]
theorem cells_str (c : Ctx) (d s : ByteArray) : (c.cells d).setIfInBounds 1 (.string s) = c.cells s := by simp [Ctx.cells]

theorem connectData (q : Nat) (cx : Ctx) (d s : ByteArray) (w : World) (hq : w.heap[q]? = some (.cells (cx.cells d) 93 (0, 0))) :
    Calls Tryd.prog 39 #[.pointer (some ⟨q, 0, none⟩), .string s] w fun e w' => e = .returned (.tuple #[]) ∧
      w'.heap[q]? = some (.cells (cx.cells s) 93 (0, 0)) ∧ ∀ w0, Gr w0 w → w0.heap.size ≤ q → Gr w0 w' := by
  have c1 : w.cell? ⟨q, 1, none⟩ = some (.string d) := (blk_cell hq 1).trans rfl
  have f1 := blk_free hq 1
  go_enter Tryd.func39, Tryd.ntmps39
  go_wp2_with fail
  go_end0
  exact ⟨rfl, by rw [blk_set hq 1 _, cells_str], fun w0 h0 hg => h0.setCell hg _⟩

set_option maxRecDepth 100000 in
theorem newConnect (q : Nat) (cx : Ctx) (s : ByteArray) (w : World) (hs : s.size ≤ 2000) (hq : w.heap[q]? = some (.cells (cx.cells s) 93 (0, 0))) :
    Calls Tryd.prog 50 #[.pointer (some ⟨q, 0, none⟩)] w fun e w' => ∃ k B cp L, e = .returned (.pointer (some ⟨k, 0, none⟩)) ∧ (0 ≤ L ∧ L < 4294967296) ∧
      PkCells w' k q 70 L 1 0 cx.ver cx.done ∧ CnCells w' k q B s.size cp cx.ver cx.lo cx.opt cx.our cx.sdu cx.tdu ∧ Rd w' (.slice (some ⟨B, 0, none⟩) s.size cp) (nums s) ∧ (∀ w0, Gr w0 w → w0.heap.size ≤ q → Gr w0 w') := by
  obtain ⟨cp, W2, hcv, hrd, hg2, hc1, hc2⟩ := bytes_of_str s (((w.setCell ⟨q, 7, none⟩ (.int .u16 1)).setCell ⟨q, 10, none⟩ (.int .u8 1)).setCell ⟨q, 11, none⟩ (.int .u8 1)) (by simp only [maxLen]; omega)
  have hq3 := blk_set (blk_set (blk_set hq 7 (.int .u16 1)) 10 (.int .u8 1)) 11 (.int .u8 1)
  rw [cells_con] at hq3
  have HQ := Lib.hid (hg2.heap hq3)
  have HR := Lib.hid (hrd.rd (nums_length s) hc1 hc2)
  have HG : ∀ w0, Gr w0 w → w0.heap.size ≤ q → Gr w0 W2 := fun w0 h0 hg => (((h0.setCell (p := ⟨q, 7, none⟩) hg _).setCell (p := ⟨q, 10, none⟩) hg _).setCell (p := ⟨q, 11, none⟩) hg _).trans hg2
  have HG := Lib.hid HG
  have c1 : w.cell? ⟨q, 1, none⟩ = some (.string s) := (blk_cell hq 1).trans rfl
  have c7 : w.cell? ⟨q, 7, none⟩ = some (.int .u16 cx.his) := (blk_cell hq 7).trans rfl
  have c10 : w.cell? ⟨q, 10, none⟩ = some (.int .u8 cx.a0) := (blk_cell hq 10).trans rfl
  have c11 : w.cell? ⟨q, 11, none⟩ = some (.int .u8 cx.a1) := (blk_cell hq 11).trans rfl
  have f7 := blk_free hq 7
  have f10 := blk_free hq 10
  have f11 := blk_free hq 11
  have hb : (w.setCell ⟨q, 7, none⟩ (.int .u16 1)).heap.size = w.heap.size := by simp [World.setCell]
  clear hrd hg2 hc1 hc2 hq hq3
  have key : ∀ L : Int, (0 ≤ L ∧ L < 4294967296) → ∀ v : Value, v = .pointer (some ⟨W2.heap.size, 0, none⟩) → ∀ (B : Nat), B = w.heap.size → ∃ k B' cp' L', Ending.returned v = .returned (.pointer (some ⟨k, 0, none⟩)) ∧ (0 ≤ L' ∧ L' < 4294967296) ∧
      PkCells (W2.alloc (.cells #[.int .u16 70, .int .u32 L, .int .u8 1, .int .u8 0, .pointer (some ⟨q, 0, none⟩), .slice (some ⟨B, 0, none⟩) s.size cp] 119)) k q 70 L' 1 0 cx.ver cx.done ∧
      CnCells (W2.alloc (.cells #[.int .u16 70, .int .u32 L, .int .u8 1, .int .u8 0, .pointer (some ⟨q, 0, none⟩), .slice (some ⟨B, 0, none⟩) s.size cp] 119)) k q B' s.size cp' cx.ver cx.lo cx.opt cx.our cx.sdu cx.tdu ∧
      Rd (W2.alloc (.cells #[.int .u16 70, .int .u32 L, .int .u8 1, .int .u8 0, .pointer (some ⟨q, 0, none⟩), .slice (some ⟨B, 0, none⟩) s.size cp] 119)) (.slice (some ⟨B', 0, none⟩) s.size cp') (nums s) ∧
      (∀ w0, Gr w0 w → w0.heap.size ≤ q → Gr w0 (W2.alloc (.cells #[.int .u16 70, .int .u32 L, .int .u8 1, .int .u8 0, .pointer (some ⟨q, 0, none⟩), .slice (some ⟨B, 0, none⟩) s.size cp] 119))) := by
    intro L hL v hv B hB
    subst hv
    have hn := heap_alloc_new W2 (.cells #[.int .u16 70, .int .u32 L, .int .u8 1, .int .u8 0, .pointer (some ⟨q, 0, none⟩), .slice (some ⟨B, 0, none⟩) s.size cp] 119)
    have hq' := ((Gr.refl W2).alloc (.cells #[.int .u16 70, .int .u32 L, .int .u8 1, .int .u8 0, .pointer (some ⟨q, 0, none⟩), .slice (some ⟨B, 0, none⟩) s.size cp] 119)).heap HQ.out
    refine ⟨_, B, cp, L, rfl, hL, PkCells.of_blocks (c := cx.con) hn rfl rfl rfl rfl rfl hq', ⟨?_, ?_, ?_, ?_, ?_, ?_, ?_, ?_, ?_, ?_, ?_⟩, ?_, fun w0 h0 hg => (HG.out w0 h0 hg).alloc _⟩
    · exact (blk_cell hn 0).trans rfl
    · exact (blk_cell hn 4).trans rfl
    · exact (blk_cell hn 5).trans rfl
    · exact (blk_cell hq' 2).trans rfl
    · exact (blk_cell hq' 3).trans rfl
    · exact (blk_cell hq' 4).trans rfl
    · exact (blk_cell hq' 6).trans rfl
    · exact (blk_cell hq' 10).trans rfl
    · exact (blk_cell hq' 11).trans rfl
    · exact (blk_cell hq' 12).trans rfl
    · exact (blk_cell hq' 13).trans rfl
    · have := HR.out
      simp at this
      subst hB
      exact this.gr ((Gr.refl W2).alloc _)
  have KEY := Lib.hid key
  clear key
  by_cases hlt : s.size ≤ 230
  all_goals
    go_enter Tryd.func50, Tryd.ntmps50
    go_wp2_with fail
    go_ret
    exact KEY.out _ (by omega) _ rfl _ (by simp)
end Go.Proofs.YtoaajnhbcekglaaDoor
