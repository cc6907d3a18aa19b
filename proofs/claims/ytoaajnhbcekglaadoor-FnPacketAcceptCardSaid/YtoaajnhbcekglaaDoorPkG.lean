/- impl.DataBytes: the bytes of a packet of data. -/
import Derived.Test.YtoaajnhbcekglaaDoorPkF
namespace Go.Proofs.YtoaajnhbcekglaaDoor
open Go Go.RowKit

theorem newDataPacket (p : Option Addr) (n cp q : Nat) (w : World) (hn : n < 4294967286) :
    Calls Tryd.prog 45 #[.slice p n cp, .pointer (some ⟨q, 0, none⟩)] w fun e w' => e = .returned (.tuple #[.pointer (some ⟨w.heap.size, 0, none⟩), .nilIface]) ∧ w' = w.alloc (.cells (dpkCells (n + 10) 6 0 q 0 (.slice p n cp)) 80) := by
  have hw : (0 : Int) ≤ n := by omega
  have hw2 : (n : Int) < 4294967286 := by omega
  go_enter Tryd.func45, Tryd.ntmps45
  go_wp2
  go_ret2
  exact ⟨rfl, rfl⟩

theorem net_DataBytes (q : Nat) (c : Ctx) (dt : ByteArray) (v : Value) (data : List Int) (w : World) (hq : w.heap[q]? = some (.cells (c.cells dt) 93 (0, 0))) (hv : Rd w v data) (hl : data.length < 4294967286) :
    Calls Tryd.prog 33 #[.pointer (some ⟨q, 0, none⟩), v] w fun e w' => ∃ u, e = .returned (.tuple #[u, .nilIface]) ∧ Own w.heap.size w' u (dataL (c.done && decide (315 ≤ c.ver)) (data.length + 10) 6 0 0 data) ∧ Gr w w' := by
  have hv' := hv
  obtain ⟨p, cp, rfl, _⟩ := hv
  go_enter Tryd.func33, Tryd.ntmps33
  go_wp2_with (first
    | (go_at_call 45; refine (newDataPacket p _ cp q _ hl).mono ?_; rintro e w1 ⟨rfl, rfl⟩)
    | (go_at_call 46; refine (dpk_bytes _ q c dt _ 6 0 0 _ data _ (by omega) (by omega) (by omega) (by omega) (heap_alloc_new w _) (((Gr.refl w).alloc _).heap hq) (hv'.gr ((Gr.refl w).alloc _)) (by omega)).mono ?_; rintro e w2 ⟨u, rfl, ho2, hg2⟩))
  go_ret2
  exact ⟨_, rfl, ho2.mono (by simp), ((Gr.refl w).alloc _).trans hg2⟩

theorem impl_DataBytes (c : Ctx) (v : Value) (data : List Int) (w : World) (hv : Rd w v data) (hl : data.length < 4294967286) :
    Calls Tryd.prog 17 #[c.val, v] w (RetB w (dataL (c.done && decide (315 ≤ c.ver)) (data.length + 10) 6 0 0 data)) := by
  unfold Ctx.val
  go_enter Tryd.func17, Tryd.ntmps17
  go_wp2_with (first
    | (go_at_call 28; refine (contextOf c _).mono ?_; rintro e w1 ⟨q, rfl, hq1, hq, hg1⟩; have hw1 := Gr.trans ((Gr.refl w).alloc _) hg1)
    | (go_at_call 16; refine (clone v data _ (hv.gr hw1) (by omega)).mono ?_; rintro e w2 ⟨u, rfl, ho2, hg2⟩)
    | (go_at_call 33; refine (net_DataBytes q c _ u data _ (hg2.heap hq) ho2.rd hl).mono ?_; rintro e w3 ⟨u3, rfl, ho3, hg3⟩))
  go_ret
  exact ⟨_, rfl, ho3.mono (hw1.trans hg2).size, (hw1.trans hg2).trans hg3⟩
end Go.Proofs.YtoaajnhbcekglaaDoor
