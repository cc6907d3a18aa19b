/- strconv.FormatUint at base 10. -/
import Derived.Test.YthimnfdoeplebaaDoorNmT
import Derived.Lib.ItoaMem
import Derived.Lib.Walk
import Derived.BigCall
namespace Go.Proofs.YthimnfdoeplebaaDoor
open Go Go.RowKit Go.Sort

theorem holds_zero0 (w : World) (T : TypeId) (nd : Nat) (hs : nd ≤ 24) : Holds (fun (b : UInt8) => Value.int .u8 (b.toNat : Int)) (w.alloc (.cells Lib.zeros24 T)) w.heap.size 0 (Array.replicate nd (0 : UInt8)) := fun j hj => by
  have hj' : j < nd := by simpa using hj
  refine ⟨?_, World.frozen?_alloc_new _ _ _ _⟩
  rw [World.cell?_alloc_new, Lib.zeros24_at _ (by omega), getElem!_pos _ j hj]
  simp
theorem fin_pos0 (w : World) (o : Obj) (dk : Array UInt8) (k : Nat) : Gr w ((putRow (fun (b : UInt8) => Value.int .u8 (b.toNat : Int)) (w.alloc o) w.heap.size 0 dk).drewN k) := by
  rw [alloc_eq_grow]
  obtain ⟨os', _, e⟩ := putRow_grow_new (fun (b : UInt8) => Value.int .u8 (b.toNat : Int)) w #[o] w.heap.size 0 dk (Nat.le_refl _)
  rw [e]
  have := Lib.below_grow _ w (Nat.le_refl _) 0 os'
  rw [World.drewN_zero] at this
  exact Gr.drewN this k

set_option maxHeartbeats 6400000 in
set_option maxRecDepth 100000 in
theorem fmtUintI (u : Nat) (hu64 : u < 18446744073709551616) (w : World) (htab : Tab10 w) :
    Calls Tryd.prog 84 #[.int .u64 u, .int .i64 10] w fun e w' => e = .returned (.string (bs (Lib.decDigits u))) ∧ Gr w w' := by
  by_cases hs : u < 100
  · have hsi : (u : Int) < 100 := by omega
    go_enter Tryd.func84, Tryd.ntmps84
    go_wp2_with (first | (go_at_call 92; refine (Tryd.internal_strconv_small u hs _).mono ?_; rintro e w' ⟨rfl, rfl⟩))
    go_ret
    exact ⟨rfl, Gr.refl _⟩
  · have hu1 : 1 ≤ u := by omega
    have hsi : ¬ (u : Int) < 100 := by omega
    have hnd20 : Lib.nDigits u ≤ 20 := by have := Lib.numDigits_eq u hu1 hu64; split at this <;> omega
    have hal : (Tryd.prog).arrayLen 136 = 24 := by kernel_rfl
    have hsl : ∀ W, (Instr.sliceAt 136 (.pointer (some ⟨w.heap.size, 0, none⟩)) none (some (.int .i64 (Lib.nDigits u : Int))) none).run Tryd.prog W = .ok (.slice (some ⟨w.heap.size, 0, none⟩) (Lib.nDigits u) 24) W := fun W => by
      rw [run_sliceAt_array_h W 136 ⟨w.heap.size, 0, none⟩ (by simp [Program.arrayLen, Program.elem, Tryd.underlying136]) .i64 (Lib.nDigits u : Int) (by omega) (by rw [hal]; omega)]
      go_simp
      first | done | omega
    have hH0 := holds_zero0 w 136 (Lib.nDigits u) (by omega)
    have hfmt := Tryd.internal_strconv_formatBase10 w.heap.size 0 24 u (Array.replicate (Lib.nDigits u) 0) (w.alloc (.cells Lib.zeros24 136)) hH0 (by rw [Array.size_replicate]; exact Lib.lt_pow_nDigits u) hu64 (by rw [Array.size_replicate]; omega)
    rw [Array.size_replicate] at hfmt
    have hnum := fun w h => Lib.hid (Tryd.internal_strconv_numDigits u hu1 hu64 w h)
    have HH0 := Lib.hid hH0
    have HF := Lib.hid hfmt
    clear hH0 hal hfmt
    go_enter Tryd.func84, Tryd.ntmps84
    go_wp2_with (first
      | (go_at_call 93; refine (hnum _ (Lib.tabIs_alloc htab _)).out.mono ?_; rintro e w' ⟨rfl, rfl⟩))
    go_at_call 94
    refine HF.out.mono ?_
    rintro e w' ⟨rfl, k, v', dk, rfl, hF⟩
    have hcv : (convert 26 9 (.slice (some ⟨w.heap.size, 0, none⟩) (Lib.nDigits u) 24)).run Tryd.prog ((putRow (fun (b : UInt8) => Value.int .u8 (b.toNat : Int)) (w.alloc (.cells Lib.zeros24 136)) w.heap.size 0 dk).drewN k) = .ok (.string (bs (Lib.decDigits u))) ((putRow (fun (b : UInt8) => Value.int .u8 (b.toNat : Int)) (w.alloc (.cells Lib.zeros24 136)) w.heap.size 0 dk).drewN k) := by
      have h := run_convert_bytes_back (P := Tryd.prog) ((putRow (fun (b : UInt8) => Value.int .u8 (b.toNat : Int)) (w.alloc (.cells Lib.zeros24 136)) w.heap.size 0 dk).drewN k) 26 9 5 ⟨w.heap.size, 0, none⟩ 24 (Lib.decDigits u) Tryd.underlying26 Tryd.underlying5 Tryd.underlying9 (fun j hj => by
        rw [Lib.row_is_numeral hF j hj, Lib.add_plain, World.cell?_drewN]
        exact cell?_putRow (fun (b : UInt8) => Value.int .u8 (b.toNat : Int)) _ w.heap.size 0 _ dk HH0.out (by rw [hF.size, Array.size_replicate]) j (by rw [hF.size]; rw [Lib.decDigits_length] at hj; exact hj))
      rw [Lib.decDigits_length] at h
      exact h
    go_wp2
    go_ret
    exact ⟨rfl, fin_pos0 _ _ _ _⟩

theorem fmtUint (u : Nat) (hu64 : u < 18446744073709551616) (w : World) (h : Tab10 w) :
    Calls Tryd.prog 72 #[.int .u64 u, .int .i64 10] w fun e w' => e = .returned (.string (bs (Lib.decDigits u))) ∧ Gr w w' := by
  have H := Lib.hid (fmtUintI u hu64 w h)
  go_enter Tryd.func72, Tryd.ntmps72
  go_wp2_with (first | (go_at_call 84; refine H.out.mono ?_; rintro e w1 ⟨rfl, hg1⟩))
  go_ret
  exact ⟨rfl, hg1⟩
end Go.Proofs.YthimnfdoeplebaaDoor
