/- setDigits: the digits of a number stand in the buffer, and how many are left without the noughts at the end. -/
import Derived.Test.YtoachnjapfakdaaGreatDoorNdE
namespace Go.Proofs.YtoachnjapfakdaaGreatDoor
open Go Go.RowKit Go.Sort

theorem gr_putRow {a w : World} (h : Gr a w) {H off : Nat} (hH : a.heap.size ≤ H) (d : Array UInt8) : Gr a (putRow (fun (b : UInt8) => Value.int .u8 (b.toNat : Int)) w H off d) := by
  refine Below.trans h ⟨rfl, rfl, rfl, by simp, fun k hk => ?_⟩
  simp only [putRow, mapBlock, Array.getElem?_modify]
  rw [if_neg (by omega)]
theorem arr_ext {l : List UInt8} (j : Nat) (hj : j < l.length) : (l.map fun b => (b.toNat : Int)).getD j 0 = (l[j].toNat : Int) := by
  rw [List.getD_eq_getElem?_getD, List.getElem?_map, List.getElem?_eq_getElem hj]; rfl

theorem fmtTen (H nd cap d : Nat) (cs : Array Value) (T : TypeId) (a w : World) (hg : Gr a w) (ha : a.heap.size ≤ H) (hH : w.heap[H]? = some (.cells cs T (0, 0))) (hcs : ∀ j, j < nd → cs[j]? = some (.int .u8 0))
    (hn : Lib.nDigits d = nd) (hn2 : nd ≤ 18) (hd2 : d < 1000000000000000000) (hd3 : d < 10 ^ nd) :
    Calls Tryz.prog 68 #[.slice (some ⟨H, 0, none⟩) nd cap, .int .u64 d] w fun e w' => e = .returned (.tuple #[]) ∧ RdAt w' H 0 (letters d) ∧ Gr a w' := by
  have hs : (Array.replicate nd (0 : UInt8)).size = nd := Array.size_replicate
  have hH' : Holds (fun (b : UInt8) => Value.int .u8 (b.toNat : Int)) w H 0 (Array.replicate nd (0 : UInt8)) := fun j hj => by
    rw [hs] at hj
    refine ⟨?_, blk_free hH _⟩
    rw [blk_cell hH, Nat.zero_add, hcs j hj, getElem!_pos _ j (by rw [hs]; exact hj)]
    simp
  have hc := Tryz.internal_strconv_formatBase10 H 0 cap d (Array.replicate nd (0 : UInt8)) w hH' (by rw [hs]; exact hd3) (by omega) (by rw [hs]; omega)
  rw [hs] at hc
  refine hc.mono fun e w' => ?_
  rintro ⟨rfl, n, v', dk, rfl, hI⟩
  refine ⟨rfl, ⟨fun i hi => ?_, (letters_dig d).byt⟩, (gr_putRow hg ha dk).drewN n⟩
  have hi' : i < (Lib.decDigits d).length := by simpa [letters] using hi
  have hin : i < nd := by rw [Lib.decDigits_length, hn] at hi'; exact hi'
  rw [World.cell?_drewN, cell?_putRow (fun (b : UInt8) => Value.int .u8 (b.toNat : Int)) w H 0 _ dk hH' (by rw [hI.size, hs]) i (by rw [hI.size]; exact hin)]
  subst hn
  rw [show letters d = (Lib.decDigits d).map fun b => (b.toNat : Int) from rfl, arr_ext i hi', Lib.row_is_numeral hI i hi']

set_option maxRecDepth 100000 in
set_option maxHeartbeats 2000000 in
theorem setDigitsW (H nd d S : Nat) (P : Int) (cs : Array Value) (T : TypeId) (a w : World) (hg : Gr a w) (ha : a.heap.size ≤ H) (hH : w.heap[H]? = some (.cells cs T (0, 0))) (hcs : ∀ j, j < 32 → cs[j]? = some (.int .u8 0))
    (hd : 1 ≤ d) (hd2 : d < 1000000000000000000) (hn : Lib.nDigits d = nd) (hP : -100 ≤ P ∧ P ≤ 100) (hS : (strip (letters d)).length = S) :
    Calls Tryz.prog 56 #[.slice (some ⟨H, 0, none⟩) 32 32, .int .u64 d, .int .i64 P, .int .i64 (nd : Nat)] w fun e w' =>
      e = .returned (.tuple #[.int .i64 ((nd : Int) + P), .int .i64 (S : Nat)]) ∧ RdAt w' H 0 (letters d) ∧ Gr a w' := by
  have hn2 : nd ≤ 18 := by rw [← hn]; exact nDig_le 17 d (by omega)
  have hd3 : d < 10 ^ nd := by rw [← hn]; exact Lib.lt_pow_nDigits d
  have HF := fun cap => Lib.hid (fmtTen H nd cap d cs T a w hg ha hH (fun j hj => hcs j (by omega)) hn hn2 hd2 hd3)
  have hlen : (letters d).length = nd := by rw [letters_length, hn]
  have hst : strip (letters d) ≠ [] := strip_ne hd
  generalize letters d = ds at *
  have HD := Lib.hid hlen
  have HS := Lib.hid hS
  have HST := Lib.hid hst
  have HG0 := Lib.hid hg
  have HH := Lib.hid hH
  clear hg hH hcs hn hd3 hlen hst hS
  go_enter Tryz.func56, Tryz.ntmps56
  go_wp2_with (first | (go_at_call 68; refine (HF _).out.mono ?_; rintro e W ⟨rfl, hR, hG⟩))
  have HG := Lib.hid hG
  clear hG
  go_loopw [3] (fun i wr => ∃ k : Nat, i = .int .i64 ((nd : Int) - k) ∧ Tail ds k ∧ RdAt wr H 0 ds ∧ Gr a wr) (fun i _ => (intOf i).toNat)
  case atStart => exact ⟨0, by simp, tail_zero _, hR, HG.out⟩
  case round =>
    obtain ⟨k, rfl, hT, hRw, hGw⟩ := hrel
    have hkD : k ≤ nd := by have := hT.1; rw [HD.out] at this; exact this
    have HT := Lib.hid hT
    have HGw := Lib.hid hGw
    clear hT hGw
    by_cases hk : k < nd
    · obtain ⟨j, hj⟩ : ∃ j : Nat, (nd : Int) - k - 1 = (j : Int) := ⟨nd - 1 - k, by omega⟩
      have hjD : j < nd := by omega
      have ck := hRw.cell j (by rw [HD.out]; exact hjD)
      rw [Nat.zero_add] at ck
      have hjn : nd - 1 - k = j := by omega
      have hpos : 0 < (nd : Int) - k := by omega
      by_cases hx : ds.getD j 0 = 48
      · rw [hx] at ck
        have hT2 : Tail ds (k + 1) := tail_step HT.out (by rw [HD.out]; exact hk) (by rw [HD.out, hjn]; exact hx)
        have HT2 := Lib.hid hT2
        have HJ := Lib.hid hj
        have HR := Lib.hid hRw
        clear hT2 hjn hx hRw
        go_wp2
        go_roundw
        case rel => exact ⟨k + 1, by have := HJ.out; go_num, HT2.out, by first | exact HR.out | exact HR.out.drew, by first | exact HGw.out | exact HGw.out.drew⟩
        case measure => first | (simp [intOf]; done) | (simp [intOf]; omega)
      · have hst := tail_strip HT.out (.inr (by rw [HD.out, hjn]; exact hx))
        rw [HD.out] at hst
        have hSm : (nd : Int) - k = (S : Int) := by
          rw [← HS.out, ← hst, List.length_take, HD.out]; omega
        have HR := Lib.hid hRw
        generalize ds.getD j 0 = x at *
        have hS1 : 1 ≤ S := by omega
        obtain rfl : j = S - 1 := by omega
        clear hst hjn hRw hj
        go_wp2
        go_ret2
        exact ⟨rfl, HR.out, HGw.out⟩
    · obtain rfl : k = nd := by omega
      have hst := tail_strip HT.out (.inl HD.out.symm)
      rw [HD.out, Nat.sub_self, List.take_zero] at hst
      exact absurd hst.symm HST.out
end Go.Proofs.YtoachnjapfakdaaGreatDoor
