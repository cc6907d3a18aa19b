/- strconv.ParseUint of two digits to the base of sixteen. -/
import Derived.Test.YtpadpdmidiaeoaaDoorUrG
import Derived.LoopN
namespace Go.Proofs.YtpadpdmidiaeoaaDoor
open Go Go.RowKit

theorem lowerC (c : Int) (w : World) : Calls Tryd.prog 39 #[.int .u8 c] w fun e w' => e = .returned (.int .u8 (bits .or .u8 c 32)) ∧ w' = w := by
  go_enter Tryd.func39, Tryd.ntmps39
  go_wp2
  go_ret
  exact ⟨rfl, rfl⟩

/-- What the reader of numbers meets at a digit. -/
def Dig (c x : Int) : Prop := (c ≤ 57 ∧ IntKind.u8.wrap (c - 48) = x) ∨ (¬ c ≤ 57 ∧ ∃ l : Int, bits .or .u8 c 32 = l ∧ 97 ≤ l ∧ l ≤ 122 ∧ l - 97 + 10 = x)
theorem dig_of (n : Nat) (h : n < 16) : Dig ((hexB n).toNat : Int) n ∧ 48 ≤ ((hexB n).toNat : Int) ∧ ((((hexB n).toNat : Int)) == 95) = false := by
  have : ∀ m : Fin 16, (((hexB m.val).toNat : Int) ≤ 57 ∧ IntKind.u8.wrap (((hexB m.val).toNat : Int) - 48) = (m.val : Int)) ∨ (¬ ((hexB m.val).toNat : Int) ≤ 57 ∧ 97 ≤ bits .or .u8 ((hexB m.val).toNat : Int) 32 ∧ bits .or .u8 ((hexB m.val).toNat : Int) 32 ≤ 122 ∧ bits .or .u8 ((hexB m.val).toNat : Int) 32 - 97 + 10 = (m.val : Int)) := by decide +kernel
  have h2 : ∀ m : Fin 16, 48 ≤ ((hexB m.val).toNat : Int) ∧ ((((hexB m.val).toNat : Int)) == 95) = false := by decide +kernel
  refine ⟨?_, h2 ⟨n, h⟩⟩
  rcases this ⟨n, h⟩ with h1 | ⟨h1, h3, h4, h5⟩
  · exact .inl h1
  · exact .inr ⟨h1, _, rfl, h3, h4, h5⟩

set_option maxRecDepth 100000 in
set_option maxHeartbeats 4000000 in
theorem parse2 (a b : Nat) (ha : a < 16) (hb : b < 16) (w : World) :
    Calls Tryd.prog 24 #[.string (bs [hexB a, hexB b]), .int .i64 16, .int .i64 8] w fun e w' => e = .returned (.tuple #[.int .u64 (a * 16 + b : Nat), .nilIface]) ∧ Gr w w' := by
  obtain ⟨c, W2, hcv, hrw, hg, hc1, hc2⟩ := bytes_of_str_rw [hexB a, hexB b] w (by simp [maxLen])
  obtain ⟨da, a1, a2⟩ := dig_of a ha
  obtain ⟨db, b1, b2⟩ := dig_of b hb
  have k0 : W2.cell? ⟨w.heap.size, 0, none⟩ = some (.int .u8 ((hexB a).toNat : Int)) := hrw.cell 0 (by simp [nums])
  have k1 : W2.cell? ⟨w.heap.size, 1, none⟩ = some (.int .u8 ((hexB b).toNat : Int)) := hrw.cell 1 (by simp [nums])
  have hcm : c ≤ 9223372036854775807 := by simp only [maxLen] at hc2; omega
  have hc1 : 2 ≤ c := hc1
  have hcv : (convert 9 29 (.string (bs [hexB a, hexB b]))).run Tryd.prog w = .ok (.slice (some ⟨w.heap.size, 0, none⟩) 2 c) W2 := hcv
  have hem : (bs [hexB a, hexB b]).toList.isEmpty = false := by simp [bs]
  have hsz : (bs [hexB a, hexB b]).size = 2 := rfl
  generalize bs [hexB a, hexB b] = S at *
  generalize ((hexB a).toNat : Int) = ca at *
  generalize ((hexB b).toNat : Int) = cb at *
  have HG := Lib.hid hg
  have u1 : IntKind.u64.wrap (a : Int) = (a : Int) := IntWalk.u64_in _ (by omega)
  have u2 : IntKind.u64.wrap (b : Int) = (b : Int) := IntWalk.u64_in _ (by omega)
  have u3 : IntKind.u64.wrap ((a : Int) * 16) = (a : Int) * 16 := IntWalk.u64_in _ (by omega)
  have u4 : IntKind.u64.wrap ((a : Int) * 16 + (b : Int)) = (a : Int) * 16 + (b : Int) := IntWalk.u64_in _ (by omega)
  clear hrw hg hc2
  have ha' : (a : Int) < 16 := by omega
  have hb' : (b : Int) < 16 := by omega
  rcases da with ⟨d1, d2⟩ | ⟨d1, l, d2, d3, d4, d5⟩ <;> rcases db with ⟨f1, f2⟩ | ⟨f1, m, f2, f3, f4, f5⟩
  all_goals
    go_enter Tryd.func24, Tryd.ntmps24
    go_upto_region 33 with fail
    obtain ⟨KK, hK⟩ : ∃ KK : Int, (1152921504606846976 : Int) = KK := ⟨_, rfl⟩
    have hKK : (10000 : Int) ≤ KK := by rw [← hK]; decide
    simp only [hK]
    have q1 : ¬ KK ≤ 0 := by omega
    have q2 : ¬ KK ≤ (a : Int) := by omega
    clear hK
    go_wp2
    refine wp_loop_rounds 3 ?_
    rw [rounds_succ]
    go_wp2_with (first | (go_at_call 39; go_must (refine (lowerC _ _).mono ?_); rintro e w3 ⟨rfl, hw⟩; obtain rfl := hw.symm))
    rw [rounds_succ]
    go_wp2_with (first | (go_at_call 39; go_must (refine (lowerC _ _).mono ?_); rintro e w3 ⟨rfl, hw⟩; obtain rfl := hw.symm))
    rw [rounds_succ]
    go_wp2
    go_ret2
    exact ⟨by go_num, HG.out⟩

theorem parsePub (a b : Nat) (ha : a < 16) (hb : b < 16) (w : World) :
    Calls Tryd.prog 15 #[.string (bs [hexB a, hexB b]), .int .i64 16, .int .i64 8] w fun e w' => e = .returned (.tuple #[.int .u64 (a * 16 + b : Nat), .nilIface]) ∧ Gr w w' := by
  have HP := Lib.hid (parse2 a b ha hb w)
  clear ha hb
  generalize bs [hexB a, hexB b] = S at *
  generalize a * 16 + b = n at *
  go_enter Tryd.func15, Tryd.ntmps15
  go_wp2_with (first
    | (go_at_call 24; go_must (with_reducible refine HP.out.mono ?_); rintro e w1 ⟨rfl, hg1⟩))
  go_ret2
  exact ⟨rfl, hg1⟩
end Go.Proofs.YtpadpdmidiaeoaaDoor
