/- A double's bits as bytes in the numbers' order, and back. -/
import Derived.Test.YthimnfdoeplebaaDoorNmFl
import Derived.Test.YthimnfdoeplebaaDoorNmFr
import Derived.Laws.BitsLemmas
namespace Go.Proofs.YthimnfdoeplebaaDoor
open Go Go.RowKit

theorem xor_top (a : Nat) (h : a < 2 ^ 63) : a ^^^ 2 ^ 63 = a + 2 ^ 63 := by
  apply Nat.eq_of_testBit_eq
  intro i
  rw [Nat.testBit_xor, Nat.testBit_two_pow, Nat.add_comm]
  rcases Nat.lt_trichotomy i 63 with hi | hi | hi
  · rw [Nat.testBit_two_pow_add_gt hi, decide_eq_false (by omega)]; simp
  · subst hi
    rw [Nat.testBit_two_pow_add_eq, Nat.testBit_lt_two_pow h]; simp
  · have h1 : 2 ^ 63 + a < 2 ^ i := by
      have : 2 ^ 64 ≤ 2 ^ i := Nat.pow_le_pow_right (by omega) (by omega)
      omega
    have h2 : a < 2 ^ i := by omega
    rw [Nat.testBit_lt_two_pow h1, Nat.testBit_lt_two_pow h2, decide_eq_false (by omega)]; rfl
theorem wraps_u64 (n : Int) (h₀ : 0 ≤ n) (h₁ : n < 2 ^ 64) : IntKind.u64.wrap n = n := by rw [IntKind.wrap_u64]; omega
theorem and63 (x : Int) (h0 : 0 ≤ x) (h1 : x < 18446744073709551616) : bits .and .u64 x 9223372036854775807 = x % 9223372036854775808 := bits_mask .u64 64 (by decide) wraps_u64 63 (by decide) x h0 h1
theorem xor63 (a : Nat) (h : a < 9223372036854775808) : bits .xor .u64 (a : Int) 9223372036854775808 = ((a + 9223372036854775808 : Nat) : Int) := by
  have h1 : (9223372036854775808 : Int) = ((9223372036854775808 : Nat) : Int) := rfl
  rw [h1]
  have hp : (18446744073709551616 : Nat) = 2 ^ 64 := by decide
  simp only [bits, BitVec.ofInt_natCast, BitVec.toNat_xor, BitVec.toNat_ofNat]
  have e1 : a % 2 ^ IntKind.u64.bits = a := Nat.mod_eq_of_lt (by show a < 2 ^ 64; omega)
  have e2 : 9223372036854775808 % 2 ^ IntKind.u64.bits = 2 ^ 63 := by decide
  rw [e1, e2, xor_top a h]
  exact wraps_u64 _ (by omega) (by omega)

/-- The bytes of a double's bits in the numbers' order. -/
def ob (a : Nat) : Array Value := #[.int .u8 ((a / 72057594037927936 + 128 : Nat) : Int), .int .u8 ((a / 281474976710656 % 256 : Nat) : Int), .int .u8 ((a / 1099511627776 % 256 : Nat) : Int), .int .u8 ((a / 4294967296 % 256 : Nat) : Int),
  .int .u8 ((a / 16777216 % 256 : Nat) : Int), .int .u8 ((a / 65536 % 256 : Nat) : Int), .int .u8 ((a / 256 % 256 : Nat) : Int), .int .u8 ((a % 256 : Nat) : Int)]

set_option maxRecDepth 100000 in
set_option maxHeartbeats 2000000 in
theorem specOrd (a : Nat) (h : a < 9223372036854775808) (w : World) :
    Calls Tryd.prog 32 #[.int .u64 (a : Int)] w fun e w' => e = .returned (.agg (ob a)) ∧ Gr w w' := by
  obtain ⟨X, hX⟩ : ∃ X, a + 9223372036854775808 = X := ⟨_, rfl⟩
  have hx := xor63 a h
  rw [hX] at hx
  have hsh : (a : Int) / 9223372036854775808 = 0 := by omega
  have hlt : X < 18446744073709551616 := by omega
  obtain ⟨b0, hb0⟩ : ∃ b : Nat, a / 72057594037927936 + 128 = b := ⟨_, rfl⟩
  have hc0 : (X : Int) / 72057594037927936 = (b0 : Int) := by omega
  obtain ⟨b1, hb1⟩ : ∃ b : Nat, a / 281474976710656 % 256 = b := ⟨_, rfl⟩
  have hc1 : (X : Int) / 281474976710656 % 256 = (b1 : Int) := by omega
  obtain ⟨b2, hb2⟩ : ∃ b : Nat, a / 1099511627776 % 256 = b := ⟨_, rfl⟩
  have hc2 : (X : Int) / 1099511627776 % 256 = (b2 : Int) := by omega
  obtain ⟨b3, hb3⟩ : ∃ b : Nat, a / 4294967296 % 256 = b := ⟨_, rfl⟩
  have hc3 : (X : Int) / 4294967296 % 256 = (b3 : Int) := by omega
  obtain ⟨b4, hb4⟩ : ∃ b : Nat, a / 16777216 % 256 = b := ⟨_, rfl⟩
  have hc4 : (X : Int) / 16777216 % 256 = (b4 : Int) := by omega
  obtain ⟨b5, hb5⟩ : ∃ b : Nat, a / 65536 % 256 = b := ⟨_, rfl⟩
  have hc5 : (X : Int) / 65536 % 256 = (b5 : Int) := by omega
  obtain ⟨b6, hb6⟩ : ∃ b : Nat, a / 256 % 256 = b := ⟨_, rfl⟩
  have hc6 : (X : Int) / 256 % 256 = (b6 : Int) := by omega
  obtain ⟨b7, hb7⟩ : ∃ b : Nat, a % 256 = b := ⟨_, rfl⟩
  have hc7 : (X : Int) % 256 = (b7 : Int) := by omega
  have hob : ob a = #[.int .u8 (b0 : Int), .int .u8 (b1 : Int), .int .u8 (b2 : Int), .int .u8 (b3 : Int), .int .u8 (b4 : Int), .int .u8 (b5 : Int), .int .u8 (b6 : Int), .int .u8 (b7 : Int)] := by
    unfold ob; rw [hb0, hb1, hb2, hb3, hb4, hb5, hb6, hb7]
  rw [hob]
  have hb8 : b0 < 256 := by omega
  clear hX hob hb0 hb1 hb2 hb3 hb4 hb5 hb6 hb7
  go_enter Tryd.func32, Tryd.ntmps32
  go_wp2
  refine wp_loop_rounds 9 ?_
  rw [rounds_succ]
  go_wp2
  rw [rounds_succ]
  go_wp2
  rw [rounds_succ]
  go_wp2
  rw [rounds_succ]
  go_wp2
  rw [rounds_succ]
  go_wp2
  rw [rounds_succ]
  go_wp2
  rw [rounds_succ]
  go_wp2
  rw [rounds_succ]
  go_wp2
  rw [rounds_succ]
  go_wp2
  have zz : ∀ i v, (#[.int .u8 (b0 : Int), .int .u8 (b1 : Int), .int .u8 (b2 : Int), .int .u8 (b3 : Int), .int .u8 (b4 : Int), .int .u8 (b5 : Int), .int .u8 (b6 : Int), .int .u8 (b7 : Int)] : Array Value)[i]? = some v → ((w.alloc (.cells #[.int .u8 (b0 : Int), .int .u8 (b1 : Int), .int .u8 (b2 : Int), .int .u8 (b3 : Int), .int .u8 (b4 : Int), .int .u8 (b5 : Int), .int .u8 (b6 : Int), .int .u8 (b7 : Int)] 52)).alloc (.cells #[.int .u8 (b0 : Int), .int .u8 (b1 : Int), .int .u8 (b2 : Int), .int .u8 (b3 : Int), .int .u8 (b4 : Int), .int .u8 (b5 : Int), .int .u8 (b6 : Int), .int .u8 (b7 : Int)] 52)).cell? ⟨w.heap.size, i, none⟩ = some v := fun i v h => (blk_cell (((Gr.refl _).alloc _).heap (heap_alloc_new w _)) i).trans h
  have z0 := zz 0 _ rfl
  have z1 := zz 1 _ rfl
  have z2 := zz 2 _ rfl
  have z3 := zz 3 _ rfl
  have z4 := zz 4 _ rfl
  have z5 := zz 5 _ rfl
  have z6 := zz 6 _ rfl
  have z7 := zz 7 _ rfl
  exact bodyPost_ret (v := .agg #[.int .u8 (b0 : Int), .int .u8 (b1 : Int), .int .u8 (b2 : Int), .int .u8 (b3 : Int), .int .u8 (b4 : Int), .int .u8 (b5 : Int), .int .u8 (b6 : Int), .int .u8 (b7 : Int)]) (by simp [results, Tryd.results32, go_sem, z0, z1, z2, z3, z4, z5, z6, z7]) rfl ⟨rfl, ((Gr.refl w).alloc _).alloc _⟩

theorem ob_beZ (a : Nat) (h : a < 9223372036854775808) : Lib.beZ ([((a / 72057594037927936 : Nat) : Int), ((a / 281474976710656 % 256 : Nat) : Int), ((a / 1099511627776 % 256 : Nat) : Int), ((a / 4294967296 % 256 : Nat) : Int),
    ((a / 16777216 % 256 : Nat) : Int), ((a / 65536 % 256 : Nat) : Int), ((a / 256 % 256 : Nat) : Int), ((a % 256 : Nat) : Int)]) = a := by
  simp only [Lib.beZ, Lib.beFromZ]
  omega

set_option maxRecDepth 100000 in
set_option maxHeartbeats 2000000 in
theorem convD (a : Nat) (h : a < 9223372036854775808) (b : Nat) (w : World) (hw : w.heap[b]? = some (.cells (ob a) 52 (0, 0))) :
    Calls Tryd.prog 55 #[.slice (some ⟨b, 0, none⟩) 8 8] w fun e w' => e = .returned (.float .f64 a) ∧ Gr (w.setCell ⟨b, 0, none⟩ (.int .u8 ((a / 72057594037927936 : Nat) : Int))) w' := by
  obtain ⟨x, hx⟩ : ∃ x, a / 72057594037927936 = x := ⟨_, rfl⟩
  have hx1 : x < 128 := by omega
  have k0 : w.cell? ⟨b, 0, none⟩ = some (.int .u8 ((x + 128 : Nat) : Int)) := by rw [blk_cell hw 0, ← hx]; rfl
  have f0 : w.frozen? ⟨b, 0, none⟩ = false := blk_free hw 0
  have hb : bits .and .u8 ((x + 128 : Nat) : Int) 128 = 128 := (fr_pos _ (by omega) (by omega)).2
  have hb2 : bits .and .u8 ((x + 128 : Nat) : Int) 127 = (x : Int) := by rw [(fr_pos _ (by omega) (by omega)).1]; omega
  obtain ⟨Y, hY⟩ : ∃ Y, x + 128 = Y := ⟨_, rfl⟩
  rw [hY] at k0 hb hb2
  clear hY
  have hfb := frombits a
  have hW := blk_set hw 0 (.int .u8 (x : Int))
  have hz := ob_beZ a h
  rw [hx] at hz ⊢
  have hlt : ∀ k : Nat, a / k % 256 < 256 := fun k => Nat.mod_lt _ (by omega)
  have hrd : RdAt (w.setCell ⟨b, 0, none⟩ (.int .u8 (x : Int))) b 0 [(x : Int), ((a / 281474976710656 % 256 : Nat) : Int), ((a / 1099511627776 % 256 : Nat) : Int), ((a / 4294967296 % 256 : Nat) : Int),
    ((a / 16777216 % 256 : Nat) : Int), ((a / 65536 % 256 : Nat) : Int), ((a / 256 % 256 : Nat) : Int), ((a % 256 : Nat) : Int)] := by
    refine ⟨fun i hi => ?_, ?_⟩
    · rw [Nat.zero_add, blk_cell hW i]
      simp only [List.length_cons, List.length_nil] at hi
      have : i = 0 ∨ i = 1 ∨ i = 2 ∨ i = 3 ∨ i = 4 ∨ i = 5 ∨ i = 6 ∨ i = 7 := by omega
      rcases this with rfl | rfl | rfl | rfl | rfl | rfl | rfl | rfl <;> rfl
    · intro z hz
      simp only [List.mem_cons, List.not_mem_nil, or_false] at hz
      rcases hz with rfl | rfl | rfl | rfl | rfl | rfl | rfl | rfl <;> omega
  have HG := Tryd.binary_BE_Uint64_z ⟨b, 0, none⟩ 8 8 _ (w.setCell ⟨b, 0, none⟩ (.int .u8 (x : Int))) (Nat.le_refl _) (by simp) (fun i hi => by rw [Lib.addr_add]; exact hrd.cell i hi) (wf_byt hrd.byt)
  rw [show ∀ p q r s t u v y : Int, List.take 8 [p, q, r, s, t, u, v, y] = [p, q, r, s, t, u, v, y] from fun _ _ _ _ _ _ _ _ => rfl, hz] at HG
  have HG := Lib.hid HG
  have HLT := Lib.hid h
  clear hx hW hz hrd hlt hw h
  go_enter Tryd.func55, Tryd.ntmps55
  go_wp2_with (first | (go_at_call 74; refine HG.out.mono ?_; rintro e w1 ⟨rfl, hg1⟩))
  go_ret
  exact ⟨rfl, hg1⟩

theorem binD (a : Nat) (h : a < 9223372036854775808) (w : World) :
    Calls Tryd.prog 31 #[.agg (ob a)] w fun e w' => e = .returned (.float .f64 a) ∧ Gr w w' := by
  have HC := fun w b hb => Lib.hid (convD a h b w hb)
  go_enter Tryd.func31, Tryd.ntmps31
  go_wp2_with (first | (go_at_call 55; refine (HC _ w.heap.size (heap_alloc_new w _)).out.mono ?_; rintro e w1 ⟨rfl, hg1⟩))
  go_ret
  exact ⟨rfl, Gr.trans (((Gr.refl w).alloc _).setCell (Nat.le_refl _) _) hg1⟩
end Go.Proofs.YthimnfdoeplebaaDoor
