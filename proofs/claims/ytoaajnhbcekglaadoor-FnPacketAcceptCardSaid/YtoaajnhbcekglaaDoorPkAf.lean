/- FnPacketAccept: plain facts. -/
import Derived.Test.YtoaajnhbcekglaaDoorPkAe
import Derived.Laws.BitsLemmas
namespace Go.Proofs.YtoaajnhbcekglaaDoor
open Go Go.RowKit

theorem and_u32 (x : Int) (h0 : 0 ≤ x) (h1 : x < 4294967296) : bits .and .u32 x 65535 = x % 65536 := by
  obtain ⟨n, rfl⟩ := Int.eq_ofNat_of_zero_le h0
  have := bits_mask .u32 32 (by decide) (fun n h0 h1 => IntWalk.u32_in _ (by omega)) 16 (by decide) n (by omega) (by omega)
  simpa using this
theorem and_u8 (x : Int) (h0 : 0 ≤ x) (h1 : x < 256) : (0 ≤ bits .andNot .u8 x 1 ∧ bits .andNot .u8 x 1 < 256) ∧ bits .and .u8 (bits .andNot .u8 x 1) 1 = 0 := by
  have : ∀ n : Fin 256, (0 ≤ bits .andNot .u8 (n.val : Int) 1 ∧ bits .andNot .u8 (n.val : Int) 1 < 256) ∧ bits .and .u8 (bits .andNot .u8 (n.val : Int) 1) 1 = 0 := by decide +kernel
  obtain ⟨n, rfl⟩ := Int.eq_ofNat_of_zero_le h0
  exact this ⟨n, by omega⟩
theorem two_of (x : Int) (h0 : 0 ≤ x) (h1 : x < 65536) : x / 256 % 256 * 256 + x % 256 = x := by omega
theorem four_of (x : Int) (h0 : 0 ≤ x) (h1 : x < 4294967296) : x / 16777216 % 256 * 16777216 + x / 65536 % 256 * 65536 + x / 256 % 256 * 256 + x % 256 = x := by omega

set_option maxHeartbeats 2000000 in
/-- What the reader sees of the bytes. -/
theorem acc_sees (V0 TY FL V8 V10 V16 A0 A1 S16 T16 S T : Int) (n : Nat) (ys : List Int) (hn : ys.length = n) (hn2 : n < 65536) (h0 : 0 ≤ V0 ∧ V0 < 65536) (h8 : 0 ≤ V8 ∧ V8 < 65536) (h10 : 0 ≤ V10 ∧ V10 < 65536) (h16 : 0 ≤ V16 ∧ V16 < 65536)
    (hS : 0 ≤ S ∧ S < 4294967296) (hT : 0 ≤ T ∧ T < 4294967296) (hS7 : 0 ≤ S16 ∧ S16 < 65536) (hT7 : 0 ≤ T16 ∧ T16 < 65536) (hs : V8 < 315 → S16 = S ∧ T16 = T) (xs : List Int) (hx : accH V0 TY FL V8 V10 V16 A0 A1 S16 T16 S T n ++ ys = xs) :
    xs.length = 41 + n ∧ nat2 (xs.drop 28) = 0 ∧ nat2 (xs.drop 20) = (41 : Nat) ∧ nat2 (xs.drop 18) = ((xs.length - 41 : Nat) : Int) ∧ nat2 xs = V0 ∧ xs.getD 4 0 = TY ∧ xs.getD 5 0 = FL ∧ nat2 (xs.drop 8) = V8 ∧ nat2 (xs.drop 10) = V10 ∧ nat2 (xs.drop 16) = V16 ∧
    xs.getD 22 0 = A0 ∧ xs.getD 23 0 = A1 ∧ unitOf (nat2 (xs.drop 8)) (nat4 (xs.drop 32)) (nat2 (xs.drop 12)) = S ∧ unitOf (nat2 (xs.drop 8)) (nat4 (xs.drop 36)) (nat2 (xs.drop 14)) = T ∧ xs.drop 41 = ys := by
  have hl : xs.length = 41 + n := by rw [← hx, List.length_append, accH_len, hn]
  obtain ⟨a0, a1⟩ := h0; obtain ⟨b0, b1⟩ := h8; obtain ⟨c0, c1⟩ := h10; obtain ⟨d0, d1⟩ := h16; obtain ⟨e0, e1⟩ := hS; obtain ⟨f0, f1⟩ := hT; obtain ⟨g0, g1⟩ := hS7; obtain ⟨i0, i1⟩ := hT7
  by_cases hv : 315 ≤ V8
  · have e : accH V0 TY FL V8 V10 V16 A0 A1 S16 T16 S T n = be2 V0 ++ [0, 0, TY, FL, 0, 0] ++ be2 V8 ++ be2 V10 ++ be2 S16 ++ be2 T16 ++ be2 V16 ++ be2 n ++ [0, 41, A0, A1, 0, 0, 0, 0, 0, 0, 0, 0] ++ (be4 S ++ be4 T) ++ [0] := by unfold accH; rw [if_pos hv]
    rw [e] at hx
    simp only [be2, be4, List.cons_append, List.nil_append] at hx
    have h8' : nat2 (xs.drop 8) = V8 := by subst hx; exact two_of V8 b0 b1
    refine ⟨hl, ?_, ?_, ?_, ?_, ?_, ?_, h8', ?_, ?_, ?_, ?_, ?_, ?_, ?_⟩
    · subst hx; rfl
    · subst hx; rfl
    · rw [hl, Nat.add_sub_cancel_left]; subst hx; exact two_of n (by omega) (by omega)
    · subst hx; exact two_of V0 a0 a1
    · subst hx; rfl
    · subst hx; rfl
    · subst hx; exact two_of V10 c0 c1
    · subst hx; exact two_of V16 d0 d1
    · subst hx; rfl
    · subst hx; rfl
    · rw [h8', unitOf, if_pos hv]; subst hx; exact four_of S e0 e1
    · rw [h8', unitOf, if_pos hv]; subst hx; exact four_of T f0 f1
    · subst hx; rfl
  · have e : accH V0 TY FL V8 V10 V16 A0 A1 S16 T16 S T n = be2 V0 ++ [0, 0, TY, FL, 0, 0] ++ be2 V8 ++ be2 V10 ++ be2 S16 ++ be2 T16 ++ be2 V16 ++ be2 n ++ [0, 41, A0, A1, 0, 0, 0, 0, 0, 0, 0, 0] ++ [0, 0, 0, 0, 0, 0, 0, 0] ++ [0] := by unfold accH; rw [if_neg hv]
    rw [e] at hx
    simp only [be2, List.cons_append, List.nil_append] at hx
    have h8' : nat2 (xs.drop 8) = V8 := by subst hx; exact two_of V8 b0 b1
    obtain ⟨s1, s2⟩ := hs (by omega)
    refine ⟨hl, ?_, ?_, ?_, ?_, ?_, ?_, h8', ?_, ?_, ?_, ?_, ?_, ?_, ?_⟩
    · subst hx; rfl
    · subst hx; rfl
    · rw [hl, Nat.add_sub_cancel_left]; subst hx; exact two_of n (by omega) (by omega)
    · subst hx; exact two_of V0 a0 a1
    · subst hx; rfl
    · subst hx; rfl
    · subst hx; exact two_of V10 c0 c1
    · subst hx; exact two_of V16 d0 d1
    · subst hx; rfl
    · subst hx; rfl
    · rw [h8', unitOf, if_neg hv, ← s1]; subst hx; exact two_of S16 g0 g1
    · rw [h8', unitOf, if_neg hv, ← s2]; subst hx; exact two_of T16 i0 i1
    · subst hx; rfl
end Go.Proofs.YtoaajnhbcekglaaDoor
