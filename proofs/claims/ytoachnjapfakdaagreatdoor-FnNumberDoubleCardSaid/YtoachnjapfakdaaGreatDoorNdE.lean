/- shortFloat of a whole number below two to the power of 53: the walk. -/
import Derived.Test.YtoachnjapfakdaaGreatDoorNdD
namespace Go.Proofs.YtoachnjapfakdaaGreatDoor
open Go Go.RowKit

theorem bit_1 (q : Nat) (h : q < 9007199254740992) : bits .and .i64 (q : Int) 1 = ((q % 2 : Nat) : Int) := by
  have h1 : (1 : Int) = ((1 : Nat) : Int) := rfl
  rw [h1]
  simp only [bits, BitVec.ofInt_natCast, BitVec.toNat_and, BitVec.toNat_ofNat]
  have e1 : q % 2 ^ IntKind.i64.bits = q := Nat.mod_eq_of_lt (by show q < 2 ^ 64; omega)
  have e2 : 1 % 2 ^ IntKind.i64.bits = 1 := by decide
  rw [e1, e2, Nat.and_one_is_mod]
  rw [IntKind.wrap_i64]; omega

set_option maxRecDepth 100000 in
set_option maxHeartbeats 2000000 in
theorem shortWalk (N k q m p l s M o Um UM dm dM xm xM : Nat) (sk : Bool) (hk : k ≤ 52) (hp16 : p ≤ 16) (hls : l ≤ 60) (hs : (s : Int) = k + 8 - l) (hs8 : s ≤ 8) (hm : 9223372036854775808 ≤ m) (hm2 : m < 18446744073709550000) (hq : m / 2048 = q)
    (hsk : sk = decide (m = 9223372036854775808)) (hxm : xm + (if sk then 512 else 1024) = m) (hxM : xM = m + 1024) (ho : q % 2 = o)
    (hp : p = if sk then pS k else pK k) (hl : lp p = l) (hM : pmT p = M) (hM0 : 0 < M) (hM2 : M < 18446744073709551616)
    (hUm : unr (xm * M) (18446744073709551616 * 2 ^ s) = Um) (hUM : unr (xM * M) (18446744073709551616 * 2 ^ s) = UM) (hmm : xm * M % 18446744073709551616 ≠ 1) (hmM : xM * M % 18446744073709551616 ≠ 1)
    (hUmb : Um < 4000000000000000000) (hUMb : UM < 4000000000000000000) (hUM1 : o ≤ UM) (hdm : (Um + o + 3) / 4 = dm) (hdM : (UM - o) / 4 = dM)
    (hD : (dm ≤ dM / 10 * 10 ∧ Dsp N (dM / 10) (-((p : Int) - 1))) ∨ (¬ dm ≤ dM / 10 * 10 ∧ dM = dm ∧ Dsp N dm (-(p : Int)))) (w : World) (hT : PowT w) :
    Calls Tryz.prog 63 #[.int .u64 (m : Nat), .int .i64 (-(k : Int) - 11)] w fun e w' => ∃ d P, e = .returned (.tuple #[.int .u64 (d : Nat), .int .i64 P]) ∧ Dsp N d P ∧ Gr w w' := by
  have hq2 : q < 9007199254740992 := by omega
  have b1 := bit_1 q hq2
  rw [ho] at b1
  have hqi : (m : Int) / 2048 = (q : Int) := by omega
  have c2 := fun w => Lib.hid (log2p p hp16 w)
  rw [hl] at c2
  have c3 := fun H w1 (hH : w1.heap[H]? = some (.cells #[.int .u64 0, .int .u64 0, .int .i64 0] 111 (0, 0))) (hg : Gr w w1) (ha : w.heap.size ≤ H) => Lib.hid (prescaleW H p (-(k : Int) - 11) l s w w1 hH hp16 hT hg ha (by omega) (by omega) (by omega))
  rw [hM] at c3
  have hmi : ((m : Int) = 9223372036854775808) = (sk = true) := by
    rw [hsk, decide_eq_true_eq]; exact propext ⟨fun h => by omega, fun h => by omega⟩
  obtain ⟨UU, hU1, hU2⟩ : ∃ UU : Int → Int, UU xm = Um ∧ UU xM = UM := ⟨fun x => if x = xm then Um else UM, if_pos rfl, if_neg (by rw [hxM]; omega)⟩
  have c4 : ∀ (x : Int) H w1, (x = xm ∨ x = xM) → w1.heap[H]? = some (.cells #[.int .u64 (M : Nat), .int .u64 0, .int .i64 (s : Nat)] 111 (0, 0)) →
      Hid (Calls Tryz.prog 76 #[.int .u64 x, .pointer (some ⟨H, 0, none⟩)] w1 fun e' w' => e' = .returned (.int .u64 (UU x)) ∧ Gr w1 w') := by
    rintro x H w1 (rfl | rfl) hH
    · have := uscaleW xm M s H w1 (by split at hxm <;> omega) hM0 hM2 hs8 hH hmm
      rw [hUm] at this; rw [hU1]; exact Lib.hid this
    · have := uscaleW xM M s H w1 (by omega) hM0 hM2 hs8 hH hmM
      rw [hUM] at this; rw [hU2]; exact Lib.hid this
  have c1 := fun w => Lib.hid (log10n k hk w)
  have c1' := fun w => Lib.hid (skewedN k hk w)
  have ho1 : o ≤ 1 := by omega
  have hdmI : ((Um : Int) + o + 3) / 4 = (dm : Int) := by omega
  have hdMI : ((UM : Int) + -(o : Int)) / 4 = (dM : Int) := by omega
  have hdMb : dM < 1000000000000000000 := by omega
  have hx1 : xm < 18446744073709551616 := by split at hxm <;> omega
  have hNew := fun (a : World) o => Lib.hid (heap_alloc_new a o)
  clear hUm hUM hmm hmM hq hdm hdM hM hsk hl
  replace hT := Lib.hid hT
  replace hxM : ((m : Int) + 1024) = (xM : Int) := by omega
  rcases hD with ⟨hd1, hd2⟩ | ⟨hd1, hd2, hd3⟩
  · replace hd2 := Lib.hid hd2
    cases sk
    all_goals simp only [Bool.false_eq_true, if_false, if_true] at hp hxm hmi
    · replace hxm : ((m : Int) - 1024) = (xm : Int) := by omega
      rw [← hp] at c1
      clear c1' hp
      go_enter Tryz.func63, Tryz.ntmps63
      go_wp2_with (first
      | (go_at_call 58; refine (c1 _).out.mono ?_; rintro e w1 ⟨rfl, hw1⟩; obtain rfl := hw1.symm)
      | (go_at_call 75; refine (c2 _).out.mono ?_; rintro e w1 ⟨rfl, hw1⟩; obtain rfl := hw1.symm)
      | (go_at_call 74; refine (c3 _ _ (heap_alloc_new _ _) ((Gr.refl _).alloc _) (Nat.le_refl _)).out.mono ?_; rintro e w2 ⟨rfl, hg2, hh2⟩)
      | (go_at_call 76; have hk3 := hg3; refine (c4 _ _ _ (.inr rfl) (hg3.heap hh2)).out.mono ?_; rintro e w4 ⟨rfl, hg4⟩)
      | (go_at_call 76; refine (c4 _ _ _ (.inl rfl) hh2).out.mono ?_; rintro e w3 ⟨rfl, hg3⟩)
      | (go_at_call 77; refine (nudge _ _ (by omega) (by omega) (by omega) _ (by omega)).mono ?_; rintro e w1 ⟨rfl, hw1⟩; obtain rfl := hw1.symm)
      | (go_at_call 78; refine (ceilU _ (by omega) (by omega) _).mono ?_; rintro e w1 ⟨rfl, hw1⟩; obtain rfl := hw1.symm)
      | (go_at_call 79; refine (floorU _ (by omega) (by omega) _).mono ?_; rintro e w1 ⟨rfl, hw1⟩; obtain rfl := hw1.symm))
      go_ret2
      exact ⟨dM / 10, _, rfl, hd2.out, hg2.trans (hg3.trans hg4)⟩
    · replace hxm : ((m : Int) - 512) = (xm : Int) := by omega
      have hmv : (m : Int) = 9223372036854775808 := of_eq_true hmi
      have hmb : ((m : Int) == 9223372036854775808) = true := by rw [hmv]; rfl
      clear hmv
      rw [← hp] at c1'
      clear c1 hp
      go_enter Tryz.func63, Tryz.ntmps63
      go_wp2_with (first
      | (go_at_call 73; refine (c1' _).out.mono ?_; rintro e w1 ⟨rfl, hw1⟩; obtain rfl := hw1.symm)
      | (go_at_call 75; refine (c2 _).out.mono ?_; rintro e w1 ⟨rfl, hw1⟩; obtain rfl := hw1.symm)
      | (go_at_call 74; refine (c3 _ _ (heap_alloc_new _ _) ((Gr.refl _).alloc _) (Nat.le_refl _)).out.mono ?_; rintro e w2 ⟨rfl, hg2, hh2⟩)
      | (go_at_call 76; have hk3 := hg3; refine (c4 _ _ _ (.inr rfl) (hg3.heap hh2)).out.mono ?_; rintro e w4 ⟨rfl, hg4⟩)
      | (go_at_call 76; refine (c4 _ _ _ (.inl rfl) hh2).out.mono ?_; rintro e w3 ⟨rfl, hg3⟩)
      | (go_at_call 77; refine (nudge _ _ (by omega) (by omega) (by omega) _ (by omega)).mono ?_; rintro e w1 ⟨rfl, hw1⟩; obtain rfl := hw1.symm)
      | (go_at_call 78; refine (ceilU _ (by omega) (by omega) _).mono ?_; rintro e w1 ⟨rfl, hw1⟩; obtain rfl := hw1.symm)
      | (go_at_call 79; refine (floorU _ (by omega) (by omega) _).mono ?_; rintro e w1 ⟨rfl, hw1⟩; obtain rfl := hw1.symm))
      go_ret2
      exact ⟨dM / 10, _, rfl, hd2.out, hg2.trans (hg3.trans hg4)⟩
  · replace hd3 := Lib.hid hd3
    cases sk
    all_goals simp only [Bool.false_eq_true, if_false, if_true] at hp hxm hmi
    · replace hxm : ((m : Int) - 1024) = (xm : Int) := by omega
      rw [← hp] at c1
      clear c1' hp
      go_enter Tryz.func63, Tryz.ntmps63
      go_wp2_with (first
      | (go_at_call 58; refine (c1 _).out.mono ?_; rintro e w1 ⟨rfl, hw1⟩; obtain rfl := hw1.symm)
      | (go_at_call 75; refine (c2 _).out.mono ?_; rintro e w1 ⟨rfl, hw1⟩; obtain rfl := hw1.symm)
      | (go_at_call 74; refine (c3 _ _ (heap_alloc_new _ _) ((Gr.refl _).alloc _) (Nat.le_refl _)).out.mono ?_; rintro e w2 ⟨rfl, hg2, hh2⟩)
      | (go_at_call 76; have hk3 := hg3; refine (c4 _ _ _ (.inr rfl) (hg3.heap hh2)).out.mono ?_; rintro e w4 ⟨rfl, hg4⟩)
      | (go_at_call 76; refine (c4 _ _ _ (.inl rfl) hh2).out.mono ?_; rintro e w3 ⟨rfl, hg3⟩)
      | (go_at_call 77; refine (nudge _ _ (by omega) (by omega) (by omega) _ (by omega)).mono ?_; rintro e w1 ⟨rfl, hw1⟩; obtain rfl := hw1.symm)
      | (go_at_call 78; refine (ceilU _ (by omega) (by omega) _).mono ?_; rintro e w1 ⟨rfl, hw1⟩; obtain rfl := hw1.symm)
      | (go_at_call 79; refine (floorU _ (by omega) (by omega) _).mono ?_; rintro e w1 ⟨rfl, hw1⟩; obtain rfl := hw1.symm))
      go_ret2
      exact ⟨dm, _, rfl, hd3.out, hg2.trans (hg3.trans hg4)⟩
    · replace hxm : ((m : Int) - 512) = (xm : Int) := by omega
      have hmv : (m : Int) = 9223372036854775808 := of_eq_true hmi
      have hmb : ((m : Int) == 9223372036854775808) = true := by rw [hmv]; rfl
      clear hmv
      rw [← hp] at c1'
      clear c1 hp
      go_enter Tryz.func63, Tryz.ntmps63
      go_wp2_with (first
      | (go_at_call 73; refine (c1' _).out.mono ?_; rintro e w1 ⟨rfl, hw1⟩; obtain rfl := hw1.symm)
      | (go_at_call 75; refine (c2 _).out.mono ?_; rintro e w1 ⟨rfl, hw1⟩; obtain rfl := hw1.symm)
      | (go_at_call 74; refine (c3 _ _ (heap_alloc_new _ _) ((Gr.refl _).alloc _) (Nat.le_refl _)).out.mono ?_; rintro e w2 ⟨rfl, hg2, hh2⟩)
      | (go_at_call 76; have hk3 := hg3; refine (c4 _ _ _ (.inr rfl) (hg3.heap hh2)).out.mono ?_; rintro e w4 ⟨rfl, hg4⟩)
      | (go_at_call 76; refine (c4 _ _ _ (.inl rfl) hh2).out.mono ?_; rintro e w3 ⟨rfl, hg3⟩)
      | (go_at_call 77; refine (nudge _ _ (by omega) (by omega) (by omega) _ (by omega)).mono ?_; rintro e w1 ⟨rfl, hw1⟩; obtain rfl := hw1.symm)
      | (go_at_call 78; refine (ceilU _ (by omega) (by omega) _).mono ?_; rintro e w1 ⟨rfl, hw1⟩; obtain rfl := hw1.symm)
      | (go_at_call 79; refine (floorU _ (by omega) (by omega) _).mono ?_; rintro e w1 ⟨rfl, hw1⟩; obtain rfl := hw1.symm))
      go_ret2
      exact ⟨dm, _, rfl, hd3.out, hg2.trans (hg3.trans hg4)⟩

set_option maxRecDepth 100000 in
set_option maxHeartbeats 2000000 in
theorem shortF0 (N k q m p l s : Nat) (sk : Bool) (hN : 0 < N) (hk : k ≤ 52) (hq : N * 2 ^ k = q) (h1 : 4503599627370496 ≤ q) (h2 : q < 9007199254740992) (hm : q * 2048 = m) (hsk : sk = decide (m = 9223372036854775808))
    (hp : p = if sk then pS k else pK k) (hl : lp p = l) (hs : s = k + 8 - l) (w : World) (hT : PowT w) :
    Calls Tryz.prog 63 #[.int .u64 (m : Nat), .int .i64 (-(k : Int) - 11)] w fun e w' => ∃ d P, e = .returned (.tuple #[.int .u64 (d : Nat), .int .i64 P]) ∧ Dsp N d P ∧ Gr w w' := by
  have tk := tabK ⟨k, by omega⟩
  have ts := tabS ⟨k, by omega⟩
  simp only at tk ts
  obtain ⟨r, hr⟩ : ∃ r, (if sk then 1 else 2) = r := ⟨_, rfl⟩
  have hr2 : r ≤ 2 := by rw [← hr]; split <;> omega
  have hp16 : p ≤ 16 := by rw [hp]; split; exact ts.1; exact tk.1
  have hkl : k ≤ l ∧ l ≤ k + 8 := by rw [← hl, hp]; split; exact ⟨ts.2.2.2.2.1, ts.2.2.2.2.2⟩; exact ⟨tk.2.2.2.1, tk.2.2.2.2.1⟩
  obtain ⟨K, hK⟩ : ∃ K, 2 ^ k = K := ⟨_, rfl⟩
  have hK0 : 0 < K := by rw [← hK]; exact Nat.two_pow_pos _
  obtain ⟨T, hTT⟩ : ∃ T, 10 ^ p = T := ⟨_, rfl⟩
  rw [hK] at hq tk ts
  have hT1 : K ≤ T ∧ T < 14 * K ∧ K < r * T ∧ (p = 0 → T = 1 ∧ K = 1 ∧ r = 2) := by
    rw [← hTT, hp, ← hr]
    cases sk
    · simp only [Bool.false_eq_true, if_false]
      refine ⟨tk.2.1, by omega, by omega, fun h0 => ?_⟩
      have := tk.2.2.2.2.2 h0
      rw [h0]
      rw [this] at hK
      exact ⟨rfl, hK.symm, trivial⟩
    · simp only [if_true]
      exact ⟨by omega, by omega, by omega, fun h0 => by omega⟩
  obtain ⟨o, ho⟩ : ∃ o, q % 2 = o := ⟨_, rfl⟩
  obtain ⟨M, hM⟩ : ∃ M, pmT p = M := ⟨_, rfl⟩
  have hMb := tabP ⟨p, by omega⟩
  simp only at hMb
  rw [hM] at hMb
  obtain ⟨Um, hUm⟩ : ∃ U, unr ((4 * q - r) * T) K = U := ⟨_, rfl⟩
  obtain ⟨UM, hUM⟩ : ∃ U, unr ((4 * q + 2) * T) K = U := ⟨_, rfl⟩
  obtain ⟨dm, hdm⟩ : ∃ d, (Um + o + 3) / 4 = d := ⟨_, rfl⟩
  obtain ⟨dM, hdM⟩ : ∃ d, (UM - o) / 4 = d := ⟨_, rfl⟩
  have hup := upper (N := N) hK0 hT1.1 hT1.2.1 o (by omega)
  have hlo := lower (N := N) hN hK0 hT1.2.2.1 hr2 o (by omega)
  rw [hq, hUM, hdM] at hup
  rw [hq, hUm, hdm] at hlo
  have hz : p = 0 → dM = N ∧ dm = N := by
    intro h0
    obtain ⟨rfl, rfl, rfl⟩ := hT1.2.2.2 h0
    rw [Nat.mul_one, unr_one] at hUm hUM
    omega
  rw [← hTT] at hup hlo
  have hNT : N * 10 ^ p < 14 * 9007199254740992 := by
    rw [hTT]
    have a : N * T < N * (14 * K) := Nat.mul_lt_mul_of_pos_left hT1.2.1 hN
    rw [Nat.mul_left_comm, hq] at a
    omega
  have hdMb : dM < 1000000000000000000 := by omega
  have hD := digits_of hp16 hlo hup.1 hup.2 hz hdMb
  have hUmb : Um < 4000000000000000000 := by omega
  have hUMb : UM < 4000000000000000000 := by omega
  have hUM1 : o ≤ UM := by omega
  have hmr : 4 * q * 512 = m := by omega
  have hxm : (4 * q - r) * 512 + (if sk then 512 else 1024) = m := by
    rw [← hr]; split <;> omega
  have hsx : unr ((4 * q - r) * 512 * M) (18446744073709551616 * 2 ^ s) = Um := by
    rw [← hM, hs, ← hl, scale_eq _ k p hp16 (by omega) (by omega), hTT, hK]; exact hUm
  have hsX : unr ((4 * q + 2) * 512 * M) (18446744073709551616 * 2 ^ s) = UM := by
    rw [← hM, hs, ← hl, scale_eq _ k p hp16 (by omega) (by omega), hTT, hK]; exact hUM
  exact shortWalk N k q m p l s M o Um UM dm dM ((4 * q - r) * 512) ((4 * q + 2) * 512) sk hk hp16 (by omega) (by omega) (by omega) (by omega) (by omega) (by omega) hsk hxm (by omega) ho hp hl hM hMb.2.1 hMb.2.2 hsx hsX
    (by rw [← hM]; exact scale_mid _ _) (by rw [← hM]; exact scale_mid _ _) hUmb hUMb hUM1 hdm hdM hD w hT
end Go.Proofs.YtoachnjapfakdaaGreatDoor
