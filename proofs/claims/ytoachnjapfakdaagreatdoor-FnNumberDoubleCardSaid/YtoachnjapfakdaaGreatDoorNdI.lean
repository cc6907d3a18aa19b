/- FormatFloat of a whole number: the walk. -/
import Derived.Test.YtoachnjapfakdaaGreatDoorNdH
namespace Go.Proofs.YtoachnjapfakdaaGreatDoor
open Go Go.RowKit

theorem tobitsI (a : Nat) (w : World) : (callFunc 50 #[.float .f64 a]).run Tryz.prog w = .ok (.value (.int .u64 (a : Int))) w := by
  rw [run_callFunc_extern Tryz.func50 (by kernel_rfl) (by kernel_rfl) (by kernel_rfl) (e := Extern.MathFloatBits.float64bits) (by kernel_rfl)]
  rfl

set_option maxRecDepth 100000 in
set_option maxHeartbeats 2000000 in
theorem ftoa (neg : Bool) (N : Nat) (hN : 0 < N) (hN2 : N < 9007199254740992) (D : Nat) (v : Value) (a w : World) (hg : Gr a w) (hT : PowT a) (ht : Tab10 a) (hv : v = .slice (some ⟨D, 0, none⟩) 0 24) (hD : D < w.heap.size) (hown : Own a.heap.size w v []) :
    Calls Tryz.prog 40 #[v, .float .f64 (fn neg N), .int .u8 101, .int .i64 (-1)] w fun e w' => ∃ u, e = .returned u ∧ Own a.heap.size w' u (expText neg (strip (letters N)) (Lib.nDigits N)) ∧ Gr a w' := by
  obtain ⟨n, hn⟩ : ∃ n, Lib.nDigits N = n := ⟨_, rfl⟩
  obtain ⟨X, hX⟩ : ∃ X, strip (letters N) = X := ⟨_, rfl⟩
  obtain ⟨S, hS⟩ : ∃ S, X.length = S := ⟨_, rfl⟩
  have hn1 := Lib.nDigits_pos N
  have hn2 := nDig_le 17 N (by omega)
  have hS1 : 1 ≤ S := by
    have := strip_ne (u := N) hN
    rw [hX] at this
    rcases Nat.eq_zero_or_pos S with h | h
    · exact absurd (List.eq_nil_of_length_eq_zero (hS.trans h)) this
    · exact h
  rw [hn] at hn1 hn2 ⊢
  rw [hX]
  replace hn := Lib.hid hn
  replace hX := Lib.hid hX
  replace hS := Lib.hid hS
  obtain ⟨k, hk⟩ : ∃ k, 52 - N.log2 = k := ⟨_, rfl⟩
  obtain ⟨q, hq⟩ : ∃ q, N * 2 ^ k = q := ⟨_, rfl⟩
  obtain ⟨hk52, hq1, hq2, hb⟩ := fn_parts neg N k q hN hN2 hk hq
  obtain ⟨b, hbb⟩ : ∃ b, fn neg N = b := ⟨_, rfl⟩
  rw [hbb] at hb ⊢
  obtain ⟨f1, f2, hbl, f3, f4, f5⟩ := fn_bits neg b k q hk52 hq1 hq2 hb
  have hfb := tobitsI b
  have hshort : ∀ w1, Gr a w1 → Hid (Calls Tryz.prog 63 #[.int .u64 ((q : Int) * 2048), .int .i64 (1075 - (k : Int) + -1023 - 11 - 52)] w1 fun e w' => ∃ d P, e = .returned (.tuple #[.int .u64 (d : Nat), .int .i64 P]) ∧ Dsp N d P ∧ Gr w1 w') := fun w1 hg1 => by
    have h := shortF0 N k q (q * 2048) (if (decide (q * 2048 = 9223372036854775808)) then pS k else pK k) _ _ _ hN hk52 hq hq1 hq2 rfl rfl rfl rfl rfl w1 (hT.gr hg1)
    rw [show ((q * 2048 : Nat) : Int) = (q : Int) * 2048 from by omega, show -(k : Int) - 11 = 1075 - (k : Int) + -1023 - 11 - 52 from by omega] at h
    exact Lib.hid h
  have hlen : ∀ w, Hid (Calls Tryz.prog 54 #[.int .u64 (q : Int)] w fun e w' => e = .returned (.int .i64 53) ∧ w' = w) := fun w => by
    have h := Tryz.bits_Len64 (q : Int) w (by omega) (by omega)
    rw [show (q : Int).toNat = q from rfl, len53 q hq1 hq2] at h
    exact Lib.hid h
  have hND := fun d (h : 1 ≤ d ∧ d < 1000000000000000000) w1 (hg1 : Gr a w1) => Lib.hid (Tryz.internal_strconv_numDigits d h.1 (by omega) w1 (ht.gr hg1))
  have hSD := fun d nd S P H T cs w1 hg1 ha hH hcs hd hd2 hn hP hS => Lib.hid (setDigitsW H nd d S P cs T w w1 hg1 ha hH hcs hd hd2 hn hP hS)
  have hFE := fun w1 v H S n ds X k hS hS2 hX hXl hl hn hn2 => Lib.hid (fmtE a w1 v H S n ds X neg k hS hS2 hX hXl hl hn hn2)
  have hqi : (4503599627370496 : Int) ≤ q := by omega
  have hqi2 : (q : Int) < 9007199254740992 := by omega
  have hki : (k : Int) ≤ 52 := by omega
  have hsl : ∀ t w, (binOp .shl t (.int .u64 1) (.int .i64 52)).run Tryz.prog w = .ok (.int .u64 4503599627370496) w := fun t w => by simp [go_sem]; exact wrap64u _ (by omega) (by omega)
  have hsb : ∀ t w, (binOp .sub t (.int .u64 4503599627370496) (.int .u64 1)).run Tryz.prog w = .ok (.int .u64 4503599627370495) w := fun t w => by simp [go_sem]; exact wrap64u _ (by omega) (by omega)
  have wz1 : IntKind.u64.wrap 4503599627370496 = 4503599627370496 := wrap64u _ (by omega) (by omega)
  have wz2 : IntKind.u64.wrap 4503599627370495 = 4503599627370495 := wrap64u _ (by omega) (by omega)
  have HG := Lib.hid hg
  have HO := Lib.hid hown
  have hal := hg.size
  clear hk hq hbb hb hT ht hg hown
  have hne : ((1075 - (k : Int)) == 2047) = false := by rw [beq_eq_false_iff_ne]; omega
  have hne0 : ((1075 - (k : Int)) == 0) = false := by rw [beq_eq_false_iff_ne]; omega
  have hnq : ((q : Int) == 0) = false := by rw [beq_eq_false_iff_ne]; omega
  rcases neg with _ | _
  all_goals simp only [Bool.false_eq_true, if_false, if_true, Int.zero_add, show (2048 : Int) + 1075 = 3123 from rfl] at f1 f2 f3
  · go_enter Tryz.func40, Tryz.ntmps40
    go_wp2_with fail
    go_region
    go_wp2_with (first
      | (go_at_call 54; with_reducible refine (hlen _).out.mono ?_; rintro e w1 ⟨rfl, hw1⟩; obtain rfl := hw1)
      | (go_at_call 63; with_reducible refine (hshort _ (HG.out.alloc _).drew).out.mono ?_; rintro e w3 ⟨d, P, rfl, hDs, hg3⟩))
    obtain ⟨d1, d2, d3, d4, d5, d6⟩ := dsp_letters hDs hN
    have hgw3 : Gr w w3 := (((Gr.refl w).alloc _).drew).trans hg3
    have hh3 := hg3.heap (show ((w.alloc (.cells #[.int .u8 0, .int .u8 0, .int .u8 0, .int .u8 0, .int .u8 0, .int .u8 0, .int .u8 0, .int .u8 0, .int .u8 0, .int .u8 0, .int .u8 0, .int .u8 0, .int .u8 0, .int .u8 0, .int .u8 0, .int .u8 0, .int .u8 0, .int .u8 0, .int .u8 0, .int .u8 0, .int .u8 0, .int .u8 0, .int .u8 0, .int .u8 0, .int .u8 0, .int .u8 0, .int .u8 0, .int .u8 0, .int .u8 0, .int .u8 0, .int .u8 0, .int .u8 0] 83)).drew).heap[w.heap.size]? = _ from heap_alloc_new w _)
    obtain ⟨nd, hnd⟩ : ∃ nd, Lib.nDigits d = nd := ⟨_, rfl⟩
    have htk := strip_take (letters d)
    rw [d3, hX.out, hS.out] at htk
    have hld : (letters d).length = nd := by rw [letters_length, hnd]
    have hnd2 : nd ≤ 18 := by rw [← hnd]; exact nDig_le 17 d (by omega)
    rw [hn.out] at d4
    rw [hnd] at d4
    have HND : ∀ w1, (w1 = w3 ∨ w1 = w3.drew) → Hid (Calls Tryz.prog 57 #[.int .u64 (d : Nat)] w1 fun e w' => e = .returned (.int .i64 (nd : Nat)) ∧ w' = w1) := by
      rintro w1 (rfl | rfl)
      · have h := (hND d ⟨d1, d2⟩ w1 (HG.out.trans hgw3)).out
        rw [hnd] at h; exact Lib.hid h
      · have h := (hND d ⟨d1, d2⟩ w3.drew (HG.out.trans hgw3.drew)).out
        rw [hnd] at h; exact Lib.hid h
    have HSD : ∀ w1, (w1 = w3 ∨ w1 = w3.drew) → Hid (Calls Tryz.prog 56 #[.slice (some ⟨w.heap.size, 0, none⟩) 32 32, .int .u64 (d : Nat), .int .i64 P, .int .i64 (nd : Nat)] w1 fun e w' => e = .returned (.tuple #[.int .i64 (n : Nat), .int .i64 (S : Nat)]) ∧ RdAt w' w.heap.size 0 (letters d) ∧ Gr w w') := by
      have hz : ∀ j, j < 32 → (Array.replicate 32 (Value.int .u8 0))[j]? = some (Value.int .u8 0) := fun j hj => by rw [Array.getElem?_replicate, if_pos hj]
      rintro w1 (rfl | rfl)
      · have h := (hSD d nd S P w.heap.size _ _ w1 hgw3 (Nat.le_refl _) hh3 hz d1 d2 hnd ⟨d5, d6⟩ (by rw [d3, hX.out, hS.out])).out
        rw [d4] at h; exact Lib.hid h
      · have h := (hSD d nd S P w.heap.size _ _ w3.drew hgw3.drew (Nat.le_refl _) hh3 hz d1 d2 hnd ⟨d5, d6⟩ (by rw [d3, hX.out, hS.out])).out
        rw [d4] at h; exact Lib.hid h
    obtain ⟨hF1, hF2⟩ := htk
    have HFE : ∀ w4, RdAt w4 w.heap.size 0 (letters d) → Gr w w4 → Hid (Calls Tryz.prog 53 #[.slice (some ⟨D, 0, none⟩) 0 24, .bool false, .slice (some ⟨w.heap.size, 0, none⟩) 32 32, .int .i64 (n : Nat), .int .i64 (S : Nat), .int .i64 ((S : Int) - 1), .int .u8 101, .bool true] w4 fun e w' =>
        ∃ u, e = .returned u ∧ Own a.heap.size w' u (expText false X n) ∧ Gr a w') := fun w4 hR hg => by
      have hlt : w.heap.size < w4.heap.size := World.block_lt_of_cell? w4 _ (hR.cell 0 (by omega))
      exact hFE w4 _ w.heap.size S n (letters d) X ⟨hv ▸ HO.out.gr hg, HG.out.trans hg, hR, (by simp [Value.ownBlock]; omega), hlt⟩ hS1 (by omega) hF1 hS.out (by omega) hn1 hn2
    have hmx : max ((S : Int) - 1) 0 = (S : Int) - 1 := by omega
    have hgl : w.heap.size ≤ w3.heap.size := hgw3.size
    have hS18 : S ≤ 18 := by omega
    clear hF1 hF2 hS hX hn hnd d4 hSD hND hFE hDs hg3 hh3 d3 hld hlen hshort hfb f1 f2 f3 f4 f5 hsl hsb wz1 wz2 hgw3 hv
    go_region_held3 (fun _ => True) (trivial) ((first
      | (go_at_call 57; with_reducible refine (HND _ (by first | exact .inl rfl | exact .inr rfl)).out.mono ?_; rintro e w1 ⟨rfl, hw1⟩; obtain rfl := hw1)
      | (go_at_call 56; with_reducible refine (HSD _ (by first | exact .inl rfl | exact .inr rfl)).out.mono ?_; rintro e w4 ⟨rfl, hR4, hg4⟩)))
    all_goals
      replace hR4 := Lib.hid hR4
      go_wp2_with (go_at_call 53; with_reducible refine (HFE _ hR4.out hg4).out.mono ?_; rintro e w5 ⟨u, rfl, hou, hg5⟩)
      go_ret
      exact ⟨_, rfl, hou, hg5⟩
  · go_enter Tryz.func40, Tryz.ntmps40
    go_wp2_with fail
    go_region
    go_wp2_with (first
      | (go_at_call 54; with_reducible refine (hlen _).out.mono ?_; rintro e w1 ⟨rfl, hw1⟩; obtain rfl := hw1)
      | (go_at_call 63; with_reducible refine (hshort _ (HG.out.alloc _).drew).out.mono ?_; rintro e w3 ⟨d, P, rfl, hDs, hg3⟩))
    obtain ⟨d1, d2, d3, d4, d5, d6⟩ := dsp_letters hDs hN
    have hgw3 : Gr w w3 := (((Gr.refl w).alloc _).drew).trans hg3
    have hh3 := hg3.heap (show ((w.alloc (.cells #[.int .u8 0, .int .u8 0, .int .u8 0, .int .u8 0, .int .u8 0, .int .u8 0, .int .u8 0, .int .u8 0, .int .u8 0, .int .u8 0, .int .u8 0, .int .u8 0, .int .u8 0, .int .u8 0, .int .u8 0, .int .u8 0, .int .u8 0, .int .u8 0, .int .u8 0, .int .u8 0, .int .u8 0, .int .u8 0, .int .u8 0, .int .u8 0, .int .u8 0, .int .u8 0, .int .u8 0, .int .u8 0, .int .u8 0, .int .u8 0, .int .u8 0, .int .u8 0] 83)).drew).heap[w.heap.size]? = _ from heap_alloc_new w _)
    obtain ⟨nd, hnd⟩ : ∃ nd, Lib.nDigits d = nd := ⟨_, rfl⟩
    have htk := strip_take (letters d)
    rw [d3, hX.out, hS.out] at htk
    have hld : (letters d).length = nd := by rw [letters_length, hnd]
    have hnd2 : nd ≤ 18 := by rw [← hnd]; exact nDig_le 17 d (by omega)
    rw [hn.out] at d4
    rw [hnd] at d4
    have HND : ∀ w1, (w1 = w3 ∨ w1 = w3.drew) → Hid (Calls Tryz.prog 57 #[.int .u64 (d : Nat)] w1 fun e w' => e = .returned (.int .i64 (nd : Nat)) ∧ w' = w1) := by
      rintro w1 (rfl | rfl)
      · have h := (hND d ⟨d1, d2⟩ w1 (HG.out.trans hgw3)).out
        rw [hnd] at h; exact Lib.hid h
      · have h := (hND d ⟨d1, d2⟩ w3.drew (HG.out.trans hgw3.drew)).out
        rw [hnd] at h; exact Lib.hid h
    have HSD : ∀ w1, (w1 = w3 ∨ w1 = w3.drew) → Hid (Calls Tryz.prog 56 #[.slice (some ⟨w.heap.size, 0, none⟩) 32 32, .int .u64 (d : Nat), .int .i64 P, .int .i64 (nd : Nat)] w1 fun e w' => e = .returned (.tuple #[.int .i64 (n : Nat), .int .i64 (S : Nat)]) ∧ RdAt w' w.heap.size 0 (letters d) ∧ Gr w w') := by
      have hz : ∀ j, j < 32 → (Array.replicate 32 (Value.int .u8 0))[j]? = some (Value.int .u8 0) := fun j hj => by rw [Array.getElem?_replicate, if_pos hj]
      rintro w1 (rfl | rfl)
      · have h := (hSD d nd S P w.heap.size _ _ w1 hgw3 (Nat.le_refl _) hh3 hz d1 d2 hnd ⟨d5, d6⟩ (by rw [d3, hX.out, hS.out])).out
        rw [d4] at h; exact Lib.hid h
      · have h := (hSD d nd S P w.heap.size _ _ w3.drew hgw3.drew (Nat.le_refl _) hh3 hz d1 d2 hnd ⟨d5, d6⟩ (by rw [d3, hX.out, hS.out])).out
        rw [d4] at h; exact Lib.hid h
    obtain ⟨hF1, hF2⟩ := htk
    have HFE : ∀ w4, RdAt w4 w.heap.size 0 (letters d) → Gr w w4 → Hid (Calls Tryz.prog 53 #[.slice (some ⟨D, 0, none⟩) 0 24, .bool true, .slice (some ⟨w.heap.size, 0, none⟩) 32 32, .int .i64 (n : Nat), .int .i64 (S : Nat), .int .i64 ((S : Int) - 1), .int .u8 101, .bool true] w4 fun e w' =>
        ∃ u, e = .returned u ∧ Own a.heap.size w' u (expText true X n) ∧ Gr a w') := fun w4 hR hg => by
      have hlt : w.heap.size < w4.heap.size := World.block_lt_of_cell? w4 _ (hR.cell 0 (by omega))
      exact hFE w4 _ w.heap.size S n (letters d) X ⟨hv ▸ HO.out.gr hg, HG.out.trans hg, hR, (by simp [Value.ownBlock]; omega), hlt⟩ hS1 (by omega) hF1 hS.out (by omega) hn1 hn2
    have hmx : max ((S : Int) - 1) 0 = (S : Int) - 1 := by omega
    have hgl : w.heap.size ≤ w3.heap.size := hgw3.size
    have hS18 : S ≤ 18 := by omega
    clear hF1 hF2 hS hX hn hnd d4 hSD hND hFE hDs hg3 hh3 d3 hld hlen hshort hfb f1 f2 f3 f4 f5 hsl hsb wz1 wz2 hgw3 hv
    go_region_held3 (fun _ => True) (trivial) ((first
      | (go_at_call 57; with_reducible refine (HND _ (by first | exact .inl rfl | exact .inr rfl)).out.mono ?_; rintro e w1 ⟨rfl, hw1⟩; obtain rfl := hw1)
      | (go_at_call 56; with_reducible refine (HSD _ (by first | exact .inl rfl | exact .inr rfl)).out.mono ?_; rintro e w4 ⟨rfl, hR4, hg4⟩)))
    all_goals
      replace hR4 := Lib.hid hR4
      go_wp2_with (go_at_call 53; with_reducible refine (HFE _ hR4.out hg4).out.mono ?_; rintro e w5 ⟨u, rfl, hou, hg5⟩)
      go_ret
      exact ⟨_, rfl, hou, hg5⟩
end Go.Proofs.YtoachnjapfakdaaGreatDoor
