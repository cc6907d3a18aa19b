/- Scaling by powers of ten: the small functions' walks. -/
import Derived.Test.YtoachnjapfakdaaGreatDoorNmFl
import Derived.Test.YtoachnjapfakdaaGreatDoorNmTa
import Derived.Test.YtoachnjapfakdaaGreatDoorNdB
import Derived.Deep.DeepCutAuto
import Derived.Deep.RegionHeld3
import Derived.Laws.BitsLemmas
namespace Go.Proofs.YtoachnjapfakdaaGreatDoor
open Go Go.RowKit

theorem wrap64u (n : Int) (h0 : 0 ≤ n) (h1 : n < 18446744073709551616) : IntKind.u64.wrap n = n := by rw [IntKind.wrap_u64]; omega

def pK (k : Nat) : Nat := (78913 * k + 262143) / 262144
def pS (k : Nat) : Nat := (631305 * k + 261663 + 2097151) / 2097152
def lp (p : Nat) : Nat := p * 108853 / 32768
theorem log10n (k : Nat) (h : k ≤ 52) (w : World) : Calls Tryz.prog 58 #[.int .i64 (-(k : Int))] w fun e w' => e = .returned (.int .i64 (-(pK k : Int))) ∧ w = w' := by
  go_enter Tryz.func58, Tryz.ntmps58
  go_wp2
  have e1 : -(k : Int) * 78913 / 262144 = -(pK k : Int) := by unfold pK; omega
  rw [e1]
  go_ret
  exact ⟨rfl, rfl⟩
theorem skewedN (k : Nat) (h : k ≤ 52) (w : World) : Calls Tryz.prog 73 #[.int .i64 (-(k : Int))] w fun e w' => e = .returned (.int .i64 (-(pS k : Int))) ∧ w = w' := by
  go_enter Tryz.func73, Tryz.ntmps73
  go_wp2
  have e1 : (-(k : Int) * 631305 - 261663) / 2097152 = -(pS k : Int) := by unfold pS; omega
  rw [e1]
  go_ret
  exact ⟨rfl, rfl⟩
theorem log2p (p : Nat) (h : p ≤ 16) (w : World) : Calls Tryz.prog 75 #[.int .i64 (p : Int)] w fun e w' => e = .returned (.int .i64 (lp p : Int)) ∧ w = w' := by
  go_enter Tryz.func75, Tryz.ntmps75
  go_wp2
  have e1 : (p : Int) * 108853 / 32768 = (lp p : Int) := by unfold lp; omega
  rw [e1]
  go_ret
  exact ⟨rfl, rfl⟩
theorem nudge (u o : Int) (h0 : 0 ≤ u + o) (h1 : u + o < 18446744073709551616) (hu : 0 ≤ u) (w : World) (ho : o = 0 ∨ o = 1 ∨ o = -1) : Calls Tryz.prog 77 #[.int .u64 u, .int .i64 o] w fun e w' => e = .returned (.int .u64 (u + o)) ∧ w = w' := by
  go_enter Tryz.func77, Tryz.ntmps77
  go_wp2
  have e1 : IntKind.u64.wrap (u + IntKind.u64.wrap o) = u + o := by rw [IntKind.wrap_u64, IntKind.wrap_u64]; omega
  rw [e1]
  go_ret
  exact ⟨rfl, rfl⟩
theorem ceilU (u : Int) (h0 : 0 ≤ u) (h1 : u < 18446744073709551000) (w : World) : Calls Tryz.prog 78 #[.int .u64 u] w fun e w' => e = .returned (.int .u64 ((u + 3) / 4)) ∧ w = w' := by
  go_enter Tryz.func78, Tryz.ntmps78
  go_wp2
  go_ret
  exact ⟨rfl, rfl⟩
theorem floorU (u : Int) (h0 : 0 ≤ u) (h1 : u < 18446744073709551000) (w : World) : Calls Tryz.prog 79 #[.int .u64 u] w fun e w' => e = .returned (.int .u64 (u / 4)) ∧ w = w' := by
  go_enter Tryz.func79, Tryz.ntmps79
  go_wp2
  go_ret
  exact ⟨rfl, rfl⟩
def bz (b : Bool) : Int := if b then 1 else 0
theorem b2u (b : Bool) (w : World) : Calls Tryz.prog 94 #[.bool b] w fun e w' => e = .returned (.int .u64 (bz b)) ∧ w = w' := by
  cases b
  all_goals
    go_enter Tryz.func94, Tryz.ntmps94
    go_wp2
    go_ret
    exact ⟨rfl, rfl⟩
/-- The powers of ten, shifted to the left end of 64 bits, as the table has them. -/
def pmT (p : Nat) : Nat := 10 ^ p * 2 ^ (63 - lp p)
def PowT (w : World) : Prop := ∀ p, p ≤ 16 → w.cell? ⟨8, (p + 348) * 2, none⟩ = some (.int .u64 (pmT p : Nat)) ∧ w.cell? ⟨8, (p + 348) * 2 + 1, none⟩ = some (.int .u64 0)
theorem PowT.gr {w w' : World} (h : PowT w) (g : Gr w w') : PowT w' := fun p hp => ⟨g.cell (h p hp).1, g.cell (h p hp).2⟩

set_option maxRecDepth 100000 in
set_option maxHeartbeats 2000000 in
theorem prescaleW (H p : Nat) (e l s : Int) (a w : World) (hH : w.heap[H]? = some (.cells #[.int .u64 0, .int .u64 0, .int .i64 0] 111 (0, 0))) (hp : p ≤ 16) (hT : PowT a) (hg : Gr a w) (ha : a.heap.size ≤ H)
    (he : -1000 ≤ e ∧ e ≤ 1000) (hl : 0 ≤ l ∧ l ≤ 100) (hs : -(e + l + 3) = s) :
    Calls Tryz.prog 74 #[.pointer (some ⟨H, 0, none⟩), .int .i64 e, .int .i64 p, .int .i64 l] w fun e' w' => e' = .returned (.tuple #[]) ∧ Gr a w' ∧ w'.heap[H]? = some (.cells #[.int .u64 (pmT p : Nat), .int .u64 0, .int .i64 s] 111 (0, 0)) := by
  have q1 := hg.cell (hT p hp).1
  obtain ⟨M, hM⟩ : ∃ M, pmT p = M := ⟨_, rfl⟩
  rw [hM] at q1 ⊢
  have g1 : Gr a (w.setCell ⟨H, 0, none⟩ (.int .u64 (M : Nat))) := hg.setCell ha _
  have q2 := g1.cell (hT p hp).2
  have c0 : w.cell? ⟨H, 0, none⟩ = some (.int .u64 0) := by rw [blk_cell hH]; rfl
  have f0 := blk_free hH 0
  have hH1 := blk_set hH 0 (.int .u64 (M : Nat))
  have c1 : (w.setCell ⟨H, 0, none⟩ (.int .u64 (M : Nat))).cell? ⟨H, 1, none⟩ = some (.int .u64 0) := by rw [blk_cell hH1]; rfl
  have f1 : (w.setCell ⟨H, 0, none⟩ (.int .u64 (M : Nat))).frozen? ⟨H, 1, none⟩ = false := blk_free hH1 1
  have hH2 := blk_set hH1 1 (.int .u64 0)
  have c2 : ((w.setCell ⟨H, 0, none⟩ (.int .u64 (M : Nat))).setCell ⟨H, 1, none⟩ (.int .u64 0)).cell? ⟨H, 2, none⟩ = some (.int .i64 0) := by rw [blk_cell hH2]; rfl
  have f2 : ((w.setCell ⟨H, 0, none⟩ (.int .u64 (M : Nat))).setCell ⟨H, 1, none⟩ (.int .u64 0)).frozen? ⟨H, 2, none⟩ = false := blk_free hH2 2
  have hH3 := blk_set hH2 2 (.int .i64 s)
  have g2 := (g1.setCell (p := ⟨H, 1, none⟩) ha (.int .u64 0)).setCell (p := ⟨H, 2, none⟩) ha (.int .i64 s)
  replace hT := Lib.hid hT
  replace hH3 := Lib.hid hH3
  replace g2 := Lib.hid g2
  clear hH hH1 hH2 hg g1
  go_enter Tryz.func74, Tryz.ntmps74
  go_wp2
  exact bodyPost_end (results_none (by kernel_rfl) _ _ _) rfl ⟨rfl, g2.out, hH3.out⟩

/-- X / D cut off, with its last bit set if anything is left over. -/
def unr (X D : Nat) : Nat := if X % D = 0 then X / D else 2 * (X / D / 2) + 1
theorem or_1 (a : Nat) (h : a < 18446744073709551616) : bits .or .u64 (a : Int) 1 = ((2 * (a / 2) + 1 : Nat) : Int) := by
  have h1 : (1 : Int) = ((1 : Nat) : Int) := rfl
  rw [h1]
  simp only [bits, BitVec.ofInt_natCast, BitVec.toNat_or, BitVec.toNat_ofNat]
  have e1 : a % 2 ^ IntKind.u64.bits = a := Nat.mod_eq_of_lt (by show a < 2 ^ 64; omega)
  have e2 : 1 % 2 ^ IntKind.u64.bits = 1 := by decide
  have e3 : a ||| 1 = 2 * (a / 2) + 1 := by
    apply Nat.eq_of_testBit_eq
    intro i
    rw [Nat.testBit_or]
    cases i with
    | zero => simp [Nat.testBit_zero, Nat.add_mod]
    | succ i => rw [Nat.testBit_succ, Nat.testBit_succ, Nat.testBit_succ, show (2 * (a / 2) + 1) / 2 = a / 2 from by omega]; simp
  rw [e1, e2, e3]
  exact wrap64u _ (by omega) (by omega)
theorem or_0 (a : Nat) (h : a < 18446744073709551616) : bits .or .u64 (a : Int) 0 = (a : Int) := by
  have h1 : (0 : Int) = ((0 : Nat) : Int) := rfl
  rw [h1]
  simp only [bits, BitVec.ofInt_natCast, BitVec.toNat_or, BitVec.toNat_ofNat]
  have e1 : a % 2 ^ IntKind.u64.bits = a := Nat.mod_eq_of_lt (by show a < 2 ^ 64; omega)
  rw [e1, Nat.zero_mod, Nat.or_zero]
  exact wrap64u _ (by omega) (by omega)

theorem unr_hi {X s hi mi : Nat} (hhi : X / 18446744073709551616 = hi) (hmi : X % 18446744073709551616 = mi) (hm : mi ≠ 1) :
    unr X (18446744073709551616 * 2 ^ s) = if hi / 2 ^ s * 2 ^ s = hi then (if 1 < mi then 2 * (hi / 2 ^ s / 2) + 1 else hi / 2 ^ s) else 2 * (hi / 2 ^ s / 2) + 1 := by
  unfold unr
  rw [← Nat.div_div_eq_div_mul, hhi, Nat.mod_mul, hhi, hmi]
  have hdm := Nat.div_add_mod hi (2 ^ s)
  rw [Nat.mul_comm] at hdm
  generalize hi / 2 ^ s * 2 ^ s = A at *
  generalize hi % 2 ^ s = r at *
  by_cases h : A = hi
  · rw [if_pos h]
    have : r = 0 := by omega
    subst this
    by_cases h1 : 1 < mi
    · rw [if_neg (by omega), if_pos h1]
    · rw [if_pos (by omega), if_neg h1]
  · rw [if_neg h, if_neg (by omega)]

set_option maxRecDepth 100000 in
set_option maxHeartbeats 800000 in
theorem uscaleW (x M : Nat) (s H : Nat) (w : World) (hx : x < 18446744073709551616) (hM0 : 0 < M) (hM : M < 18446744073709551616) (hs : s ≤ 8) (hH : w.heap[H]? = some (.cells #[.int .u64 (M : Nat), .int .u64 0, .int .i64 (s : Nat)] 111 (0, 0)))
    (hm : x * M % 18446744073709551616 ≠ 1) :
    Calls Tryz.prog 76 #[.int .u64 x, .pointer (some ⟨H, 0, none⟩)] w fun e' w' => e' = .returned (.int .u64 (unr (x * M) (18446744073709551616 * 2 ^ s) : Nat)) ∧ Gr w w' := by
  have c0 : w.cell? ⟨H, 0, none⟩ = some (.int .u64 (M : Nat)) := by rw [blk_cell hH]; rfl
  have c1 : w.cell? ⟨H, 1, none⟩ = some (.int .u64 0) := by rw [blk_cell hH]; rfl
  have c2 : w.cell? ⟨H, 2, none⟩ = some (.int .i64 (s : Nat)) := by rw [blk_cell hH]; rfl
  have hb := fun b w => Lib.hid (b2u b w)
  obtain ⟨X, hX⟩ : ∃ X, x * M = X := ⟨_, rfl⟩
  obtain ⟨hi, hhi⟩ : ∃ hi, X / 18446744073709551616 = hi := ⟨_, rfl⟩
  obtain ⟨mi, hmi⟩ : ∃ mi, X % 18446744073709551616 = mi := ⟨_, rfl⟩
  have mg : ∀ y : Int, (y = M ∨ y = 0) → Hid (Calls Tryz.prog 46 #[.int .u64 x, .int .u64 y] w fun e w' => e = .returned (.tuple #[.int .u64 (if y = 0 then 0 else hi), .int .u64 (if y = 0 then 0 else mi)]) ∧ w = w') := by
    rintro y (rfl | rfl)
    · refine Lib.hid ((Tryz.bits_Mul64 x M hx hM w).mono fun e w' h => ⟨?_, h.2.symm⟩)
      rw [h.1, hX, hhi, hmi, if_neg (by omega), if_neg (by omega)]
    · refine Lib.hid ((Tryz.bits_Mul64 x 0 hx (by omega) w).mono fun e w' h => ⟨?_, h.2.symm⟩)
      rw [h.1, Nat.mul_zero, if_pos rfl, if_pos rfl]; rfl
  have hMn : ((M : Int) = 0) = False := eq_false (by omega)
  have hhl : hi < 18446744073709551616 := by
    have : x * M < 18446744073709551616 * 18446744073709551616 := Nat.mul_lt_mul_of_lt_of_lt hx hM
    omega
  have hml : mi < 18446744073709551616 := by omega
  rw [hX] at hm ⊢
  have o1 := fun a => or_1 (hi / a) (Nat.lt_of_le_of_lt (Nat.div_le_self _ _) hhl)
  have o0 := fun a => or_0 (hi / a) (Nat.lt_of_le_of_lt (Nat.div_le_self _ _) hhl)
  have h63 : bits .and .i64 (s : Int) 63 = s := by
    have : s = 0 ∨ s = 1 ∨ s = 2 ∨ s = 3 ∨ s = 4 ∨ s = 5 ∨ s = 6 ∨ s = 7 ∨ s = 8 := by omega
    rcases this with rfl | rfl | rfl | rfl | rfl | rfl | rfl | rfl | rfl <;> rfl
  obtain ⟨U, hU⟩ : ∃ U, unr X (18446744073709551616 * 2 ^ s) = U := ⟨_, rfl⟩
  rw [hU]
  replace hU := Lib.hid hU
  replace hm : Hid (mi ≠ 1) := Lib.hid (by rw [← hmi]; exact hm)
  replace hhi := Lib.hid hhi
  replace hmi := Lib.hid hmi
  have hu : Hid (U = _) := Lib.hid (hU.out.symm.trans (unr_hi (s := s) hhi.out (hmi.out) hm.out))
  have hdl : hi / 2 ^ s * 2 ^ s ≤ hi := Nat.div_mul_le_self _ _
  have hcz : ((hi : Int) / 2 ^ s) = ((hi / 2 ^ s : Nat) : Int) := by rw [Int.natCast_ediv, Int.natCast_pow]; rfl
  have hwz : IntKind.u64.wrap (((hi / 2 ^ s : Nat) : Int) * 2 ^ s) = ((hi / 2 ^ s * 2 ^ s : Nat) : Int) := by
    rw [show ((hi / 2 ^ s : Nat) : Int) * 2 ^ s = ((hi / 2 ^ s * 2 ^ s : Nat) : Int) from by rw [Int.natCast_mul, Int.natCast_pow]; rfl]
    exact wrap64u _ (by omega) (by omega)
  replace hcz := Lib.hid hcz
  replace hwz := Lib.hid hwz
  have hz0 : bz false = 0 := rfl
  clear hH hX
  go_enter Tryz.func76, Tryz.ntmps76
  go_wp2_with (first | (go_at_call 46; refine (mg _ (by first | exact .inl rfl | exact .inr rfl)).out.mono ?_; rintro e w1 ⟨rfl, rfl⟩) | (go_at_call 94; refine (hb _ _).out.mono ?_; rintro e w1 ⟨rfl, rfl⟩))
  · rename_i hne
    have hne' : ¬ hi / 2 ^ s * 2 ^ s = hi := by
      intro h; rw [hcz.out, hwz.out, h] at hne; simp at hne
    rw [hu.out, if_neg hne', hcz.out, o1]
    go_ret
    exact ⟨rfl, Gr.refl _⟩
  · go_region_held3 (fun _ => True) (trivial) ((first | (go_at_call 94; refine (hb _ _).out.mono ?_; rintro e w1 ⟨rfl, hw1⟩; obtain rfl := hw1.symm)))
    all_goals go_wp2
    rename_i hne _
    have e1 : IntKind.u64.wrap ((hi : Int) - bz (decide ((mi : Int) < 0))) = hi := by
      rw [decide_eq_false (by omega), hz0]; exact wrap64u _ (by omega) (by omega)
    have e2 : IntKind.u64.wrap (mi : Int) = mi := wrap64u _ (by omega) (by omega)
    have hne' : hi / 2 ^ s * 2 ^ s = hi := by
      rw [hcz.out, hwz.out, bne_eq_false_iff_eq] at hne
      omega
    rw [e1, e2, hcz.out, hu.out, if_pos hne']
    by_cases h1 : 1 < mi
    · rw [if_pos h1, decide_eq_true (show (1 : Int) < mi by omega), show bz true = 1 from rfl, o1]
      go_ret
      exact ⟨rfl, (Gr.refl _).drew⟩
    · rw [if_neg h1, decide_eq_false (show ¬ (1 : Int) < mi by omega), hz0, o0]
      go_ret
      exact ⟨rfl, (Gr.refl _).drew⟩
end Go.Proofs.YtoachnjapfakdaaGreatDoor
