/- FnPacketRefuseCut: the walk of the law. -/
import Derived.Test.YtoaajnhbcekglaaDoorPkRefS
namespace Go.Proofs.YtoaajnhbcekglaaDoor
open Go Go.RowKit

set_option maxRecDepth 100000 in
set_option maxHeartbeats 1000000 in
theorem law_refuse_main (str : ByteArray) (n : Nat) (at_ : Int) (w : World) (hn : str.size = n) (h1 : 1 ≤ n) (h2 : n ≤ 2000) (ha : 0 ≤ at_ ∧ at_ < 65536) :
    Calls Tryd.prog 4 #[.string str, .int .u16 at_] w fun e w' => e = .returned (.bool true) ∧ Gr w w' := by
  obtain ⟨ha0, ha1⟩ := ha
  obtain ⟨m, hm⟩ : ∃ m : Nat, at_ % (n : Int) = (m : Int) := ⟨(at_ % n).toNat, by have := Int.emod_nonneg at_ (show (n : Int) ≠ 0 by omega); omega⟩
  have hmn : m < n := by have := Int.emod_lt_of_pos at_ (show (0 : Int) < n by omega); omega
  have HS := fun w => Lib.hid (spec_Refuse 99 1 2 str w (by omega) (by omega) (by omega) (by omega))
  rw [hn] at HS
  obtain ⟨hc0, hc1, hc2, hc3⟩ := ref_cut 99 1 2 n (nums str) m (by omega) hmn (by rw [nums_length, hn])
  have hfl : (refL 99 1 2 n (nums str)).length = 12 + n := by simp [refL, be2, nums_length, hn]; omega
  have HR := fun v w h => Lib.hid (impl_RefuseRead ((refL 99 1 2 n (nums str)).take (12 + m)) v w h (by omega) (by omega) (by rw [hc0, hc1]; omega) (by rw [hc1]; omega))
  rw [hc2, hc3] at HR
  obtain ⟨X, hX⟩ : ∃ X, refL 99 1 2 n (nums str) = X := ⟨_, rfl⟩
  rw [hX] at HS HR hc0 hfl
  have HFL := Lib.hid hfl
  have HC0 := Lib.hid hc0
  have i1 : (0 : Int) ≤ 12 + (m : Int) := by omega
  have hnz : ¬ n = 0 := by omega
  have hg20 : decide ((2000 : Int) < (n : Int)) = false := by simp; omega
  have hg21 : decide ((2147483647 : Int) < (n : Int)) = false := by simp; omega
  have w1_ : IntKind.i64.wrap at_ = at_ := IntWalk.i64_in _ (by omega)
  have hrem : at_.tmod (n : Int) = (m : Int) := by rw [Int.tmod_eq_emod_of_nonneg ha0]; exact hm
  clear hc0 hc1 hc2 hc3 hfl hX
  go_enter Tryd.func4, Tryd.ntmps4
  go_wp2_with (first
    | (go_at_call 14; go_must (refine (HS _).out.mono ?_); rintro e w1 ⟨u1, rfl, ho1, hg1⟩; obtain ⟨g, cap, hv1, hgg, hoa⟩ := ho1.form (by rw [HFL.out]; omega); rw [HFL.out] at hv1; subst hv1; have hcap : 12 + n ≤ cap := (by have := hoa.2.1; rw [HFL.out] at this; exact this); have hcm : cap ≤ maxLen := hoa.2.2.1; have hcm2 : cap ≤ 9223372036854775807 := (by simp only [maxLen] at hcm; omega); have i2 : 12 + (m : Int) ≤ (cap : Int) := (by omega); have hrd : Rd w1 (.slice (some ⟨g, 0, none⟩) (12 + m) cap) (X.take (12 + m)) := (RdAt.take (o := 0) ⟨fun i hi => by rw [Nat.zero_add]; exact hoa.cell i hi, hoa.byt⟩ (12 + m)).rd HC0.out (by omega) hcm; have HRD := Lib.hid hrd; clear hrd hoa ho1)
    | (go_at_call 16; go_must (refine (clone _ (X.take (12 + m)) _ HRD.out (by rw [HC0.out]; omega)).mono ?_); rintro e w2 ⟨u2, rfl, ho2, hg2⟩)
    | (go_at_call 15; go_must (refine (HR u2 _ ho2.rd).out.mono ?_); rintro e w3 ⟨rfl, hg3⟩)
    | (go_at_call 10; go_must (refine (packetAwake _).mono ?_); rintro e w4 ⟨rfl, hg4⟩))
  all_goals
    go_ret
    exact ⟨rfl, ((hg1.trans hg2).trans hg3).trans (Gr.trans ((Gr.refl _).alloc _) hg4)⟩

theorem law_refuse (str : ByteArray) (at_ : Int) (w : World) (ha : 0 ≤ at_ ∧ at_ < 65536) :
    Calls Tryd.prog 4 #[.string str, .int .u16 at_] w fun e w' => e = .returned (.bool true) ∧ Gr w w' := by
  obtain ⟨n, hn⟩ : ∃ n, str.size = n := ⟨_, rfl⟩
  by_cases h0 : 2147483647 < n
  · go_enter Tryd.func4, Tryd.ntmps4
    go_wp2_with fail
    go_ret
    exact ⟨rfl, Gr.refl w⟩
  · by_cases h1 : 2000 < n
    · have hg20 : decide ((2000 : Int) < (n : Int)) = true := by simp; omega
      go_enter Tryd.func4, Tryd.ntmps4
      go_wp2_with (first | (go_at_call 10; refine (packetAwake _).mono ?_; rintro e w4 ⟨rfl, hg4⟩))
      go_ret
      exact ⟨rfl, hg4⟩
    · by_cases h2 : n = 0
      · subst h2
        go_enter Tryd.func4, Tryd.ntmps4
        go_wp2_with (first | (go_at_call 10; refine (packetAwake _).mono ?_; rintro e w4 ⟨rfl, hg4⟩))
        go_ret
        exact ⟨rfl, hg4⟩
      · exact law_refuse_main str n at_ w hn (by omega) (by omega) ha
end Go.Proofs.YtoaajnhbcekglaaDoor
