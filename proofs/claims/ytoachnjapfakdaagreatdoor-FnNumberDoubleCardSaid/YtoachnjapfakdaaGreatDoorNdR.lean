/- FnNumberDouble: the law. -/
import Derived.Test.YtoachnjapfakdaaGreatDoorNdQ
namespace Go.Proofs.YtoachnjapfakdaaGreatDoor
open Go Go.RowKit

def fz (neg : Bool) (N : Nat) : Nat := if N = 0 then 0 else fn neg N
theorem fz_of (neg : Bool) (N : Nat) (hN2 : N < 9007199254740992) (hz : N = 0 → neg = false) : floatOfInt .f64 (if neg then -(N : Int) else N) = fz neg N := by
  unfold fz
  by_cases h0 : N = 0
  · rw [if_pos h0]
    subst h0
    rw [hz rfl]
    exact ofInt_zero
  · rw [if_neg h0]; exact ofInt_fn neg N (by omega) hN2
theorem law_num (neg : Bool) (N : Nat) (hN2 : N < 9007199254740992) (w : World) (hT : PowT w) (ht : Tab10 w) :
    Calls Tryz.prog 4 #[.float .f64 (fz neg N)] w fun e w' => ∃ u, e = .returned (.tuple #[u, .bool true]) ∧ Own w.heap.size w' u (wform neg N) ∧ Gr w w' := by
  unfold fz wform
  by_cases h0 : N = 0
  · rw [if_pos h0, if_pos h0]; exact numD0 w
  · rw [if_neg h0, if_neg h0]; exact numD neg N (by omega) hN2 w hT ht

/-- What is read again. -/
def Back (neg : Bool) (N z : Nat) : Prop := if N = 0 then z = 0 else ∃ m e, z = fw neg m e ∧ Quo N m e
theorem wform_len (neg : Bool) (N : Nat) (hN2 : N < 9007199254740992) : (wform neg N).length ≤ 100 := by
  unfold wform
  by_cases h0 : N = 0
  · rw [if_pos h0]; simp
  · rw [if_neg h0]
    obtain ⟨P, j, L, M, h1, h2, h3, h4, h5, h6, h7, h8⟩ := form_parts neg N (by omega) hN2
    rw [h8]
    split <;> simp <;> omega
theorem law_back (neg : Bool) (N : Nat) (hN2 : N < 9007199254740992) (v : Value) (w : World) (hP : PowF w) (h : Rd w v (wform neg N)) :
    Calls Tryz.prog 8 #[v] w fun e w' => ∃ z, e = .returned (.float .f64 z) ∧ Back neg N z ∧ Gr w w' := by
  refine numDbl v _ (Back neg N) w h (wform_len neg N hN2) ?_
  intro v' w1 hg hr
  unfold Back
  unfold wform at hr
  by_cases h0 : N = 0
  · rw [if_pos h0] at hr
    refine (decD0 v' w1 (hP.gr hg) hr).mono fun e w' => ?_
    rintro ⟨rfl, hg2⟩
    exact ⟨0, rfl, by rw [if_pos h0], hg2⟩
  · rw [if_neg h0] at hr
    refine (decD neg N (by omega) hN2 v' w1 (hP.gr hg) hr).mono fun e w' => ?_
    rintro ⟨m, e', rfl, hq, hg2⟩
    exact ⟨_, rfl, by rw [if_neg h0]; exact ⟨m, e', rfl, hq⟩, hg2⟩
theorem law_near (neg : Bool) (N z : Nat) (hN2 : N < 9007199254740992) (h : Back neg N z) (w : World) :
    Calls Tryz.prog 7 #[.float .f64 z, .float .f64 (fz neg N)] w fun e w' => e = .returned (.bool true) ∧ w = w' := by
  unfold Back at h
  unfold fz
  by_cases h0 : N = 0
  · rw [if_pos h0] at h ⊢
    subst h
    exact near0 w
  · rw [if_neg h0] at h ⊢
    obtain ⟨m, e, rfl, hq⟩ := h
    obtain ⟨r, D, hd⟩ := near_dif neg N m e (by omega) hN2 hq
    exact nearW neg m N e r D (by omega) hN2 hq.nm hd w

set_option maxRecDepth 100000 in
set_option maxHeartbeats 1000000 in
theorem law_double (x : Int) (hx : -9223372036854775808 ≤ x ∧ x ≤ 9223372036854775807) (w : World) (hT : PowT w) (ht : Tab10 w) (hP : PowF w) :
    Calls Tryz.prog 3 #[.int .i64 x] w fun e w' => e = .returned (.bool true) ∧ Gr w w' := by
  have hr1 := Int.lt_tmod_of_pos x (show (0 : Int) < 9007199254740992 by omega)
  have hr2 := Int.tmod_lt_of_pos x (show (0 : Int) < 9007199254740992 by omega)
  obtain ⟨r, hr⟩ : ∃ r, x.tmod 9007199254740992 = r := ⟨_, rfl⟩
  rw [hr] at hr1 hr2
  obtain ⟨neg, N, hn, hN2, hz⟩ : ∃ (neg : Bool) (N : Nat), (if neg then -(N : Int) else N) = r ∧ N < 9007199254740992 ∧ (N = 0 → neg = false) := by
    by_cases h : r < 0
    · exact ⟨true, r.natAbs, by rw [if_pos rfl]; omega, by omega, fun h0 => by omega⟩
    · exact ⟨false, r.natAbs, by rw [if_neg (by simp)]; omega, by omega, fun _ => rfl⟩
  have hf := fz_of neg N hN2 hz
  have hof := fun w1 => numberOf neg N hN2 hz w1
  rw [hn] at hf hof
  have HOF := fun w1 => Lib.hid (hof w1)
  have HNU := Lib.hid (law_num neg N hN2 w hT ht)
  have HBK := fun v w1 (g : Gr w w1) h => Lib.hid (law_back neg N hN2 v w1 (hP.gr g) h)
  have HNE := fun z w1 h => Lib.hid (law_near neg N z hN2 h w1)
  have HOW := fun v w1 h => Lib.hid (own v (wform neg N) w1 h (wform_len neg N hN2))
  have HSM := fun v u w1 h1 h2 => same v u (wform neg N) (wform neg N) w1 h1 h2
  simp only [decide_true] at HSM
  have HSM := fun v u w1 h1 h2 => Lib.hid (HSM v u w1 h1 h2)
  have HAW := fun w1 (g : Gr w w1) => Lib.hid (awake w1 (ht.gr g))
  generalize fz neg N = B at *
  generalize wform neg N = F at *
  clear hof hn hz hT ht hP hr1 hr2 hN2
  go_enter Tryz.func3, Tryz.ntmps3
  go_wp2_with (first
    | (go_at_call 4; refine HNU.out.mono ?_; rintro e w1 ⟨b, rfl, hob, hg1⟩; have HB1 := Lib.hid hob.rd; have HGc := Lib.hid hg1; clear hob hg1)
    | (go_at_call 6; refine (HOF _).out.mono ?_; rintro e w2 ⟨u, rfl, hou, hg2⟩; replace HB1 := Lib.hid (HB1.out.gr hg2); replace HGc := Lib.hid (HGc.out.trans hg2); clear hg2)
    | (go_at_call 5; refine (HSM _ _ _ HB1.out hou.rd).out.mono ?_; rintro e w3 ⟨rfl, hw3⟩)
    | (go_at_call 9; refine (HOW _ _ HB1.out).out.mono ?_; rintro e w4 ⟨u4, rfl, ho4, hg4⟩; replace HGc := Lib.hid (HGc.out.trans hg4); clear hg4)
    | (go_at_call 8; refine (HBK _ _ HGc.out ho4.rd).out.mono ?_; rintro e w5 ⟨z, rfl, hzb, hg5⟩; replace HGc := Lib.hid (HGc.out.trans hg5); clear hg5)
    | (go_at_call 7; refine (HNE _ _ hzb).out.mono ?_; rintro e w6 ⟨rfl, hw6⟩; obtain rfl := hw6)
    | (go_at_call 10; refine (HAW _ HGc.out).out.mono ?_; rintro e w7 ⟨rfl, hg7⟩; replace HGc := Lib.hid (HGc.out.trans hg7); clear hg7))
  go_ret
  exact ⟨rfl, HGc.out⟩
end Go.Proofs.YtoachnjapfakdaaGreatDoor
