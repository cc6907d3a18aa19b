/- The reference's form of a whole number is the encoder's. -/
import Derived.Test.YtoachnjapfakdaaGreatDoorNdP
namespace Go.Proofs.YtoachnjapfakdaaGreatDoor
open Go Go.RowKit

theorem letters_dgs (N : Nat) (h : 1 ≤ N) : letters N = (dgs N).map (· + 48) := by
  induction N using Nat.strongRecOn with
  | _ N ih =>
    by_cases h10 : N < 10
    · rw [letters_lt h10, dgs_pos (by omega), show N / 10 = 0 from by omega, dgs_zero, show N % 10 = N from by omega]
      simp; omega
    · rw [letters_ge h10, dgs_pos (by omega), ih (N / 10) (by omega) (by omega), List.map_append]
      simp; omega
theorem dropW (l : List Int) : (l.map (· + 48)).dropWhile (· == 48) = (l.dropWhile (· == 0)).map (· + 48) := by
  induction l with
  | nil => rfl
  | cons a r ih =>
    rw [List.map_cons, List.dropWhile_cons, List.dropWhile_cons]
    by_cases h : a = 0
    · subst h; simpa using ih
    · have h1 : (a + 48 == 48) = false := by rw [beq_eq_false_iff_ne]; omega
      have h2 : (a == 0) = false := by rw [beq_eq_false_iff_ne]; exact h
      rw [h1, h2]; rfl
theorem strip_map (l : List Int) : strip (l.map (· + 48)) = (strip0 l).map (· + 48) := by
  unfold strip strip0
  rw [← List.map_reverse, dropW, List.map_reverse]
theorem pairs_map : ∀ l : List Int, pairs (l.map (· + 48)) = prs l
  | [] => rfl
  | [a] => by simp [pairs, prs]
  | a :: b :: r => by
    have := pairs_map r
    simp only [List.map_cons, pairs, prs, this]
    congr 1; omega
theorem prs_pad : ∀ l : List Int, prs (padE l) = prs l := by
  have key : ∀ l : List Int, l.length % 2 = 1 → prs (l ++ [0]) = prs l := by
    intro l
    induction hn : l.length using Nat.strongRecOn generalizing l with
    | _ n ih =>
      intro hl
      match l, hn, hl with
      | [a], _, _ => simp [prs]
      | a :: b :: r, hn, hl =>
        simp only [List.length_cons] at hn hl
        have := ih r.length (by omega) r rfl (by omega)
        simp only [List.cons_append, prs, this]
  intro l
  unfold padE
  split
  · rename_i h; exact key l h
  · rfl
theorem form_same (neg : Bool) (N : Nat) (hN : 0 < N) (hN2 : N < 9007199254740992) : sform neg (strip0 (dgs N)) (((dgs N).length : Int) - 1) = numForm neg (strip (letters N)) ((Lib.nDigits N : Int) - 1) := by
  have hl := letters_dgs N hN
  have hlen : (dgs N).length = Lib.nDigits N := by
    have := congrArg List.length hl
    rw [List.length_map, letters_length] at this; exact this.symm
  have hle := nDig_le 15 N (by omega)
  have hmap : mant ((Lib.nDigits N : Int) - 1) (strip (letters N)) = (lead ((Lib.nDigits N : Int) - 1) (strip0 (dgs N))).map (· + 48) := by
    rw [hl, strip_map]
    unfold mant lead
    split
    · rfl
    · rfl
  have hml := mant_le ((Lib.nDigits N : Int) - 1) (strip (letters N))
  have hsl := strip_le (letters N)
  rw [letters_length] at hsl
  rw [hlen]
  unfold sform numForm
  rw [hmap, pairs_map, prs_pad]
  rw [hmap, List.length_map] at hml
  cases neg
  · rw [if_neg (by simp), if_neg (by simp), List.append_nil]
    unfold headB
    rw [if_neg (by simp), Int.add_comm]
  · rw [if_pos rfl, if_pos ⟨rfl, by rw [List.length_map]; omega⟩]
    rfl

set_option maxRecDepth 100000 in
theorem specBytes0 (neg : Bool) (e : Int) (v : Value) (w : World) (h : Rd w v []) :
    Calls Tryz.prog 14 #[v, .bool neg, .int .i64 e] w fun e' w' => ∃ u, e' = .returned u ∧ Own w.heap.size w' u [128] ∧ Gr w w' := by
  obtain ⟨p, c, rfl, _, _, _, _, _⟩ := h
  have hO := (OwnAt.fresh' w [128] #[.int .u8 128] 1 w.heap.size (byt_one (by omega)) rfl rfl (by simp [maxLen]) rfl).own (Nat.le_refl _)
  have HO := Lib.hid hO
  clear hO
  simp only [List.length_nil]
  go_enter Tryz.func14, Tryz.ntmps14
  go_wp2_with fail
  go_ret
  exact ⟨_, rfl, HO.out, (Gr.refl _).alloc _⟩

/-- The form of a whole number, nought included. -/
def wform (neg : Bool) (N : Nat) : List Int := if N = 0 then [128] else numForm neg (strip (letters N)) ((Lib.nDigits N : Int) - 1)

theorem digits_bytes (neg : Bool) (N : Nat) (hN2 : N < 9007199254740992) (v : Value) (w : World) (h : Rd w v (strip0 (dgs N))) :
    Calls Tryz.prog 14 #[v, .bool neg, .int .i64 (((dgs N).length : Int) - 1)] w fun e' w' => ∃ u, e' = .returned u ∧ Own w.heap.size w' u (wform neg N) ∧ Gr w w' := by
  unfold wform
  by_cases h0 : N = 0
  · rw [if_pos h0]
    subst h0
    rw [dgs_zero] at h ⊢
    exact specBytes0 neg _ v w h
  · rw [if_neg h0, ← form_same neg N (by omega) hN2]
    have hle := dgs_le 16 N (by omega)
    have hd : D10 (strip0 (dgs N)) := fun x hx => by
      have := dgs_d N x
      unfold strip0 at hx
      rw [List.mem_reverse] at hx
      exact this (List.mem_reverse.1 ((List.dropWhile_sublist _).mem hx))
    have hsl : (strip0 (dgs N)).length ≤ 16 := by
      unfold strip0
      rw [List.length_reverse]
      have := (List.dropWhile_sublist (l := (dgs N).reverse) (p := (· == 0))).length_le
      rw [List.length_reverse] at this; omega
    have hs1 : 1 ≤ (strip0 (dgs N)).length := by
      have hne := strip_ne (u := N) (by omega)
      rw [letters_dgs N (by omega), strip_map] at hne
      rcases Nat.eq_zero_or_pos (strip0 (dgs N)).length with hz | hz
      · rw [List.eq_nil_of_length_eq_zero hz] at hne; exact absurd rfl hne
      · exact hz
    exact specBytes v _ neg _ w h hd ⟨hs1, by omega⟩ (by omega)

set_option maxRecDepth 100000 in
theorem numberOfUint (N : Nat) (hN2 : N < 9007199254740992) (w : World) :
    Calls Tryz.prog 12 #[.int .u64 (N : Nat)] w fun e' w' => ∃ u, e' = .returned u ∧ Own w.heap.size w' u (wform false N) ∧ Gr w w' := by
  have HS := fun w => Lib.hid (specDigits N (by omega) w)
  have HB := fun v w h => Lib.hid (digits_bytes false N hN2 v w h)
  go_enter Tryz.func12, Tryz.ntmps12
  go_wp2_with (first
    | (go_at_call 13; refine (HS _).out.mono ?_; rintro e w1 ⟨v, rfl, hov, hg1⟩)
    | (go_at_call 14; refine (HB _ _ hov.rd).out.mono ?_; rintro e w2 ⟨u, rfl, hou, hg2⟩))
  go_ret
  exact ⟨_, rfl, hou.mono hg1.size, hg1.trans hg2⟩

set_option maxRecDepth 100000 in
theorem numberOf (neg : Bool) (N : Nat) (hN2 : N < 9007199254740992) (hz : N = 0 → neg = false) (w : World) :
    Calls Tryz.prog 6 #[.int .i64 (if neg then -(N : Int) else N)] w fun e' w' => ∃ u, e' = .returned u ∧ Own w.heap.size w' u (wform neg N) ∧ Gr w w' := by
  have HS := fun w => Lib.hid (specDigits N (by omega) w)
  have HB := fun v w h => Lib.hid (digits_bytes neg N hN2 v w h)
  have HU := fun w => Lib.hid (numberOfUint N hN2 w)
  cases neg
  · simp only [Bool.false_eq_true, if_false]
    have k1 : (0 : Int) ≤ (N : Int) := by omega
    go_enter Tryz.func6, Tryz.ntmps6
    go_wp2_with (go_at_call 12; refine (HU _).out.mono ?_; rintro e w1 ⟨u, rfl, hou, hg1⟩)
    go_ret
    exact ⟨_, rfl, hou, hg1⟩
  · simp only [if_true]
    have hN0 : 0 < N := by
      rcases Nat.eq_zero_or_pos N with h | h
      · exact absurd (hz h) (by simp)
      · exact h
    have k1 : ¬ (0 : Int) ≤ -(N : Int) := by omega
    have k2 : IntKind.u64.wrap (-IntKind.u64.wrap (-(N : Int))) = (N : Int) := by rw [IntKind.wrap_u64, IntKind.wrap_u64]; omega
    clear hz
    go_enter Tryz.func6, Tryz.ntmps6
    go_wp2_with (first
      | (go_at_call 13; refine (HS _).out.mono ?_; rintro e w1 ⟨v, rfl, hov, hg1⟩)
      | (go_at_call 14; refine (HB _ _ hov.rd).out.mono ?_; rintro e w2 ⟨u, rfl, hou, hg2⟩))
    go_ret
    exact ⟨_, rfl, hou.mono hg1.size, hg1.trans hg2⟩
end Go.Proofs.YtoachnjapfakdaaGreatDoor
