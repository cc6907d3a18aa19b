/- EncodeDouble and NumberOfDouble of a whole number. -/
import Derived.Test.YtoachnjapfakdaaGreatDoorNdK
namespace Go.Proofs.YtoachnjapfakdaaGreatDoor
open Go Go.RowKit

theorem enc_lists (neg : Bool) (B : List Int) (x0 a1 a2 : Int) (ke : Nat) (hB0 : B.getD 0 0 = x0) (hx : ∀ x ∈ B, 46 ≤ x ∧ x ≤ 57) (hx0 : 48 ≤ x0) (hl : 1 ≤ B.length) (h1 : 0 ≤ a1 ∧ a1 < 256) (h2 : 0 ≤ a2 ∧ a2 < 256)
    (hk : B.length + (if neg then 1 else 0) = ke) (T : List Int) (hT : (if neg then [45] else []) ++ B ++ [101, 43, a1, a2] = T) :
    T.length = ke + 4 ∧ Byt T ∧ T.getD ke 0 = 101 ∧ (∀ j, j < ke → T.getD j 0 ≠ 101) ∧ T.drop (ke + 1) = [43, a1, a2] ∧ ((T.getD 0 0) == 45) = neg ∧ (T.take ke).drop (if neg then 1 else 0) = B := by
  obtain ⟨A, hA⟩ : ∃ A, (if neg then [45] else []) ++ B = A := ⟨_, rfl⟩
  rw [hA] at hT
  have hAl : A.length = ke := by rw [← hA, ← hk]; cases neg <;> simp
  have hAm : ∀ x ∈ A, x ≠ 101 ∧ 0 ≤ x ∧ x < 256 := by
    intro x hxA
    rw [← hA] at hxA
    rcases List.mem_append.1 hxA with h | h
    · cases neg
      · simp at h
      · simp at h; omega
    · have := hx x h; omega
  have hget : ∀ j, j < ke → T.getD j 0 = A.getD j 0 := fun j hj => by
    rw [← hT, List.getD_eq_getElem?_getD, List.getD_eq_getElem?_getD, List.getElem?_append_left (by omega)]
  refine ⟨?_, ?_, ?_, ?_, ?_, ?_, ?_⟩
  · rw [← hT, List.length_append, hAl]; rfl
  · intro x hxT
    rw [← hT] at hxT
    rcases List.mem_append.1 hxT with h | h
    · have := hAm x h; omega
    · simp at h; omega
  · rw [← hT, List.getD_eq_getElem?_getD, List.getElem?_append_right (by omega), hAl, Nat.sub_self]; rfl
  · intro j hj
    rw [hget j hj, List.getD_eq_getElem?_getD, List.getElem?_eq_getElem (by omega)]
    exact (hAm _ (List.getElem_mem (by omega))).1
  · rw [← hT, List.drop_append, hAl, List.drop_eq_nil_of_le (by omega), show ke + 1 - ke = 1 from by omega]; rfl
  · rw [hget 0 (by split at hk <;> omega), ← hA]
    cases neg
    · simp only [Bool.false_eq_true, if_false, List.nil_append]
      rw [hB0, beq_eq_false_iff_ne]; omega
    · rfl
  · rw [← hT, List.take_left' hAl, ← hA]
    cases neg <;> simp

set_option maxRecDepth 100000 in
set_option maxHeartbeats 2000000 in
theorem encD (neg : Bool) (N : Nat) (hN : 0 < N) (hN2 : N < 9007199254740992) (w : World) (hT : PowT w) (ht : Tab10 w) :
    Calls Tryz.prog 11 #[.float .f64 (fn neg N)] w fun e w' => ∃ u, e = .returned (.tuple #[u, .nilIface]) ∧ Own w.heap.size w' u (numForm neg (strip (letters N)) ((Lib.nDigits N : Int) - 1)) ∧ Gr w w' := by
  have HF := Lib.hid (fmtFloat neg N hN hN2 w hT ht)
  have hz := fn_ne neg hN hN2
  obtain ⟨b, hb⟩ : ∃ b, fn neg N = b := ⟨_, rfl⟩
  rw [hb] at HF hz ⊢
  have hn1 := Lib.nDigits_pos N
  have hn2 := nDig_le 17 N (by omega)
  have hXl : (strip (letters N)).length ≤ 18 := by have := strip_le (letters N); rw [letters_length] at this; omega
  have hXn := strip_ne (u := N) hN
  have hXd : Dig (strip (letters N)) := by
    rw [← (strip_take (letters N)).1]; exact fun y hy => letters_dig N y (List.mem_of_mem_take hy)
  obtain ⟨n, hn⟩ : ∃ n, Lib.nDigits N = n := ⟨_, rfl⟩
  rw [hn] at HF hn1 hn2 ⊢
  generalize strip (letters N) = X at *
  obtain ⟨x0, R, rfl⟩ : ∃ x R, X = x :: R := by
    cases X with
    | nil => exact absurd rfl hXn
    | cons x R => exact ⟨x, R, rfl⟩
  obtain ⟨E, hE⟩ : ∃ E : Nat, (n : Int) - 1 = E := ⟨n - 1, by omega⟩
  have hat := atoi_exp ⟨E, by omega⟩
  simp only at hat
  rw [expText_eq, hE] at HF
  rw [hE]
  have hMt : mantText neg (x0 :: R) = (if neg then [45] else []) ++ (x0 :: (if R = [] then [] else 46 :: R)) := by
    unfold mantText
    cases R <;> simp
  rw [hMt] at HF
  have hx0 := hXd x0 (by simp)
  have hRd : ∀ x ∈ R, 48 ≤ x ∧ x ≤ 57 := fun x hx => hXd x (by simp [hx])
  simp only [List.length_cons] at hXl
  obtain ⟨T, hTT⟩ : ∃ T, (if neg then [45] else []) ++ (x0 :: (if R = [] then [] else 46 :: R)) ++ [101, 43, 48 + (E : Int) / 10, 48 + (E : Int) % 10] = T := ⟨_, rfl⟩
  rw [hTT] at HF
  by_cases hR : R = []
  · subst hR
    rw [if_pos rfl] at hTT
    obtain ⟨l1, l2, l3, l4, l5, l6, l7⟩ := enc_lists neg [x0] x0 _ _ (1 + (if neg then 1 else 0)) rfl (by intro x hx; simp at hx; omega) hx0.1 (by simp) (by omega) (by omega) rfl T hTT
    exact encWalk neg false b E _ 1 1 T [x0] [x0] _ _ _ w HF.out hz l1 (by split <;> omega) l2 l3 l4 l5 hat (by omega) rfl l6 l7 rfl rfl (fun h => by cases h) (fun _ => ⟨fun j hj => by rw [show j = 0 from by omega]; show x0 ≠ 46; omega, rfl, rfl⟩) rfl (by omega) hXd
  · rw [if_neg hR] at hTT
    obtain ⟨l1, l2, l3, l4, l5, l6, l7⟩ := enc_lists neg (x0 :: 46 :: R) x0 _ _ ((R.length + 2) + (if neg then 1 else 0)) rfl (by
      intro x hx
      simp only [List.mem_cons] at hx
      rcases hx with rfl | rfl | hx
      · omega
      · omega
      · have := hRd x hx; omega) hx0.1 (by simp) (by omega) (by omega) (by simp) T hTT
    exact encWalk neg true b E _ (R.length + 1) (R.length + 2) T (x0 :: 46 :: R) (x0 :: R) _ _ _ w HF.out hz l1 (by split <;> omega) l2 l3 l4 l5 hat (by omega) rfl l6 l7 (by simp) rfl (fun _ => ⟨by omega, (by show x0 ≠ 46; omega), rfl, rfl, rfl⟩) (fun h => by cases h) (by simp) (by omega) hXd

set_option maxRecDepth 100000 in
theorem numD (neg : Bool) (N : Nat) (hN : 0 < N) (hN2 : N < 9007199254740992) (w : World) (hT : PowT w) (ht : Tab10 w) :
    Calls Tryz.prog 4 #[.float .f64 (fn neg N)] w fun e w' => ∃ u, e = .returned (.tuple #[u, .bool true]) ∧ Own w.heap.size w' u (numForm neg (strip (letters N)) ((Lib.nDigits N : Int) - 1)) ∧ Gr w w' := by
  have HF := Lib.hid (encD neg N hN hN2 w hT ht)
  generalize numForm neg (strip (letters N)) ((Lib.nDigits N : Int) - 1) = X at *
  generalize fn neg N = b at *
  clear hT ht
  go_enter Tryz.func4, Tryz.ntmps4
  go_wp2_with (go_at_call 11; refine HF.out.mono ?_; rintro e w5 ⟨u, rfl, hou, hg5⟩)
  go_region
  go_wp2
  go_ret2
  exact ⟨_, rfl, hou, hg5.drew⟩

set_option maxRecDepth 100000 in
theorem numD0 (w : World) : Calls Tryz.prog 4 #[.float .f64 0] w fun e w' => ∃ u, e = .returned (.tuple #[u, .bool true]) ∧ Own w.heap.size w' u [128] ∧ Gr w w' := by
  have HE : Hid (Calls Tryz.prog 11 #[.float .f64 0] w fun e w' => ∃ u, e = .returned (.tuple #[u, .nilIface]) ∧ Own w.heap.size w' u [128] ∧ Gr w w') := by
    refine Lib.hid ?_
    have hz : (FloatKind.f64.format.order 0 0 == some .eq) = true := by decide +kernel
    have hO := (OwnAt.fresh' w [128] #[.int .u8 128] 1 w.heap.size (byt_one (by omega)) rfl rfl (by simp [maxLen]) rfl).own (Nat.le_refl _)
    have HO := Lib.hid hO
    clear hO
    go_enter Tryz.func11, Tryz.ntmps11
    go_wp2_with fail
    go_ret2
    exact ⟨_, rfl, HO.out, (Gr.refl _).alloc _⟩
  go_enter Tryz.func4, Tryz.ntmps4
  go_wp2_with (go_at_call 11; refine HE.out.mono ?_; rintro e w5 ⟨u, rfl, hou, hg5⟩)
  go_region
  go_wp2
  go_ret2
  exact ⟨_, rfl, hou, hg5.drew⟩
end Go.Proofs.YtoachnjapfakdaaGreatDoor
