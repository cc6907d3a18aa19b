/- zzFits6, urlName, urlParts: the walks. -/
import Derived.Test.YtpadpdmidiaeoaaGreatDoorUoJ
import Derived.Test.YtpadpdmidiaeoaaGreatDoorUrG
namespace Go.Proofs.YtpadpdmidiaeoaaGreatDoor
open Go Go.RowKit Go.Lib

/-! ### Sizes -/
def fitO (x : Op) : Bool := decide (x.n.length ≤ 2147483647) && decide (x.v.length ≤ 2147483647)
set_option maxRecDepth 100000 in
theorem fits5 (x : Op) (w : World) :
    Calls Tryz.prog 16 #[.agg #[.string (bs x.n), .string (bs x.v)]] w fun e w' => e = .returned (.bool (fitO x)) ∧ Gr w w' := by
  have e1 : (bs x.n).size = x.n.length := bs_size _
  have e2 : (bs x.v).size = x.v.length := bs_size _
  have HX : Hid (fitO x = (decide ((bs x.n).size ≤ 2147483647) && decide ((bs x.v).size ≤ 2147483647))) := Lib.hid (by unfold fitO; rw [e1, e2])
  clear e1 e2
  obtain ⟨X, hX⟩ : ∃ X, bs x.n = X := ⟨_, rfl⟩
  obtain ⟨Y, hY⟩ : ∃ Y, bs x.v = Y := ⟨_, rfl⟩
  rw [hX, hY] at HX ⊢
  clear hX hY
  have c0 : (w.alloc (.cells #[.string X, .string Y] 30)).cell? ⟨w.heap.size, 0, none⟩ = some (.string X) := (blk_cell (heap_new_at w _ rfl) 0).trans rfl
  have c1 : (w.alloc (.cells #[.string X, .string Y] 30)).cell? ⟨w.heap.size, 1, none⟩ = some (.string Y) := (blk_cell (heap_new_at w _ rfl) 1).trans rfl
  go_enter Tryz.func16, Tryz.ntmps16
  by_cases h1 : (2147483647 : Int) < (X.size : Int)
  · go_wp2
    go_ret
    exact ⟨by rw [HX.out]; have : ¬ X.size ≤ 2147483647 := by omega
              simp [this], (Gr.refl w).alloc _⟩
  · by_cases h2 : (2147483647 : Int) < (Y.size : Int)
    · go_wp2
      go_ret
      exact ⟨by rw [HX.out]; have : ¬ Y.size ≤ 2147483647 := by omega
                simp [this], (Gr.refl w).alloc _⟩
    · go_wp2
      go_ret
      exact ⟨by rw [HX.out]; have a : X.size ≤ 2147483647 := by omega
                have b : Y.size ≤ 2147483647 := by omega
                simp [a, b], (Gr.refl w).alloc _⟩

set_option maxRecDepth 100000 in
set_option maxHeartbeats 2000000 in
theorem fits6 (v : Value) (l : List Op) (w : World) (h : RdO w v l) :
    Calls Tryz.prog 4 #[v] w fun e w' => e = .returned (.bool (decide (l.length ≤ 2147483647) && l.all fitO)) ∧ Gr w w' := by
  obtain ⟨p, c, rfl, hlc, hcm, hcells⟩ := h
  obtain ⟨n, hn⟩ : ∃ n, l.length = n := ⟨_, rfl⟩
  have hcm2 : c ≤ 9223372036854775807 := by simp only [maxLen] at hcm; omega
  have HN := Lib.hid hn
  have HC := Lib.hid hcells
  have HF := fun x W => Lib.hid (fits5 x W)
  rw [hn] at hlc ⊢
  clear hn hcells hcm
  go_enter Tryz.func4, Tryz.ntmps4
  by_cases hbig : (2147483647 : Int) < (n : Int)
  · go_wp2
    go_ret
    exact ⟨by have : ¬ n ≤ 2147483647 := by omega
              simp [this], Gr.refl w⟩
  · go_wp2
    go_loopw [10] (fun i wr => ∃ k : Nat, i = .int .i64 k ∧ k ≤ n ∧ Hid ((l.take k).all fitO = true) ∧ Hid (Gr w wr)) (fun i _ => ((n : Int) - intOf i).toNat)
    case atStart => exact ⟨0, rfl, Nat.zero_le _, (by show _ = _; simp), Gr.refl w⟩
    case round =>
      obtain ⟨k, rfl, hk, HALL, HGR⟩ := hrel
      by_cases e : k < n
      · have hkl : k < l.length := by rw [HN.out]; exact e
        obtain ⟨b, o, rfl, hc⟩ := HC.out (by omega)
        have c0 := HGR.out.cell (hc k hkl).1
        have c1 := HGR.out.cell (hc k hkl).2
        have htk : (l.take (k + 1)).all fitO = ((l.take k).all fitO && fitO l[k]) := by rw [List.take_succ_eq_append_getElem hkl, List.all_append]; simp
        have hno : fitO l[k] = false → l.all fitO = false := fun h => by
          rw [← Bool.not_eq_true, List.all_eq_true]
          intro h2
          have := h2 l[k] (List.getElem_mem hkl)
          rw [h] at this
          cases this
        have HTK := Lib.hid htk
        have HNO := Lib.hid hno
        have HF1 := HF l[k]
        generalize l[k] = x at *
        clear htk hno hkl hc HF
        obtain ⟨X, hX⟩ : ∃ X, bs x.n = X := ⟨_, rfl⟩
        obtain ⟨Y, hY⟩ : ∃ Y, bs x.v = Y := ⟨_, rfl⟩
        rw [hX] at c0
        rw [hY] at c1
        rw [hX, hY] at HF1
        clear hX hY
        have d0 : (wr.alloc (.cells #[.string X, .string Y] 30)).cell? ⟨wr.heap.size, 0, none⟩ = some (.string X) := (blk_cell (heap_new_at wr _ rfl) 0).trans rfl
        have d1 : (wr.alloc (.cells #[.string X, .string Y] 30)).cell? ⟨wr.heap.size, 1, none⟩ = some (.string Y) := (blk_cell (heap_new_at wr _ rfl) 1).trans rfl
        rcases hfx : fitO x with _ | _
        · rw [hfx] at HF1
          have HFX := Lib.hid hfx
          clear hfx
          go_wp2_with (first
            | (go_at_call 16; go_must (refine (HF1 _).out.mono ?_); rintro e w5 ⟨rfl, hg5⟩; have HG5 := Lib.hid hg5; clear hg5))
          go_ret
          exact ⟨by rw [HNO.out HFX.out]; simp, (HGR.out.alloc _).trans HG5.out⟩
        · rw [hfx] at HF1
          have HFX := Lib.hid hfx
          clear hfx
          go_wp2_with (first
            | (go_at_call 16; go_must (refine (HF1 _).out.mono ?_); rintro e w5 ⟨rfl, hg5⟩; have HG5 := Lib.hid hg5; clear hg5))
          go_roundw
          case rel => exact ⟨k + 1, by go_num, by omega, (by show _ = _; rw [HTK.out, HALL.out, HFX.out]; rfl), (HGR.out.alloc _).trans HG5.out⟩
          case measure => simp [intOf]; omega
      · obtain rfl : k = n := by omega
        have hall : l.all fitO = true := by rw [← HALL.out, List.take_of_length_le (by rw [HN.out]; exact Nat.le_refl _)]
        have HA := Lib.hid hall
        clear hall
        go_wp2
        go_ret
        exact ⟨by rw [HA.out]; have : k ≤ 2147483647 := by omega
                  simp [this], HGR.out⟩

/-! ### Names -/
def nameOk (L : List UInt8) : Bool := L.all (fun b => alnB b.toNat) && decide (1 ≤ L.length ∧ L.length ≤ 100)
theorem alnB_yes (x : Nat) (h : (97 ≤ x ∧ x ≤ 122) ∨ (65 ≤ x ∧ x ≤ 90) ∨ (48 ≤ x ∧ x ≤ 57)) : alnB x = true := by
  unfold alnB
  simp only [Bool.or_eq_true, Bool.and_eq_true, decide_eq_true_eq]
  omega
theorem alnB_no (x : Nat) (h : ¬ ((97 ≤ x ∧ x ≤ 122) ∨ (65 ≤ x ∧ x ≤ 90) ∨ (48 ≤ x ∧ x ≤ 57))) : alnB x = false := by
  cases e : alnB x with
  | false => rfl
  | true =>
    unfold alnB at e
    simp only [Bool.or_eq_true, Bool.and_eq_true, decide_eq_true_eq] at e
    omega

set_option maxRecDepth 100000 in
set_option maxHeartbeats 4000000 in
theorem urlName (L : List UInt8) (hl : L.length ≤ 4000000000) (w : World) :
    Calls Tryz.prog 7 #[.string (bs L)] w fun e w' => e = .returned (.bool (nameOk L)) ∧ Gr w w' := by
  obtain ⟨c, W2, hcv, hrw, hg, hc1, hc2⟩ := bytes_of_str_rw L w (by simp only [maxLen]; omega)
  obtain ⟨n, hn⟩ : ∃ n, L.length = n := ⟨_, rfl⟩
  have hsz : (bs L).size = n := by rw [bs_size, hn]
  have hem : (bs L).toList.isEmpty = decide (n = 0) := by
    have e : (bs L).toList = L := by simp [bs]
    rw [e, ← hn]
    cases L <;> simp
  have hok : nameOk L = (L.all (fun b => alnB b.toNat) && decide (1 ≤ n ∧ n ≤ 100)) := by unfold nameOk; rw [hn]
  rw [hn] at hcv hc1 hl
  have hcm : c ≤ 9223372036854775807 := by simp only [maxLen] at hc2; omega
  have HN := Lib.hid hn
  have HG := Lib.hid hg
  have HRW := Lib.hid hrw
  have HOK := Lib.hid hok
  clear hrw hg hn hc2 hok
  generalize hS : bs L = S at *
  clear hS
  go_enter Tryz.func7, Tryz.ntmps7
  go_wp2
  go_loopw [8] (fun i wr => ∃ k : Nat, i = .int .i64 k ∧ k ≤ n ∧ ((L.take k).all fun b => alnB b.toNat) = true ∧ wr = W2) (fun i _ => ((n : Int) - intOf i).toNat)
  case atStart => exact ⟨0, rfl, Nat.zero_le _, by simp, rfl⟩
  case round =>
    obtain ⟨k, rfl, hk, hall, rfl⟩ := hrel
    by_cases hkn : k < n
    · have hkL : k < L.length := by rw [HN.out]; exact hkn
      have kc := HRW.out.cell k (by rw [nums_length]; exact hkL)
      have hgd : (nums L).getD k 0 = (L[k].toNat : Int) := by simp [nums, List.getD_eq_getElem?_getD, hkL]
      rw [hgd] at kc
      have ht : ((L.take (k + 1)).all fun b => alnB b.toNat) = (((L.take k).all fun b => alnB b.toNat) && alnB L[k].toNat) := by
        rw [List.take_succ_eq_append_getElem hkL, List.all_append]; simp
      have hno : alnB L[k].toNat = false → (L.all fun b => alnB b.toNat) = false := fun h => by
        rw [← Bool.not_eq_true, List.all_eq_true]
        intro h2
        have := h2 L[k] (List.getElem_mem hkL)
        rw [h] at this
        cases this
      have hx := L[k].toNat_lt
      generalize L[k].toNat = x at *
      have HT := Lib.hid ht
      have HNO := Lib.hid hno
      have HALL := Lib.hid hall
      clear ht hno hall hgd
      rcases (by omega : x < 48 ∨ (48 ≤ x ∧ x ≤ 57) ∨ (58 ≤ x ∧ x ≤ 64) ∨ (65 ≤ x ∧ x ≤ 90) ∨ (91 ≤ x ∧ x ≤ 96) ∨ (97 ≤ x ∧ x ≤ 122) ∨ 122 < x) with h | h | h | h | h | h | h
      all_goals first
        | have hb := alnB_yes x (by omega)
        | have hb := alnB_no x (by omega)
      all_goals
        have HB := Lib.hid hb
        have HH := Lib.hid h
        clear hb h
        first | (have a1 : (97 : Int) ≤ (x : Int) := by have := HH.out; omega) | (have a1 : ¬ (97 : Int) ≤ (x : Int) := by have := HH.out; omega)
        first | (have a2 : (x : Int) ≤ 122 := by have := HH.out; omega) | (have a2 : ¬ (x : Int) ≤ 122 := by have := HH.out; omega)
        first | (have a3 : (65 : Int) ≤ (x : Int) := by have := HH.out; omega) | (have a3 : ¬ (65 : Int) ≤ (x : Int) := by have := HH.out; omega)
        first | (have a4 : (x : Int) ≤ 90 := by have := HH.out; omega) | (have a4 : ¬ (x : Int) ≤ 90 := by have := HH.out; omega)
        first | (have a5 : (48 : Int) ≤ (x : Int) := by have := HH.out; omega) | (have a5 : ¬ (48 : Int) ≤ (x : Int) := by have := HH.out; omega)
        first | (have a6 : (x : Int) ≤ 57 := by have := HH.out; omega) | (have a6 : ¬ (x : Int) ≤ 57 := by have := HH.out; omega)
        go_wp2
        first
          | (go_roundw
             case rel => exact ⟨k + 1, by go_num, by omega, by rw [HT.out, HALL.out, HB.out]; rfl, by trivial⟩
             case measure => first | (simp [intOf]; done) | (simp [intOf]; omega))
          | (go_ret
             exact ⟨by rw [HOK.out, HNO.out HB.out]; rfl, HG.out⟩)
    · obtain rfl : n = k := by omega
      have hall2 : (L.all fun b => alnB b.toNat) = true := by rw [← hall, ← HN.out, List.take_length]
      have HA := Lib.hid hall2
      clear hall hall2
      by_cases h0 : n = 0
      · have hd : decide (n = 0) = true := by simp [h0]
        rw [hd] at hem
        have hno : nameOk L = false := by rw [HOK.out]; simp; omega
        have HNO := Lib.hid hno
        clear hno
        go_wp2
        go_ret
        exact ⟨by rw [HNO.out]; simp [hem], HG.out⟩
      · have hd : decide (n = 0) = false := by simp [h0]
        rw [hd] at hem
        by_cases h100 : (n : Int) ≤ 100
        · have hno : nameOk L = true := by rw [HOK.out, HA.out]; simp; omega
          have HNO := Lib.hid hno
          clear hno
          go_wp2
          go_ret
          exact ⟨by rw [HNO.out]; simp [hem], HG.out⟩
        · have hno : nameOk L = false := by rw [HOK.out]; simp; omega
          have HNO := Lib.hid hno
          clear hno
          go_wp2
          go_ret
          exact ⟨by rw [HNO.out]; simp [hem], HG.out⟩

/-! ### Values -/
def valB (V : List UInt8) : Bool := V.all prB && !((partsL V).any fun p => decide (([] : List UInt8) = p))
theorem valB_ok (V : List UInt8) (h : valB V = true) : valOk V := by
  unfold valB at h
  rw [Bool.and_eq_true] at h
  refine ⟨fun b hb => List.all_eq_true.1 h.1 b hb, fun hm => ?_⟩
  have h2 := h.2
  rw [Bool.not_eq_true', List.any_eq_false] at h2
  exact h2 [] hm (by simp)
theorem eqlT : EqlAt Tryz.prog 9 (fun p : List UInt8 => Value.string (bs p)) (fun x y => decide (x = y)) :=
  ⟨fun x y w => by
    have h := (EqlAt.string Tryz.prog 9).1 (bs x) (bs y) w
    rw [h]
    show Result.ok (Value.bool ((bs x).toList == (bs y).toList)) w = _
    rw [bs_eq], fun op a b x y w => GuardAt.string Tryz.prog 9 op a b (bs x) (bs y) w⟩
theorem prB_iff (x : UInt8) : prB x = decide (32 ≤ x.toNat ∧ x.toNat < 127) := rfl

theorem containsT (b c : Nat) (P : List (List UInt8)) (x : List UInt8) (w : World) (B : Nat) (h : OwnT B w (.slice (some ⟨b, 0, none⟩) P.length c) P) (hl : P.length ≤ 1000000) :
    Calls Tryz.prog 17 #[.slice (some ⟨b, 0, none⟩) P.length c, .string (bs x)] w fun e w' => e = .returned (.bool (P.any fun y => decide (x = y))) ∧ w' = w := by
  have hh := Tryz.slices_Contains (fun p : List UInt8 => Value.string (bs p)) _ eqlT b 0 P.length c P x w (Nat.le_refl _) (by omega) (fun j hj => by
    rw [Nat.zero_add, h.cell j hj]
    simp [hj])
  rw [List.take_length] at hh
  exact hh

set_option maxRecDepth 100000 in
set_option maxHeartbeats 4000000 in
theorem urlParts (L : List UInt8) (hl : L.length ≤ 100000) (w : World) :
    Calls Tryz.prog 9 #[.string (bs L)] w fun e w' => e = .returned (.bool (valB L)) ∧ Gr w w' := by
  obtain ⟨c, W2, hcv, hrw, hg, hc1, hc2⟩ := bytes_of_str_rw L w (by simp only [maxLen]; omega)
  obtain ⟨n, hn⟩ : ∃ n, L.length = n := ⟨_, rfl⟩
  have hsz : (bs L).size = n := by rw [bs_size, hn]
  have hsl := splitL_len 44 L
  have hpl : (partsL L).length ≤ 100001 := by unfold partsL; rw [List.length_map]; omega
  have hpos : 0 < (partsL L).length := by unfold partsL; rw [List.length_map]; exact splitL_pos _ _
  have HCP : ∀ W, Hid (Calls Tryz.prog 18 #[.string (bs L)] W fun e w' => ∃ v, e = .returned v ∧ OwnT W.heap.size w' v (partsL L) ∧ Gr W w') := fun W => Lib.hid (configParts L hl W)
  have hok : valB L = (L.all prB && !((partsL L).any fun p => decide (([] : List UInt8) = p))) := rfl
  rw [hn] at hcv hc1 hl
  have hcm : c ≤ 9223372036854775807 := by simp only [maxLen] at hc2; omega
  have HN := Lib.hid hn
  have HG := Lib.hid hg
  have HRW := Lib.hid hrw
  have HOK := Lib.hid hok
  have HPL := Lib.hid hpl
  have HPO := Lib.hid hpos
  clear hrw hg hn hc2 hok hsl hpl hpos
  generalize partsL L = P at *
  generalize hS : bs L = S at *
  clear hS
  go_enter Tryz.func9, Tryz.ntmps9
  go_wp2
  go_loopw [8] (fun i wr => ∃ k : Nat, i = .int .i64 k ∧ k ≤ n ∧ ((L.take k).all prB) = true ∧ wr = W2) (fun i _ => ((n : Int) - intOf i).toNat)
  case atStart => exact ⟨0, rfl, Nat.zero_le _, by simp, rfl⟩
  case round =>
    obtain ⟨k, rfl, hk, hall, rfl⟩ := hrel
    by_cases hkn : k < n
    · have hkL : k < L.length := by rw [HN.out]; exact hkn
      have kc := HRW.out.cell k (by rw [nums_length]; exact hkL)
      have hgd : (nums L).getD k 0 = (L[k].toNat : Int) := by simp [nums, List.getD_eq_getElem?_getD, hkL]
      rw [hgd] at kc
      have ht : ((L.take (k + 1)).all prB) = (((L.take k).all prB) && prB L[k]) := by
        rw [List.take_succ_eq_append_getElem hkL, List.all_append]; simp
      have hno : prB L[k] = false → (L.all prB) = false := fun h => by
        rw [← Bool.not_eq_true, List.all_eq_true]
        intro h2
        have := h2 L[k] (List.getElem_mem hkL)
        rw [h] at this
        cases this
      rw [prB_iff] at ht hno
      have hx := L[k].toNat_lt
      generalize L[k].toNat = x at *
      have HT := Lib.hid ht
      have HNO := Lib.hid hno
      have HALL := Lib.hid hall
      clear ht hno hall hgd HCP
      by_cases h32 : (x : Int) < 32
      · go_wp2
        go_ret
        exact ⟨by rw [HOK.out, HNO.out (by simp; omega)]; rfl, HG.out⟩
      · by_cases h127 : (127 : Int) ≤ (x : Int)
        · go_wp2
          go_ret
          exact ⟨by rw [HOK.out, HNO.out (by simp; omega)]; rfl, HG.out⟩
        · go_wp2
          go_roundw
          case rel => exact ⟨k + 1, by go_num, by omega, by rw [HT.out, HALL.out]; simp; omega, by trivial⟩
          case measure => simp [intOf]; omega
    · obtain rfl : n = k := by omega
      have hall2 : (L.all prB) = true := by rw [← hall, ← HN.out, List.take_length]
      have HA := Lib.hid hall2
      clear hall hall2
      go_wp2_with (first
        | (go_at_call 18; go_must (refine (HCP _).out.mono ?_); rintro e w3 ⟨v3, rfl, ho3, hg3⟩; obtain ⟨b3, c3, rfl, hs1, hs2, hs3, hs4⟩ := ho3.row HPO.out; have HO3 := Lib.hid ho3; have HG3 := Lib.hid hg3; have HC := fun W B (h : OwnT B W (.slice (some ⟨b3, 0, none⟩) P.length c3) P) => Lib.hid (containsT b3 c3 P [] W B h (by have := HPL.out; omega)); clear ho3 hg3 hs1 hs2 hs3 hs4)
        | (go_at_call 17; go_must (refine (HC _ _ HO3.out).out.mono ?_); rintro e w4 ⟨rfl, hw⟩; obtain rfl := hw.symm))
      go_ret
      exact ⟨by rw [HOK.out, HA.out]; simp, HG.out.trans HG3.out⟩
end Go.Proofs.YtpadpdmidiaeoaaGreatDoor
