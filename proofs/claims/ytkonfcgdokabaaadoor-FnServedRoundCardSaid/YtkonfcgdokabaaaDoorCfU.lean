/- spec.ServersEqual; the laws' guards on servers. -/
import Derived.Test.YtkonfcgdokabaaaDoorCfT
import Derived.BigQuiet
namespace Go.Proofs.YtkonfcgdokabaaaDoor
open Go Go.RowKit

set_option maxRecDepth 100000 in
set_option maxHeartbeats 1000000 in
theorem specEqual (p1 p2 : ByteArray) (L1 L2 : List UInt8) (n1 n2 : Int) (hl1 : L1.length ≤ 100000) (hl2 : L2.length ≤ 100000) (w : World) :
    Calls Tryd.prog 13 #[.agg #[.string p1, .string (bs L1), .int .i64 n1], .agg #[.string p2, .string (bs L2), .int .i64 n2]] w fun e w' => e = .returned (.bool (srvEq L1 n1 L2 n2)) ∧ Gr w w' := by
  have HL1 := fun w => Lib.hid (lower L1 (by omega) w)
  have HL2 := fun w => Lib.hid (lower L2 (by omega) w)
  have he : srvEq L1 n1 L2 n2 = ((n1 == n2) && ((bs (L1.map lowB)).toList == (bs (L2.map lowB)).toList)) := by
    rw [show ((bs (L1.map lowB)).toList == (bs (L2.map lowB)).toList) = decide (L1.map lowB = L2.map lowB) from arr_eq _ _]
    unfold srvEq
    rw [Bool.and_comm]
  rw [he]
  clear he hl1 hl2
  generalize bs (L1.map lowB) = M1 at *
  generalize bs (L2.map lowB) = M2 at *
  generalize bs L1 = S1 at *
  generalize bs L2 = S2 at *
  obtain ⟨H, hH⟩ : ∃ H, w.heap.size = H := ⟨_, rfl⟩
  generalize hq : (n1 == n2) = q
  cases q
  all_goals
    go_enter Tryd.func13, Tryd.ntmps13
    go_wp2
    generalize hW0 : ((w.alloc _).alloc _) = W at *
    have k11 : W.cell? ⟨H, 1, none⟩ = some (.string S1) := by rw [← hW0]; exact ((Gr.refl _).alloc _).cell ((blk_cell (heap_new_at w _ hH.symm) 1).trans rfl)
    have k12 : W.cell? ⟨H, 2, none⟩ = some (.int .i64 n1) := by rw [← hW0]; exact ((Gr.refl _).alloc _).cell ((blk_cell (heap_new_at w _ hH.symm) 2).trans rfl)
    have k21 : W.cell? ⟨H + 1, 1, none⟩ = some (.string S2) := by rw [← hW0]; exact (blk_cell (heap_new_at (w.alloc _) _ (by simp [hH])) 1).trans rfl
    have k22 : W.cell? ⟨H + 1, 2, none⟩ = some (.int .i64 n2) := by rw [← hW0]; exact (blk_cell (heap_new_at (w.alloc _) _ (by simp [hH])) 2).trans rfl
    have HGW := Lib.hid (show Gr w W by subst hW0; exact ((Gr.refl w).alloc _).alloc _)
    clear hW0
  · go_quiet (fail)
    go_wp2
    go_ret
    exact ⟨rfl, HGW.out.trans ((Gr.refl W).drewN _)⟩
  · go_region_held3 (fun w' => w'.cell? ⟨H, 1, none⟩ = some (.string S1) ∧ w'.cell? ⟨H, 2, none⟩ = some (.int .i64 n1) ∧ w'.cell? ⟨H + 1, 1, none⟩ = some (.string S2) ∧ w'.cell? ⟨H + 1, 2, none⟩ = some (.int .i64 n2)) (first | go_keep | (with_reducible exact ⟨hG.cell k11, hG.cell k12, hG.cell k21, hG.cell k22⟩))
      ((first
        | (go_at_call 30; with_reducible refine (HL1 _).out.mono ?_; rintro e w2 ⟨rfl, hg2⟩; have hG : Gr W w2 := Gr.trans (by with_reducible first | exact hG | exact Gr.refl _ | exact (Gr.refl _).drew) hg2)
        | (go_at_call 30; with_reducible refine (HL2 _).out.mono ?_; rintro e w2 ⟨rfl, hg2⟩; have hG : Gr W w2 := Gr.trans (by with_reducible first | exact hG | exact Gr.refl _ | exact (Gr.refl _).drew) hg2)))
    all_goals (go_wp2; go_ret; exact ⟨rfl, HGW.out.trans hG⟩)

theorem zfits1 (p a : ByteArray) (n : Int) (w : World) :
    Calls Tryd.prog 19 #[.agg #[.string p, .string a, .int .i64 n]] w fun e w' => e = .returned (.bool (decide (p.size ≤ 2147483647 ∧ a.size ≤ 2147483647))) ∧ Gr w w' := by
  have hc : ∀ (x y : Nat), decide (x ≤ 2147483647 ∧ y ≤ 2147483647) = (!(decide ((2147483647 : Int) < (x : Int))) && !(decide ((2147483647 : Int) < (y : Int)))) := by
    intro x y
    by_cases h1 : x ≤ 2147483647 <;> by_cases h2 : y ≤ 2147483647 <;> simp [h1, h2] <;> omega
  rw [hc]
  go_enter Tryd.func19, Tryd.ntmps19
  go_wp2
  all_goals (go_ret; exact ⟨by simp_all, (Gr.refl w).alloc _⟩)

/-- The texts in a row of block b. -/
def StrAt (w : World) (b : Nat) (Xs : List ByteArray) : Prop := ∀ j, j < Xs.length → w.cell? ⟨b, j, none⟩ = some (.string (Xs.getD j ⟨#[]⟩))

set_option maxRecDepth 100000 in
theorem shortC (b n c : Nat) (Xs : List ByteArray) (w : World) (hn : Xs.length = n) (hc : n ≤ c) (hm : c ≤ 9223372036854775807) (hx : StrAt w b Xs) :
    Calls Tryd.prog 20 #[.slice (some ⟨b, 0, none⟩) n c] w fun e w' => e = .returned (.bool (Xs.all fun x => decide (x.size ≤ 300))) ∧ w' = w := by
  have HX := Lib.hid hx
  have HN := Lib.hid hn
  clear hx hn
  go_enter Tryd.func20, Tryd.ntmps20
  go_wp2
  go_loopw [7] (fun i wr => ∃ k : Nat, i = .int .i64 k ∧ k ≤ n ∧ ((Xs.take k).all fun x => decide (x.size ≤ 300)) = true ∧ wr = w) (fun i _ => ((n : Int) - intOf i).toNat)
  case atStart => exact ⟨0, rfl, Nat.zero_le _, by simp, rfl⟩
  case round =>
    obtain ⟨k, rfl, hk, hall, rfl⟩ := hrel
    by_cases hkn : k < n
    · have hkX : k < Xs.length := by rw [HN.out]; exact hkn
      have kc := HX.out k hkX
      have hg : Xs.getD k ⟨#[]⟩ = Xs[k] := by simp [List.getD_eq_getElem?_getD, hkX]
      rw [hg] at kc
      have ht : ((Xs.take (k + 1)).all fun x => decide (x.size ≤ 300)) = (((Xs.take k).all fun x => decide (x.size ≤ 300)) && decide (Xs[k].size ≤ 300)) := by
        rw [List.take_succ_eq_append_getElem hkX, List.all_append]
        simp
      have hd : Xs.all (fun x => decide (x.size ≤ 300)) = true → Xs[k].size ≤ 300 := fun h => by simpa using List.all_eq_true.1 h Xs[k] (List.getElem_mem hkX)
      have HT := Lib.hid ht
      have HA := Lib.hid hall
      have HD := Lib.hid hd
      generalize Xs[k] = x at *
      clear ht hall hd
      by_cases hs : (300 : Int) < (x.size : Int)
      · go_wp2
        have e : Xs.all (fun x => decide (x.size ≤ 300)) = false := by
          cases h : Xs.all (fun x => decide (x.size ≤ 300)) with
          | false => rfl
          | true => have := HD.out h; omega
        go_ret
        exact ⟨by rw [e]; rfl, rfl⟩
      · go_wp2
        go_roundw
        case rel => exact ⟨k + 1, by go_num, by omega, by rw [HT.out, HA.out]; simp; omega, by trivial⟩
        case measure => first | (simp [intOf]; done) | (simp [intOf]; omega)
    · obtain rfl : n = k := by omega
      have e : Xs.all (fun x => decide (x.size ≤ 300)) = true := by rw [← hall, ← HN.out, List.take_length]
      clear hall
      go_wp2
      go_ret
      exact ⟨by rw [e]; rfl, rfl⟩

set_option maxRecDepth 100000 in
theorem plainC (L : List UInt8) (hl : L.length ≤ 4000000000) (w : World) :
    Calls Tryd.prog 27 #[.string (bs L)] w fun e w' => e = .returned (.bool (L.all fun b => decide (b.toNat < 128))) ∧ Gr w w' := by
  obtain ⟨c, W2, hcv, hrw, hg, hc1, hc2⟩ := bytes_of_str_rw L w (by simp only [maxLen]; omega)
  obtain ⟨n, hn⟩ : ∃ n, L.length = n := ⟨_, rfl⟩
  obtain ⟨b, hb⟩ : ∃ b, w.heap.size = b := ⟨_, rfl⟩
  rw [hn] at hcv hc1 hl
  rw [hb] at hcv hrw
  have hcm : c ≤ 9223372036854775807 := by simp only [maxLen] at hc2; omega
  have HN := Lib.hid hn
  have HG := Lib.hid hg
  have HRW := Lib.hid hrw
  clear hrw hg hb hn hc2
  generalize bs L = S at *
  go_enter Tryd.func27, Tryd.ntmps27
  go_wp2
  go_loopw [8] (fun i wr => ∃ k : Nat, i = .int .i64 k ∧ k ≤ n ∧ ((L.take k).all fun b => decide (b.toNat < 128)) = true ∧ wr = W2) (fun i _ => ((n : Int) - intOf i).toNat)
  case atStart => exact ⟨0, rfl, Nat.zero_le _, by simp, rfl⟩
  case round =>
    obtain ⟨k, rfl, hk, hall, rfl⟩ := hrel
    by_cases hkn : k < n
    · have hkX : k < L.length := by rw [HN.out]; exact hkn
      have kc := HRW.out.cell k (by rw [nums_length]; exact hkX)
      have hg : (nums L).getD k 0 = (L[k].toNat : Int) := by simp [nums, List.getD_eq_getElem?_getD, hkX]
      rw [hg] at kc
      have ht : ((L.take (k + 1)).all fun b => decide (b.toNat < 128)) = (((L.take k).all fun b => decide (b.toNat < 128)) && decide (L[k].toNat < 128)) := by
        rw [List.take_succ_eq_append_getElem hkX, List.all_append]
        simp
      have hd : L.all (fun b => decide (b.toNat < 128)) = true → L[k].toNat < 128 := fun h => by simpa using List.all_eq_true.1 h L[k] (List.getElem_mem hkX)
      have HT := Lib.hid ht
      have HA := Lib.hid hall
      have HD := Lib.hid hd
      generalize L[k].toNat = x at *
      clear ht hall hd
      by_cases hs : (128 : Int) ≤ (x : Int)
      · go_wp2
        have e : L.all (fun b => decide (b.toNat < 128)) = false := by
          cases h : L.all (fun b => decide (b.toNat < 128)) with
          | false => rfl
          | true => have := HD.out h; omega
        go_ret
        exact ⟨by rw [e]; rfl, HG.out⟩
      · go_wp2
        go_roundw
        case rel => exact ⟨k + 1, by go_num, by omega, by rw [HT.out, HA.out]; simp; omega, by trivial⟩
        case measure => first | (simp [intOf]; done) | (simp [intOf]; omega)
    · obtain rfl : n = k := by omega
      have e : L.all (fun b => decide (b.toNat < 128)) = true := by rw [← hall, ← HN.out, List.take_length]
      clear hall
      go_wp2
      go_ret
      exact ⟨by rw [e]; rfl, HG.out⟩
end Go.Proofs.YtkonfcgdokabaaaDoor
