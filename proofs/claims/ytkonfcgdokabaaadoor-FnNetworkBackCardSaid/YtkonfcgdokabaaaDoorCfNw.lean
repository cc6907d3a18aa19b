/- FnNetworkBack: the walk. -/
import Derived.Test.YtkonfcgdokabaaaDoorCfN
namespace Go.Proofs.YtkonfcgdokabaaaDoor
open Go Go.RowKit

set_option maxRecDepth 100000 in
set_option maxHeartbeats 1000000 in
theorem lawNetworkBack (p : ByteArray) (L : List UInt8) (n : Int) (hn : -9223372036854775808 ≤ n ∧ n ≤ 9223372036854775807) (w : World) (ht : Tab10 w) :
    Calls Tryd.prog 5 #[.agg #[.string p, .string (bs L), .int .i64 n]] w fun e w' => e = .returned (.bool true) ∧ Gr w w' := by
  have HF := fun w => Lib.hid (zfits1 p (bs L) n w)
  have HA := fun w ht => Lib.hid (awakeC w ht)
  have HS := fun b w hx => Lib.hid (shortC b 1 1 [bs L] w rfl (by omega) (by omega) hx)
  have hs0 : ([bs L].all fun x => decide (x.size ≤ 300)) = decide (L.length ≤ 300) := by simp [bs_size]
  rw [hs0] at HS
  clear hs0
  obtain ⟨H, hH⟩ : ∃ H, w.heap.size = H := ⟨_, rfl⟩
  have KW : ∀ w2, Gr (w.alloc (.cells #[.string p, .string (bs L), .int .i64 n] 26)) w2 → Hid (Gr w w2 ∧ w2.cell? ⟨H, 0, none⟩ = some (.string p) ∧ w2.cell? ⟨H, 1, none⟩ = some (.string (bs L)) ∧ w2.cell? ⟨H, 2, none⟩ = some (.int .i64 n)) := fun w2 hg2 => Lib.hid
    ⟨(((Gr.refl w).alloc _).trans hg2), hg2.cell ((blk_cell (heap_new_at w _ hH.symm) 0).trans rfl), hg2.cell ((blk_cell (heap_new_at w _ hH.symm) 1).trans rfl), hg2.cell ((blk_cell (heap_new_at w _ hH.symm) 2).trans rfl)⟩
  have HX : ∀ (w : World) (T : TypeId) (B : Nat) (_ : B = w.heap.size), StrAt (w.alloc (.cells #[.string (bs L)] T)) B [bs L] := by
    intro w T B hB j hj
    have hj : j < 1 := hj
    obtain rfl : j = 0 := by omega
    exact (blk_cell (heap_new_at w _ hB) 0).trans rfl
  by_cases hf1 : p.size ≤ 2147483647 ∧ (bs L).size ≤ 2147483647
  rotate_left
  · rw [decide_eq_false hf1] at HF
    generalize bs L = S1 at *
    clear hf1 HX HS
    go_enter Tryd.func5, Tryd.ntmps5
    go_wp2_with (first
      | (go_at_call 19; with_reducible refine (HF _).out.mono ?_; rintro e w2 ⟨rfl, hg2⟩))
    go_ret
    exact ⟨rfl, Gr.trans ((Gr.refl w).alloc _) hg2⟩
  rw [decide_eq_true hf1] at HF
  clear hf1
  by_cases hl : L.length ≤ 300
  rotate_left
  · rw [decide_eq_false hl] at HS
    have HXX := fun w T B hB => Lib.hid (HX w T B hB)
    clear hl HX
    generalize bs L = S1 at *
    go_enter Tryd.func5, Tryd.ntmps5
    go_wp2_with (first
      | (go_at_call 19; with_reducible refine (HF _).out.mono ?_; rintro e w2 ⟨rfl, hg2⟩; obtain ⟨hG, k0, k1, k2⟩ := (KW _ hg2).out; have hbb := World.block_lt_of_cell? _ _ k0)
      | (go_at_call 20; go_must (with_reducible refine (HS _ _ (HXX _ _ _ rfl).out).out.mono ?_); rintro e w4 ⟨rfl, rfl⟩)
      | (go_at_call 21; go_must (with_reducible refine (HA _ (ht.gr (Gr.alloc hG _))).out.mono ?_); rintro e w5 ⟨rfl, hg5⟩))
    go_ret
    exact ⟨rfl, (hG.alloc _).trans hg5⟩
  rw [decide_eq_true hl] at HS
  have HN := fun w ht => Lib.hid (network p (bs L) n hn w ht (by rw [bs_size]; omega))
  have HI := fun w ht => Lib.hid (itoa n hn.1 hn.2 w ht)
  rw [joinS_bs] at HN
  have hd0 := itoa_no n
  have hdl := itoa_len n hn.1 hn.2
  generalize Lib.itoa n = D at *
  have hh := hostL_len L
  have HXX := fun w T B hB => Lib.hid (HX w T B hB)
  clear hn HX
  generalize hostL L = M at *
  obtain ⟨m, hm⟩ : ∃ m, M.length = m := ⟨_, rfl⟩
  obtain ⟨d, hd⟩ : ∃ d, D.length = d := ⟨_, rfl⟩
  have hml : m ≤ 302 := by
    rcases hh with rfl | rfl
    · omega
    · simp at hm; omega
  have hsz : (bs (M ++ 58 :: D)).size = m + 1 + d := by rw [bs_size]; simp; omega
  have HSZ := Lib.hid hsz
  have hget := net_get M D hd0
  rw [hm] at hget
  have HGET := fun k h => Lib.hid (hget k h)
  have hd22 : d ≤ 21 := by omega
  have HM := Lib.hid hm
  have HD := Lib.hid hd
  have HH := Lib.hid hh
  have HW0 : Hid (wrap64 (((bs (M ++ 58 :: D)).size : Int) - 1) = ((m + d : Nat) : Int)) := Lib.hid (by rw [hsz]; simp only [wrap64]; omega)
  clear hget hsz hd0 hm hd hh hl hdl
  generalize hX : bs (M ++ 58 :: D) = X at *
  have HP := Lib.hid (net_parts M D L m HM.out HH.out X hX)
  generalize hY : bs D = Y at *
  generalize hS1 : bs L = S1 at *
  go_enter Tryd.func5, Tryd.ntmps5
  go_wp2_with (first
    | (go_at_call 19; with_reducible refine (HF _).out.mono ?_; rintro e w2 ⟨rfl, hg2⟩; obtain ⟨hG, k0, k1, k2⟩ := (KW _ hg2).out; have hbb := World.block_lt_of_cell? _ _ k0)
    | (go_at_call 20; go_must (with_reducible refine (HS _ _ (HXX _ _ _ rfl).out).out.mono ?_); rintro e w4 ⟨rfl, rfl⟩)
    | (go_at_call 22; go_must (with_reducible refine (HN _ (ht.gr (Gr.alloc hG _))).out.mono ?_); rintro e w3 ⟨rfl, hg3⟩; have k0 := hg3.cell ((Gr.alloc (Gr.refl w2) _).cell k0); have k1 := hg3.cell ((Gr.alloc (Gr.refl w2) _).cell k1); have k2 := hg3.cell ((Gr.alloc (Gr.refl w2) _).cell k2); have hG3 := (Gr.alloc hG _).trans hg3))
  go_loopw [4] (fun i wr => ∃ k : Nat, i = .int .i64 k ∧ m ≤ k ∧ k ≤ m + d ∧ wr = w3) (fun i _ => (intOf i).toNat)
  case atStart => exact ⟨m + d, by rw [HW0.out], by omega, by omega, rfl⟩
  case round =>
    obtain ⟨k, rfl, hk1, hk2, rfl⟩ := hrel
    have hsz := HSZ.out
    have hkx : k < X.size := by omega
    have hc := (HGET k hkx).out
    have hkz1 : (m : Int) + 1 ≤ (X.size : Int) := by omega
    have hkz2 : (0 : Int) ≤ (m : Int) + 1 := by omega
    have hkz3 : IntKind.i64.wrap ((m : Int) + 1) = (m : Int) + 1 := by simp only [IntKind.wrap_i64]; omega
    have hkz4 : wrap64 ((m : Int) + 1) = (m : Int) + 1 := by simp only [wrap64]; omega
    have hkz : (k : Int) < (X.size : Int) := by omega
    clear hsz
    by_cases hk : m < k
    · have hc := hc.1 hk
      go_wp2
      go_roundw
      case rel => exact ⟨k - 1, by go_num, by omega, by omega, by trivial⟩
      case measure => first | (simp [intOf]; done) | (simp [intOf]; omega)
    · obtain rfl : m = k := by omega
      have hc := hc.2 rfl
      go_wp2
      go_region_held3 (fun w' => w'.cell? ⟨H, 0, none⟩ = some (.string p) ∧ w'.cell? ⟨H, 1, none⟩ = some (.string S1) ∧ w'.cell? ⟨H, 2, none⟩ = some (.int .i64 n)) (first | (with_reducible exact ⟨hG.cell k0, hG.cell k1, hG.cell k2⟩) | go_keep)
        ((first
          | (go_at_call 23; go_must (refine (HI _ (ht.gr (Gr.trans hG3 (by with_reducible first | exact Gr.refl _ | exact (Gr.refl _).drew)))).out.mono ?_); rintro e w5 ⟨rfl, hg5⟩; have hG : Gr wr w5 := Gr.trans (by with_reducible first | exact Gr.refl _ | exact (Gr.refl _).drew) hg5)))
      obtain ⟨k0, k1, k2⟩ := ‹w5.cell? ⟨H, 0, none⟩ = some (.string p) ∧ _›
      obtain ⟨he, hz⟩ := HP.out
      have hm0 : decide ((m : Int) < 0) = false := by simp
      simp only [he, hm0, beq_self_eq_true, Bool.not_true, Bool.or_false]
      rcases hz with hz | ⟨Z, hz, hzq, hzs, hm2, hze⟩
      · go_wp2_with (first
          | (go_at_call 21; go_must (with_reducible refine (HA _ (ht.gr (Gr.trans hG3 (Gr.trans hG (by with_reducible first | exact Gr.refl _ | exact (Gr.refl _).drew))))).out.mono ?_); rintro e w6 ⟨rfl, hg6⟩))
        go_ret
        exact ⟨rfl, Gr.trans hG3 (Gr.trans hG (Gr.trans (by with_reducible first | exact Gr.refl _ | exact (Gr.refl _).drew) hg6))⟩
      · have hzx : Z.extract (min 1 (m : Int)).toNat (max ((m : Int) - 1) (min 1 (m : Int))).toNat = S1 := by
          rw [show (min 1 (m : Int)).toNat = 1 by omega, show (max ((m : Int) - 1) (min 1 (m : Int))).toNat = m - 1 by omega, hze]
        go_wp2_with (first
          | (go_at_call 21; go_must (with_reducible refine (HA _ (ht.gr (Gr.trans hG3 (Gr.trans hG (by with_reducible first | exact Gr.refl _ | exact (Gr.refl _).drew))))).out.mono ?_); rintro e w6 ⟨rfl, hg6⟩))
        go_ret
        exact ⟨rfl, Gr.trans hG3 (Gr.trans hG (Gr.trans (by with_reducible first | exact Gr.refl _ | exact (Gr.refl _).drew) hg6))⟩
end Go.Proofs.YtkonfcgdokabaaaDoor
