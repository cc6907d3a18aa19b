/- FnUrlJoined: the walk. -/
import Derived.Test.YtpadpdmidiaeoaaDoorUrD
namespace Go.Proofs.YtpadpdmidiaeoaaDoor
open Go Go.RowKit

set_option maxRecDepth 100000 in
theorem urlAwake (w : World) (hu : TabU w) (ht : Tab10 w) : Calls Tryd.prog 6 #[] w fun e w' => e = .returned (.bool true) ∧ Gr w w' := by
  have HN := implUrl [104] [115] [117] [112, 47] 1 (by omega) (by omega) (by decide) (by decide) (by decide) (by decide) w hu ht
  rw [show bs (urlL [104] (Lib.itoa 1) [115] [117] [112, 47]) = ⟨#[111, 114, 97, 99, 108, 101, 58, 47, 47, 117, 58, 112, 37, 50, 70, 64, 104, 58, 49, 47, 115]⟩ by decide +kernel] at HN
  have HN := Lib.hid (show Calls Tryd.prog 8 #[.string ⟨#[104]⟩, .int .i64 1, .string ⟨#[115]⟩, .string ⟨#[117]⟩, .string ⟨#[112, 47]⟩, .slice none 0 0] w _ from HN)
  have hq : ((⟨#[111, 114, 97, 99, 108, 101, 58, 47, 47, 117, 58, 112, 37, 50, 70, 64, 104, 58, 49, 47, 115]⟩ : ByteArray).toList == (⟨#[111, 114, 97, 99, 108, 101, 58, 47, 47, 117, 58, 112, 37, 50, 70, 64, 104, 58, 49, 47, 115]⟩ : ByteArray).toList) = true := by simp
  clear hu ht
  go_enter Tryd.func6, Tryd.ntmps6
  go_wp2_with (first
    | (go_at_call 8; go_must (with_reducible refine HN.out.mono ?_); rintro e w1 ⟨rfl, hg1⟩))
  go_ret
  exact ⟨rfl, hg1⟩

set_option maxRecDepth 100000 in
theorem partUrl (L : List UInt8) (hl : L.length ≤ 600000) (w : World) (hu : TabU w) (ht : Tab10 w) :
    Calls Tryd.prog 7 #[.string (bs L)] w fun e w' => e = .returned (.string (bs (esc L))) ∧ Gr w w' := by
  have HN := implUrl [104] L [] [] 1 (by omega) (by omega) (by decide) (by omega) (by decide) (by decide) w hu ht
  have hI : Lib.itoa 1 = [49] := by decide +kernel
  have e : urlL [104] (Lib.itoa 1) L [] [] = [111, 114, 97, 99, 108, 101, 58, 47, 47, 58, 64, 104, 58, 49, 47] ++ esc L := by
    rw [hI]
    have : hostL [104] = [104] := by decide +kernel
    simp [urlL, esc, this]
  have HN := Lib.hid (show Calls Tryd.prog 8 #[.string ⟨#[104]⟩, .int .i64 1, .string (bs L), .string ⟨#[]⟩, .string ⟨#[]⟩, .slice none 0 0] w _ from HN)
  rw [e] at HN
  have hsz : (bs ([111, 114, 97, 99, 108, 101, 58, 47, 47, 58, 64, 104, 58, 49, 47] ++ esc L)).size = 15 + (esc L).length := by rw [bs_size, List.length_append]; rfl
  have hx : (bs ([111, 114, 97, 99, 108, 101, 58, 47, 47, 58, 64, 104, 58, 49, 47] ++ esc L)).extract 15 (15 + (esc L).length) = bs (esc L) :=
    bs_extract' _ _ _ _ (by rw [List.take_of_length_le (by rw [List.length_append]; exact Nat.le_refl _)]; rfl)
  generalize bs ([111, 114, 97, 99, 108, 101, 58, 47, 47, 58, 64, 104, 58, 49, 47] ++ esc L) = X at *
  generalize bs (esc L) = Y at *
  generalize (esc L).length = m at *
  generalize bs L = S at *
  have hm : min (15 : Int) ((15 + m : Nat) : Int) = 15 := by omega
  have hm2 : (15 : Int) ≤ ((15 + m : Nat) : Int) := by omega
  clear e hI hu ht hl
  go_enter Tryd.func7, Tryd.ntmps7
  go_wp2_with (first
    | (go_at_call 8; go_must (with_reducible refine HN.out.mono ?_); rintro e w1 ⟨rfl, hg1⟩))
  go_ret
  exact ⟨by simp_all, hg1⟩

theorem strAt2 (A B : ByteArray) (w : World) (T : TypeId) (H : Nat) (hH : H = w.heap.size) : StrAt (w.alloc (.cells #[.string A, .string B] T)) H [A, B] := by
  intro j hj
  have hj : j < 2 := hj
  rcases (by omega : j = 0 ∨ j = 1) with rfl | rfl
  · exact (blk_cell (heap_new_at w _ hH) 0).trans rfl
  · exact (blk_cell (heap_new_at w _ hH) 1).trans rfl

set_option maxRecDepth 100000 in
set_option maxHeartbeats 4000000 in
theorem lawUrlJoined (A B : List UInt8) (w : World) (hu : TabU w) (ht : Tab10 w) :
    Calls Tryd.prog 3 #[.string (bs A), .string (bs B)] w fun e w' => e = .returned (.bool true) ∧ Gr w w' := by
  have HW := fun w' (g : Gr w w') => Lib.hid (urlAwake w' (hu.gr g) (ht.gr g))
  have HS := fun b w hx => Lib.hid (shortC b 2 2 [bs A, bs B] w rfl (by omega) (by omega) hx)
  have hs0 : ([bs A, bs B].all fun x => decide (x.size ≤ 300)) = decide (A.length ≤ 300 ∧ B.length ≤ 300) := by
    rw [Bool.eq_iff_iff]; simp [bs_size]
  rw [hs0] at HS
  have HXX := fun w T H hH => Lib.hid (strAt2 (bs A) (bs B) w T H hH)
  obtain ⟨m, hm⟩ : ∃ m, (bs A).size = m := ⟨_, rfl⟩
  obtain ⟨n, hn⟩ : ∃ n, (bs B).size = n := ⟨_, rfl⟩
  have hm' : A.length = m := by rw [← hm, bs_size]
  have hn' : B.length = n := by rw [← hn, bs_size]
  by_cases hf : m ≤ 2147483647 ∧ n ≤ 2147483647
  rotate_left
  · generalize bs A = S1 at *
    generalize bs B = S2 at *
    clear hs0 hm' hn' HS HW HXX hu ht
    by_cases h1 : 2147483647 < (m : Int)
    · go_enter Tryd.func3, Tryd.ntmps3
      go_wp2
      go_ret
      exact ⟨rfl, Gr.refl w⟩
    · have h2 : 2147483647 < (n : Int) := by omega
      go_enter Tryd.func3, Tryd.ntmps3
      go_wp2
      go_ret
      exact ⟨rfl, Gr.refl w⟩
  obtain ⟨hf1, hf2⟩ := hf
  have g1 : ¬ (2147483647 < (m : Int)) := by omega
  have g2 : ¬ (2147483647 < (n : Int)) := by omega
  rw [hm', hn'] at HS
  by_cases hl : m ≤ 300 ∧ n ≤ 300
  rotate_left
  · rw [decide_eq_false hl] at HS
    generalize bs A = S1 at *
    generalize bs B = S2 at *
    clear hs0 hm' hn' hl hu ht
    go_enter Tryd.func3, Tryd.ntmps3
    go_wp2_with (first
      | (go_at_call 5; go_must (with_reducible refine (HS _ _ (HXX _ _ _ rfl).out).out.mono ?_); rintro e w4 ⟨rfl, rfl⟩)
      | (go_at_call 6; go_must (with_reducible refine (HW _ ((Gr.refl w).alloc _)).out.mono ?_); rintro e w5 ⟨rfl, hg5⟩))
    go_ret
    exact ⟨rfl, ((Gr.refl w).alloc _).trans hg5⟩
  rw [decide_eq_true hl] at HS
  obtain ⟨hl1, hl2⟩ := hl
  have HP0 := fun w' (g : Gr w w') => Lib.hid (partUrl (A ++ B) (by rw [List.length_append]; omega) w' (hu.gr g) (ht.gr g))
  have HP1 := fun w' (g : Gr w w') => Lib.hid (partUrl A (by omega) w' (hu.gr g) (ht.gr g))
  have HP2 := fun w' (g : Gr w w') => Lib.hid (partUrl B (by omega) w' (hu.gr g) (ht.gr g))
  rw [esc_append, ← bs_append, ← bs_append] at HP0
  have z1 : (bs A).size + (bs B).size ≤ 9223372036854775807 := by rw [bs_size, bs_size]; omega
  have z2 : (bs (esc A)).size + (bs (esc B)).size ≤ 9223372036854775807 := by
    rw [bs_size, bs_size, esc_len, esc_len]; have := cntE_le A; have := cntE_le B; omega
  have hq : ((bs (esc A) ++ bs (esc B)).toList == (bs (esc A) ++ bs (esc B)).toList) = true := by simp
  have hma : (bs A).size = m := hm
  generalize bs (esc A) = E1 at *
  generalize bs (esc B) = E2 at *
  generalize bs A = S1 at *
  generalize bs B = S2 at *
  have tok1 := True.intro; have tok2 := True.intro
  clear hs0 hm' hn' hu ht hma
  go_enter Tryd.func3, Tryd.ntmps3
  go_wp2_with (first
    | (go_at_call 5; go_must (with_reducible refine (HS _ _ (HXX _ _ _ rfl).out).out.mono ?_); rintro e w4 ⟨rfl, rfl⟩; have HG := Lib.hid ((Gr.refl w).alloc (.cells #[.string S1, .string S2] 9)))
    | (have _t := tok1; go_at_call 7; clear tok1 _t; go_must (with_reducible refine (HP0 _ HG.out).out.mono ?_); rintro e w5 ⟨rfl, hg5⟩; have HG5 := Lib.hid (HG.out.trans hg5); clear hg5)
    | (have _t := tok2; go_at_call 7; clear tok2 _t; go_must (with_reducible refine (HP1 _ HG5.out).out.mono ?_); rintro e w6 ⟨rfl, hg6⟩; have HG6 := Lib.hid (HG5.out.trans hg6); clear hg6)
    | (go_at_call 7; go_must (with_reducible refine (HP2 _ HG6.out).out.mono ?_); rintro e w7 ⟨rfl, hg7⟩; have HG7 := Lib.hid (HG6.out.trans hg7); clear hg7)
    | (go_at_call 6; go_must (with_reducible refine (HW _ HG7.out).out.mono ?_); rintro e w8 ⟨rfl, hg8⟩))
  go_ret
  exact ⟨rfl, HG7.out.trans hg8⟩

theorem lawUrlJoined' (s t : ByteArray) (w : World) (hu : TabU w) (ht : Tab10 w) :
    Calls Tryd.prog 3 #[.string s, .string t] w fun e w' => e = .returned (.bool true) ∧ Gr w w' := by
  have h := lawUrlJoined s.data.toList t.data.toList w hu ht
  rwa [bs_of, bs_of] at h
end Go.Proofs.YtpadpdmidiaeoaaDoor
