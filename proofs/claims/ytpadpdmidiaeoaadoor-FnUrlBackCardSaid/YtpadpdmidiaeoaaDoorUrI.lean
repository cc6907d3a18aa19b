/- FnUrlBack: the escapes are read. -/
import Derived.Test.YtpadpdmidiaeoaaDoorUrH
namespace Go.Proofs.YtpadpdmidiaeoaaDoor
open Go Go.RowKit

theorem str_of_own (B : Nat) (v : Value) (L : List UInt8) (w : World) (h : Own B w v (nums L)) (hn : 0 < L.length) :
    (convert 29 9 v).run Tryd.prog w = .ok (.string (bs L)) w := by
  obtain ⟨g, cap, rfl, _, ho⟩ := h.form (by rw [nums_length]; exact hn)
  rw [nums_length]
  exact str_of_bytes g cap L w ho.rw
theorem esc_lt (L : List UInt8) (k : Nat) (h : k < L.length) : (esc (L.take k)).length < (esc L).length := by
  have e := esc_drop L k h
  rw [e, List.length_append, List.length_append, esc1_len]
  omega
theorem bs_idx (T : List UInt8) (j : Nat) (b : UInt8) (h : T[j]? = some b) : ∀ hj, (((bs T)[j]'hj).toNat : Int) = (b.toNat : Int) := fun hj => by
  have hj' : j < T.length := by rwa [bs_size] at hj
  rw [bs_get T j hj hj']
  rw [List.getElem?_eq_getElem hj'] at h
  injection h with h
  rw [h]
theorem nums_snoc (L : List UInt8) (k : Nat) (h : k < L.length) : nums (L.take k) ++ [(L[k].toNat : Int)] = nums (L.take (k + 1)) := by
  rw [List.take_succ_eq_append_getElem h, nums_append]; rfl

set_option maxRecDepth 100000 in
set_option maxHeartbeats 4000000 in
theorem urlPlain (L : List UInt8) (hl : L.length ≤ 100000) (w : World) :
    Calls Tryd.prog 11 #[.string (bs (esc L)), .bool false] w fun e w' => e = .returned (.tuple #[.string (bs L), .bool true]) ∧ Gr w w' := by
  obtain ⟨n, hn⟩ : ∃ n, L.length = n := ⟨_, rfl⟩
  obtain ⟨N, hN⟩ : ∃ N, (esc L).length = N := ⟨_, rfl⟩
  have hsz : (bs (esc L)).size = N := by rw [bs_size, hN]
  have hNN : N ≤ 300000 := by rw [← hN, esc_len]; have := cntE_le L; omega
  have HIX := fun j b h => Lib.hid (bs_idx (esc L) j b h)
  have HEX := fun k h j hj => Lib.hid (esc_at L k h j hj)
  have HPP := fun a b ha hb w => Lib.hid (parsePub a b ha hb w)
  have HN := Lib.hid hn
  have HNL := Lib.hid hN
  have HSZ := Lib.hid hsz
  rw [hn] at hl
  clear hn hN
  generalize bs (esc L) = S at *
  go_enter Tryd.func11, Tryd.ntmps11
  go_wp2
  go_loopw [6, 7] (fun o i wr => ∃ (k : Nat) (v : Value), v = o ∧ i = .int .i64 (esc (L.take k)).length ∧ k ≤ n ∧ Own w.heap.size wr v (nums (L.take k)) ∧ (k = 0 → v = .slice none 0 0) ∧ Gr w wr) (fun _ i _ => ((N : Int) - intOf i).toNat)
  case atStart => exact ⟨0, _, rfl, rfl, Nat.zero_le _, Own.nil _ _, fun _ => rfl, Gr.refl w⟩
  case round =>
    obtain ⟨k, v, rfl, rfl, hk, hown, hnil, hgr⟩ := hrel
    obtain ⟨j, hj⟩ : ∃ j, (esc (L.take k)).length = j := ⟨_, rfl⟩
    by_cases hkn : k < n
    · have hkL : k < L.length := by rw [HN.out]; exact hkn
      have hlt := esc_lt L k hkL
      rw [hj, HNL.out] at hlt
      rw [hj]
      have hsn := nums_snoc L k hkL
      have hx := L[k].toNat_lt
      have HOW := Lib.hid hown
      have HGR := Lib.hid hgr
      obtain ⟨p, m, cc, rfl⟩ : ∃ p m c, v = .slice p m c := by obtain ⟨p, c, rfl, _⟩ := hown.rd; exact ⟨_, _, _, rfl⟩
      have hjx : j < S.size := by rw [HSZ.out]; exact hlt
      have hjz : (j : Int) < (S.size : Int) := by omega
      have hlk : (nums (L.take k)).length ≤ 100000 := by rw [nums_length, List.length_take]; omega
      have HLK := Lib.hid hlk
      clear hown hgr hlk hnil
      rcases (HEX k hkL j hj).out with ⟨hf, h1, h2, h3, h4⟩ | ⟨hf, h1, h2, h3, h4⟩
      · have hi := (HIX j _ h1).out hjx
        have HSN := Lib.hid hsn
        have HS2 := Lib.hid h2
        generalize L[k].toNat = x at *
        have h37 : ((x : Int) == 37) = false := by simp; omega
        clear hf h1 h2 h3 hsn hj
        rcases hb : ((x : Int) == 43) with _ | _
        all_goals
          go_wp2_with (first
            | (at_builtin; go_must (refine wpList_append_gr Go.Proofs.YtpadpdmidiaeoaaDoor.u8 rfl _ _ rfl (w0 := w) (HGR.out.alloc _) rfl (xs := nums (L.take k)) (HOW.out.gr ((Gr.refl wr).alloc _)) rfl (ys := [(x : Int)]) (Rd.lit wr [(x : Int)] _ 1 (by intro z hz; simp at hz; omega) rfl rfl (by simp [maxLen]) rfl) (by have := HLK.out; simp; omega) ?_); intro v5 w5 ho5 hg5))
          go_roundw
          case rel => exact ⟨k + 1, _, rfl, by rw [HS2.out]; go_num, by omega, by rw [← HSN.out]; exact ho5, fun e => by omega, hg5⟩
          case measure => first | (simp [intOf]; done) | (simp [intOf]; omega)
      · have hi := (HIX j _ h1).out hjx
        have hi : ((S[j]'hjx).toNat : Int) = 37 := hi
        have HSN := Lib.hid hsn
        have HS2 := Lib.hid h2
        generalize hXX : L[k].toNat = x at *
        have HP := Lib.hid (show Calls Tryd.prog 15 #[.string (bs [hexB (x / 16), hexB (x % 16)]), .int .i64 16, .int .i64 8] _ _ from (HPP (x / 16) (x % 16) (by omega) (by omega) wr).out)
        rw [show x / 16 * 16 + x % 16 = x by omega] at HP
        generalize bs [hexB (x / 16), hexB (x % 16)] = P at *
        have hw8 : IntKind.u8.wrap (x : Int) = (x : Int) := IntWalk.u8_in _ (by omega)
        have hj2 : ¬ ((S.size : Int) ≤ (j : Int) + 2) := by rw [HSZ.out]; have := HNL.out; omega
        have hj3 : (j : Int) + 3 ≤ (S.size : Int) := by rw [HSZ.out]; have := HNL.out; omega
        clear hf h1 h2 h3 hsn hj hXX
        go_wp2_with (first
          | (go_at_call 15; go_must (with_reducible refine HP.out.mono ?_); rintro e w3 ⟨rfl, hg3⟩; have HG3 := Lib.hid hg3; clear hg3)
          | (at_builtin; go_must (refine wpList_append_gr Go.Proofs.YtpadpdmidiaeoaaDoor.u8 rfl _ _ rfl (w0 := w) ((HGR.out.trans HG3.out).alloc _) rfl (xs := nums (L.take k)) (HOW.out.gr (HG3.out.alloc _)) rfl (ys := [(x : Int)]) (Rd.lit w3 [(x : Int)] _ 1 (by intro z hz; simp at hz; omega) rfl rfl (by simp [maxLen]) rfl) (by have := HLK.out; simp; omega) ?_); intro v5 w5 ho5 hg5))
        go_roundw
        case rel => exact ⟨k + 1, _, rfl, by rw [HS2.out]; go_num, by omega, by rw [← HSN.out]; exact ho5, fun e => by omega, hg5⟩
        case measure => first | (simp [intOf]; done) | (simp [intOf]; omega)
    · obtain rfl : n = k := by omega
      have hje : j = N := by rw [← hj, esc_end L n HN.out.symm, HNL.out]
      rw [hj, hje]
      have hall : L.take n = L := by rw [← HN.out]; exact List.take_length
      rw [hall] at hown
      have HGR := Lib.hid hgr
      by_cases h0 : L.length = 0
      · have hL : L = [] := List.eq_nil_of_length_eq_zero h0
        obtain rfl := hnil (by rw [← HN.out]; exact h0)
        subst hL
        clear hown hgr
        have hnv := fun w => run_convert_bytes_zero (P := Tryd.prog) w 29 5 Tryd.underlying29 Tryd.underlying5 none 0
        go_wp2
        go_ret2
        exact ⟨by trivial, HGR.out⟩
      · have hcv := str_of_own _ v L wr hown (by omega)
        clear hown hgr hnil
        go_wp2
        go_ret2
        exact ⟨by trivial, HGR.out⟩
end Go.Proofs.YtpadpdmidiaeoaaDoor
