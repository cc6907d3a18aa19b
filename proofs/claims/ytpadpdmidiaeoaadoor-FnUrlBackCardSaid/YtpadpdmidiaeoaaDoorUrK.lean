/- FnUrlBack: the walk of the law, behind the sizes. -/
import Derived.Test.YtpadpdmidiaeoaaDoorUrJ
namespace Go.Proofs.YtpadpdmidiaeoaaDoor
open Go Go.RowKit

theorem plainOk_parts (A B : List UInt8) (h : plainOk (A ++ B) = true) : (58 : UInt8) ∉ A ∧ (64 : UInt8) ∉ B := by
  unfold plainOk at h
  rw [List.all_eq_true] at h
  refine ⟨fun hm => ?_, fun hm => ?_⟩
  · have := h _ (List.mem_append_left _ hm); revert this; decide
  · have := h _ (List.mem_append_right _ hm); revert this; decide

set_option maxRecDepth 100000 in
set_option maxHeartbeats 8000000 in
theorem lawBack_fit (SV SE US PW : List UInt8) (n : Int) (hn : 0 ≤ n ∧ n ≤ 65535) (w : World) (hu : TabU w) (ht : Tab10 w) (h1 : SV.length ≤ 2147483647) (h2 : SE.length ≤ 2147483647) (h3 : US.length ≤ 2147483647) (h4 : PW.length ≤ 2147483647) :
    Calls Tryd.prog 4 #[.string (bs SV), .int .u16 n, .string (bs SE), .string (bs US), .string (bs PW)] w fun e w' => e = .returned (.bool true) ∧ Gr w w' := by
  have HW := fun w' (g : Gr w w') => Lib.hid (urlAwake w' (hu.gr g) (ht.gr g))
  have HH := fun w => Lib.hid (urlHost SV (by omega) w)
  have HS := fun b w hx => Lib.hid (shortC b 3 3 [bs SE, bs US, bs PW] w rfl (by omega) (by omega) hx)
  have hs0 : ([bs SE, bs US, bs PW].all fun x => decide (x.size ≤ 300)) = decide (SE.length ≤ 300 ∧ US.length ≤ 300 ∧ PW.length ≤ 300) := by
    rw [Bool.eq_iff_iff]; simp [bs_size]
  rw [hs0] at HS
  have HXX := fun w T H hH => Lib.hid (strAt3 (bs SE) (bs US) (bs PW) w T H hH)
  obtain ⟨a, ha⟩ : ∃ a, (bs SV).size = a := ⟨_, rfl⟩
  obtain ⟨b, hb⟩ : ∃ a, (bs SE).size = a := ⟨_, rfl⟩
  obtain ⟨c, hc⟩ : ∃ a, (bs US).size = a := ⟨_, rfl⟩
  obtain ⟨d, hd⟩ : ∃ a, (bs PW).size = a := ⟨_, rfl⟩
  have g1 : ¬ (2147483647 < (a : Int)) := by rw [← ha, bs_size]; omega
  have g2 : ¬ (2147483647 < (b : Int)) := by rw [← hb, bs_size]; omega
  have g3 : ¬ (2147483647 < (c : Int)) := by rw [← hc, bs_size]; omega
  have g4 : ¬ (2147483647 < (d : Int)) := by rw [← hd, bs_size]; omega
  by_cases hho : hostOk SV = true
  rotate_left
  · have hho : hostOk SV = false := by simpa using hho
    rw [hho] at HH
    generalize bs SV = S1 at *
    generalize bs SE = S2 at *
    generalize bs US = S3 at *
    generalize bs PW = S4 at *
    clear hs0 hu ht h1 h2 h3 h4 HS HXX hho
    go_enter Tryd.func4, Tryd.ntmps4
    go_wp2_with (first
      | (go_at_call 9; go_must (with_reducible refine (HH _).out.mono ?_); rintro e w1 ⟨rfl, hg1⟩)
      | (go_at_call 6; go_must (with_reducible refine (HW _ hg1).out.mono ?_); rintro e w5 ⟨rfl, hg5⟩))
    go_ret
    exact ⟨rfl, hg1.trans hg5⟩
  rw [hho] at HH
  obtain ⟨hoL, ho47, ho100⟩ := host_plain SV hho
  by_cases hl : SE.length ≤ 300 ∧ US.length ≤ 300 ∧ PW.length ≤ 300
  rotate_left
  · rw [decide_eq_false hl] at HS
    generalize bs SV = S1 at *
    generalize bs SE = S2 at *
    generalize bs US = S3 at *
    generalize bs PW = S4 at *
    clear hs0 hu ht h1 h2 h3 h4 hl hho
    go_enter Tryd.func4, Tryd.ntmps4
    go_wp2_with (first
      | (go_at_call 9; go_must (with_reducible refine (HH _).out.mono ?_); rintro e w1 ⟨rfl, hg1⟩)
      | (go_at_call 5; go_must (with_reducible refine (HS _ _ (HXX _ _ _ rfl).out).out.mono ?_); rintro e w4 ⟨rfl, rfl⟩)
      | (go_at_call 6; go_must (with_reducible refine (HW _ (hg1.alloc _)).out.mono ?_); rintro e w5 ⟨rfl, hg5⟩))
    go_ret
    exact ⟨rfl, (hg1.alloc _).trans hg5⟩
  rw [decide_eq_true hl] at HS
  obtain ⟨hl1, hl2, hl3⟩ := hl
  have HCV := fun w => Lib.hid (bytes_of_str_rw (US ++ PW) w (by rw [List.length_append]; simp only [maxLen]; omega))
  rw [← bs_append] at HCV
  obtain ⟨m, hm⟩ : ∃ m, (US ++ PW).length = m := ⟨_, rfl⟩
  rw [hm] at HCV
  have hmm : m ≤ 600 := by rw [← hm, List.length_append]; omega
  have z0 : (bs US).size + (bs PW).size ≤ 9223372036854775807 := by rw [bs_size, bs_size]; omega
  have HM := Lib.hid hm
  have HU1 := fun w' (g : Gr w w') => Lib.hid (implUrl SV SE US PW n hn.1 hn.2 (by omega) (by omega) (by omega) (by omega) w' (hu.gr g) (ht.gr g))
  have HI := fun w' (g : Gr w w') => Lib.hid (itoa n (by omega) (by omega) w' (ht.gr g))
  have hwn : IntKind.i64.wrap n = n := IntWalk.i64_in _ (by omega)
  obtain ⟨S3P, hS3P⟩ : ∃ S, bs US ++ bs PW = S := ⟨_, rfl⟩
  rw [hS3P] at HCV
  have hsz3 : S3P.size = m := by rw [← hS3P, bs_append, bs_size, hm]
  have H3P := Lib.hid hS3P
  clear hS3P
  generalize hS1 : bs SV = S1 at *
  generalize hS2 : bs SE = S2 at *
  generalize hS3 : bs US = S3 at *
  generalize hS4 : bs PW = S4 at *
  have HSS := Lib.hid (And.intro hS1 (And.intro hS2 (And.intro hS3 hS4)))
  clear hs0 hu ht h1 h2 h3 h4 hho hm hS1 hS2 hS3 hS4
  have h3p := H3P.out
  go_enter Tryd.func4, Tryd.ntmps4
  go_upto_region 5 with (first
    | (go_at_call 9; go_must (with_reducible refine (HH _).out.mono ?_); rintro e w1 ⟨rfl, hg1⟩)
    | (go_at_call 5; go_must (with_reducible refine (HS _ _ (HXX _ _ _ rfl).out).out.mono ?_); rintro e w4 ⟨rfl, rfl⟩))
  have hG1 := hg1.alloc (.cells #[.string S2, .string S3, .string S4] 9)
  generalize hcc : w1.alloc (.cells #[.string S2, .string S3, .string S4] 9) = wa at *
  clear hcc hg1
  obtain ⟨c1, W2, hcv, hrw, hg2, hd1, hd2⟩ := (HCV wa).out
  have hcm : c1 ≤ 9223372036854775807 := by simp only [maxLen] at hd2; omega
  obtain ⟨b2, hb2⟩ : ∃ b, wa.heap.size = b := ⟨_, rfl⟩
  rw [hb2] at hcv hrw
  have HRW := Lib.hid hrw
  have HG2 := Lib.hid (hG1.trans hg2)
  clear hrw hg2 hd2 hb2 hG1
  go_wp2
  go_loopw [60] (fun i wr => ∃ k : Nat, i = .int .i64 k ∧ k ≤ m ∧ plainOk ((US ++ PW).take k) = true ∧ wr = W2) (fun i _ => ((m : Int) - intOf i).toNat)
  case atStart => exact ⟨0, rfl, Nat.zero_le _, rfl, rfl⟩
  case round =>
    obtain ⟨k, rfl, hk, hall, rfl⟩ := hrel
    by_cases hkn : k < m
    · have hkL : k < (US ++ PW).length := by rw [HM.out]; exact hkn
      have kc := HRW.out.cell k (by rw [nums_length]; exact hkL)
      have hgd : (nums (US ++ PW)).getD k 0 = ((US ++ PW)[k].toNat : Int) := by simp only [nums, List.getD_eq_getElem?_getD, List.getElem?_map, List.getElem?_eq_getElem hkL]; rfl
      rw [hgd] at kc
      have hst : ∀ x, (US ++ PW)[k] = x → plainOk ((US ++ PW).take (k + 1)) = (plainOk ((US ++ PW).take k) && (x != 58 && x != 64)) := fun x hx => by
        unfold plainOk
        rw [List.take_succ_eq_append_getElem hkL, List.all_append, hx]; simp
      have hst := hst _ rfl
      have h58 : ((US ++ PW)[k] != 58) = !((((US ++ PW)[k].toNat : Int)) == 58) := by
        rw [Bool.eq_iff_iff]; simp [← UInt8.toNat_inj]; omega
      have h64 : ((US ++ PW)[k] != 64) = !((((US ++ PW)[k].toNat : Int)) == 64) := by
        rw [Bool.eq_iff_iff]; simp [← UInt8.toNat_inj]; omega
      rw [h58, h64, hall] at hst
      have hx := (US ++ PW)[k].toNat_lt
      generalize (US ++ PW)[k].toNat = x at *
      clear h58 h64 hgd
      rcases hb : ((x : Int) == 58) with _ | _
      · rcases hb2 : ((x : Int) == 64) with _ | _
        · rw [hb, hb2] at hst
          have HST := Lib.hid hst
          clear hst hall
          go_wp2
          go_roundw
          case rel => exact ⟨k + 1, by go_num, by omega, by rw [HST.out]; rfl, by trivial⟩
          case measure => first | (simp [intOf]; done) | (simp [intOf]; omega)
        · clear hst hall
          go_wp2_with (first
            | (go_at_call 6; go_must (with_reducible refine (HW _ HG2.out).out.mono ?_); rintro e w5 ⟨rfl, hg5⟩))
          go_ret
          exact ⟨rfl, HG2.out.trans hg5⟩
      · clear hst hall
        go_wp2_with (first
          | (go_at_call 6; go_must (with_reducible refine (HW _ HG2.out).out.mono ?_); rintro e w5 ⟨rfl, hg5⟩))
        go_ret
        exact ⟨rfl, HG2.out.trans hg5⟩
    · obtain rfl : m = k := by omega
      rw [← HM.out, List.take_length] at hall
      obtain ⟨n58, n64⟩ := plainOk_parts US PW hall
      clear hall
      obtain ⟨hS1, hS2, hS3, hS4⟩ := HSS.out
      have hd47 := itoa_no47 n
      have hdl := itoa_len n (by omega) (by omega)
      generalize hDD : Lib.itoa n = D at *
      have hHP : (47 : UInt8) ∉ SV ++ 58 :: D := by
        rw [List.mem_append]
        rintro (h | h)
        · exact ho47 h
        · rcases List.mem_cons.1 h with h | h
          · revert h; decide
          · exact hd47 _ h rfl
      have e1 := esc_len US
      have e2 := esc_len PW
      have e3 := esc_len SE
      have q1 := cntE_le US
      have q2 := cntE_le PW
      have q3 := cntE_le SE
      have HC3 := fun w => Lib.hid (urlCut (SV ++ 58 :: D) (esc SE) 47 hHP (by rw [List.length_append, List.length_cons]; omega) w)
      have HC2 := fun w => Lib.hid (urlCut (esc PW) ((SV ++ 58 :: D) ++ 47 :: esc SE) 64 (esc_no PW 64 n64 (.inr rfl)) (by simp only [List.length_append, List.length_cons]; omega) w)
      have HC1 := fun w => Lib.hid (urlCut (esc US) (esc PW ++ 64 :: ((SV ++ 58 :: D) ++ 47 :: esc SE)) 58 (esc_no US 58 n58 (.inl rfl)) (by simp only [List.length_append, List.length_cons]; omega) w)
      rw [show (((58 : UInt8).toNat : Nat) : Int) = 58 from rfl] at HC1
      rw [show (((64 : UInt8).toNat : Nat) : Int) = 64 from rfl] at HC2
      rw [show (((47 : UInt8).toNat : Nat) : Int) = 47 from rfl] at HC3
      have HP1 := fun w => Lib.hid (urlPlain US (by omega) w)
      have HP2 := fun w => Lib.hid (urlPlain PW (by omega) w)
      have HP3 := fun w => Lib.hid (urlPlain SE (by omega) w)
      have hul : urlL SV D SE US PW = [111, 114, 97, 99, 108, 101, 58, 47, 47] ++ (esc US ++ 58 :: (esc PW ++ 64 :: ((SV ++ 58 :: D) ++ 47 :: esc SE))) := by unfold urlL; rw [hoL]
      rw [hul] at HU1
      generalize hT : esc US ++ 58 :: (esc PW ++ 64 :: ((SV ++ 58 :: D) ++ 47 :: esc SE)) = T at *
      have hx9 : (bs ([111, 114, 97, 99, 108, 101, 58, 47, 47] ++ T)).extract 0 9 = ⟨#[111, 114, 97, 99, 108, 101, 58, 47, 47]⟩ := bs_extract' _ _ _ [111, 114, 97, 99, 108, 101, 58, 47, 47] rfl
      have hxr : (bs ([111, 114, 97, 99, 108, 101, 58, 47, 47] ++ T)).extract 9 (9 + T.length) = bs T := bs_extract' _ _ _ _ (by rw [List.take_of_length_le (by rw [List.length_append]; exact Nat.le_refl _)]; rfl)
      have hxs : (bs ([111, 114, 97, 99, 108, 101, 58, 47, 47] ++ T)).size = 9 + T.length := by rw [bs_size, List.length_append]; rfl
      have hbHP : bs (SV ++ 58 :: D) = (S1 ++ ⟨#[58]⟩) ++ bs D := by
        rw [← hS1, show (⟨#[58]⟩ : ByteArray) = bs [58] from rfl, bs_append, bs_append]; simp
      rw [hbHP] at HC3
      have y1 : S1.size + (⟨#[58]⟩ : ByteArray).size ≤ 9223372036854775807 := by rw [← hS1, bs_size]; show SV.length + 1 ≤ _; omega
      have y2 : (S1 ++ (⟨#[58]⟩ : ByteArray)).size + (bs D).size ≤ 9223372036854775807 := by rw [ByteArray.size_append, ← hS1, bs_size, bs_size]; show SV.length + 1 + D.length ≤ _; omega
      rw [hS2] at HP3
      rw [hS3] at HP1
      rw [hS4] at HP2
      generalize bs ([111, 114, 97, 99, 108, 101, 58, 47, 47] ++ T) = X at *
      generalize T.length = r at *
      generalize bs T = X1 at *
      generalize bs (esc PW ++ 64 :: ((SV ++ 58 :: D) ++ 47 :: esc SE)) = X2 at *
      generalize bs ((SV ++ 58 :: D) ++ 47 :: esc SE) = X3 at *
      generalize bs (esc US) = E1 at *
      generalize bs (esc PW) = E2 at *
      generalize bs (esc SE) = E3 at *
      generalize bs D = DD at *
      have k9 : ¬ (((9 + r : Nat) : Int) < 9) := by omega
      have k9' : (9 : Int) ≤ ((9 + r : Nat) : Int) := by omega
      have j1 : (S3.toList == S3.toList) = true := by simp
      have j2 : (S4.toList == S4.toList) = true := by simp
      have j3 : (S2.toList == S2.toList) = true := by simp
      have j4 : ((S1 ++ ⟨#[58]⟩ ++ DD).toList == (S1 ++ ⟨#[58]⟩ ++ DD).toList) = true := by simp
      have j9 : ((⟨#[111, 114, 97, 99, 108, 101, 58, 47, 47]⟩ : ByteArray).toList == (⟨#[111, 114, 97, 99, 108, 101, 58, 47, 47]⟩ : ByteArray).toList) = true := by simp
      have tok1 := True.intro; have tok2 := True.intro; have tok3 := True.intro; have tok4 := True.intro
      clear hS1 hS2 hS3 hS4 hd47 hdl hHP e1 e2 e3 q1 q2 q3 hul hT hbHP n58 n64 hoL ho47 ho100 hl1 hl2 hl3 hk hkn
      go_wp2_with (first
        | (go_at_call 8; go_must (with_reducible refine (HU1 _ HG2.out).out.mono ?_); rintro e w3 ⟨rfl, hg3⟩; have HG3 := Lib.hid (HG2.out.trans hg3); clear hg3)
        | (have _t := tok1; go_at_call 10; clear tok1 _t; go_must (with_reducible refine (HC1 _).out.mono ?_); rintro e w4 ⟨rfl, hg4⟩; have HG4 := Lib.hid (HG3.out.trans hg4); clear hg4)
        | (have _t := tok2; go_at_call 10; clear tok2 _t; go_must (with_reducible refine (HC2 _).out.mono ?_); rintro e w5 ⟨rfl, hg5⟩; have HG5 := Lib.hid (HG4.out.trans hg5); clear hg5)
        | (go_at_call 10; go_must (with_reducible refine (HC3 _).out.mono ?_); rintro e w6 ⟨rfl, hg6⟩; have HG6 := Lib.hid (HG5.out.trans hg6); clear hg6)
        | (have _t := tok3; go_at_call 11; clear tok3 _t; go_must (with_reducible refine (HP1 _).out.mono ?_); rintro e w7 ⟨rfl, hg7⟩; have HG7 := Lib.hid (HG6.out.trans hg7); clear hg7)
        | (have _t := tok4; go_at_call 11; clear tok4 _t; go_must (with_reducible refine (HP2 _).out.mono ?_); rintro e w8 ⟨rfl, hg8⟩; have HG8 := Lib.hid (HG7.out.trans hg8); clear hg8)
        | (go_at_call 11; go_must (with_reducible refine (HP3 _).out.mono ?_); rintro e w9 ⟨rfl, hg9⟩; have HG9 := Lib.hid (HG8.out.trans hg9); clear hg9)
        | (go_at_call 12; go_must (with_reducible refine (HI _ HG9.out).out.mono ?_); rintro e wa ⟨rfl, hga⟩; have HGa := Lib.hid (HG9.out.trans hga); clear hga)
        | (go_at_call 6; go_must (with_reducible refine (HW _ HGa.out).out.mono ?_); rintro e wb ⟨rfl, hgb⟩))
      go_ret
      exact ⟨rfl, HGa.out.trans hgb⟩
end Go.Proofs.YtpadpdmidiaeoaaDoor
