/- ToNumber of digits' letters: the walk. -/
import Derived.Test.YtoachnjapfakdaaGreatDoorNmP
import Derived.Test.YtoachnjapfakdaaGreatDoorRdAt
import Derived.Test.YtoachnjapfakdaaGreatDoorPkE
import Derived.LoopTactic
namespace Go.Proofs.YtoachnjapfakdaaGreatDoor
open Go Go.RowKit

theorem OwnAt.rdAt {w : World} {g cap : Nat} {xs : List Int} (h : OwnAt w g cap xs) : RdAt w g 0 xs := ⟨fun i hi => by rw [Nat.zero_add]; exact h.cell i hi, h.byt⟩
theorem OwnAt.fresh (w : World) (xs : List Int) (cs : Array Value) (hb : Byt xs) (hc : cs = (xs.map (Value.int .u8)).toArray) (hm : xs.length ≤ maxLen) : OwnAt (w.alloc (.cells cs 5)) w.heap.size xs.length xs := by
  subst hc
  exact ⟨⟨_, heap_alloc_new w _, by simp, List.take_of_length_le (by simp)⟩, Nat.le_refl _, hm, hb⟩

set_option maxRecDepth 100000 in
set_option maxHeartbeats 2000000 in
/-- From the mantissa's slice on: exponent odd, so that nothing is put ahead. -/
theorem toNumber_odd_pos (b o M c : Nat) (mm : List Int) (e : Int) (w : World) (h : RdAt w b o mm) (hn : mm.length = M) (h1 : 1 ≤ M) (h2 : M ≤ 20) (hd : Dig mm) (he : 0 ≤ e ∧ e < 100) (hodd : e % 2 = 1) :
    Calls Tryz.prog 23 #[.slice (some ⟨b, o, none⟩) M c, .bool false, .int .i64 e] w fun e' w' => ∃ u, e' = .returned u ∧
      Own w.heap.size w' u (headB false e :: ((pairs mm).map (digB false) ++ [])) ∧ Gr w w' := by
  obtain ⟨he0, he1⟩ := he
  have hPl := pairs_length mm
  rw [hn] at hPl
  have hpg := pairs_getD mm
  rw [hn] at hpg
  have hPb := pairs_bd hd
  obtain ⟨P, hP⟩ : ∃ P, pairs mm = P := ⟨_, rfl⟩
  rw [hP] at hPl hpg hPb ⊢
  obtain ⟨S, hS⟩ : ∃ S, P.length + 1 = S := ⟨_, rfl⟩
  have hS1 : (1 : Int) + ((M : Int) + 1) / 2 = (S : Int) := by omega
  have hS2 : S ≤ 12 := by omega
  have hS3 : 2 ≤ S := by omega
  have hPN : P.length + 1 ≤ S := by omega
  have HPG := Lib.hid hpg
  have HPL := Lib.hid hPl
  have HPB := Lib.hid hPb
  have HS := Lib.hid hS
  have HN := Lib.hid hn
  have HD := Lib.hid hd
  have HPN := Lib.hid hPN
  clear hpg hPl hS hP hn hd hPb hPN
  go_enter Tryz.func23, Tryz.ntmps23
  go_wp2_with (first
    | (at_make; go_must (refine wpList_make_gr u8 rfl _ _ rfl (Gr.refl w) .i64 .i64 (S : Int) (S : Int) S rfl rfl rfl rfl (by omega) _ rfl ?_); intro w1 ho1 hg1 hg1' hb1))
  obtain ⟨g, hg⟩ : ∃ g, w.heap.size = g := ⟨_, rfl⟩
  rw [hg] at ho1 ⊢
  rw [bufK_start false P S (by omega)] at ho1
  have hgle : w.heap.size ≤ g := by omega
  have HG := Lib.hid hg1
  have HGG := Lib.hid hg
  have HGL := Lib.hid hgle
  clear hg1 hg1' hb1 hg hgle
  go_loopw [10, 11] (fun i _ wr => ∃ k : Nat, i = .int .i64 ((2 * k : Nat) : Int) ∧ k ≤ P.length ∧ OwnAt wr g S (bufK false P S k) ∧ Gr w wr) (fun i _ _ => M + 2 - (intOf i).toNat)
  case atStart => exact ⟨0, rfl, Nat.zero_le _, ho1, HG.out⟩
  case round =>
    obtain ⟨k, rfl, hk, hown, hgr⟩ := hrel
    obtain ⟨j, hj⟩ : ∃ j, 2 * k = j := ⟨_, rfl⟩
    rw [hj]
    by_cases hlt : j < M
    · have hkP : k < P.length := by have := HPL.out; omega
      have hval := HPG.out k (by omega)
      rw [hj] at hval
      have hc0 := (h.gr hgr).cell j (by rw [HN.out]; exact hlt)
      have hd0 := HD.out.getD j (by rw [HN.out]; exact hlt)
      have hst := bufK_step false P S k hkP HPN.out
      have hpb : 0 ≤ P.getD k 0 ∧ P.getD k 0 ≤ 99 := HPB.out _ (by rw [List.getD_eq_getElem?_getD, List.getElem?_eq_getElem hkP]; exact List.getElem_mem hkP)
      have hj2 : (j : Int) / 2 = (k : Int) := by omega
      have hkk : (1 : Int) + (k : Int) < (S : Int) := by have := HS.out; omega
      have hln := bufK_length false P S k hk HPN.out
      have hcur := hown.cell (1 + k) (by rw [hln]; have := HPN.out; omega)
      have hfree := hown.free (1 + k)
      generalize P.getD k 0 = p at *
      have hown2 := hown.setCell (1 + k) (by rw [hln]; have := HPN.out; omega) (digB false p) (by unfold digB; simp; omega)
      rw [hst] at hown2
      have hgr2 := hgr.setCell (p := ⟨g, 1 + k, none⟩) HGL.out (.int .u8 (digB false p))
      obtain ⟨hd00, hd01⟩ := hd0
      generalize mm.getD j 0 = x0 at *
      by_cases hlt2 : j + 1 < M
      · rw [if_pos hlt2] at hval
        have hc1 := (h.gr hgr).cell (j + 1) (by rw [HN.out]; exact hlt2)
        obtain ⟨hd10, hd11⟩ := HD.out.getD (j + 1) (by rw [HN.out]; exact hlt2)
        generalize mm.getD (j + 1) 0 = x1 at *
        have hdv : digB false p = 10 * (x0 - 48) + (x1 - 48) + 1 := by rw [hval]; unfold digB; simp
        rw [hdv] at hown2 hgr2
        have HO := Lib.hid hown2
        have HR := Lib.hid hgr2
        have HJ := Lib.hid hj
        clear hval hst hj hdv hown2 hgr2 hpb hln
        go_wp2
        go_roundw
        case rel => exact ⟨k + 1, by have := HJ.out; congr 1; omega, hkP, HO.out, HR.out⟩
        case measure => simp [intOf]; omega
      · rw [if_neg hlt2] at hval
        have hdv : digB false p = 10 * (x0 - 48) + 1 := by rw [hval]; unfold digB; simp
        rw [hdv] at hown2 hgr2
        have HO := Lib.hid hown2
        have HR := Lib.hid hgr2
        have HJ := Lib.hid hj
        clear hval hst hj hdv hown2 hgr2 hpb hln
        go_wp2
        go_roundw
        case rel => exact ⟨k + 1, by have := HJ.out; congr 1; omega, hkP, HO.out, HR.out⟩
        case measure => simp [intOf]; omega
    · obtain rfl : k = P.length := by have := HPL.out; omega
      have hln := bufK_length false P S _ (Nat.le_refl _) HPN.out
      have hx0 : 65 ≤ e / 2 + 1 + 64 := by omega
      have hx1 : e / 2 + 1 + 64 ≤ 127 := by omega
      have hbit := or_head (e / 2 + 1 + 64) (by omega) hx1
      have hc0 := hown.cell 0 (by rw [hln]; omega)
      have hf0 := hown.free 0
      have hfin := hown.setCell 0 (by rw [hln]; omega) (e / 2 + 1 + 64 + 128) (by omega)
      have hgf := hgr.setCell (p := ⟨g, 0, none⟩) HGL.out (.int .u8 (e / 2 + 1 + 64 + 128))
      have hlist : (bufK false P S P.length).set 0 (e / 2 + 1 + 64 + 128) = headB false e :: (P.map (digB false) ++ []) := by
        rw [← HS.out, buf_end_pos, List.append_nil]; unfold headB; simp; omega
      rw [hlist] at hfin
      have hfin2 := hfin.own HGL.out
      have hl2 : (headB false e :: (P.map (digB false) ++ [])).length = S := by simp; exact HS.out
      rw [hl2] at hfin2
      have HFIN := Lib.hid hfin2
      have HGF := Lib.hid hgf
      clear hfin hgf hlist hfin2 hl2 hln
      go_wp2
      go_ret
      exact ⟨_, rfl, HFIN.out, HGF.out⟩

set_option maxRecDepth 100000 in
set_option maxHeartbeats 2000000 in
/-- From the mantissa's slice on: exponent odd, so that nothing is put ahead. -/
theorem toNumber_odd_neg (b o M c : Nat) (mm : List Int) (e : Int) (w : World) (h : RdAt w b o mm) (hn : mm.length = M) (h1 : 1 ≤ M) (h2 : M ≤ 20) (hd : Dig mm) (he : 0 ≤ e ∧ e < 100) (hodd : e % 2 = 1) :
    Calls Tryz.prog 23 #[.slice (some ⟨b, o, none⟩) M c, .bool true, .int .i64 e] w fun e' w' => ∃ u, e' = .returned u ∧
      Own w.heap.size w' u (headB true e :: ((pairs mm).map (digB true) ++ [102])) ∧ Gr w w' := by
  obtain ⟨he0, he1⟩ := he
  have hPl := pairs_length mm
  rw [hn] at hPl
  have hpg := pairs_getD mm
  rw [hn] at hpg
  have hPb := pairs_bd hd
  obtain ⟨P, hP⟩ : ∃ P, pairs mm = P := ⟨_, rfl⟩
  rw [hP] at hPl hpg hPb ⊢
  obtain ⟨S, hS⟩ : ∃ S, P.length + 1 = S := ⟨_, rfl⟩
  have hS1 : (1 : Int) + ((M : Int) + 1) / 2 = (S : Int) := by omega
  have hS2 : S ≤ 12 := by omega
  have hS3 : 2 ≤ S := by omega
  have hPN : P.length + 1 ≤ (S + 1) := by omega
  have HPG := Lib.hid hpg
  have HPL := Lib.hid hPl
  have HPB := Lib.hid hPb
  have HS := Lib.hid hS
  have HN := Lib.hid hn
  have HD := Lib.hid hd
  have HPN := Lib.hid hPN
  clear hpg hPl hS hP hn hd hPb hPN
  go_enter Tryz.func23, Tryz.ntmps23
  go_wp2_with (first
    | (at_make; go_must (refine wpList_make_gr u8 rfl _ _ rfl (Gr.refl w) .i64 .i64 ((S : Int) + 1) ((S : Int) + 1) (S + 1) rfl rfl (by simp) (by simp) (by omega) _ rfl ?_); intro w1 ho1 hg1 hg1' hb1))
  obtain ⟨g, hg⟩ : ∃ g, w.heap.size = g := ⟨_, rfl⟩
  rw [hg] at ho1 ⊢
  rw [bufK_start true P (S + 1) (by omega)] at ho1
  have hgle : w.heap.size ≤ g := by omega
  have HG := Lib.hid hg1
  have HGG := Lib.hid hg
  have HGL := Lib.hid hgle
  clear hg1 hg1' hb1 hg hgle
  go_loopw [10, 11] (fun i _ wr => ∃ k : Nat, i = .int .i64 ((2 * k : Nat) : Int) ∧ k ≤ P.length ∧ OwnAt wr g (S + 1) (bufK true P (S + 1) k) ∧ Gr w wr) (fun i _ _ => M + 2 - (intOf i).toNat)
  case atStart => exact ⟨0, rfl, Nat.zero_le _, ho1, HG.out⟩
  case round =>
    obtain ⟨k, rfl, hk, hown, hgr⟩ := hrel
    obtain ⟨j, hj⟩ : ∃ j, 2 * k = j := ⟨_, rfl⟩
    rw [hj]
    by_cases hlt : j < M
    · have hkP : k < P.length := by have := HPL.out; omega
      have hval := HPG.out k (by omega)
      rw [hj] at hval
      have hc0 := (h.gr hgr).cell j (by rw [HN.out]; exact hlt)
      have hd0 := HD.out.getD j (by rw [HN.out]; exact hlt)
      have hst := bufK_step true P (S + 1) k hkP HPN.out
      have hpb : 0 ≤ P.getD k 0 ∧ P.getD k 0 ≤ 99 := HPB.out _ (by rw [List.getD_eq_getElem?_getD, List.getElem?_eq_getElem hkP]; exact List.getElem_mem hkP)
      have hj2 : (j : Int) / 2 = (k : Int) := by omega
      have hkk : (1 : Int) + (k : Int) < (S : Int) + 1 := by have := HS.out; omega
      have hln := bufK_length true P (S + 1) k hk HPN.out
      have hcur := hown.cell (1 + k) (by rw [hln]; have := HPN.out; omega)
      have hfree := hown.free (1 + k)
      generalize P.getD k 0 = p at *
      have hown2 := hown.setCell (1 + k) (by rw [hln]; have := HPN.out; omega) (digB true p) (by unfold digB; simp; omega)
      rw [hst] at hown2
      have hgr2 := hgr.setCell (p := ⟨g, 1 + k, none⟩) HGL.out (.int .u8 (digB true p))
      obtain ⟨hd00, hd01⟩ := hd0
      generalize mm.getD j 0 = x0 at *
      by_cases hlt2 : j + 1 < M
      · rw [if_pos hlt2] at hval
        have hc1 := (h.gr hgr).cell (j + 1) (by rw [HN.out]; exact hlt2)
        obtain ⟨hd10, hd11⟩ := HD.out.getD (j + 1) (by rw [HN.out]; exact hlt2)
        generalize mm.getD (j + 1) 0 = x1 at *
        have hdv : digB true p = 100 - (10 * (x0 - 48) + (x1 - 48)) + 1 := by rw [hval]; unfold digB; simp; omega
        rw [hdv] at hown2 hgr2
        have HO := Lib.hid hown2
        have HR := Lib.hid hgr2
        have HJ := Lib.hid hj
        clear hval hst hj hdv hown2 hgr2 hpb hln
        go_wp2
        go_roundw
        case rel => exact ⟨k + 1, by have := HJ.out; congr 1; omega, hkP, HO.out, HR.out⟩
        case measure => simp [intOf]; omega
      · rw [if_neg hlt2] at hval
        have hdv : digB true p = 100 - 10 * (x0 - 48) + 1 := by rw [hval]; unfold digB; simp; omega
        rw [hdv] at hown2 hgr2
        have HO := Lib.hid hown2
        have HR := Lib.hid hgr2
        have HJ := Lib.hid hj
        clear hval hst hj hdv hown2 hgr2 hpb hln
        go_wp2
        go_roundw
        case rel => exact ⟨k + 1, by have := HJ.out; congr 1; omega, hkP, HO.out, HR.out⟩
        case measure => simp [intOf]; omega
    · obtain rfl : k = P.length := by have := HPL.out; omega
      have hln := bufK_length true P (S + 1) _ (Nat.le_refl _) HPN.out
      have hx0 : 65 ≤ e / 2 + 1 + 64 := by omega
      have hx1 : e / 2 + 1 + 64 ≤ 127 := by omega
      have hbit := xor_head (e / 2 + 1 + 64) hx0 hx1
      have hcl := hown.cell S (by rw [hln]; omega)
      have hfl := hown.free S
      have hown3 := hown.setCell S (by rw [hln]; omega) 102 (by omega)
      have hc0 := hown3.cell 0 (by rw [List.length_set, hln]; omega)
      have hf0 := hown3.free 0
      have hfin := hown3.setCell 0 (by rw [List.length_set, hln]; omega) (127 - (e / 2 + 1 + 64)) (by omega)
      have hgf := (hgr.setCell (p := ⟨g, S, none⟩) HGL.out (.int .u8 102)).setCell (p := ⟨g, 0, none⟩) HGL.out (.int .u8 (127 - (e / 2 + 1 + 64)))
      have hlist : ((bufK true P (S + 1) P.length).set S 102).set 0 (127 - (e / 2 + 1 + 64)) = headB true e :: (P.map (digB true) ++ [102]) := by
        rw [← HS.out, buf_end_neg]; unfold headB; simp; omega
      rw [hlist] at hfin
      have hfin2 := hfin.own HGL.out
      have hl2 : (headB true e :: (P.map (digB true) ++ [102])).length = S + 1 := by simp; exact HS.out
      rw [hl2] at hfin2
      have HFIN := Lib.hid hfin2
      have HGF := Lib.hid hgf
      clear hfin hgf hlist hfin2 hl2 hln hown3
      go_wp2
      go_ret
      exact ⟨_, rfl, HFIN.out, HGF.out⟩

set_option maxRecDepth 100000 in
set_option maxHeartbeats 2000000 in
/-- From the mantissa's slice on: exponent even: a nought is put ahead. -/
theorem toNumber_even_pos (b o m c : Nat) (ms : List Int) (e : Int) (w : World) (hms : RdAt w b o ms) (hnm : ms.length = m) (hm1 : 1 ≤ m) (hm2 : m ≤ 19) (hmc : m ≤ c) (hmc2 : c ≤ maxLen) (hdm : Dig ms) (he : 0 ≤ e ∧ e < 100) (hev : e % 2 = 0) :
    Calls Tryz.prog 23 #[.slice (some ⟨b, o, none⟩) m c, .bool false, .int .i64 e] w fun e' w' => ∃ u, e' = .returned u ∧
      Own w.heap.size w' u (headB false e :: ((pairs (48 :: ms)).map (digB false) ++ [])) ∧ Gr w w' := by
  obtain ⟨he0, he1⟩ := he
  have HRD := Lib.hid (hms.rd hnm hmc hmc2)
  obtain ⟨mm, hmm⟩ : ∃ mm, (48 : Int) :: ms = mm := ⟨_, rfl⟩
  have hd : Dig mm := by
    rw [← hmm]; intro x hx
    rcases List.mem_cons.1 hx with rfl | hx
    · omega
    · exact hdm x hx
  obtain ⟨M, hn⟩ : ∃ M, mm.length = M := ⟨_, rfl⟩
  have hM : M = m + 1 := by rw [← hn, ← hmm]; simp; exact hnm
  have h1 : 1 ≤ M := by omega
  have h2 : M ≤ 20 := by omega
  rw [hmm]
  have hmm2 : ([48] : List Int) ++ ms = mm := hmm
  have HMM := Lib.hid hmm2
  have HNM := Lib.hid hnm
  clear hmm hmm2 hms hdm hnm hmc2 hM
  have hPl := pairs_length mm
  rw [hn] at hPl
  have hpg := pairs_getD mm
  rw [hn] at hpg
  have hPb := pairs_bd hd
  obtain ⟨P, hP⟩ : ∃ P, pairs mm = P := ⟨_, rfl⟩
  rw [hP] at hPl hpg hPb ⊢
  obtain ⟨S, hS⟩ : ∃ S, P.length + 1 = S := ⟨_, rfl⟩
  have hS1 : (1 : Int) + ((M : Int) + 1) / 2 = (S : Int) := by omega
  have hS2 : S ≤ 12 := by omega
  have hS3 : 2 ≤ S := by omega
  have hPN : P.length + 1 ≤ S := by omega
  have HPG := Lib.hid hpg
  have HPL := Lib.hid hPl
  have HPB := Lib.hid hPb
  have HS := Lib.hid hS
  have HN := Lib.hid hn
  have HD := Lib.hid hd
  have HPN := Lib.hid hPN
  clear hpg hPl hS hP hn hd hPb hPN
  go_enter Tryz.func23, Tryz.ntmps23
  go_wp2_with (first
    | (at_builtin; go_must (refine wpList_append_gr u8 rfl _ _ rfl (w0 := w) ((Gr.refl w).alloc _) rfl (xs := [48]) (OwnAt.own (B := w.heap.size) (OwnAt.fresh w [48] _ (by intro z hz; simp at hz; omega) rfl (by simp [maxLen])) (Nat.le_refl _)) rfl (HRD.out.gr ((Gr.refl w).alloc _)) (by rw [HNM.out]; simp; omega) ?_); intro v2 w2 ho2 hg2; rw [HMM.out] at ho2; obtain ⟨g2, cap2, hv2, hB2, hoat⟩ := ho2.form (by rw [HN.out]; omega); rw [HN.out] at hv2; subst hv2; have h := hoat.rdAt)
    | (at_make; go_must (refine wpList_make_gr u8 rfl _ _ rfl hg2 .i64 .i64 (S : Int) (S : Int) S rfl rfl rfl rfl (by omega) _ rfl ?_); intro w1 ho1 hg1 hg1' hb1))
  have hgle2 := hg2.size
  obtain ⟨g, hg⟩ : ∃ g, w2.heap.size = g := ⟨_, rfl⟩
  rw [hg] at ho1 ⊢
  rw [bufK_start false P S (by omega)] at ho1
  have hgle : w.heap.size ≤ g := by omega
  have HG := Lib.hid hg1
  have HGG := Lib.hid hg
  have HGL := Lib.hid hgle
  have HGL2 := Lib.hid (show w2.heap.size ≤ g by omega)
  clear hg1 hg1' hb1 hg hgle
  go_loopw [10, 11] (fun i _ wr => ∃ k : Nat, i = .int .i64 ((2 * k : Nat) : Int) ∧ k ≤ P.length ∧ OwnAt wr g S (bufK false P S k) ∧ Gr w2 wr) (fun i _ _ => M + 2 - (intOf i).toNat)
  case atStart => exact ⟨0, rfl, Nat.zero_le _, ho1, HG.out⟩
  case round =>
    obtain ⟨k, rfl, hk, hown, hgr⟩ := hrel
    obtain ⟨j, hj⟩ : ∃ j, 2 * k = j := ⟨_, rfl⟩
    rw [hj]
    by_cases hlt : j < M
    · have hkP : k < P.length := by have := HPL.out; omega
      have hval := HPG.out k (by omega)
      rw [hj] at hval
      have hc0 := (h.gr hgr).cell j (by rw [HN.out]; exact hlt)
      rw [Nat.zero_add] at hc0
      have hd0 := HD.out.getD j (by rw [HN.out]; exact hlt)
      have hst := bufK_step false P S k hkP HPN.out
      have hpb : 0 ≤ P.getD k 0 ∧ P.getD k 0 ≤ 99 := HPB.out _ (by rw [List.getD_eq_getElem?_getD, List.getElem?_eq_getElem hkP]; exact List.getElem_mem hkP)
      have hj2 : (j : Int) / 2 = (k : Int) := by omega
      have hkk : (1 : Int) + (k : Int) < (S : Int) := by have := HS.out; omega
      have hln := bufK_length false P S k hk HPN.out
      have hcur := hown.cell (1 + k) (by rw [hln]; have := HPN.out; omega)
      have hfree := hown.free (1 + k)
      generalize P.getD k 0 = p at *
      have hown2 := hown.setCell (1 + k) (by rw [hln]; have := HPN.out; omega) (digB false p) (by unfold digB; simp; omega)
      rw [hst] at hown2
      have hgr2 := hgr.setCell (p := ⟨g, 1 + k, none⟩) HGL2.out (.int .u8 (digB false p))
      obtain ⟨hd00, hd01⟩ := hd0
      generalize mm.getD j 0 = x0 at *
      by_cases hlt2 : j + 1 < M
      · rw [if_pos hlt2] at hval
        have hc1 := (h.gr hgr).cell (j + 1) (by rw [HN.out]; exact hlt2)
        rw [Nat.zero_add] at hc1
        obtain ⟨hd10, hd11⟩ := HD.out.getD (j + 1) (by rw [HN.out]; exact hlt2)
        generalize mm.getD (j + 1) 0 = x1 at *
        have hdv : digB false p = 10 * (x0 - 48) + (x1 - 48) + 1 := by rw [hval]; unfold digB; simp
        rw [hdv] at hown2 hgr2
        have HO := Lib.hid hown2
        have HR := Lib.hid hgr2
        have HJ := Lib.hid hj
        clear hval hst hj hdv hown2 hgr2 hpb hln
        go_wp2
        go_roundw
        case rel => exact ⟨k + 1, by have := HJ.out; congr 1; omega, hkP, HO.out, HR.out⟩
        case measure => simp [intOf]; omega
      · rw [if_neg hlt2] at hval
        have hdv : digB false p = 10 * (x0 - 48) + 1 := by rw [hval]; unfold digB; simp
        rw [hdv] at hown2 hgr2
        have HO := Lib.hid hown2
        have HR := Lib.hid hgr2
        have HJ := Lib.hid hj
        clear hval hst hj hdv hown2 hgr2 hpb hln
        go_wp2
        go_roundw
        case rel => exact ⟨k + 1, by have := HJ.out; congr 1; omega, hkP, HO.out, HR.out⟩
        case measure => simp [intOf]; omega
    · obtain rfl : k = P.length := by have := HPL.out; omega
      have hln := bufK_length false P S _ (Nat.le_refl _) HPN.out
      have hx0 : 65 ≤ e / 2 + 1 + 64 := by omega
      have hx1 : e / 2 + 1 + 64 ≤ 127 := by omega
      have hbit := or_head (e / 2 + 1 + 64) (by omega) hx1
      have hc0 := hown.cell 0 (by rw [hln]; omega)
      have hf0 := hown.free 0
      have hfin := hown.setCell 0 (by rw [hln]; omega) (e / 2 + 1 + 64 + 128) (by omega)
      have hgf := hgr.setCell (p := ⟨g, 0, none⟩) HGL2.out (.int .u8 (e / 2 + 1 + 64 + 128))
      have hlist : (bufK false P S P.length).set 0 (e / 2 + 1 + 64 + 128) = headB false e :: (P.map (digB false) ++ []) := by
        rw [← HS.out, buf_end_pos, List.append_nil]; unfold headB; simp; omega
      rw [hlist] at hfin
      have hfin2 := hfin.own HGL.out
      have hl2 : (headB false e :: (P.map (digB false) ++ [])).length = S := by simp; exact HS.out
      rw [hl2] at hfin2
      have HFIN := Lib.hid hfin2
      have HGF := Lib.hid hgf
      clear hfin hgf hlist hfin2 hl2 hln
      go_wp2
      go_ret
      exact ⟨_, rfl, HFIN.out, hg2.trans HGF.out⟩

set_option maxRecDepth 100000 in
set_option maxHeartbeats 2000000 in
/-- From the mantissa's slice on: exponent even: a nought is put ahead. -/
theorem toNumber_even_neg (b o m c : Nat) (ms : List Int) (e : Int) (w : World) (hms : RdAt w b o ms) (hnm : ms.length = m) (hm1 : 1 ≤ m) (hm2 : m ≤ 19) (hmc : m ≤ c) (hmc2 : c ≤ maxLen) (hdm : Dig ms) (he : 0 ≤ e ∧ e < 100) (hev : e % 2 = 0) :
    Calls Tryz.prog 23 #[.slice (some ⟨b, o, none⟩) m c, .bool true, .int .i64 e] w fun e' w' => ∃ u, e' = .returned u ∧
      Own w.heap.size w' u (headB true e :: ((pairs (48 :: ms)).map (digB true) ++ [102])) ∧ Gr w w' := by
  obtain ⟨he0, he1⟩ := he
  have HRD := Lib.hid (hms.rd hnm hmc hmc2)
  obtain ⟨mm, hmm⟩ : ∃ mm, (48 : Int) :: ms = mm := ⟨_, rfl⟩
  have hd : Dig mm := by
    rw [← hmm]; intro x hx
    rcases List.mem_cons.1 hx with rfl | hx
    · omega
    · exact hdm x hx
  obtain ⟨M, hn⟩ : ∃ M, mm.length = M := ⟨_, rfl⟩
  have hM : M = m + 1 := by rw [← hn, ← hmm]; simp; exact hnm
  have h1 : 1 ≤ M := by omega
  have h2 : M ≤ 20 := by omega
  rw [hmm]
  have hmm2 : ([48] : List Int) ++ ms = mm := hmm
  have HMM := Lib.hid hmm2
  have HNM := Lib.hid hnm
  clear hmm hmm2 hms hdm hnm hmc2 hM
  have hPl := pairs_length mm
  rw [hn] at hPl
  have hpg := pairs_getD mm
  rw [hn] at hpg
  have hPb := pairs_bd hd
  obtain ⟨P, hP⟩ : ∃ P, pairs mm = P := ⟨_, rfl⟩
  rw [hP] at hPl hpg hPb ⊢
  obtain ⟨S, hS⟩ : ∃ S, P.length + 1 = S := ⟨_, rfl⟩
  have hS1 : (1 : Int) + ((M : Int) + 1) / 2 = (S : Int) := by omega
  have hS2 : S ≤ 12 := by omega
  have hS3 : 2 ≤ S := by omega
  have hPN : P.length + 1 ≤ (S + 1) := by omega
  have HPG := Lib.hid hpg
  have HPL := Lib.hid hPl
  have HPB := Lib.hid hPb
  have HS := Lib.hid hS
  have HN := Lib.hid hn
  have HD := Lib.hid hd
  have HPN := Lib.hid hPN
  clear hpg hPl hS hP hn hd hPb hPN
  go_enter Tryz.func23, Tryz.ntmps23
  go_wp2_with (first
    | (at_builtin; go_must (refine wpList_append_gr u8 rfl _ _ rfl (w0 := w) ((Gr.refl w).alloc _) rfl (xs := [48]) (OwnAt.own (B := w.heap.size) (OwnAt.fresh w [48] _ (by intro z hz; simp at hz; omega) rfl (by simp [maxLen])) (Nat.le_refl _)) rfl (HRD.out.gr ((Gr.refl w).alloc _)) (by rw [HNM.out]; simp; omega) ?_); intro v2 w2 ho2 hg2; rw [HMM.out] at ho2; obtain ⟨g2, cap2, hv2, hB2, hoat⟩ := ho2.form (by rw [HN.out]; omega); rw [HN.out] at hv2; subst hv2; have h := hoat.rdAt)
    | (at_make; go_must (refine wpList_make_gr u8 rfl _ _ rfl hg2 .i64 .i64 ((S : Int) + 1) ((S : Int) + 1) (S + 1) rfl rfl (by simp) (by simp) (by omega) _ rfl ?_); intro w1 ho1 hg1 hg1' hb1))
  have hgle2 := hg2.size
  obtain ⟨g, hg⟩ : ∃ g, w2.heap.size = g := ⟨_, rfl⟩
  rw [hg] at ho1 ⊢
  rw [bufK_start true P (S + 1) (by omega)] at ho1
  have hgle : w.heap.size ≤ g := by omega
  have HG := Lib.hid hg1
  have HGG := Lib.hid hg
  have HGL := Lib.hid hgle
  have HGL2 := Lib.hid (show w2.heap.size ≤ g by omega)
  clear hg1 hg1' hb1 hg hgle
  go_loopw [10, 11] (fun i _ wr => ∃ k : Nat, i = .int .i64 ((2 * k : Nat) : Int) ∧ k ≤ P.length ∧ OwnAt wr g (S + 1) (bufK true P (S + 1) k) ∧ Gr w2 wr) (fun i _ _ => M + 2 - (intOf i).toNat)
  case atStart => exact ⟨0, rfl, Nat.zero_le _, ho1, HG.out⟩
  case round =>
    obtain ⟨k, rfl, hk, hown, hgr⟩ := hrel
    obtain ⟨j, hj⟩ : ∃ j, 2 * k = j := ⟨_, rfl⟩
    rw [hj]
    by_cases hlt : j < M
    · have hkP : k < P.length := by have := HPL.out; omega
      have hval := HPG.out k (by omega)
      rw [hj] at hval
      have hc0 := (h.gr hgr).cell j (by rw [HN.out]; exact hlt)
      rw [Nat.zero_add] at hc0
      have hd0 := HD.out.getD j (by rw [HN.out]; exact hlt)
      have hst := bufK_step true P (S + 1) k hkP HPN.out
      have hpb : 0 ≤ P.getD k 0 ∧ P.getD k 0 ≤ 99 := HPB.out _ (by rw [List.getD_eq_getElem?_getD, List.getElem?_eq_getElem hkP]; exact List.getElem_mem hkP)
      have hj2 : (j : Int) / 2 = (k : Int) := by omega
      have hkk : (1 : Int) + (k : Int) < (S : Int) + 1 := by have := HS.out; omega
      have hln := bufK_length true P (S + 1) k hk HPN.out
      have hcur := hown.cell (1 + k) (by rw [hln]; have := HPN.out; omega)
      have hfree := hown.free (1 + k)
      generalize P.getD k 0 = p at *
      have hown2 := hown.setCell (1 + k) (by rw [hln]; have := HPN.out; omega) (digB true p) (by unfold digB; simp; omega)
      rw [hst] at hown2
      have hgr2 := hgr.setCell (p := ⟨g, 1 + k, none⟩) HGL2.out (.int .u8 (digB true p))
      obtain ⟨hd00, hd01⟩ := hd0
      generalize mm.getD j 0 = x0 at *
      by_cases hlt2 : j + 1 < M
      · rw [if_pos hlt2] at hval
        have hc1 := (h.gr hgr).cell (j + 1) (by rw [HN.out]; exact hlt2)
        rw [Nat.zero_add] at hc1
        obtain ⟨hd10, hd11⟩ := HD.out.getD (j + 1) (by rw [HN.out]; exact hlt2)
        generalize mm.getD (j + 1) 0 = x1 at *
        have hdv : digB true p = 100 - (10 * (x0 - 48) + (x1 - 48)) + 1 := by rw [hval]; unfold digB; simp; omega
        rw [hdv] at hown2 hgr2
        have HO := Lib.hid hown2
        have HR := Lib.hid hgr2
        have HJ := Lib.hid hj
        clear hval hst hj hdv hown2 hgr2 hpb hln
        go_wp2
        go_roundw
        case rel => exact ⟨k + 1, by have := HJ.out; congr 1; omega, hkP, HO.out, HR.out⟩
        case measure => simp [intOf]; omega
      · rw [if_neg hlt2] at hval
        have hdv : digB true p = 100 - 10 * (x0 - 48) + 1 := by rw [hval]; unfold digB; simp; omega
        rw [hdv] at hown2 hgr2
        have HO := Lib.hid hown2
        have HR := Lib.hid hgr2
        have HJ := Lib.hid hj
        clear hval hst hj hdv hown2 hgr2 hpb hln
        go_wp2
        go_roundw
        case rel => exact ⟨k + 1, by have := HJ.out; congr 1; omega, hkP, HO.out, HR.out⟩
        case measure => simp [intOf]; omega
    · obtain rfl : k = P.length := by have := HPL.out; omega
      have hln := bufK_length true P (S + 1) _ (Nat.le_refl _) HPN.out
      have hx0 : 65 ≤ e / 2 + 1 + 64 := by omega
      have hx1 : e / 2 + 1 + 64 ≤ 127 := by omega
      have hbit := xor_head (e / 2 + 1 + 64) hx0 hx1
      have hcl := hown.cell S (by rw [hln]; omega)
      have hfl := hown.free S
      have hown3 := hown.setCell S (by rw [hln]; omega) 102 (by omega)
      have hc0 := hown3.cell 0 (by rw [List.length_set, hln]; omega)
      have hf0 := hown3.free 0
      have hfin := hown3.setCell 0 (by rw [List.length_set, hln]; omega) (127 - (e / 2 + 1 + 64)) (by omega)
      have hgf := (hgr.setCell (p := ⟨g, S, none⟩) HGL2.out (.int .u8 102)).setCell (p := ⟨g, 0, none⟩) HGL2.out (.int .u8 (127 - (e / 2 + 1 + 64)))
      have hlist : ((bufK true P (S + 1) P.length).set S 102).set 0 (127 - (e / 2 + 1 + 64)) = headB true e :: (P.map (digB true) ++ [102]) := by
        rw [← HS.out, buf_end_neg]; unfold headB; simp; omega
      rw [hlist] at hfin
      have hfin2 := hfin.own HGL.out
      have hl2 : (headB true e :: (P.map (digB true) ++ [102])).length = S + 1 := by simp; exact HS.out
      rw [hl2] at hfin2
      have HFIN := Lib.hid hfin2
      have HGF := Lib.hid hgf
      clear hfin hgf hlist hfin2 hl2 hln hown3
      go_wp2
      go_ret
      exact ⟨_, rfl, HFIN.out, hg2.trans HGF.out⟩

end Go.Proofs.YtoachnjapfakdaaGreatDoor
