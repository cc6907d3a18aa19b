/- net/url: what is escaped in a path's part, and the escapes. -/
import Derived.Test.YtpadpdmidiaeoaaGreatDoorUrA
import Derived.Deep.DeepCutAuto
namespace Go.Proofs.YtpadpdmidiaeoaaGreatDoor
open Go Go.RowKit

/-- The table of the encodings. -/
def urlTab : List Int := [0, 0, 0, 0, 0, 0, 0, 0, 0, 0, 0, 0, 0, 0, 0, 0, 0, 0, 0, 0, 0, 0, 0, 0, 0, 0, 0, 0, 0, 0, 0, 0, 0, 76, 12, 0, 95, 0, 95, 12, 76, 76, 76, 95, 93, 127, 127, 65, 255, 255, 255, 255, 255, 255, 255, 255, 255, 255, 79, 93, 12, 95, 12, 64, 67, 255, 255, 255, 255, 255, 255, 127, 127, 127, 127, 127, 127, 127, 127, 127, 127, 127, 127, 127, 127, 127, 127, 127, 127, 127, 127, 12, 0, 12, 0, 127, 0, 255, 255, 255, 255, 255, 255, 127, 127, 127, 127, 127, 127, 127, 127, 127, 127, 127, 127, 127, 127, 127, 127, 127, 127, 127, 127, 0, 0, 0, 127, 0, 0, 0, 0, 0, 0, 0, 0, 0, 0, 0, 0, 0, 0, 0, 0, 0, 0, 0, 0, 0, 0, 0, 0, 0, 0, 0, 0, 0, 0, 0, 0, 0, 0, 0, 0, 0, 0, 0, 0, 0, 0, 0, 0, 0, 0, 0, 0, 0, 0, 0, 0, 0, 0, 0, 0, 0, 0, 0, 0, 0, 0, 0, 0, 0, 0, 0, 0, 0, 0, 0, 0, 0, 0, 0, 0, 0, 0, 0, 0, 0, 0, 0, 0, 0, 0, 0, 0, 0, 0, 0, 0, 0, 0, 0, 0, 0, 0, 0, 0, 0, 0, 0, 0, 0, 0, 0, 0, 0, 0, 0, 0, 0, 0, 0, 0, 0, 0, 0, 0, 0, 0, 0, 0, 0, 0, 0, 0, 0]
def TabU (w : World) : Prop := Lib.TabIs Tryz.prog w "net/url.table" .u8 urlTab
theorem TabU.gr {w w' : World} (h : TabU w) (g : Gr w w') : TabU w' := Lib.tabBelow_of_tabIs h w' g
theorem tab_free (n : Nat) (h : n < 256) : decide (bits .and .u8 (urlTab.getD n 0) 2 = 0) = !freeB n := by
  have : ∀ m : Fin 256, decide (bits .and .u8 (urlTab.getD m.val 0) 2 = 0) = !freeB m.val := by decide +kernel
  exact this ⟨n, h⟩

set_option maxRecDepth 100000 in
theorem shouldEsc (c : Nat) (hc : c < 256) (w : World) (ht : TabU w) :
    Calls Tryz.prog 70 #[.int .u8 (c : Nat), .int .u8 2] w fun e w' => e = .returned (.bool (!freeB c)) ∧ w' = w := by
  have hk : w.cell? ⟨3, c, none⟩ = some (.int .u8 (urlTab.getD c 0)) := Lib.TabIs.cell ht (by kernel_rfl) c hc
  have hf := tab_free c hc
  generalize urlTab.getD c 0 = z at *
  clear ht
  go_enter Tryz.func70, Tryz.ntmps70
  go_wp2
  go_ret
  exact ⟨by rw [← hf]; rfl, rfl⟩

theorem hex_lit (n : Nat) (h : n < 16) {h' : n < (⟨#[48, 49, 50, 51, 52, 53, 54, 55, 56, 57, 65, 66, 67, 68, 69, 70]⟩ : ByteArray).size} : ((⟨#[48, 49, 50, 51, 52, 53, 54, 55, 56, 57, 65, 66, 67, 68, 69, 70]⟩ : ByteArray)[n]'h').toNat = (hexB n).toNat := by
  rcases (by omega : n = 0 ∨ n = 1 ∨ n = 2 ∨ n = 3 ∨ n = 4 ∨ n = 5 ∨ n = 6 ∨ n = 7 ∨ n = 8 ∨ n = 9 ∨ n = 10 ∨ n = 11 ∨ n = 12 ∨ n = 13 ∨ n = 14 ∨ n = 15) with rfl | rfl | rfl | rfl | rfl | rfl | rfl | rfl | rfl | rfl | rfl | rfl | rfl | rfl | rfl | rfl <;> rfl
theorem rw_new (W : World) (B N C : Nat) (T : TypeId) (hN : N ≤ C) (hB : B = W.heap.size) : RwAt (W.alloc (.cells (Array.replicate C (.int .u8 0)) T)) B (List.replicate N 0) := by
  have hb := heap_new_at W (.cells (Array.replicate C (.int .u8 0)) T) hB
  refine ⟨⟨fun i hi => ?_, byt_rep N⟩, fun i _ => blk_free hb i⟩
  rw [List.length_replicate] at hi
  rw [Nat.zero_add]
  refine (blk_cell hb i).trans ?_
  have h1 : i < C := by omega
  simp [h1, hi]
theorem RwAt.gr {a w : World} {b : Nat} {xs : List Int} (h : RwAt a b xs) (g : Gr a w) (hb : b < a.heap.size) : RwAt w b xs :=
  ⟨h.rd.gr g, fun i hi => by have := h.free i hi; simp only [World.frozen?] at this ⊢; rw [g.block hb]; exact this⟩
theorem OwnAt.rw {w : World} {g cap : Nat} {xs : List Int} (h : OwnAt w g cap xs) : RwAt w g xs := ⟨⟨fun i hi => by rw [Nat.zero_add]; exact h.cell i hi, h.byt⟩, fun i _ => h.free i⟩
theorem RdAt.far {w : World} {b o : Nat} {xs : List Int} (h : RdAt w b o xs) {g : Nat} (hg : g ≠ b) (i : Nat) (u : Value) : RdAt (w.setCell ⟨g, i, none⟩ u) b o xs :=
  ⟨fun j hj => by rw [World.cell?_setCell_other _ _ _ _ (by intro e; injection e with e1 _; exact hg e1)]; exact h.cell j hj, h.byt⟩

set_option maxRecDepth 100000 in
set_option maxHeartbeats 4000000 in
theorem escape (L : List UInt8) (hl : L.length ≤ 1000000) (w : World) (ht : TabU w) :
    Calls Tryz.prog 55 #[.string (bs L), .int .u8 2] w fun e w' => e = .returned (.string (bs (esc L))) ∧ Gr w w' := by
  obtain ⟨c, W2, hcv, hrw, hg, hc1, hc2⟩ := bytes_of_str_rw L w (by simp only [maxLen]; omega)
  have HCV := fun w => Lib.hid (bytes_of_str_rw L w (by simp only [maxLen]; omega))
  obtain ⟨n, hn⟩ : ∃ n, L.length = n := ⟨_, rfl⟩
  have hsz : (bs L).size = n := by rw [bs_size, hn]
  rw [hn] at hcv hc1 hl
  rw [hn] at HCV
  have hcm : c ≤ 9223372036854775807 := by simp only [maxLen] at hc2; omega
  have HT := Lib.hid ht
  have HN := Lib.hid hn
  have HG := Lib.hid hg
  have HRW := Lib.hid hrw
  have HSE := fun c hc w ht => Lib.hid (shouldEsc c hc w ht)
  have HEN := Lib.hid (fun h => congrArg bs (esc_none L h))
  have HHL := Lib.hid hl
  clear hrw hg hn hc2 ht
  generalize hS : bs L = S at *
  clear hS
  go_enter Tryz.func55, Tryz.ntmps55
  go_wp2
  go_loopw [5, 6, 19] (fun s h i wr => ∃ k : Nat, i = .int .i64 k ∧ s = .int .i64 0 ∧ h = .int .i64 (cntE (L.take k)) ∧ k ≤ n ∧ wr = W2) (fun _ _ i _ => ((n : Int) - intOf i).toNat)
  case atStart => exact ⟨0, rfl, rfl, rfl, Nat.zero_le _, rfl⟩
  case round =>
    obtain ⟨k, rfl, rfl, rfl, hk, rfl⟩ := hrel
    by_cases hkn : k < n
    · have hkL : k < L.length := by rw [HN.out]; exact hkn
      have kc := HRW.out.cell k (by rw [nums_length]; exact hkL)
      have hgd : (nums L).getD k 0 = (L[k].toNat : Int) := by simp [nums, List.getD_eq_getElem?_getD, hkL]
      rw [hgd] at kc
      have hst := cntE_take L k hkL
      have hle := cntE_le (L.take k)
      rw [List.length_take] at hle
      have hx := L[k].toNat_lt
      generalize L[k].toNat = x at *
      generalize cntE (L.take k) = q at *
      have HST := Lib.hid hst
      clear hst hgd
      by_cases hf : freeB x = true
      · have HF := Lib.hid hf
        have hnf : (!freeB x) = false := by rw [hf]; rfl
        clear hf
        go_wp2_with (first | (go_at_call 70; go_must (refine (HSE x hx _ (HT.out.gr HG.out)).out.mono ?_); rintro e w3 ⟨rfl, hw⟩; obtain rfl := hw.symm; rw [hnf]))
        go_roundw
        case rel => exact ⟨k + 1, by go_num, rfl, by rw [HST.out, HF.out]; rfl, by omega, by trivial⟩
        case measure => first | (simp [intOf]; done) | (simp [intOf]; omega)
      · have hff : freeB x = false := by simpa using hf
        have HF := Lib.hid hff
        have hnf : (!freeB x) = true := by rw [hff]; rfl
        clear hf hff
        by_cases h32 : x = 32
        · obtain rfl := h32
          have H32 := fun w ht => Lib.hid (show Calls Tryz.prog 70 #[.int .u8 32, .int .u8 2] w _ from (HSE 32 (by omega) w ht).out)
          go_wp2_with (first | (go_at_call 70; go_must (refine (H32 _ (HT.out.gr HG.out)).out.mono ?_); rintro e w3 ⟨rfl, hw⟩; obtain rfl := hw.symm; rw [hnf]))
          go_roundw
          case rel => exact ⟨k + 1, by go_num, rfl, by rw [HST.out, HF.out]; simp, by omega, by trivial⟩
          case measure => first | (simp [intOf]; done) | (simp [intOf]; omega)
        · have h32 : ¬ ((x : Int) = 32) := by omega
          go_wp2_with (first | (go_at_call 70; go_must (refine (HSE x hx _ (HT.out.gr HG.out)).out.mono ?_); rintro e w3 ⟨rfl, hw⟩; obtain rfl := hw.symm; rw [hnf]))
          go_roundw
          case rel => exact ⟨k + 1, by go_num, rfl, by rw [HST.out, HF.out]; simp, by omega, by trivial⟩
          case measure => first | (simp [intOf]; done) | (simp [intOf]; omega)
    · obtain rfl : n = k := by omega
      have hall : L.take n = L := by rw [← HN.out]; exact List.take_length
      rw [hall]
      have hq := cntE_le L
      rw [HN.out] at hq
      have hel := esc_len L
      rw [HN.out] at hel
      have HEL := Lib.hid hel
      by_cases h0 : cntE L = 0
      · have he := HEN.out h0
        rw [h0]
        go_wp2
        go_ret
        exact ⟨by rw [he]; rfl, HG.out⟩
      · obtain ⟨q, hqq⟩ : ∃ q, cntE L = q := ⟨_, rfl⟩
        rw [hqq] at hq h0 hel ⊢
        have hqz : ¬ ((q : Int) = 0) := by omega
        have hqb : ((q : Int) == 0) = false := by simpa using hqz
        clear hall hk hqq
        obtain ⟨N, hNN⟩ : ∃ N, (esc L).length = N := ⟨_, rfl⟩
        rw [hNN] at hel
        have hN1 : (n : Int) + 2 * (q : Int) = (N : Int) := by omega
        have hN2 : N ≤ 3000000 := by omega
        have HNN := Lib.hid hNN
        clear hel hNN hq
        by_cases h64 : (N : Int) ≤ 64
        · go_upto_region 26 with fail
          have hrw0 := rw_new wr wr.heap.size N 64 100 (by omega) rfl
          have hgt := HG.out.alloc (.cells #[.int .u8 0, .int .u8 0, .int .u8 0, .int .u8 0, .int .u8 0, .int .u8 0, .int .u8 0, .int .u8 0, .int .u8 0, .int .u8 0, .int .u8 0, .int .u8 0, .int .u8 0, .int .u8 0, .int .u8 0, .int .u8 0, .int .u8 0, .int .u8 0, .int .u8 0, .int .u8 0, .int .u8 0, .int .u8 0, .int .u8 0, .int .u8 0, .int .u8 0, .int .u8 0, .int .u8 0, .int .u8 0, .int .u8 0, .int .u8 0, .int .u8 0, .int .u8 0, .int .u8 0, .int .u8 0, .int .u8 0, .int .u8 0, .int .u8 0, .int .u8 0, .int .u8 0, .int .u8 0, .int .u8 0, .int .u8 0, .int .u8 0, .int .u8 0, .int .u8 0, .int .u8 0, .int .u8 0, .int .u8 0, .int .u8 0, .int .u8 0, .int .u8 0, .int .u8 0, .int .u8 0, .int .u8 0, .int .u8 0, .int .u8 0, .int .u8 0, .int .u8 0, .int .u8 0, .int .u8 0, .int .u8 0, .int .u8 0, .int .u8 0, .int .u8 0] 100)
          change RwAt (wr.alloc (.cells #[.int .u8 0, .int .u8 0, .int .u8 0, .int .u8 0, .int .u8 0, .int .u8 0, .int .u8 0, .int .u8 0, .int .u8 0, .int .u8 0, .int .u8 0, .int .u8 0, .int .u8 0, .int .u8 0, .int .u8 0, .int .u8 0, .int .u8 0, .int .u8 0, .int .u8 0, .int .u8 0, .int .u8 0, .int .u8 0, .int .u8 0, .int .u8 0, .int .u8 0, .int .u8 0, .int .u8 0, .int .u8 0, .int .u8 0, .int .u8 0, .int .u8 0, .int .u8 0, .int .u8 0, .int .u8 0, .int .u8 0, .int .u8 0, .int .u8 0, .int .u8 0, .int .u8 0, .int .u8 0, .int .u8 0, .int .u8 0, .int .u8 0, .int .u8 0, .int .u8 0, .int .u8 0, .int .u8 0, .int .u8 0, .int .u8 0, .int .u8 0, .int .u8 0, .int .u8 0, .int .u8 0, .int .u8 0, .int .u8 0, .int .u8 0, .int .u8 0, .int .u8 0, .int .u8 0, .int .u8 0, .int .u8 0, .int .u8 0, .int .u8 0, .int .u8 0] 100)) _ _ at hrw0
          have hBt : wr.heap.size < (wr.alloc (.cells #[.int .u8 0, .int .u8 0, .int .u8 0, .int .u8 0, .int .u8 0, .int .u8 0, .int .u8 0, .int .u8 0, .int .u8 0, .int .u8 0, .int .u8 0, .int .u8 0, .int .u8 0, .int .u8 0, .int .u8 0, .int .u8 0, .int .u8 0, .int .u8 0, .int .u8 0, .int .u8 0, .int .u8 0, .int .u8 0, .int .u8 0, .int .u8 0, .int .u8 0, .int .u8 0, .int .u8 0, .int .u8 0, .int .u8 0, .int .u8 0, .int .u8 0, .int .u8 0, .int .u8 0, .int .u8 0, .int .u8 0, .int .u8 0, .int .u8 0, .int .u8 0, .int .u8 0, .int .u8 0, .int .u8 0, .int .u8 0, .int .u8 0, .int .u8 0, .int .u8 0, .int .u8 0, .int .u8 0, .int .u8 0, .int .u8 0, .int .u8 0, .int .u8 0, .int .u8 0, .int .u8 0, .int .u8 0, .int .u8 0, .int .u8 0, .int .u8 0, .int .u8 0, .int .u8 0, .int .u8 0, .int .u8 0, .int .u8 0, .int .u8 0, .int .u8 0] 100)).heap.size := by simp
          have hBw := HG.out.size
          generalize hcc : wr.alloc (.cells #[.int .u8 0, .int .u8 0, .int .u8 0, .int .u8 0, .int .u8 0, .int .u8 0, .int .u8 0, .int .u8 0, .int .u8 0, .int .u8 0, .int .u8 0, .int .u8 0, .int .u8 0, .int .u8 0, .int .u8 0, .int .u8 0, .int .u8 0, .int .u8 0, .int .u8 0, .int .u8 0, .int .u8 0, .int .u8 0, .int .u8 0, .int .u8 0, .int .u8 0, .int .u8 0, .int .u8 0, .int .u8 0, .int .u8 0, .int .u8 0, .int .u8 0, .int .u8 0, .int .u8 0, .int .u8 0, .int .u8 0, .int .u8 0, .int .u8 0, .int .u8 0, .int .u8 0, .int .u8 0, .int .u8 0, .int .u8 0, .int .u8 0, .int .u8 0, .int .u8 0, .int .u8 0, .int .u8 0, .int .u8 0, .int .u8 0, .int .u8 0, .int .u8 0, .int .u8 0, .int .u8 0, .int .u8 0, .int .u8 0, .int .u8 0, .int .u8 0, .int .u8 0, .int .u8 0, .int .u8 0, .int .u8 0, .int .u8 0, .int .u8 0, .int .u8 0] 100) = wt at *
          generalize wr.heap.size = B at *
          clear hcc
          rw [← HNN.out, ← escRow_zero] at hrw0
          have HR0 := Lib.hid hrw0
          have HGT := Lib.hid hgt
          obtain ⟨c2, W3, hcv2, hrw2, hg2, hd1, hd2⟩ := (HCV wt).out
          have hc2m : c2 ≤ 9223372036854775807 := by simp only [maxLen] at hd2; omega
          obtain ⟨b2, hb2⟩ : ∃ b, wt.heap.size = b := ⟨_, rfl⟩
          rw [hb2] at hcv2 hrw2
          have HBL := Lib.hid hBt
          have hne : B ≠ b2 := by omega
          have HRW2 := Lib.hid hrw2.rd
          have HG2 := Lib.hid hg2
          have HBW := Lib.hid hBw
          clear hrw0 hgt hrw2 hg2 hd2 hBt hBw hb2
          go_wp2
          go_loopw [13, 78] (fun j i wr => ∃ k : Nat, i = .int .i64 k ∧ j = .int .i64 (esc (L.take k)).length ∧ k ≤ n ∧ RwAt wr B (escRow L k) ∧ RdAt wr b2 0 (nums L) ∧ Gr w wr) (fun _ i _ => ((n : Int) - intOf i).toNat)
          case atStart => exact ⟨0, rfl, rfl, Nat.zero_le _, HR0.out.gr HG2.out HBL.out, HRW2.out, HGT.out.trans HG2.out⟩
          case round =>
            obtain ⟨k, rfl, rfl, hk, hrw, hrd, hgr⟩ := hrel
            by_cases hkn : k < n
            · have hkL : k < L.length := by rw [HN.out]; exact hkn
              have kc := hrd.cell k (by rw [nums_length]; exact hkL)
              have hgd : (nums L).getD k 0 = (L[k].toNat : Int) := by simp [nums, List.getD_eq_getElem?_getD, hkL]
              rw [hgd, Nat.zero_add] at kc
              obtain ⟨j, hj⟩ : ∃ j, (esc (L.take k)).length = j := ⟨_, rfl⟩
              have hlen := escRow_len L k
              rw [HNN.out] at hlen
              have hx := L[k].toNat_lt
              by_cases hf : freeB L[k].toNat = true
              · obtain ⟨hs1, hs2, hs3⟩ := escRow_free L k hkL hf
                rw [hj] at hs1 hs2 hs3 ⊢
                rw [HNN.out] at hs3
                have kj := hrw.cell j (by omega)
                have fj := hrw.free j (by omega)
                have HREL := Lib.hid (hs1 ▸ hrw.set j (by omega) (L[k].toNat : Int) (by omega))
                have HFAR := Lib.hid (hrd.far hne j (.int .u8 (L[k].toNat : Int)))
                have HGR := Lib.hid (hgr.setCell (p := ⟨B, j, none⟩) HBW.out (.int .u8 (L[k].toNat : Int)))
                have HS2 := Lib.hid hs2
                have hnf : (!freeB L[k].toNat) = false := by rw [hf]; rfl
                have h32 : ¬ ((L[k].toNat : Int) = 32) := by intro e; have e : L[k].toNat = 32 := by omega
                                                             rw [e] at hf; revert hf; decide
                have HTT := Lib.hid (HT.out.gr hgr)
                generalize L[k].toNat = x at *
                have hj1 : (j : Int) < (N : Int) := by omega
                have hj2 : (j : Int) ≤ 3000000 := by omega
                clear hs1 hs2 hgd hf hrw hrd hgr hj hlen hs3
                go_wp2_with (first | (go_at_call 70; go_must (refine (HSE x hx _ HTT.out).out.mono ?_); rintro e w3 ⟨rfl, hw⟩; obtain rfl := hw.symm; rw [hnf]))
                go_roundw
                case rel => exact ⟨k + 1, by go_num, by rw [HS2.out]; go_num, by omega, HREL.out, HFAR.out, HGR.out⟩
                case measure => first | (simp [intOf]; done) | (simp [intOf]; omega)
              · have hff : freeB L[k].toNat = false := by simpa using hf
                obtain ⟨hs1, hs2, hs3⟩ := escRow_esc L k hkL hff j hj
                rw [hj]
                rw [HNN.out] at hs3
                have kj := hrw.cell j (by omega)
                have fj := hrw.free j (by omega)
                have kj1 := hrw.cell (j + 1) (by omega)
                have fj1 := hrw.free (j + 1) (by omega)
                have kj2 := hrw.cell (j + 2) (by omega)
                have fj2 := hrw.free (j + 2) (by omega)
                have HTT := Lib.hid (HT.out.gr hgr)
                have hnf : (!freeB L[k].toNat) = true := by rw [hff]; rfl
                generalize L[k].toNat = x at *
                have hj1 : (j : Int) + 2 < (N : Int) := by omega
                have hj2 : (j : Int) ≤ 3000000 := by omega
                have hj0 : (j : Int) < (N : Int) := by omega
                have hj3 : (j : Int) + 1 < (N : Int) := by omega
                have HS1 := Lib.hid hs1
                have HS2 := Lib.hid hs2
                have HRW3 := Lib.hid hrw
                have HRD3 := Lib.hid hrd
                have HGR3 := Lib.hid hgr
                have HLL := Lib.hid hlen
                clear hs1 hs2 hgd hf hff hrw hrd hgr hj hlen hs3
                by_cases h32 : x = 32
                · obtain rfl := h32
                  have H32 := fun w ht => Lib.hid (show Calls Tryz.prog 70 #[.int .u8 32, .int .u8 2] w _ from (HSE 32 (by omega) w ht).out)
                  go_wp2_with (first | (go_at_call 70; go_must (refine (H32 _ HTT.out).out.mono ?_); rintro e w3 ⟨rfl, hw⟩; obtain rfl := hw.symm; rw [hnf]))
                  go_roundw
                  case rel =>
                    have r1 := HRW3.out.set j (by rw [HLL.out]; omega) 37 (by omega)
                    have r2 := r1.set (j + 1) (by rw [List.length_set, HLL.out]; omega) ((hexB (32 / 16)).toNat : Int) (by decide)
                    have r3 := r2.set (j + 2) (by rw [List.length_set, List.length_set, HLL.out]; omega) ((hexB (32 % 16)).toNat : Int) (by decide)
                    rw [← HS1.out] at r3
                    exact ⟨k + 1, by go_num, by rw [HS2.out]; go_num, by omega, r3, ((HRD3.out.far hne _ _).far hne _ _).far hne _ _, ((HGR3.out.setCell (p := ⟨B, j, none⟩) HBW.out _).setCell (p := ⟨B, j + 1, none⟩) HBW.out _).setCell (p := ⟨B, j + 2, none⟩) HBW.out _⟩
                  case measure => first | (simp [intOf]; done) | (simp [intOf]; omega)
                · have h32 : ¬ ((x : Int) = 32) := by omega
                  go_wp2_with (first | (go_at_call 70; go_must (refine (HSE x hx _ HTT.out).out.mono ?_); rintro e w3 ⟨rfl, hw⟩; obtain rfl := hw.symm; rw [hnf]))
                  have hd1 : ∀ h, ((⟨#[48, 49, 50, 51, 52, 53, 54, 55, 56, 57, 65, 66, 67, 68, 69, 70]⟩ : ByteArray)[x / 16]'h).toNat = (hexB (x / 16)).toNat := fun _ => hex_lit _ (by omega)
                  have hd2 : ∀ h, ((⟨#[48, 49, 50, 51, 52, 53, 54, 55, 56, 57, 65, 66, 67, 68, 69, 70]⟩ : ByteArray)[x % 16]'h).toNat = (hexB (x % 16)).toNat := fun _ => hex_lit _ (by omega)
                  simp only [hd1, hd2]
                  go_roundw
                  case rel =>
                    have hp1 : 0 ≤ ((hexB (x / 16)).toNat : Int) ∧ ((hexB (x / 16)).toNat : Int) < 256 := by have := (hexB (x / 16)).toNat_lt; omega
                    have hp2 : 0 ≤ ((hexB (x % 16)).toNat : Int) ∧ ((hexB (x % 16)).toNat : Int) < 256 := by have := (hexB (x % 16)).toNat_lt; omega
                    have r1 := HRW3.out.set j (by rw [HLL.out]; omega) 37 (by omega)
                    have r2 := r1.set (j + 1) (by rw [List.length_set, HLL.out]; omega) _ hp1
                    have r3 := r2.set (j + 2) (by rw [List.length_set, List.length_set, HLL.out]; omega) _ hp2
                    rw [← HS1.out] at r3
                    exact ⟨k + 1, by go_num, by rw [HS2.out]; go_num, by omega, r3, ((HRD3.out.far hne _ _).far hne _ _).far hne _ _, ((HGR3.out.setCell (p := ⟨B, j, none⟩) HBW.out _).setCell (p := ⟨B, j + 1, none⟩) HBW.out _).setCell (p := ⟨B, j + 2, none⟩) HBW.out _⟩
                  case measure => first | (simp [intOf]; done) | (simp [intOf]; omega)
            · obtain rfl : n = k := by omega
              have hall := escRow_all L n HN.out.symm
              rw [hall] at hrw
              have hN0 := HNN.out
              have hbk : ∀ c, (convert 33 9 (.slice (some ⟨B, 0, none⟩) N c)).run Tryz.prog wr = .ok (.string (bs (esc L))) wr := fun c => by
                have := str_of_bytes B c (esc L) wr hrw
                rwa [hN0] at this
              have HGR := Lib.hid hgr
              clear hrw hgr hall hN0
              go_wp2
              go_ret
              exact ⟨rfl, HGR.out⟩
        · go_upto_region 26 with (at_make; go_must (refine wpList_make_gr Go.Proofs.YtpadpdmidiaeoaaGreatDoor.u8 rfl _ _ rfl (HG.out.alloc _) .i64 .i64 _ _ N rfl rfl rfl rfl (by omega) (wr.heap.size + 1) (by simp) ?_); intro wt ho hG4 hgt hBw)
          have hrw0 := ho.rw
          have hBt := ho.lt
          clear ho hG4
          generalize wr.heap.size + 1 = B at *
          rw [← HNN.out, ← escRow_zero] at hrw0
          have HR0 := Lib.hid hrw0
          have HGT := Lib.hid hgt
          obtain ⟨c2, W3, hcv2, hrw2, hg2, hd1, hd2⟩ := (HCV wt).out
          have hc2m : c2 ≤ 9223372036854775807 := by simp only [maxLen] at hd2; omega
          obtain ⟨b2, hb2⟩ : ∃ b, wt.heap.size = b := ⟨_, rfl⟩
          rw [hb2] at hcv2 hrw2
          have HBL := Lib.hid hBt
          have hne : B ≠ b2 := by omega
          have HRW2 := Lib.hid hrw2.rd
          have HG2 := Lib.hid hg2
          have HBW := Lib.hid hBw
          clear hrw0 hgt hrw2 hg2 hd2 hBt hBw hb2
          go_wp2
          go_loopw [13, 78] (fun j i wr => ∃ k : Nat, i = .int .i64 k ∧ j = .int .i64 (esc (L.take k)).length ∧ k ≤ n ∧ RwAt wr B (escRow L k) ∧ RdAt wr b2 0 (nums L) ∧ Gr w wr) (fun _ i _ => ((n : Int) - intOf i).toNat)
          case atStart => exact ⟨0, rfl, rfl, Nat.zero_le _, HR0.out.gr HG2.out HBL.out, HRW2.out, HGT.out.trans HG2.out⟩
          case round =>
            obtain ⟨k, rfl, rfl, hk, hrw, hrd, hgr⟩ := hrel
            by_cases hkn : k < n
            · have hkL : k < L.length := by rw [HN.out]; exact hkn
              have kc := hrd.cell k (by rw [nums_length]; exact hkL)
              have hgd : (nums L).getD k 0 = (L[k].toNat : Int) := by simp [nums, List.getD_eq_getElem?_getD, hkL]
              rw [hgd, Nat.zero_add] at kc
              obtain ⟨j, hj⟩ : ∃ j, (esc (L.take k)).length = j := ⟨_, rfl⟩
              have hlen := escRow_len L k
              rw [HNN.out] at hlen
              have hx := L[k].toNat_lt
              by_cases hf : freeB L[k].toNat = true
              · obtain ⟨hs1, hs2, hs3⟩ := escRow_free L k hkL hf
                rw [hj] at hs1 hs2 hs3 ⊢
                rw [HNN.out] at hs3
                have kj := hrw.cell j (by omega)
                have fj := hrw.free j (by omega)
                have HREL := Lib.hid (hs1 ▸ hrw.set j (by omega) (L[k].toNat : Int) (by omega))
                have HFAR := Lib.hid (hrd.far hne j (.int .u8 (L[k].toNat : Int)))
                have HGR := Lib.hid (hgr.setCell (p := ⟨B, j, none⟩) HBW.out (.int .u8 (L[k].toNat : Int)))
                have HS2 := Lib.hid hs2
                have hnf : (!freeB L[k].toNat) = false := by rw [hf]; rfl
                have h32 : ¬ ((L[k].toNat : Int) = 32) := by intro e; have e : L[k].toNat = 32 := by omega
                                                             rw [e] at hf; revert hf; decide
                have HTT := Lib.hid (HT.out.gr hgr)
                generalize L[k].toNat = x at *
                have hj1 : (j : Int) < (N : Int) := by omega
                have hj2 : (j : Int) ≤ 3000000 := by omega
                clear hs1 hs2 hgd hf hrw hrd hgr hj hlen hs3
                go_wp2_with (first | (go_at_call 70; go_must (refine (HSE x hx _ HTT.out).out.mono ?_); rintro e w3 ⟨rfl, hw⟩; obtain rfl := hw.symm; rw [hnf]))
                go_roundw
                case rel => exact ⟨k + 1, by go_num, by rw [HS2.out]; go_num, by omega, HREL.out, HFAR.out, HGR.out⟩
                case measure => first | (simp [intOf]; done) | (simp [intOf]; omega)
              · have hff : freeB L[k].toNat = false := by simpa using hf
                obtain ⟨hs1, hs2, hs3⟩ := escRow_esc L k hkL hff j hj
                rw [hj]
                rw [HNN.out] at hs3
                have kj := hrw.cell j (by omega)
                have fj := hrw.free j (by omega)
                have kj1 := hrw.cell (j + 1) (by omega)
                have fj1 := hrw.free (j + 1) (by omega)
                have kj2 := hrw.cell (j + 2) (by omega)
                have fj2 := hrw.free (j + 2) (by omega)
                have HTT := Lib.hid (HT.out.gr hgr)
                have hnf : (!freeB L[k].toNat) = true := by rw [hff]; rfl
                generalize L[k].toNat = x at *
                have hj1 : (j : Int) + 2 < (N : Int) := by omega
                have hj2 : (j : Int) ≤ 3000000 := by omega
                have hj0 : (j : Int) < (N : Int) := by omega
                have hj3 : (j : Int) + 1 < (N : Int) := by omega
                have HS1 := Lib.hid hs1
                have HS2 := Lib.hid hs2
                have HRW3 := Lib.hid hrw
                have HRD3 := Lib.hid hrd
                have HGR3 := Lib.hid hgr
                have HLL := Lib.hid hlen
                clear hs1 hs2 hgd hf hff hrw hrd hgr hj hlen hs3
                by_cases h32 : x = 32
                · obtain rfl := h32
                  have H32 := fun w ht => Lib.hid (show Calls Tryz.prog 70 #[.int .u8 32, .int .u8 2] w _ from (HSE 32 (by omega) w ht).out)
                  go_wp2_with (first | (go_at_call 70; go_must (refine (H32 _ HTT.out).out.mono ?_); rintro e w3 ⟨rfl, hw⟩; obtain rfl := hw.symm; rw [hnf]))
                  go_roundw
                  case rel =>
                    have r1 := HRW3.out.set j (by rw [HLL.out]; omega) 37 (by omega)
                    have r2 := r1.set (j + 1) (by rw [List.length_set, HLL.out]; omega) ((hexB (32 / 16)).toNat : Int) (by decide)
                    have r3 := r2.set (j + 2) (by rw [List.length_set, List.length_set, HLL.out]; omega) ((hexB (32 % 16)).toNat : Int) (by decide)
                    rw [← HS1.out] at r3
                    exact ⟨k + 1, by go_num, by rw [HS2.out]; go_num, by omega, r3, ((HRD3.out.far hne _ _).far hne _ _).far hne _ _, ((HGR3.out.setCell (p := ⟨B, j, none⟩) HBW.out _).setCell (p := ⟨B, j + 1, none⟩) HBW.out _).setCell (p := ⟨B, j + 2, none⟩) HBW.out _⟩
                  case measure => first | (simp [intOf]; done) | (simp [intOf]; omega)
                · have h32 : ¬ ((x : Int) = 32) := by omega
                  go_wp2_with (first | (go_at_call 70; go_must (refine (HSE x hx _ HTT.out).out.mono ?_); rintro e w3 ⟨rfl, hw⟩; obtain rfl := hw.symm; rw [hnf]))
                  have hd1 : ∀ h, ((⟨#[48, 49, 50, 51, 52, 53, 54, 55, 56, 57, 65, 66, 67, 68, 69, 70]⟩ : ByteArray)[x / 16]'h).toNat = (hexB (x / 16)).toNat := fun _ => hex_lit _ (by omega)
                  have hd2 : ∀ h, ((⟨#[48, 49, 50, 51, 52, 53, 54, 55, 56, 57, 65, 66, 67, 68, 69, 70]⟩ : ByteArray)[x % 16]'h).toNat = (hexB (x % 16)).toNat := fun _ => hex_lit _ (by omega)
                  simp only [hd1, hd2]
                  go_roundw
                  case rel =>
                    have hp1 : 0 ≤ ((hexB (x / 16)).toNat : Int) ∧ ((hexB (x / 16)).toNat : Int) < 256 := by have := (hexB (x / 16)).toNat_lt; omega
                    have hp2 : 0 ≤ ((hexB (x % 16)).toNat : Int) ∧ ((hexB (x % 16)).toNat : Int) < 256 := by have := (hexB (x % 16)).toNat_lt; omega
                    have r1 := HRW3.out.set j (by rw [HLL.out]; omega) 37 (by omega)
                    have r2 := r1.set (j + 1) (by rw [List.length_set, HLL.out]; omega) _ hp1
                    have r3 := r2.set (j + 2) (by rw [List.length_set, List.length_set, HLL.out]; omega) _ hp2
                    rw [← HS1.out] at r3
                    exact ⟨k + 1, by go_num, by rw [HS2.out]; go_num, by omega, r3, ((HRD3.out.far hne _ _).far hne _ _).far hne _ _, ((HGR3.out.setCell (p := ⟨B, j, none⟩) HBW.out _).setCell (p := ⟨B, j + 1, none⟩) HBW.out _).setCell (p := ⟨B, j + 2, none⟩) HBW.out _⟩
                  case measure => first | (simp [intOf]; done) | (simp [intOf]; omega)
            · obtain rfl : n = k := by omega
              have hall := escRow_all L n HN.out.symm
              rw [hall] at hrw
              have hN0 := HNN.out
              have hbk : ∀ c, (convert 33 9 (.slice (some ⟨B, 0, none⟩) N c)).run Tryz.prog wr = .ok (.string (bs (esc L))) wr := fun c => by
                have := str_of_bytes B c (esc L) wr hrw
                rwa [hN0] at this
              have HGR := Lib.hid hgr
              clear hrw hgr hall hN0
              go_wp2
              go_ret
              exact ⟨rfl, HGR.out⟩
end Go.Proofs.YtpadpdmidiaeoaaGreatDoor
