/- net/url.escape of a query's value. -/
import Derived.Test.YtpadpdmidiaeoaaGreatDoorUrQ
import Derived.Lib.LazyBuf
import Derived.Lib.ByteType
namespace Go.Proofs.YtpadpdmidiaeoaaGreatDoor
open Go Go.RowKit

set_option maxRecDepth 100000 in
theorem shouldEscQ (c : Nat) (hc : c < 256) (w : World) (ht : TabU w) :
    Calls Tryz.prog 70 #[.int .u8 (c : Nat), .int .u8 32] w fun e w' => e = .returned (.bool (!freeQ c)) ∧ w' = w := by
  have hk : w.cell? ⟨3, c, none⟩ = some (.int .u8 (urlTab.getD c 0)) := Lib.TabIs.cell ht (by kernel_rfl) c hc
  have hf := tab_freeQ c hc
  generalize urlTab.getD c 0 = z at *
  clear ht
  go_enter Tryz.func70, Tryz.ntmps70
  go_wp2
  go_ret
  exact ⟨by rw [← hf]; rfl, rfl⟩

theorem setCells_rw {w : World} {b : Nat} (L : List UInt8) (h : RwAt w b (List.replicate L.length 0)) : RwAt (w.setCells b 0 (L.map fun x => Value.int .u8 (x.toNat : Int))) b (nums L) := by
  have key : ∀ (M : List UInt8) (o : Nat) (w : World) (A : List Int), A.length = o → RwAt w b (A ++ List.replicate M.length 0) → RwAt (w.setCells b o (M.map fun x => Value.int .u8 (x.toNat : Int))) b (A ++ nums M) := by
    intro M
    induction M with
    | nil => intro o w A hA h; simpa [nums, World.setCells] using h
    | cons x M ih =>
      intro o w A hA h
      have h1 := h.set o (by rw [List.length_append, hA]; simp) (x.toNat : Int) (by have := x.toNat_lt; omega)
      subst hA
      rw [List.length_cons, set_mid A (M.length + 1) (x.toNat : Int) (by omega), Nat.add_sub_cancel] at h1
      have h2 := ih (A.length + 1) _ (A ++ [(x.toNat : Int)]) (by simp) h1
      simpa [nums, World.setCells] using h2
  simpa using key L 0 w [] rfl (by simpa using h)

theorem wpList_copy_str {w : World} {ops : Array Oper} {rest : List Oper} {o : Oper} {a : Act} {Q : Exit → Act → World → Prop} (hgd : o.guard = none) (d x : Operand)
    (ho : o.op = .call { callee := .builtin .copy, args := #[d, x], argTypes := #[33, 9] }) (b N C : Nat) (hd : a.eval d = .slice (some ⟨b, 0, none⟩) N C) (L : List UInt8) (hx : a.eval x = .string (bs L)) (hN : L.length = N)
    (hrw : RwAt w b (List.replicate L.length 0))
    (h : ∀ w', RwAt w' b (nums L) → (∀ w0, Gr w0 w → w0.heap.size ≤ b → Gr w0 w') → wpList Tryz.prog ops Q rest (a.put o.dst (.int .i64 N)) w') : wpList Tryz.prog ops Q (o :: rest) a w := by
  subst hN
  have hsz : (bs L).size = L.length := bs_size L
  have hrun := fun ty => run_copy_string (P := Tryz.prog) w 33 9 ty 5 b 0 L.length C (bs L) Tryz.underlying33 (Lib.byte_size Go.Proofs.YtpadpdmidiaeoaaGreatDoor.u8.info) (Nat.le_of_eq hsz)
    (fun j hj => by rw [Nat.zero_add, hrw.cell j (by rw [List.length_replicate, ← hsz]; exact hj)]; rfl) (fun j hj => by rw [Nat.zero_add]; exact hrw.free j (by rw [List.length_replicate, ← hsz]; exact hj))
  have hdl : (bs L).data.toList = L := by simp [bs]
  rw [hdl, hsz] at hrun
  refine wpList_plain hgd fun _ hK => ?_
  unfold Oper.wp execOp
  simp only [ho, resolve, invoke, builtin, Sem.run_bind, Sem.run_pure, Result.andThen_ok, List.map_toArray, List.map_cons, List.map_nil, hd, hx, hrun]
  exact hK _ _ (h _ (setCells_rw L hrw) (fun w0 h0 hb => h0.setCells hb _ _))

set_option maxRecDepth 100000 in
set_option maxHeartbeats 4000000 in
theorem escapeQ (L : List UInt8) (hl : L.length ≤ 1000000) (w : World) (ht : TabU w) :
    Calls Tryz.prog 55 #[.string (bs L), .int .u8 32] w fun e w' => e = .returned (.string (bs (escQ L))) ∧ Gr w w' := by
  obtain ⟨c, W2, hcv, hrw, hg, hc1, hc2⟩ := bytes_of_str_rw L w (by simp only [maxLen]; omega)
  have HCV := fun w => Lib.hid (bytes_of_str_rw L w (by simp only [maxLen]; omega))
  obtain ⟨n, hn⟩ : ∃ n, L.length = n := ⟨_, rfl⟩
  have hsz : (bs L).size = n := by rw [bs_size, hn]
  have hdt : (bs L).data.toList = L := by simp [bs]
  have hix := fun k h => Lib.hid (bs_get L k h)
  rw [hn] at hcv hc1 hl
  rw [hn] at HCV
  have hcm : c ≤ 9223372036854775807 := by simp only [maxLen] at hc2; omega
  have HT := Lib.hid ht
  have HN := Lib.hid hn
  have HG := Lib.hid hg
  have HRW := Lib.hid hrw
  have HSE := fun c hc w ht => Lib.hid (shouldEscQ c hc w ht)
  have HEN := Lib.hid (fun h h2 => congrArg bs (escQ_none L h h2))
  have HHL := Lib.hid hl
  have HIX := fun (k : Nat) (h : k < (bs L).size) (h' : k < L.length) => Lib.hid (by rw [bs_get L k h h'] : (((bs L)[k]'h).toNat : Int) = (L[k]'h').toNat)
  clear hrw hg hn hc2 ht hdt hix
  generalize hSL : bs L = S at *
  have HSL := Lib.hid hSL
  clear hSL
  go_enter Tryz.func55, Tryz.ntmps55
  go_wp2
  go_loopw [5, 6, 19] (fun s h i wr => ∃ k : Nat, i = .int .i64 k ∧ s = .int .i64 (spQ (L.take k)) ∧ h = .int .i64 (hxQ (L.take k)) ∧ k ≤ n ∧ wr = W2) (fun _ _ i _ => ((n : Int) - intOf i).toNat)
  case atStart => exact ⟨0, rfl, rfl, rfl, Nat.zero_le _, rfl⟩
  case round =>
    obtain ⟨k, rfl, rfl, rfl, hk, rfl⟩ := hrel
    by_cases hkn : k < n
    · have hkL : k < L.length := by rw [HN.out]; exact hkn
      have kc := HRW.out.cell k (by rw [nums_length]; exact hkL)
      have hgd : (nums L).getD k 0 = (L[k].toNat : Int) := by simp [nums, List.getD_eq_getElem?_getD, hkL]
      rw [hgd] at kc
      have hst := hxQ_take L k hkL
      have hsp := spQ_take L k hkL
      have hle := hxQ_le (L.take k)
      have hle2 := spQ_le (L.take k)
      rw [List.length_take] at hle hle2
      have hx := L[k].toNat_lt
      generalize L[k].toNat = x at *
      generalize hxQ (L.take k) = q at *
      generalize spQ (L.take k) = r at *
      have HST := Lib.hid hst
      have HSP := Lib.hid hsp
      clear hst hsp hgd
      by_cases hf : freeQ x = true
      · have HF := Lib.hid hf
        have hnf : (!freeQ x) = false := by rw [hf]; rfl
        clear hf
        go_wp2_with (first | (go_at_call 70; go_must (refine (HSE x hx _ (HT.out.gr HG.out)).out.mono ?_); rintro e w3 ⟨rfl, hw⟩; obtain rfl := hw.symm; rw [hnf]))
        go_roundw
        case rel => exact ⟨k + 1, by go_num, by rw [HSP.out, HF.out]; rfl, by rw [HST.out, HF.out]; rfl, by omega, by trivial⟩
        case measure => first | (simp [intOf]; done) | (simp [intOf]; omega)
      · have hff : freeQ x = false := by simpa using hf
        have HF := Lib.hid hff
        have hnf : (!freeQ x) = true := by rw [hff]; rfl
        clear hf hff
        by_cases h32 : x = 32
        · obtain rfl := h32
          have H32 := fun w ht => Lib.hid (show Calls Tryz.prog 70 #[.int .u8 32, .int .u8 32] w _ from (HSE 32 (by omega) w ht).out)
          go_wp2_with (first | (go_at_call 70; go_must (refine (H32 _ (HT.out.gr HG.out)).out.mono ?_); rintro e w3 ⟨rfl, hw⟩; obtain rfl := hw.symm; rw [hnf]))
          go_roundw
          case rel => exact ⟨k + 1, by go_num, by rw [HSP.out, HF.out]; simp, by rw [HST.out, HF.out]; simp, by omega, by trivial⟩
          case measure => first | (simp [intOf]; done) | (simp [intOf]; omega)
        · have H3 := Lib.hid h32
          have h32 : ¬ ((x : Int) = 32) := by omega
          go_wp2_with (first | (go_at_call 70; go_must (refine (HSE x hx _ (HT.out.gr HG.out)).out.mono ?_); rintro e w3 ⟨rfl, hw⟩; obtain rfl := hw.symm; rw [hnf]))
          go_roundw
          case rel => exact ⟨k + 1, by go_num, by rw [HSP.out, HF.out]; simp [H3.out], by rw [HST.out, HF.out]; simp [H3.out], by omega, by trivial⟩
          case measure => first | (simp [intOf]; done) | (simp [intOf]; omega)
    · obtain rfl : n = k := by omega
      have hall : L.take n = L := by rw [← HN.out]; exact List.take_length
      rw [hall]
      have hq := hxQ_le L
      have hr := spQ_le L
      rw [HN.out] at hq hr
      have hel := escQ_len L
      rw [HN.out] at hel
      obtain ⟨q, hqq⟩ : ∃ q, hxQ L = q := ⟨_, rfl⟩
      obtain ⟨r, hrr⟩ : ∃ r, spQ L = r := ⟨_, rfl⟩
      have HQQ := Lib.hid hqq
      have HRR := Lib.hid hrr
      rw [hqq] at hq hel ⊢
      rw [hrr] at hr ⊢
      by_cases hz : r = 0 ∧ q = 0
      · obtain ⟨rfl, rfl⟩ := hz
        have he := HEN.out HQQ.out HRR.out
        go_wp2
        go_ret
        exact ⟨by rw [he]; rfl, HG.out⟩
      · obtain ⟨N, hNN⟩ : ∃ N, (escQ L).length = N := ⟨_, rfl⟩
        rw [hNN] at hel
        have hN1 : (n : Int) + 2 * (q : Int) = (N : Int) := by omega
        have hN2 : N ≤ 3000000 := by omega
        have HNN := Lib.hid hNN
        clear hall hk hqq hrr hel hNN hq hr
        by_cases hq0 : q = 0
        · obtain rfl := hq0
          have hNn : n = N := by omega
          subst hNn
          have hrb : ((r : Int) == 0) = false := by simp; omega
          have hNn : n = n := rfl
          clear hN1
          by_cases h64 : (n : Int) ≤ 64
          · skip
            go_upto_region 18 with fail
            have hrw0 := rw_new wr wr.heap.size n 64 100 (by omega) rfl
            have hgt := HG.out.alloc (.cells #[.int .u8 0, .int .u8 0, .int .u8 0, .int .u8 0, .int .u8 0, .int .u8 0, .int .u8 0, .int .u8 0, .int .u8 0, .int .u8 0, .int .u8 0, .int .u8 0, .int .u8 0, .int .u8 0, .int .u8 0, .int .u8 0, .int .u8 0, .int .u8 0, .int .u8 0, .int .u8 0, .int .u8 0, .int .u8 0, .int .u8 0, .int .u8 0, .int .u8 0, .int .u8 0, .int .u8 0, .int .u8 0, .int .u8 0, .int .u8 0, .int .u8 0, .int .u8 0, .int .u8 0, .int .u8 0, .int .u8 0, .int .u8 0, .int .u8 0, .int .u8 0, .int .u8 0, .int .u8 0, .int .u8 0, .int .u8 0, .int .u8 0, .int .u8 0, .int .u8 0, .int .u8 0, .int .u8 0, .int .u8 0, .int .u8 0, .int .u8 0, .int .u8 0, .int .u8 0, .int .u8 0, .int .u8 0, .int .u8 0, .int .u8 0, .int .u8 0, .int .u8 0, .int .u8 0, .int .u8 0, .int .u8 0, .int .u8 0, .int .u8 0, .int .u8 0] 100)
            change RwAt (wr.alloc (.cells #[.int .u8 0, .int .u8 0, .int .u8 0, .int .u8 0, .int .u8 0, .int .u8 0, .int .u8 0, .int .u8 0, .int .u8 0, .int .u8 0, .int .u8 0, .int .u8 0, .int .u8 0, .int .u8 0, .int .u8 0, .int .u8 0, .int .u8 0, .int .u8 0, .int .u8 0, .int .u8 0, .int .u8 0, .int .u8 0, .int .u8 0, .int .u8 0, .int .u8 0, .int .u8 0, .int .u8 0, .int .u8 0, .int .u8 0, .int .u8 0, .int .u8 0, .int .u8 0, .int .u8 0, .int .u8 0, .int .u8 0, .int .u8 0, .int .u8 0, .int .u8 0, .int .u8 0, .int .u8 0, .int .u8 0, .int .u8 0, .int .u8 0, .int .u8 0, .int .u8 0, .int .u8 0, .int .u8 0, .int .u8 0, .int .u8 0, .int .u8 0, .int .u8 0, .int .u8 0, .int .u8 0, .int .u8 0, .int .u8 0, .int .u8 0, .int .u8 0, .int .u8 0, .int .u8 0, .int .u8 0, .int .u8 0, .int .u8 0, .int .u8 0, .int .u8 0] 100)) _ _ at hrw0
            have hBt : wr.heap.size < (wr.alloc (.cells #[.int .u8 0, .int .u8 0, .int .u8 0, .int .u8 0, .int .u8 0, .int .u8 0, .int .u8 0, .int .u8 0, .int .u8 0, .int .u8 0, .int .u8 0, .int .u8 0, .int .u8 0, .int .u8 0, .int .u8 0, .int .u8 0, .int .u8 0, .int .u8 0, .int .u8 0, .int .u8 0, .int .u8 0, .int .u8 0, .int .u8 0, .int .u8 0, .int .u8 0, .int .u8 0, .int .u8 0, .int .u8 0, .int .u8 0, .int .u8 0, .int .u8 0, .int .u8 0, .int .u8 0, .int .u8 0, .int .u8 0, .int .u8 0, .int .u8 0, .int .u8 0, .int .u8 0, .int .u8 0, .int .u8 0, .int .u8 0, .int .u8 0, .int .u8 0, .int .u8 0, .int .u8 0, .int .u8 0, .int .u8 0, .int .u8 0, .int .u8 0, .int .u8 0, .int .u8 0, .int .u8 0, .int .u8 0, .int .u8 0, .int .u8 0, .int .u8 0, .int .u8 0, .int .u8 0, .int .u8 0, .int .u8 0, .int .u8 0, .int .u8 0, .int .u8 0] 100)).heap.size := by simp
            have hBw := HG.out.size
            generalize hcc : wr.alloc (.cells #[.int .u8 0, .int .u8 0, .int .u8 0, .int .u8 0, .int .u8 0, .int .u8 0, .int .u8 0, .int .u8 0, .int .u8 0, .int .u8 0, .int .u8 0, .int .u8 0, .int .u8 0, .int .u8 0, .int .u8 0, .int .u8 0, .int .u8 0, .int .u8 0, .int .u8 0, .int .u8 0, .int .u8 0, .int .u8 0, .int .u8 0, .int .u8 0, .int .u8 0, .int .u8 0, .int .u8 0, .int .u8 0, .int .u8 0, .int .u8 0, .int .u8 0, .int .u8 0, .int .u8 0, .int .u8 0, .int .u8 0, .int .u8 0, .int .u8 0, .int .u8 0, .int .u8 0, .int .u8 0, .int .u8 0, .int .u8 0, .int .u8 0, .int .u8 0, .int .u8 0, .int .u8 0, .int .u8 0, .int .u8 0, .int .u8 0, .int .u8 0, .int .u8 0, .int .u8 0, .int .u8 0, .int .u8 0, .int .u8 0, .int .u8 0, .int .u8 0, .int .u8 0, .int .u8 0, .int .u8 0, .int .u8 0, .int .u8 0, .int .u8 0, .int .u8 0] 100) = wt at *
            generalize wr.heap.size = B at *
            clear hcc
            have HR0 := Lib.hid hrw0
            have HGT := Lib.hid hgt
            have HBW := Lib.hid hBw
            clear hrw0 hgt hBt hBw
            go_wp2_with (first | (refine wpList_copy_str (by with_reducible rfl) (.tmp 57) (.tmp 58) (by with_reducible rfl) B n _ (by rfl) L (by rw [HSL.out]; rfl) HN.out (by rw [HN.out]; exact HR0.out) ?_; intro w3 hrw3 hgr3))
            have HR3 := Lib.hid hrw3
            have HG3 := Lib.hid (hgr3 w HGT.out HBW.out)
            clear hrw3 hgr3
            go_loopw [12] (fun i wr => ∃ k : Nat, i = .int .i64 k ∧ k ≤ n ∧ RwAt wr B (nums (rowP L k)) ∧ Gr w wr) (fun i _ => ((n : Int) - intOf i).toNat)
            case atStart => exact ⟨0, rfl, Nat.zero_le _, by rw [show rowP L 0 = L by simp [rowP]]; exact HR3.out, HG3.out⟩
            case round =>
              obtain ⟨k, rfl, hk, hrw, hgr⟩ := hrel
              by_cases hkn : k < n
              · have hkL : k < L.length := by rw [HN.out]; exact hkn
                have hkS : k < S.size := by rw [hsz]; omega
                have hix := (HIX k hkS hkL).out
                have hpl : (nums (rowP L k)).length = n := by rw [nums_length, rowP_length, HN.out]
                have kc := hrw.cell k (by omega)
                have fc := hrw.free k (by omega)
                have hst := rowP_step L k hkL
                have hgt := rowP_get L k hkL
                have hpB : (plusB L[k]).toNat = if L[k].toNat = 32 then 43 else L[k].toNat := by unfold plusB; split <;> rfl
                rw [hpB] at hst
                have hx := L[k].toNat_lt
                generalize L[k].toNat = x at *
                have hkz : (k : Int) < (S.size : Int) := by omega
                have hkz2 : (k : Int) < (n : Int) := by omega
                have HRW2 := Lib.hid hrw
                have HGR2 := Lib.hid hgr
                have HPL := Lib.hid hpl
                by_cases h32 : x = 32
                · rw [if_pos h32] at hst
                  have HST := Lib.hid hst
                  have hb : ((x : Int) == 32) = true := by simp; omega
                  have H3 := Lib.hid h32
                  clear hst hgt hpB h32 hrw hgr hpl
                  go_wp2
                  go_roundw
                  case rel => exact ⟨k + 1, by go_num, by omega, by rw [HST.out]; exact HRW2.out.set k (by rw [HPL.out]; exact hkn) 43 (by omega), HGR2.out.setCell (p := ⟨B, k, none⟩) HBW.out _⟩
                  case measure => first | (simp [intOf]; done) | (simp [intOf]; omega)
                · rw [if_neg h32] at hst
                  have hsame : nums (rowP L (k + 1)) = nums (rowP L k) := by
                    rw [hst, ← hgt, List.getD_eq_getElem?_getD, List.getElem?_eq_getElem (by omega)]
                    simp
                  have HSM := Lib.hid hsame
                  have hb : ((x : Int) == 32) = false := by simp; omega
                  clear hst hgt hpB h32 hrw hgr hpl hsame
                  go_wp2
                  go_roundw
                  case rel => exact ⟨k + 1, by go_num, by omega, by rw [HSM.out]; exact HRW2.out, HGR2.out⟩
                  case measure => first | (simp [intOf]; done) | (simp [intOf]; omega)
              · have hkN : k = n := by omega
                have hall := rowP_all L k (by rw [HN.out]; exact hkN)
                rw [hall, ← escQ_plus L HQQ.out] at hrw
                have hbk : ∀ c, (convert 33 9 (.slice (some ⟨B, 0, none⟩) n c)).run Tryz.prog wr = .ok (.string (bs (escQ L))) wr := fun c => by
                  have := str_of_bytes B c (escQ L) wr hrw
                  rwa [HNN.out] at this
                have HGR := Lib.hid hgr
                clear hrw hgr hall
                subst hkN
                go_wp2
                go_ret
                exact ⟨rfl, HGR.out⟩
          · skip
            go_upto_region 18 with (at_make; go_must (refine wpList_make_gr Go.Proofs.YtpadpdmidiaeoaaGreatDoor.u8 rfl _ _ rfl (HG.out.alloc _) .i64 .i64 _ _ n rfl rfl rfl rfl (by omega) (wr.heap.size + 1) (by simp) ?_); intro wt ho hG4 hgt hBw)
            have hrw0 := ho.rw
            have hBt := ho.lt
            clear ho hG4
            generalize wr.heap.size + 1 = B at *
            have HR0 := Lib.hid hrw0
            have HGT := Lib.hid hgt
            have HBW := Lib.hid hBw
            clear hrw0 hgt hBt hBw
            go_wp2_with (first | (refine wpList_copy_str (by with_reducible rfl) (.tmp 57) (.tmp 58) (by with_reducible rfl) B n _ (by rfl) L (by rw [HSL.out]; rfl) HN.out (by rw [HN.out]; exact HR0.out) ?_; intro w3 hrw3 hgr3))
            have HR3 := Lib.hid hrw3
            have HG3 := Lib.hid (hgr3 w HGT.out HBW.out)
            clear hrw3 hgr3
            go_loopw [12] (fun i wr => ∃ k : Nat, i = .int .i64 k ∧ k ≤ n ∧ RwAt wr B (nums (rowP L k)) ∧ Gr w wr) (fun i _ => ((n : Int) - intOf i).toNat)
            case atStart => exact ⟨0, rfl, Nat.zero_le _, by rw [show rowP L 0 = L by simp [rowP]]; exact HR3.out, HG3.out⟩
            case round =>
              obtain ⟨k, rfl, hk, hrw, hgr⟩ := hrel
              by_cases hkn : k < n
              · have hkL : k < L.length := by rw [HN.out]; exact hkn
                have hkS : k < S.size := by rw [hsz]; omega
                have hix := (HIX k hkS hkL).out
                have hpl : (nums (rowP L k)).length = n := by rw [nums_length, rowP_length, HN.out]
                have kc := hrw.cell k (by omega)
                have fc := hrw.free k (by omega)
                have hst := rowP_step L k hkL
                have hgt := rowP_get L k hkL
                have hpB : (plusB L[k]).toNat = if L[k].toNat = 32 then 43 else L[k].toNat := by unfold plusB; split <;> rfl
                rw [hpB] at hst
                have hx := L[k].toNat_lt
                generalize L[k].toNat = x at *
                have hkz : (k : Int) < (S.size : Int) := by omega
                have hkz2 : (k : Int) < (n : Int) := by omega
                have HRW2 := Lib.hid hrw
                have HGR2 := Lib.hid hgr
                have HPL := Lib.hid hpl
                by_cases h32 : x = 32
                · rw [if_pos h32] at hst
                  have HST := Lib.hid hst
                  have hb : ((x : Int) == 32) = true := by simp; omega
                  have H3 := Lib.hid h32
                  clear hst hgt hpB h32 hrw hgr hpl
                  go_wp2
                  go_roundw
                  case rel => exact ⟨k + 1, by go_num, by omega, by rw [HST.out]; exact HRW2.out.set k (by rw [HPL.out]; exact hkn) 43 (by omega), HGR2.out.setCell (p := ⟨B, k, none⟩) HBW.out _⟩
                  case measure => first | (simp [intOf]; done) | (simp [intOf]; omega)
                · rw [if_neg h32] at hst
                  have hsame : nums (rowP L (k + 1)) = nums (rowP L k) := by
                    rw [hst, ← hgt, List.getD_eq_getElem?_getD, List.getElem?_eq_getElem (by omega)]
                    simp
                  have HSM := Lib.hid hsame
                  have hb : ((x : Int) == 32) = false := by simp; omega
                  clear hst hgt hpB h32 hrw hgr hpl hsame
                  go_wp2
                  go_roundw
                  case rel => exact ⟨k + 1, by go_num, by omega, by rw [HSM.out]; exact HRW2.out, HGR2.out⟩
                  case measure => first | (simp [intOf]; done) | (simp [intOf]; omega)
              · have hkN : k = n := by omega
                have hall := rowP_all L k (by rw [HN.out]; exact hkN)
                rw [hall, ← escQ_plus L HQQ.out] at hrw
                have hbk : ∀ c, (convert 33 9 (.slice (some ⟨B, 0, none⟩) n c)).run Tryz.prog wr = .ok (.string (bs (escQ L))) wr := fun c => by
                  have := str_of_bytes B c (escQ L) wr hrw
                  rwa [HNN.out] at this
                have HGR := Lib.hid hgr
                clear hrw hgr hall
                subst hkN
                go_wp2
                go_ret
                exact ⟨rfl, HGR.out⟩
        · have hqb : ((q : Int) == 0) = false := by simp; omega
          rcases hrb : ((r : Int) == 0) with _ | _
          · by_cases h64 : (N : Int) ≤ 64
            · skip
              go_upto_region 18 with fail
              have hrw0 := rw_new wr wr.heap.size N 64 100 (by omega) rfl
              have hgt := HG.out.alloc (.cells #[.int .u8 0, .int .u8 0, .int .u8 0, .int .u8 0, .int .u8 0, .int .u8 0, .int .u8 0, .int .u8 0, .int .u8 0, .int .u8 0, .int .u8 0, .int .u8 0, .int .u8 0, .int .u8 0, .int .u8 0, .int .u8 0, .int .u8 0, .int .u8 0, .int .u8 0, .int .u8 0, .int .u8 0, .int .u8 0, .int .u8 0, .int .u8 0, .int .u8 0, .int .u8 0, .int .u8 0, .int .u8 0, .int .u8 0, .int .u8 0, .int .u8 0, .int .u8 0, .int .u8 0, .int .u8 0, .int .u8 0, .int .u8 0, .int .u8 0, .int .u8 0, .int .u8 0, .int .u8 0, .int .u8 0, .int .u8 0, .int .u8 0, .int .u8 0, .int .u8 0, .int .u8 0, .int .u8 0, .int .u8 0, .int .u8 0, .int .u8 0, .int .u8 0, .int .u8 0, .int .u8 0, .int .u8 0, .int .u8 0, .int .u8 0, .int .u8 0, .int .u8 0, .int .u8 0, .int .u8 0, .int .u8 0, .int .u8 0, .int .u8 0, .int .u8 0] 100)
              change RwAt (wr.alloc (.cells #[.int .u8 0, .int .u8 0, .int .u8 0, .int .u8 0, .int .u8 0, .int .u8 0, .int .u8 0, .int .u8 0, .int .u8 0, .int .u8 0, .int .u8 0, .int .u8 0, .int .u8 0, .int .u8 0, .int .u8 0, .int .u8 0, .int .u8 0, .int .u8 0, .int .u8 0, .int .u8 0, .int .u8 0, .int .u8 0, .int .u8 0, .int .u8 0, .int .u8 0, .int .u8 0, .int .u8 0, .int .u8 0, .int .u8 0, .int .u8 0, .int .u8 0, .int .u8 0, .int .u8 0, .int .u8 0, .int .u8 0, .int .u8 0, .int .u8 0, .int .u8 0, .int .u8 0, .int .u8 0, .int .u8 0, .int .u8 0, .int .u8 0, .int .u8 0, .int .u8 0, .int .u8 0, .int .u8 0, .int .u8 0, .int .u8 0, .int .u8 0, .int .u8 0, .int .u8 0, .int .u8 0, .int .u8 0, .int .u8 0, .int .u8 0, .int .u8 0, .int .u8 0, .int .u8 0, .int .u8 0, .int .u8 0, .int .u8 0, .int .u8 0, .int .u8 0] 100)) _ _ at hrw0
              have hBt : wr.heap.size < (wr.alloc (.cells #[.int .u8 0, .int .u8 0, .int .u8 0, .int .u8 0, .int .u8 0, .int .u8 0, .int .u8 0, .int .u8 0, .int .u8 0, .int .u8 0, .int .u8 0, .int .u8 0, .int .u8 0, .int .u8 0, .int .u8 0, .int .u8 0, .int .u8 0, .int .u8 0, .int .u8 0, .int .u8 0, .int .u8 0, .int .u8 0, .int .u8 0, .int .u8 0, .int .u8 0, .int .u8 0, .int .u8 0, .int .u8 0, .int .u8 0, .int .u8 0, .int .u8 0, .int .u8 0, .int .u8 0, .int .u8 0, .int .u8 0, .int .u8 0, .int .u8 0, .int .u8 0, .int .u8 0, .int .u8 0, .int .u8 0, .int .u8 0, .int .u8 0, .int .u8 0, .int .u8 0, .int .u8 0, .int .u8 0, .int .u8 0, .int .u8 0, .int .u8 0, .int .u8 0, .int .u8 0, .int .u8 0, .int .u8 0, .int .u8 0, .int .u8 0, .int .u8 0, .int .u8 0, .int .u8 0, .int .u8 0, .int .u8 0, .int .u8 0, .int .u8 0, .int .u8 0] 100)).heap.size := by simp
              have hBw := HG.out.size
              generalize hcc : wr.alloc (.cells #[.int .u8 0, .int .u8 0, .int .u8 0, .int .u8 0, .int .u8 0, .int .u8 0, .int .u8 0, .int .u8 0, .int .u8 0, .int .u8 0, .int .u8 0, .int .u8 0, .int .u8 0, .int .u8 0, .int .u8 0, .int .u8 0, .int .u8 0, .int .u8 0, .int .u8 0, .int .u8 0, .int .u8 0, .int .u8 0, .int .u8 0, .int .u8 0, .int .u8 0, .int .u8 0, .int .u8 0, .int .u8 0, .int .u8 0, .int .u8 0, .int .u8 0, .int .u8 0, .int .u8 0, .int .u8 0, .int .u8 0, .int .u8 0, .int .u8 0, .int .u8 0, .int .u8 0, .int .u8 0, .int .u8 0, .int .u8 0, .int .u8 0, .int .u8 0, .int .u8 0, .int .u8 0, .int .u8 0, .int .u8 0, .int .u8 0, .int .u8 0, .int .u8 0, .int .u8 0, .int .u8 0, .int .u8 0, .int .u8 0, .int .u8 0, .int .u8 0, .int .u8 0, .int .u8 0, .int .u8 0, .int .u8 0, .int .u8 0, .int .u8 0, .int .u8 0] 100) = wt at *
              generalize wr.heap.size = B at *
              clear hcc
              rw [← HNN.out, ← rowQ_zero] at hrw0
              have HR0 := Lib.hid hrw0
              have HGT := Lib.hid hgt
              obtain ⟨c2, W3, hcv2, hrw2, hg2, hd1, hd2⟩ := (HCV wt).out
              have hc2m : c2 ≤ 9223372036854775807 := by simp only [maxLen] at hd2; omega
              obtain ⟨b2, hb2⟩ : ∃ b, wt.heap.size = b := ⟨_, rfl⟩
              rw [hb2] at hcv2 hrw2
              have HBL := Lib.hid hBt
              have hne : B ≠ b2 := by omega
              have HRW2 := Lib.hid hrw2.rd
              have HG2 := Lib.hid hg2
              have HBW := Lib.hid hBw
              clear hrw0 hgt hrw2 hg2 hd2 hBt hBw hb2
              go_wp2
              go_loopw [13, 78] (fun j i wr => ∃ k : Nat, i = .int .i64 k ∧ j = .int .i64 (escQ (L.take k)).length ∧ k ≤ n ∧ RwAt wr B (rowQ L k) ∧ RdAt wr b2 0 (nums L) ∧ Gr w wr) (fun _ i _ => ((n : Int) - intOf i).toNat)
              case atStart => exact ⟨0, rfl, rfl, Nat.zero_le _, HR0.out.gr HG2.out HBL.out, HRW2.out, HGT.out.trans HG2.out⟩
              case round =>
                obtain ⟨k, rfl, rfl, hk, hrw, hrd, hgr⟩ := hrel
                by_cases hkn : k < n
                · have hkL : k < L.length := by rw [HN.out]; exact hkn
                  have kc := hrd.cell k (by rw [nums_length]; exact hkL)
                  have hgd : (nums L).getD k 0 = (L[k].toNat : Int) := by simp [nums, List.getD_eq_getElem?_getD, hkL]
                  rw [hgd, Nat.zero_add] at kc
                  obtain ⟨j, hj⟩ : ∃ j, (escQ (L.take k)).length = j := ⟨_, rfl⟩
                  have hlen := rowQ_len L k
                  rw [HNN.out] at hlen
                  have hx := L[k].toNat_lt
                  by_cases h32 : L[k].toNat = 32
                  · have hfr : freeQ L[k].toNat = false := by rw [h32]; decide
                    obtain ⟨hs1, hs2, hs3⟩ := rowQ_one L k hkL 43 (by unfold escQ1; rw [if_neg (by rw [hfr]; simp), if_pos h32])
                    rw [hj] at hs1 hs2 hs3 ⊢
                    rw [HNN.out] at hs3
                    have kj := hrw.cell j (by omega)
                    have fj := hrw.free j (by omega)
                    have HREL := Lib.hid (show RwAt (wr.setCell ⟨B, j, none⟩ (.int .u8 43)) B (rowQ L (k + 1)) from hs1 ▸ hrw.set j (by omega) 43 (by omega))
                    have HFAR := Lib.hid (hrd.far hne j (.int .u8 43))
                    have HGR := Lib.hid (hgr.setCell (p := ⟨B, j, none⟩) HBW.out (.int .u8 43))
                    have HS2 := Lib.hid hs2
                    rw [h32] at kc
                    have kc : wr.cell? ⟨b2, k, none⟩ = some (.int .u8 32) := kc
                    have hj1 : (j : Int) < (N : Int) := by omega
                    have hj2 : (j : Int) ≤ 3000000 := by omega
                    clear hs1 hs2 hgd hfr hrw hrd hgr hj hlen hs3 h32 hx
                    go_wp2
                    go_roundw
                    case rel => exact ⟨k + 1, by go_num, by rw [HS2.out]; go_num, by omega, HREL.out, HFAR.out, HGR.out⟩
                    case measure => first | (simp [intOf]; done) | (simp [intOf]; omega)
                  · have hb32 : ((L[k].toNat : Int) == 32) = false := by simp; omega
                    by_cases hf : freeQ L[k].toNat = true
                    · obtain ⟨hs1, hs2, hs3⟩ := rowQ_one L k hkL L[k] (by rw [escQ1, if_pos hf])
                      rw [hj] at hs1 hs2 hs3 ⊢
                      rw [HNN.out] at hs3
                      have kj := hrw.cell j (by omega)
                      have fj := hrw.free j (by omega)
                      have HREL := Lib.hid (hs1 ▸ hrw.set j (by omega) (L[k].toNat : Int) (by omega))
                      have HFAR := Lib.hid (hrd.far hne j (.int .u8 (L[k].toNat : Int)))
                      have HGR := Lib.hid (hgr.setCell (p := ⟨B, j, none⟩) HBW.out (.int .u8 (L[k].toNat : Int)))
                      have HS2 := Lib.hid hs2
                      have hnf : (!freeQ L[k].toNat) = false := by rw [hf]; rfl
                      have HTT := Lib.hid (HT.out.gr hgr)
                      generalize L[k].toNat = x at *
                      have hj1 : (j : Int) < (N : Int) := by omega
                      have hj2 : (j : Int) ≤ 3000000 := by omega
                      clear hs1 hs2 hgd hf hrw hrd hgr hj hlen hs3 h32
                      go_wp2_with (first | (go_at_call 70; go_must (refine (HSE x hx _ HTT.out).out.mono ?_); rintro e w3 ⟨rfl, hw⟩; obtain rfl := hw.symm; rw [hnf]))
                      go_roundw
                      case rel => exact ⟨k + 1, by go_num, by rw [HS2.out]; go_num, by omega, HREL.out, HFAR.out, HGR.out⟩
                      case measure => first | (simp [intOf]; done) | (simp [intOf]; omega)
                    · have hff : freeQ L[k].toNat = false := by simpa using hf
                      obtain ⟨hs1, hs2, hs3⟩ := rowQ_esc L k hkL hff h32 j hj
                      rw [hj]
                      rw [HNN.out] at hs3
                      have kj := hrw.cell j (by omega)
                      have fj := hrw.free j (by omega)
                      have kj1 := hrw.cell (j + 1) (by omega)
                      have fj1 := hrw.free (j + 1) (by omega)
                      have kj2 := hrw.cell (j + 2) (by omega)
                      have fj2 := hrw.free (j + 2) (by omega)
                      have HTT := Lib.hid (HT.out.gr hgr)
                      have hnf : (!freeQ L[k].toNat) = true := by rw [hff]; rfl
                      generalize L[k].toNat = x at *
                      have hj1 : (j : Int) + 2 < (N : Int) := by omega
                      have hj2 : (j : Int) ≤ 3000000 := by omega
                      have hj0 : (j : Int) < (N : Int) := by omega
                      have hj3 : (j : Int) + 1 < (N : Int) := by omega
                      have HS1 := Lib.hid hs1
                      have HS2 := Lib.hid hs2
                      have HRW3 := Lib.hid hrw
                      have HRD3 := Lib.hid hrd
                      have HGR3 := Lib.hid hgr
                      have HLL := Lib.hid hlen
                      clear hs1 hs2 hgd hf hff hrw hrd hgr hj hlen hs3 h32
                      go_wp2_with (first | (go_at_call 70; go_must (refine (HSE x hx _ HTT.out).out.mono ?_); rintro e w3 ⟨rfl, hw⟩; obtain rfl := hw.symm; rw [hnf]))
                      have hd1 : ∀ h, ((⟨#[48, 49, 50, 51, 52, 53, 54, 55, 56, 57, 65, 66, 67, 68, 69, 70]⟩ : ByteArray)[x / 16]'h).toNat = (hexB (x / 16)).toNat := fun _ => hex_lit _ (by omega)
                      have hd2 : ∀ h, ((⟨#[48, 49, 50, 51, 52, 53, 54, 55, 56, 57, 65, 66, 67, 68, 69, 70]⟩ : ByteArray)[x % 16]'h).toNat = (hexB (x % 16)).toNat := fun _ => hex_lit _ (by omega)
                      simp only [hd1, hd2]
                      go_roundw
                      case rel =>
                        have hp1 : 0 ≤ ((hexB (x / 16)).toNat : Int) ∧ ((hexB (x / 16)).toNat : Int) < 256 := by have := (hexB (x / 16)).toNat_lt; omega
                        have hp2 : 0 ≤ ((hexB (x % 16)).toNat : Int) ∧ ((hexB (x % 16)).toNat : Int) < 256 := by have := (hexB (x % 16)).toNat_lt; omega
                        have r1 := HRW3.out.set j (by rw [HLL.out]; omega) 37 (by omega)
                        have r2 := r1.set (j + 1) (by rw [List.length_set, HLL.out]; omega) _ hp1
                        have r3 := r2.set (j + 2) (by rw [List.length_set, List.length_set, HLL.out]; omega) _ hp2
                        rw [← HS1.out] at r3
                        exact ⟨k + 1, by go_num, by rw [HS2.out]; go_num, by omega, r3, ((HRD3.out.far hne _ _).far hne _ _).far hne _ _, ((HGR3.out.setCell (p := ⟨B, j, none⟩) HBW.out _).setCell (p := ⟨B, j + 1, none⟩) HBW.out _).setCell (p := ⟨B, j + 2, none⟩) HBW.out _⟩
                      case measure => first | (simp [intOf]; done) | (simp [intOf]; omega)
                · obtain rfl : n = k := by omega
                  have hall := rowQ_all L n HN.out.symm
                  rw [hall] at hrw
                  have hN0 := HNN.out
                  have hbk : ∀ c, (convert 33 9 (.slice (some ⟨B, 0, none⟩) N c)).run Tryz.prog wr = .ok (.string (bs (escQ L))) wr := fun c => by
                    have := str_of_bytes B c (escQ L) wr hrw
                    rwa [hN0] at this
                  have HGR := Lib.hid hgr
                  clear hrw hgr hall hN0
                  go_wp2
                  go_ret
                  exact ⟨rfl, HGR.out⟩
            · skip
              go_upto_region 18 with (at_make; go_must (refine wpList_make_gr Go.Proofs.YtpadpdmidiaeoaaGreatDoor.u8 rfl _ _ rfl (HG.out.alloc _) .i64 .i64 _ _ N rfl rfl rfl rfl (by omega) (wr.heap.size + 1) (by simp) ?_); intro wt ho hG4 hgt hBw)
              have hrw0 := ho.rw
              have hBt := ho.lt
              clear ho hG4
              generalize wr.heap.size + 1 = B at *
              rw [← HNN.out, ← rowQ_zero] at hrw0
              have HR0 := Lib.hid hrw0
              have HGT := Lib.hid hgt
              obtain ⟨c2, W3, hcv2, hrw2, hg2, hd1, hd2⟩ := (HCV wt).out
              have hc2m : c2 ≤ 9223372036854775807 := by simp only [maxLen] at hd2; omega
              obtain ⟨b2, hb2⟩ : ∃ b, wt.heap.size = b := ⟨_, rfl⟩
              rw [hb2] at hcv2 hrw2
              have HBL := Lib.hid hBt
              have hne : B ≠ b2 := by omega
              have HRW2 := Lib.hid hrw2.rd
              have HG2 := Lib.hid hg2
              have HBW := Lib.hid hBw
              clear hrw0 hgt hrw2 hg2 hd2 hBt hBw hb2
              go_wp2
              go_loopw [13, 78] (fun j i wr => ∃ k : Nat, i = .int .i64 k ∧ j = .int .i64 (escQ (L.take k)).length ∧ k ≤ n ∧ RwAt wr B (rowQ L k) ∧ RdAt wr b2 0 (nums L) ∧ Gr w wr) (fun _ i _ => ((n : Int) - intOf i).toNat)
              case atStart => exact ⟨0, rfl, rfl, Nat.zero_le _, HR0.out.gr HG2.out HBL.out, HRW2.out, HGT.out.trans HG2.out⟩
              case round =>
                obtain ⟨k, rfl, rfl, hk, hrw, hrd, hgr⟩ := hrel
                by_cases hkn : k < n
                · have hkL : k < L.length := by rw [HN.out]; exact hkn
                  have kc := hrd.cell k (by rw [nums_length]; exact hkL)
                  have hgd : (nums L).getD k 0 = (L[k].toNat : Int) := by simp [nums, List.getD_eq_getElem?_getD, hkL]
                  rw [hgd, Nat.zero_add] at kc
                  obtain ⟨j, hj⟩ : ∃ j, (escQ (L.take k)).length = j := ⟨_, rfl⟩
                  have hlen := rowQ_len L k
                  rw [HNN.out] at hlen
                  have hx := L[k].toNat_lt
                  by_cases h32 : L[k].toNat = 32
                  · have hfr : freeQ L[k].toNat = false := by rw [h32]; decide
                    obtain ⟨hs1, hs2, hs3⟩ := rowQ_one L k hkL 43 (by unfold escQ1; rw [if_neg (by rw [hfr]; simp), if_pos h32])
                    rw [hj] at hs1 hs2 hs3 ⊢
                    rw [HNN.out] at hs3
                    have kj := hrw.cell j (by omega)
                    have fj := hrw.free j (by omega)
                    have HREL := Lib.hid (show RwAt (wr.setCell ⟨B, j, none⟩ (.int .u8 43)) B (rowQ L (k + 1)) from hs1 ▸ hrw.set j (by omega) 43 (by omega))
                    have HFAR := Lib.hid (hrd.far hne j (.int .u8 43))
                    have HGR := Lib.hid (hgr.setCell (p := ⟨B, j, none⟩) HBW.out (.int .u8 43))
                    have HS2 := Lib.hid hs2
                    rw [h32] at kc
                    have kc : wr.cell? ⟨b2, k, none⟩ = some (.int .u8 32) := kc
                    have hj1 : (j : Int) < (N : Int) := by omega
                    have hj2 : (j : Int) ≤ 3000000 := by omega
                    clear hs1 hs2 hgd hfr hrw hrd hgr hj hlen hs3 h32 hx
                    go_wp2
                    go_roundw
                    case rel => exact ⟨k + 1, by go_num, by rw [HS2.out]; go_num, by omega, HREL.out, HFAR.out, HGR.out⟩
                    case measure => first | (simp [intOf]; done) | (simp [intOf]; omega)
                  · have hb32 : ((L[k].toNat : Int) == 32) = false := by simp; omega
                    by_cases hf : freeQ L[k].toNat = true
                    · obtain ⟨hs1, hs2, hs3⟩ := rowQ_one L k hkL L[k] (by rw [escQ1, if_pos hf])
                      rw [hj] at hs1 hs2 hs3 ⊢
                      rw [HNN.out] at hs3
                      have kj := hrw.cell j (by omega)
                      have fj := hrw.free j (by omega)
                      have HREL := Lib.hid (hs1 ▸ hrw.set j (by omega) (L[k].toNat : Int) (by omega))
                      have HFAR := Lib.hid (hrd.far hne j (.int .u8 (L[k].toNat : Int)))
                      have HGR := Lib.hid (hgr.setCell (p := ⟨B, j, none⟩) HBW.out (.int .u8 (L[k].toNat : Int)))
                      have HS2 := Lib.hid hs2
                      have hnf : (!freeQ L[k].toNat) = false := by rw [hf]; rfl
                      have HTT := Lib.hid (HT.out.gr hgr)
                      generalize L[k].toNat = x at *
                      have hj1 : (j : Int) < (N : Int) := by omega
                      have hj2 : (j : Int) ≤ 3000000 := by omega
                      clear hs1 hs2 hgd hf hrw hrd hgr hj hlen hs3 h32
                      go_wp2_with (first | (go_at_call 70; go_must (refine (HSE x hx _ HTT.out).out.mono ?_); rintro e w3 ⟨rfl, hw⟩; obtain rfl := hw.symm; rw [hnf]))
                      go_roundw
                      case rel => exact ⟨k + 1, by go_num, by rw [HS2.out]; go_num, by omega, HREL.out, HFAR.out, HGR.out⟩
                      case measure => first | (simp [intOf]; done) | (simp [intOf]; omega)
                    · have hff : freeQ L[k].toNat = false := by simpa using hf
                      obtain ⟨hs1, hs2, hs3⟩ := rowQ_esc L k hkL hff h32 j hj
                      rw [hj]
                      rw [HNN.out] at hs3
                      have kj := hrw.cell j (by omega)
                      have fj := hrw.free j (by omega)
                      have kj1 := hrw.cell (j + 1) (by omega)
                      have fj1 := hrw.free (j + 1) (by omega)
                      have kj2 := hrw.cell (j + 2) (by omega)
                      have fj2 := hrw.free (j + 2) (by omega)
                      have HTT := Lib.hid (HT.out.gr hgr)
                      have hnf : (!freeQ L[k].toNat) = true := by rw [hff]; rfl
                      generalize L[k].toNat = x at *
                      have hj1 : (j : Int) + 2 < (N : Int) := by omega
                      have hj2 : (j : Int) ≤ 3000000 := by omega
                      have hj0 : (j : Int) < (N : Int) := by omega
                      have hj3 : (j : Int) + 1 < (N : Int) := by omega
                      have HS1 := Lib.hid hs1
                      have HS2 := Lib.hid hs2
                      have HRW3 := Lib.hid hrw
                      have HRD3 := Lib.hid hrd
                      have HGR3 := Lib.hid hgr
                      have HLL := Lib.hid hlen
                      clear hs1 hs2 hgd hf hff hrw hrd hgr hj hlen hs3 h32
                      go_wp2_with (first | (go_at_call 70; go_must (refine (HSE x hx _ HTT.out).out.mono ?_); rintro e w3 ⟨rfl, hw⟩; obtain rfl := hw.symm; rw [hnf]))
                      have hd1 : ∀ h, ((⟨#[48, 49, 50, 51, 52, 53, 54, 55, 56, 57, 65, 66, 67, 68, 69, 70]⟩ : ByteArray)[x / 16]'h).toNat = (hexB (x / 16)).toNat := fun _ => hex_lit _ (by omega)
                      have hd2 : ∀ h, ((⟨#[48, 49, 50, 51, 52, 53, 54, 55, 56, 57, 65, 66, 67, 68, 69, 70]⟩ : ByteArray)[x % 16]'h).toNat = (hexB (x % 16)).toNat := fun _ => hex_lit _ (by omega)
                      simp only [hd1, hd2]
                      go_roundw
                      case rel =>
                        have hp1 : 0 ≤ ((hexB (x / 16)).toNat : Int) ∧ ((hexB (x / 16)).toNat : Int) < 256 := by have := (hexB (x / 16)).toNat_lt; omega
                        have hp2 : 0 ≤ ((hexB (x % 16)).toNat : Int) ∧ ((hexB (x % 16)).toNat : Int) < 256 := by have := (hexB (x % 16)).toNat_lt; omega
                        have r1 := HRW3.out.set j (by rw [HLL.out]; omega) 37 (by omega)
                        have r2 := r1.set (j + 1) (by rw [List.length_set, HLL.out]; omega) _ hp1
                        have r3 := r2.set (j + 2) (by rw [List.length_set, List.length_set, HLL.out]; omega) _ hp2
                        rw [← HS1.out] at r3
                        exact ⟨k + 1, by go_num, by rw [HS2.out]; go_num, by omega, r3, ((HRD3.out.far hne _ _).far hne _ _).far hne _ _, ((HGR3.out.setCell (p := ⟨B, j, none⟩) HBW.out _).setCell (p := ⟨B, j + 1, none⟩) HBW.out _).setCell (p := ⟨B, j + 2, none⟩) HBW.out _⟩
                      case measure => first | (simp [intOf]; done) | (simp [intOf]; omega)
                · obtain rfl : n = k := by omega
                  have hall := rowQ_all L n HN.out.symm
                  rw [hall] at hrw
                  have hN0 := HNN.out
                  have hbk : ∀ c, (convert 33 9 (.slice (some ⟨B, 0, none⟩) N c)).run Tryz.prog wr = .ok (.string (bs (escQ L))) wr := fun c => by
                    have := str_of_bytes B c (escQ L) wr hrw
                    rwa [hN0] at this
                  have HGR := Lib.hid hgr
                  clear hrw hgr hall hN0
                  go_wp2
                  go_ret
                  exact ⟨rfl, HGR.out⟩
          · by_cases h64 : (N : Int) ≤ 64
            · skip
              go_upto_region 18 with fail
              have hrw0 := rw_new wr wr.heap.size N 64 100 (by omega) rfl
              have hgt := HG.out.alloc (.cells #[.int .u8 0, .int .u8 0, .int .u8 0, .int .u8 0, .int .u8 0, .int .u8 0, .int .u8 0, .int .u8 0, .int .u8 0, .int .u8 0, .int .u8 0, .int .u8 0, .int .u8 0, .int .u8 0, .int .u8 0, .int .u8 0, .int .u8 0, .int .u8 0, .int .u8 0, .int .u8 0, .int .u8 0, .int .u8 0, .int .u8 0, .int .u8 0, .int .u8 0, .int .u8 0, .int .u8 0, .int .u8 0, .int .u8 0, .int .u8 0, .int .u8 0, .int .u8 0, .int .u8 0, .int .u8 0, .int .u8 0, .int .u8 0, .int .u8 0, .int .u8 0, .int .u8 0, .int .u8 0, .int .u8 0, .int .u8 0, .int .u8 0, .int .u8 0, .int .u8 0, .int .u8 0, .int .u8 0, .int .u8 0, .int .u8 0, .int .u8 0, .int .u8 0, .int .u8 0, .int .u8 0, .int .u8 0, .int .u8 0, .int .u8 0, .int .u8 0, .int .u8 0, .int .u8 0, .int .u8 0, .int .u8 0, .int .u8 0, .int .u8 0, .int .u8 0] 100)
              change RwAt (wr.alloc (.cells #[.int .u8 0, .int .u8 0, .int .u8 0, .int .u8 0, .int .u8 0, .int .u8 0, .int .u8 0, .int .u8 0, .int .u8 0, .int .u8 0, .int .u8 0, .int .u8 0, .int .u8 0, .int .u8 0, .int .u8 0, .int .u8 0, .int .u8 0, .int .u8 0, .int .u8 0, .int .u8 0, .int .u8 0, .int .u8 0, .int .u8 0, .int .u8 0, .int .u8 0, .int .u8 0, .int .u8 0, .int .u8 0, .int .u8 0, .int .u8 0, .int .u8 0, .int .u8 0, .int .u8 0, .int .u8 0, .int .u8 0, .int .u8 0, .int .u8 0, .int .u8 0, .int .u8 0, .int .u8 0, .int .u8 0, .int .u8 0, .int .u8 0, .int .u8 0, .int .u8 0, .int .u8 0, .int .u8 0, .int .u8 0, .int .u8 0, .int .u8 0, .int .u8 0, .int .u8 0, .int .u8 0, .int .u8 0, .int .u8 0, .int .u8 0, .int .u8 0, .int .u8 0, .int .u8 0, .int .u8 0, .int .u8 0, .int .u8 0, .int .u8 0, .int .u8 0] 100)) _ _ at hrw0
              have hBt : wr.heap.size < (wr.alloc (.cells #[.int .u8 0, .int .u8 0, .int .u8 0, .int .u8 0, .int .u8 0, .int .u8 0, .int .u8 0, .int .u8 0, .int .u8 0, .int .u8 0, .int .u8 0, .int .u8 0, .int .u8 0, .int .u8 0, .int .u8 0, .int .u8 0, .int .u8 0, .int .u8 0, .int .u8 0, .int .u8 0, .int .u8 0, .int .u8 0, .int .u8 0, .int .u8 0, .int .u8 0, .int .u8 0, .int .u8 0, .int .u8 0, .int .u8 0, .int .u8 0, .int .u8 0, .int .u8 0, .int .u8 0, .int .u8 0, .int .u8 0, .int .u8 0, .int .u8 0, .int .u8 0, .int .u8 0, .int .u8 0, .int .u8 0, .int .u8 0, .int .u8 0, .int .u8 0, .int .u8 0, .int .u8 0, .int .u8 0, .int .u8 0, .int .u8 0, .int .u8 0, .int .u8 0, .int .u8 0, .int .u8 0, .int .u8 0, .int .u8 0, .int .u8 0, .int .u8 0, .int .u8 0, .int .u8 0, .int .u8 0, .int .u8 0, .int .u8 0, .int .u8 0, .int .u8 0] 100)).heap.size := by simp
              have hBw := HG.out.size
              generalize hcc : wr.alloc (.cells #[.int .u8 0, .int .u8 0, .int .u8 0, .int .u8 0, .int .u8 0, .int .u8 0, .int .u8 0, .int .u8 0, .int .u8 0, .int .u8 0, .int .u8 0, .int .u8 0, .int .u8 0, .int .u8 0, .int .u8 0, .int .u8 0, .int .u8 0, .int .u8 0, .int .u8 0, .int .u8 0, .int .u8 0, .int .u8 0, .int .u8 0, .int .u8 0, .int .u8 0, .int .u8 0, .int .u8 0, .int .u8 0, .int .u8 0, .int .u8 0, .int .u8 0, .int .u8 0, .int .u8 0, .int .u8 0, .int .u8 0, .int .u8 0, .int .u8 0, .int .u8 0, .int .u8 0, .int .u8 0, .int .u8 0, .int .u8 0, .int .u8 0, .int .u8 0, .int .u8 0, .int .u8 0, .int .u8 0, .int .u8 0, .int .u8 0, .int .u8 0, .int .u8 0, .int .u8 0, .int .u8 0, .int .u8 0, .int .u8 0, .int .u8 0, .int .u8 0, .int .u8 0, .int .u8 0, .int .u8 0, .int .u8 0, .int .u8 0, .int .u8 0, .int .u8 0] 100) = wt at *
              generalize wr.heap.size = B at *
              clear hcc
              rw [← HNN.out, ← rowQ_zero] at hrw0
              have HR0 := Lib.hid hrw0
              have HGT := Lib.hid hgt
              obtain ⟨c2, W3, hcv2, hrw2, hg2, hd1, hd2⟩ := (HCV wt).out
              have hc2m : c2 ≤ 9223372036854775807 := by simp only [maxLen] at hd2; omega
              obtain ⟨b2, hb2⟩ : ∃ b, wt.heap.size = b := ⟨_, rfl⟩
              rw [hb2] at hcv2 hrw2
              have HBL := Lib.hid hBt
              have hne : B ≠ b2 := by omega
              have HRW2 := Lib.hid hrw2.rd
              have HG2 := Lib.hid hg2
              have HBW := Lib.hid hBw
              clear hrw0 hgt hrw2 hg2 hd2 hBt hBw hb2
              go_wp2
              go_loopw [13, 78] (fun j i wr => ∃ k : Nat, i = .int .i64 k ∧ j = .int .i64 (escQ (L.take k)).length ∧ k ≤ n ∧ RwAt wr B (rowQ L k) ∧ RdAt wr b2 0 (nums L) ∧ Gr w wr) (fun _ i _ => ((n : Int) - intOf i).toNat)
              case atStart => exact ⟨0, rfl, rfl, Nat.zero_le _, HR0.out.gr HG2.out HBL.out, HRW2.out, HGT.out.trans HG2.out⟩
              case round =>
                obtain ⟨k, rfl, rfl, hk, hrw, hrd, hgr⟩ := hrel
                by_cases hkn : k < n
                · have hkL : k < L.length := by rw [HN.out]; exact hkn
                  have kc := hrd.cell k (by rw [nums_length]; exact hkL)
                  have hgd : (nums L).getD k 0 = (L[k].toNat : Int) := by simp [nums, List.getD_eq_getElem?_getD, hkL]
                  rw [hgd, Nat.zero_add] at kc
                  obtain ⟨j, hj⟩ : ∃ j, (escQ (L.take k)).length = j := ⟨_, rfl⟩
                  have hlen := rowQ_len L k
                  rw [HNN.out] at hlen
                  have hx := L[k].toNat_lt
                  by_cases h32 : L[k].toNat = 32
                  · have hfr : freeQ L[k].toNat = false := by rw [h32]; decide
                    obtain ⟨hs1, hs2, hs3⟩ := rowQ_one L k hkL 43 (by unfold escQ1; rw [if_neg (by rw [hfr]; simp), if_pos h32])
                    rw [hj] at hs1 hs2 hs3 ⊢
                    rw [HNN.out] at hs3
                    have kj := hrw.cell j (by omega)
                    have fj := hrw.free j (by omega)
                    have HREL := Lib.hid (show RwAt (wr.setCell ⟨B, j, none⟩ (.int .u8 43)) B (rowQ L (k + 1)) from hs1 ▸ hrw.set j (by omega) 43 (by omega))
                    have HFAR := Lib.hid (hrd.far hne j (.int .u8 43))
                    have HGR := Lib.hid (hgr.setCell (p := ⟨B, j, none⟩) HBW.out (.int .u8 43))
                    have HS2 := Lib.hid hs2
                    rw [h32] at kc
                    have kc : wr.cell? ⟨b2, k, none⟩ = some (.int .u8 32) := kc
                    have hj1 : (j : Int) < (N : Int) := by omega
                    have hj2 : (j : Int) ≤ 3000000 := by omega
                    clear hs1 hs2 hgd hfr hrw hrd hgr hj hlen hs3 h32 hx
                    go_wp2
                    go_roundw
                    case rel => exact ⟨k + 1, by go_num, by rw [HS2.out]; go_num, by omega, HREL.out, HFAR.out, HGR.out⟩
                    case measure => first | (simp [intOf]; done) | (simp [intOf]; omega)
                  · have hb32 : ((L[k].toNat : Int) == 32) = false := by simp; omega
                    by_cases hf : freeQ L[k].toNat = true
                    · obtain ⟨hs1, hs2, hs3⟩ := rowQ_one L k hkL L[k] (by rw [escQ1, if_pos hf])
                      rw [hj] at hs1 hs2 hs3 ⊢
                      rw [HNN.out] at hs3
                      have kj := hrw.cell j (by omega)
                      have fj := hrw.free j (by omega)
                      have HREL := Lib.hid (hs1 ▸ hrw.set j (by omega) (L[k].toNat : Int) (by omega))
                      have HFAR := Lib.hid (hrd.far hne j (.int .u8 (L[k].toNat : Int)))
                      have HGR := Lib.hid (hgr.setCell (p := ⟨B, j, none⟩) HBW.out (.int .u8 (L[k].toNat : Int)))
                      have HS2 := Lib.hid hs2
                      have hnf : (!freeQ L[k].toNat) = false := by rw [hf]; rfl
                      have HTT := Lib.hid (HT.out.gr hgr)
                      generalize L[k].toNat = x at *
                      have hj1 : (j : Int) < (N : Int) := by omega
                      have hj2 : (j : Int) ≤ 3000000 := by omega
                      clear hs1 hs2 hgd hf hrw hrd hgr hj hlen hs3 h32
                      go_wp2_with (first | (go_at_call 70; go_must (refine (HSE x hx _ HTT.out).out.mono ?_); rintro e w3 ⟨rfl, hw⟩; obtain rfl := hw.symm; rw [hnf]))
                      go_roundw
                      case rel => exact ⟨k + 1, by go_num, by rw [HS2.out]; go_num, by omega, HREL.out, HFAR.out, HGR.out⟩
                      case measure => first | (simp [intOf]; done) | (simp [intOf]; omega)
                    · have hff : freeQ L[k].toNat = false := by simpa using hf
                      obtain ⟨hs1, hs2, hs3⟩ := rowQ_esc L k hkL hff h32 j hj
                      rw [hj]
                      rw [HNN.out] at hs3
                      have kj := hrw.cell j (by omega)
                      have fj := hrw.free j (by omega)
                      have kj1 := hrw.cell (j + 1) (by omega)
                      have fj1 := hrw.free (j + 1) (by omega)
                      have kj2 := hrw.cell (j + 2) (by omega)
                      have fj2 := hrw.free (j + 2) (by omega)
                      have HTT := Lib.hid (HT.out.gr hgr)
                      have hnf : (!freeQ L[k].toNat) = true := by rw [hff]; rfl
                      generalize L[k].toNat = x at *
                      have hj1 : (j : Int) + 2 < (N : Int) := by omega
                      have hj2 : (j : Int) ≤ 3000000 := by omega
                      have hj0 : (j : Int) < (N : Int) := by omega
                      have hj3 : (j : Int) + 1 < (N : Int) := by omega
                      have HS1 := Lib.hid hs1
                      have HS2 := Lib.hid hs2
                      have HRW3 := Lib.hid hrw
                      have HRD3 := Lib.hid hrd
                      have HGR3 := Lib.hid hgr
                      have HLL := Lib.hid hlen
                      clear hs1 hs2 hgd hf hff hrw hrd hgr hj hlen hs3 h32
                      go_wp2_with (first | (go_at_call 70; go_must (refine (HSE x hx _ HTT.out).out.mono ?_); rintro e w3 ⟨rfl, hw⟩; obtain rfl := hw.symm; rw [hnf]))
                      have hd1 : ∀ h, ((⟨#[48, 49, 50, 51, 52, 53, 54, 55, 56, 57, 65, 66, 67, 68, 69, 70]⟩ : ByteArray)[x / 16]'h).toNat = (hexB (x / 16)).toNat := fun _ => hex_lit _ (by omega)
                      have hd2 : ∀ h, ((⟨#[48, 49, 50, 51, 52, 53, 54, 55, 56, 57, 65, 66, 67, 68, 69, 70]⟩ : ByteArray)[x % 16]'h).toNat = (hexB (x % 16)).toNat := fun _ => hex_lit _ (by omega)
                      simp only [hd1, hd2]
                      go_roundw
                      case rel =>
                        have hp1 : 0 ≤ ((hexB (x / 16)).toNat : Int) ∧ ((hexB (x / 16)).toNat : Int) < 256 := by have := (hexB (x / 16)).toNat_lt; omega
                        have hp2 : 0 ≤ ((hexB (x % 16)).toNat : Int) ∧ ((hexB (x % 16)).toNat : Int) < 256 := by have := (hexB (x % 16)).toNat_lt; omega
                        have r1 := HRW3.out.set j (by rw [HLL.out]; omega) 37 (by omega)
                        have r2 := r1.set (j + 1) (by rw [List.length_set, HLL.out]; omega) _ hp1
                        have r3 := r2.set (j + 2) (by rw [List.length_set, List.length_set, HLL.out]; omega) _ hp2
                        rw [← HS1.out] at r3
                        exact ⟨k + 1, by go_num, by rw [HS2.out]; go_num, by omega, r3, ((HRD3.out.far hne _ _).far hne _ _).far hne _ _, ((HGR3.out.setCell (p := ⟨B, j, none⟩) HBW.out _).setCell (p := ⟨B, j + 1, none⟩) HBW.out _).setCell (p := ⟨B, j + 2, none⟩) HBW.out _⟩
                      case measure => first | (simp [intOf]; done) | (simp [intOf]; omega)
                · obtain rfl : n = k := by omega
                  have hall := rowQ_all L n HN.out.symm
                  rw [hall] at hrw
                  have hN0 := HNN.out
                  have hbk : ∀ c, (convert 33 9 (.slice (some ⟨B, 0, none⟩) N c)).run Tryz.prog wr = .ok (.string (bs (escQ L))) wr := fun c => by
                    have := str_of_bytes B c (escQ L) wr hrw
                    rwa [hN0] at this
                  have HGR := Lib.hid hgr
                  clear hrw hgr hall hN0
                  go_wp2
                  go_ret
                  exact ⟨rfl, HGR.out⟩
            · skip
              go_upto_region 18 with (at_make; go_must (refine wpList_make_gr Go.Proofs.YtpadpdmidiaeoaaGreatDoor.u8 rfl _ _ rfl (HG.out.alloc _) .i64 .i64 _ _ N rfl rfl rfl rfl (by omega) (wr.heap.size + 1) (by simp) ?_); intro wt ho hG4 hgt hBw)
              have hrw0 := ho.rw
              have hBt := ho.lt
              clear ho hG4
              generalize wr.heap.size + 1 = B at *
              rw [← HNN.out, ← rowQ_zero] at hrw0
              have HR0 := Lib.hid hrw0
              have HGT := Lib.hid hgt
              obtain ⟨c2, W3, hcv2, hrw2, hg2, hd1, hd2⟩ := (HCV wt).out
              have hc2m : c2 ≤ 9223372036854775807 := by simp only [maxLen] at hd2; omega
              obtain ⟨b2, hb2⟩ : ∃ b, wt.heap.size = b := ⟨_, rfl⟩
              rw [hb2] at hcv2 hrw2
              have HBL := Lib.hid hBt
              have hne : B ≠ b2 := by omega
              have HRW2 := Lib.hid hrw2.rd
              have HG2 := Lib.hid hg2
              have HBW := Lib.hid hBw
              clear hrw0 hgt hrw2 hg2 hd2 hBt hBw hb2
              go_wp2
              go_loopw [13, 78] (fun j i wr => ∃ k : Nat, i = .int .i64 k ∧ j = .int .i64 (escQ (L.take k)).length ∧ k ≤ n ∧ RwAt wr B (rowQ L k) ∧ RdAt wr b2 0 (nums L) ∧ Gr w wr) (fun _ i _ => ((n : Int) - intOf i).toNat)
              case atStart => exact ⟨0, rfl, rfl, Nat.zero_le _, HR0.out.gr HG2.out HBL.out, HRW2.out, HGT.out.trans HG2.out⟩
              case round =>
                obtain ⟨k, rfl, rfl, hk, hrw, hrd, hgr⟩ := hrel
                by_cases hkn : k < n
                · have hkL : k < L.length := by rw [HN.out]; exact hkn
                  have kc := hrd.cell k (by rw [nums_length]; exact hkL)
                  have hgd : (nums L).getD k 0 = (L[k].toNat : Int) := by simp [nums, List.getD_eq_getElem?_getD, hkL]
                  rw [hgd, Nat.zero_add] at kc
                  obtain ⟨j, hj⟩ : ∃ j, (escQ (L.take k)).length = j := ⟨_, rfl⟩
                  have hlen := rowQ_len L k
                  rw [HNN.out] at hlen
                  have hx := L[k].toNat_lt
                  by_cases h32 : L[k].toNat = 32
                  · have hfr : freeQ L[k].toNat = false := by rw [h32]; decide
                    obtain ⟨hs1, hs2, hs3⟩ := rowQ_one L k hkL 43 (by unfold escQ1; rw [if_neg (by rw [hfr]; simp), if_pos h32])
                    rw [hj] at hs1 hs2 hs3 ⊢
                    rw [HNN.out] at hs3
                    have kj := hrw.cell j (by omega)
                    have fj := hrw.free j (by omega)
                    have HREL := Lib.hid (show RwAt (wr.setCell ⟨B, j, none⟩ (.int .u8 43)) B (rowQ L (k + 1)) from hs1 ▸ hrw.set j (by omega) 43 (by omega))
                    have HFAR := Lib.hid (hrd.far hne j (.int .u8 43))
                    have HGR := Lib.hid (hgr.setCell (p := ⟨B, j, none⟩) HBW.out (.int .u8 43))
                    have HS2 := Lib.hid hs2
                    rw [h32] at kc
                    have kc : wr.cell? ⟨b2, k, none⟩ = some (.int .u8 32) := kc
                    have hj1 : (j : Int) < (N : Int) := by omega
                    have hj2 : (j : Int) ≤ 3000000 := by omega
                    clear hs1 hs2 hgd hfr hrw hrd hgr hj hlen hs3 h32 hx
                    go_wp2
                    go_roundw
                    case rel => exact ⟨k + 1, by go_num, by rw [HS2.out]; go_num, by omega, HREL.out, HFAR.out, HGR.out⟩
                    case measure => first | (simp [intOf]; done) | (simp [intOf]; omega)
                  · have hb32 : ((L[k].toNat : Int) == 32) = false := by simp; omega
                    by_cases hf : freeQ L[k].toNat = true
                    · obtain ⟨hs1, hs2, hs3⟩ := rowQ_one L k hkL L[k] (by rw [escQ1, if_pos hf])
                      rw [hj] at hs1 hs2 hs3 ⊢
                      rw [HNN.out] at hs3
                      have kj := hrw.cell j (by omega)
                      have fj := hrw.free j (by omega)
                      have HREL := Lib.hid (hs1 ▸ hrw.set j (by omega) (L[k].toNat : Int) (by omega))
                      have HFAR := Lib.hid (hrd.far hne j (.int .u8 (L[k].toNat : Int)))
                      have HGR := Lib.hid (hgr.setCell (p := ⟨B, j, none⟩) HBW.out (.int .u8 (L[k].toNat : Int)))
                      have HS2 := Lib.hid hs2
                      have hnf : (!freeQ L[k].toNat) = false := by rw [hf]; rfl
                      have HTT := Lib.hid (HT.out.gr hgr)
                      generalize L[k].toNat = x at *
                      have hj1 : (j : Int) < (N : Int) := by omega
                      have hj2 : (j : Int) ≤ 3000000 := by omega
                      clear hs1 hs2 hgd hf hrw hrd hgr hj hlen hs3 h32
                      go_wp2_with (first | (go_at_call 70; go_must (refine (HSE x hx _ HTT.out).out.mono ?_); rintro e w3 ⟨rfl, hw⟩; obtain rfl := hw.symm; rw [hnf]))
                      go_roundw
                      case rel => exact ⟨k + 1, by go_num, by rw [HS2.out]; go_num, by omega, HREL.out, HFAR.out, HGR.out⟩
                      case measure => first | (simp [intOf]; done) | (simp [intOf]; omega)
                    · have hff : freeQ L[k].toNat = false := by simpa using hf
                      obtain ⟨hs1, hs2, hs3⟩ := rowQ_esc L k hkL hff h32 j hj
                      rw [hj]
                      rw [HNN.out] at hs3
                      have kj := hrw.cell j (by omega)
                      have fj := hrw.free j (by omega)
                      have kj1 := hrw.cell (j + 1) (by omega)
                      have fj1 := hrw.free (j + 1) (by omega)
                      have kj2 := hrw.cell (j + 2) (by omega)
                      have fj2 := hrw.free (j + 2) (by omega)
                      have HTT := Lib.hid (HT.out.gr hgr)
                      have hnf : (!freeQ L[k].toNat) = true := by rw [hff]; rfl
                      generalize L[k].toNat = x at *
                      have hj1 : (j : Int) + 2 < (N : Int) := by omega
                      have hj2 : (j : Int) ≤ 3000000 := by omega
                      have hj0 : (j : Int) < (N : Int) := by omega
                      have hj3 : (j : Int) + 1 < (N : Int) := by omega
                      have HS1 := Lib.hid hs1
                      have HS2 := Lib.hid hs2
                      have HRW3 := Lib.hid hrw
                      have HRD3 := Lib.hid hrd
                      have HGR3 := Lib.hid hgr
                      have HLL := Lib.hid hlen
                      clear hs1 hs2 hgd hf hff hrw hrd hgr hj hlen hs3 h32
                      go_wp2_with (first | (go_at_call 70; go_must (refine (HSE x hx _ HTT.out).out.mono ?_); rintro e w3 ⟨rfl, hw⟩; obtain rfl := hw.symm; rw [hnf]))
                      have hd1 : ∀ h, ((⟨#[48, 49, 50, 51, 52, 53, 54, 55, 56, 57, 65, 66, 67, 68, 69, 70]⟩ : ByteArray)[x / 16]'h).toNat = (hexB (x / 16)).toNat := fun _ => hex_lit _ (by omega)
                      have hd2 : ∀ h, ((⟨#[48, 49, 50, 51, 52, 53, 54, 55, 56, 57, 65, 66, 67, 68, 69, 70]⟩ : ByteArray)[x % 16]'h).toNat = (hexB (x % 16)).toNat := fun _ => hex_lit _ (by omega)
                      simp only [hd1, hd2]
                      go_roundw
                      case rel =>
                        have hp1 : 0 ≤ ((hexB (x / 16)).toNat : Int) ∧ ((hexB (x / 16)).toNat : Int) < 256 := by have := (hexB (x / 16)).toNat_lt; omega
                        have hp2 : 0 ≤ ((hexB (x % 16)).toNat : Int) ∧ ((hexB (x % 16)).toNat : Int) < 256 := by have := (hexB (x % 16)).toNat_lt; omega
                        have r1 := HRW3.out.set j (by rw [HLL.out]; omega) 37 (by omega)
                        have r2 := r1.set (j + 1) (by rw [List.length_set, HLL.out]; omega) _ hp1
                        have r3 := r2.set (j + 2) (by rw [List.length_set, List.length_set, HLL.out]; omega) _ hp2
                        rw [← HS1.out] at r3
                        exact ⟨k + 1, by go_num, by rw [HS2.out]; go_num, by omega, r3, ((HRD3.out.far hne _ _).far hne _ _).far hne _ _, ((HGR3.out.setCell (p := ⟨B, j, none⟩) HBW.out _).setCell (p := ⟨B, j + 1, none⟩) HBW.out _).setCell (p := ⟨B, j + 2, none⟩) HBW.out _⟩
                      case measure => first | (simp [intOf]; done) | (simp [intOf]; omega)
                · obtain rfl : n = k := by omega
                  have hall := rowQ_all L n HN.out.symm
                  rw [hall] at hrw
                  have hN0 := HNN.out
                  have hbk : ∀ c, (convert 33 9 (.slice (some ⟨B, 0, none⟩) N c)).run Tryz.prog wr = .ok (.string (bs (escQ L))) wr := fun c => by
                    have := str_of_bytes B c (escQ L) wr hrw
                    rwa [hN0] at this
                  have HGR := Lib.hid hgr
                  clear hrw hgr hall hN0
                  go_wp2
                  go_ret
                  exact ⟨rfl, HGR.out⟩

theorem queryEscape (L : List UInt8) (hl : L.length ≤ 1000000) (w : World) (ht : TabU w) :
    Calls Tryz.prog 45 #[.string (bs L)] w fun e w' => e = .returned (.string (bs (escQ L))) ∧ Gr w w' := by
  have HE := fun w ht => Lib.hid (escapeQ L hl w ht)
  clear hl
  go_enter Tryz.func45, Tryz.ntmps45
  go_wp2_with (first | (go_at_call 55; go_must (refine (HE _ ht).out.mono ?_); rintro e w1 ⟨rfl, hg1⟩))
  go_ret
  exact ⟨rfl, hg1⟩
end Go.Proofs.YtpadpdmidiaeoaaGreatDoor
