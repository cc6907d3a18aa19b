/- The reference's parts of an address: spec.ConfigPath, ConfigQuery, ConfigHead, configLow. -/
import Derived.Test.YtpadpdmidiaeoaaGreatDoorUoA
namespace Go.Proofs.YtpadpdmidiaeoaaGreatDoor
open Go Go.RowKit Go.Lib

def pathK : List UInt8 := [36, 38, 43, 61, 58, 64]
set_option maxRecDepth 100000 in
theorem escK_path (L : List UInt8) : escK pathK L = esc L := by
  have h : ∀ n : Fin 256, escK1 pathK (UInt8.ofNat n.val) = esc1 (UInt8.ofNat n.val) := by decide +kernel
  induction L with
  | nil => rfl
  | cons b L ih =>
    have hb := h ⟨b.toNat, b.toNat_lt⟩
    simp only [UInt8.ofNat_toNat] at hb
    simp only [escK, esc, ih, hb]
def plusQ (b : UInt8) : UInt8 := if b = 32 then 43 else b
set_option maxRecDepth 100000 in
theorem escK_query (L : List UInt8) : (escK [32] L).map plusQ = escQ L ∧ ∀ c ∈ escK [32] L, c.toNat < 128 := by
  have h : ∀ n : Fin 256, (escK1 [32] (UInt8.ofNat n.val)).map plusQ = escQ1 (UInt8.ofNat n.val) ∧ (escK1 [32] (UInt8.ofNat n.val)).all (fun c => decide (c.toNat < 128)) = true := by decide +kernel
  induction L with
  | nil => exact ⟨rfl, fun c h => by cases h⟩
  | cons b L ih =>
    obtain ⟨h1, h2⟩ := h ⟨b.toNat, b.toNat_lt⟩
    simp only [UInt8.ofNat_toNat] at h1 h2
    refine ⟨by simp only [escK, escQ, List.map_append, ih.1, h1], fun c hc => ?_⟩
    simp only [escK] at hc
    rcases List.mem_append.1 hc with hc | hc
    · simpa using List.all_eq_true.1 h2 c hc
    · exact ih.2 c hc

theorem configPath (L : List UInt8) (hl : L.length ≤ 100000) (w : World) :
    Calls Tryz.prog 25 #[.string (bs L)] w fun e w' => e = .returned (.string (bs (esc L))) ∧ Gr w w' := by
  have h := configEscaped L pathK hl (by decide) (by decide) w
  rw [escK_path] at h
  have H := Lib.hid (show Calls Tryz.prog 28 #[.string (bs L), .string ⟨#[36, 38, 43, 61, 58, 64]⟩] w _ from h)
  clear h hl
  go_enter Tryz.func25, Tryz.ntmps25
  go_wp2_with (first
    | (go_at_call 28; go_must (refine H.out.mono ?_); rintro e w1 ⟨rfl, hg1⟩))
  go_ret
  exact ⟨rfl, hg1⟩

set_option maxRecDepth 100000 in
set_option maxHeartbeats 1000000 in
theorem configQuery (L : List UInt8) (hl : L.length ≤ 100000) (w : World) :
    Calls Tryz.prog 20 #[.string (bs L)] w fun e w' => e = .returned (.string (bs (escQ L))) ∧ Gr w w' := by
  have h := configEscaped L [32] hl (by decide) (by decide) w
  obtain ⟨hq, hc⟩ := escK_query L
  have hlen := escK_len [32] L
  have H := Lib.hid (show Calls Tryz.prog 28 #[.string (bs L), .string ⟨#[32]⟩] w _ from h)
  generalize escK [32] L = E at *
  rw [← hq]
  have HCV := fun W => Lib.hid (bytes_of_str_rw E W (by simp only [maxLen]; omega))
  have HC := Lib.hid hc
  have hE : E.length ≤ 300000 := by omega
  clear h hq hc hlen hl
  go_enter Tryz.func20, Tryz.ntmps20
  go_wp2_with (first
    | (go_at_call 28; go_must (refine H.out.mono ?_); rintro e w1 ⟨rfl, hg1⟩; obtain ⟨c, W2, hcv, hrw, hg, hc1, hc2⟩ := (HCV w1).out; have HG := Lib.hid (hg1.trans hg); have HRW := Lib.hid hrw; have hcm : c ≤ 9223372036854775807 := (by simp only [maxLen] at hc2; omega); clear hrw hg hg1 hc2))
  obtain ⟨n, hn⟩ : ∃ n, E.length = n := ⟨_, rfl⟩
  have HN := Lib.hid hn
  rw [hn] at hc1 hE ⊢
  clear hn hcv
  go_loopw [10, 3] (fun i s wr => ∃ k : Nat, i = .int .i64 k ∧ k ≤ n ∧ s = .string (bs ((E.take k).map plusQ)) ∧ wr = W2) (fun i _ _ => ((n : Int) - intOf i).toNat)
  case atStart => exact ⟨0, rfl, Nat.zero_le _, by simp [bs], rfl⟩
  case round =>
    obtain ⟨k, rfl, hkn, rfl, rfl⟩ := hrel
    by_cases e : k < n
    · have hkl : k < E.length := by rw [HN.out]; exact e
      have cx : wr.cell? ⟨w1.heap.size, k, none⟩ = some (.int .u8 (E[k].toNat : Int)) := by
        have := HRW.out.cell k (by rw [nums_length]; exact hkl)
        rw [this]; simp [nums, List.getD_eq_getElem?_getD, hkl]
      have htk : (E.take (k + 1)).map plusQ = (E.take k).map plusQ ++ [plusQ E[k]] := by rw [List.take_succ_eq_append_getElem hkl, List.map_append]; rfl
      have hb := HC.out _ (List.getElem_mem hkl)
      have hsz2 : (bs ((E.take k).map plusQ)).size ≤ 300000 := by rw [bs_size, List.length_map, List.length_take]; omega
      have HTK := Lib.hid htk
      generalize E[k] = b at *
      clear htk hkl
      obtain ⟨O, hO⟩ : ∃ O, bs ((E.take k).map plusQ) = O := ⟨_, rfl⟩
      rw [hO] at hsz2
      have HO := Lib.hid hO
      rw [hO]
      clear hO
      by_cases h32 : b = 32
      · subst h32
        obtain ⟨P, hP⟩ : ∃ P, bs [43] = P := ⟨_, rfl⟩
        have HE : Utf8.encode 43 = P := (utf8_one 43 (by decide)).trans hP
        have z1 : P.size = 1 := by rw [← hP]; rfl
        have HPP := Lib.hid hP
        clear hP hb
        have hz : (((32 : UInt8).toNat : Nat) : Int) = 32 := rfl
        rw [hz] at cx
        go_wp2
        go_roundw
        case rel => exact ⟨k + 1, by go_num, by omega, by rw [HTK.out, ← bs_append, HO.out]; exact congrArg (fun p => Value.string (O ++ p)) HPP.out.symm, trivial⟩
        case measure => simp [intOf]; omega
      · obtain ⟨P, hP⟩ : ∃ P, bs [b] = P := ⟨_, rfl⟩
        have HE : Utf8.encode (b.toNat : Int) = P := (utf8_one b hb).trans hP
        have z1 : P.size = 1 := by rw [← hP]; rfl
        have HPP := Lib.hid hP
        have hz2 : ((b.toNat : Int) == 32) = false := beq_eq_false_iff_ne.2 fun e => h32 (UInt8.toNat_inj.1 (by show b.toNat = 32; omega))
        have hp : plusQ b = b := by unfold plusQ; rw [if_neg h32]
        have HP := Lib.hid hp
        have hb2 : (b.toNat : Int) < 256 := by omega
        have hw32 : IntKind.i32.wrap (b.toNat : Int) = (b.toNat : Int) := by simp only [IntKind.wrap, IntKind.bits, IntKind.signed]; simp; omega
        clear hP hp h32 hb
        generalize b.toNat = x at *
        go_wp2
        go_roundw
        case rel => exact ⟨k + 1, by go_num, by omega, by rw [HTK.out, HP.out, ← bs_append, HO.out]; exact congrArg (fun p => Value.string (O ++ p)) HPP.out.symm, trivial⟩
        case measure => simp [intOf]; omega
    · obtain rfl : n = k := by omega
      have et : E.take n = E := by rw [← HN.out, List.take_length]
      rw [et]
      go_wp2
      go_ret
      exact ⟨rfl, HG.out⟩

/-- A letter made small. -/
def lowB (b : UInt8) : UInt8 := if 65 ≤ b.toNat ∧ b.toNat ≤ 90 then b + 32 else b
/-- The first k letters made small. -/
def lowK (L : List UInt8) (k : Nat) : List UInt8 := (L.take k).map lowB ++ L.drop k
theorem lowK_length (L : List UInt8) (k : Nat) : (lowK L k).length = L.length := by simp [lowK]; omega
theorem lowK_zero (L : List UInt8) : lowK L 0 = L := by simp [lowK]
theorem lowK_all (L : List UInt8) (k : Nat) (h : k = L.length) : lowK L k = L.map lowB := by subst h; simp [lowK]
theorem lowK_get (L : List UInt8) (k : Nat) (h : k < L.length) : (nums (lowK L k)).getD k 0 = (L[k].toNat : Int) := by
  simp only [nums, lowK, List.getD_eq_getElem?_getD, List.getElem?_map]
  rw [List.getElem?_append_right (by simp; omega)]
  simp [Nat.min_eq_left (Nat.le_of_lt h), h]
theorem lowK_step (L : List UInt8) (k : Nat) (h : k < L.length) : nums (lowK L (k + 1)) = (nums (lowK L k)).set k ((lowB L[k]).toNat : Int) := by
  simp only [nums, lowK]
  rw [List.take_succ_eq_append_getElem h, List.drop_eq_getElem_cons h]
  simp only [List.map_append, List.map_cons, List.map_nil, List.append_assoc, List.singleton_append]
  rw [List.set_append_right _ _ (by simp; omega)]
  simp [Nat.min_eq_left (Nat.le_of_lt h)]

set_option maxRecDepth 100000 in
theorem lower (L : List UInt8) (hl : L.length ≤ 4000000000) (w : World) :
    Calls Tryz.prog 19 #[.string (bs L)] w fun e w' => e = .returned (.string (bs (L.map lowB))) ∧ Gr w w' := by
  obtain ⟨c, W2, hcv, hrw, hg, hc1, hc2⟩ := bytes_of_str_rw L w (by simp only [maxLen]; omega)
  obtain ⟨n, hn⟩ : ∃ n, L.length = n := ⟨_, rfl⟩
  obtain ⟨b, hb⟩ : ∃ b, w.heap.size = b := ⟨_, rfl⟩
  have hback := fun M (hM : M.length = n) w h => Lib.hid (hM ▸ str_of_bytes b c M w h : (convert 33 9 (.slice (some ⟨b, 0, none⟩) n c)).run Tryz.prog w = .ok (.string (bs M)) w)
  rw [hn] at hcv hc1 hl
  rw [hb] at hcv hrw
  have hcm : c ≤ 9223372036854775807 := by simp only [maxLen] at hc2; omega
  have HB := Lib.hid hb
  have HN := Lib.hid hn
  have HG := Lib.hid hg
  have HRW := Lib.hid hrw
  clear hrw hg hb hn hc2
  generalize hS : bs L = S at *
  clear hS
  go_enter Tryz.func19, Tryz.ntmps19
  go_wp2
  go_loopw [10] (fun i wr => ∃ k : Nat, i = .int .i64 k ∧ k ≤ n ∧ RwAt wr b (nums (lowK L k)) ∧ Gr w wr) (fun i _ => ((n : Int) - intOf i).toNat)
  case atStart => exact ⟨0, rfl, Nat.zero_le _, by rw [lowK_zero]; exact HRW.out, HG.out⟩
  case round =>
    obtain ⟨k, rfl, hk, hrw, hgr⟩ := hrel
    by_cases hkn : k < n
    · have hkL : k < L.length := by rw [HN.out]; exact hkn
      have hnl : (nums (lowK L k)).length = n := by rw [nums_length, lowK_length, HN.out]
      have kc := hrw.cell k (by rw [hnl]; exact hkn)
      rw [lowK_get L k hkL] at kc
      have hf := hrw.free k (by rw [hnl]; exact hkn)
      have hst := lowK_step L k hkL
      have hx := L[k].toNat_lt
      have HR := Lib.hid hrw
      have HGR := Lib.hid hgr
      by_cases hup : 65 ≤ L[k].toNat ∧ L[k].toNat ≤ 90
      · have hlow : ((lowB L[k]).toNat : Int) = (L[k].toNat : Int) + 32 := by
          unfold lowB; rw [if_pos hup, UInt8.toNat_add]
          simp; omega
        rw [hlow] at hst
        generalize L[k].toNat = x at *
        have h1 : (65 : Int) ≤ (x : Int) := by omega
        have h2 : (x : Int) ≤ 90 := by omega
        have HST := Lib.hid hst
        have HNL := Lib.hid hnl
        clear hst hlow hup hrw hgr hnl
        go_wp2
        go_roundw
        case rel => exact ⟨k + 1, by go_num, by omega, by rw [HST.out]; exact HR.out.set k (by rw [HNL.out]; exact hkn) _ (by omega), HGR.out.setCell (by rw [HB.out]; exact Nat.le_refl _) _⟩
        case measure => first | (simp [intOf]; done) | (simp [intOf]; omega)
      · have hlow : ((lowB L[k]).toNat : Int) = (L[k].toNat : Int) := by unfold lowB; rw [if_neg hup]
        rw [hlow] at hst
        have hsame : nums (lowK L (k + 1)) = nums (lowK L k) := by
          rw [hst]
          have e := lowK_get L k hkL
          rw [← e, List.getD_eq_getElem?_getD, List.getElem?_eq_getElem (by rw [hnl]; exact hkn)]
          simp
        have HSM := Lib.hid hsame
        generalize L[k].toNat = x at *
        by_cases h1 : (65 : Int) ≤ (x : Int)
        · have h2 : ¬ (x : Int) ≤ 90 := by omega
          clear hst hlow hup hrw hgr hnl hsame
          go_wp2
          go_roundw
          case rel => exact ⟨k + 1, by go_num, by omega, by rw [HSM.out]; exact HR.out, HGR.out⟩
          case measure => first | (simp [intOf]; done) | (simp [intOf]; omega)
        · clear hst hlow hup hrw hgr hnl hsame
          go_wp2
          go_roundw
          case rel => exact ⟨k + 1, by go_num, by omega, by rw [HSM.out]; exact HR.out, HGR.out⟩
          case measure => first | (simp [intOf]; done) | (simp [intOf]; omega)
    · obtain rfl : n = k := by omega
      rw [lowK_all L n HN.out.symm] at hrw
      have hbk := (hback (L.map lowB) (by rw [List.length_map, HN.out]) _ hrw).out
      go_wp2
      go_ret
      exact ⟨rfl, hgr⟩

end Go.Proofs.YtpadpdmidiaeoaaGreatDoor
