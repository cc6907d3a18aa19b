/- The reference's escapes: spec.configEscaped, ConfigPath, ConfigQuery, ConfigHead. -/
import Derived.Test.YtpadpdmidiaeoaaGreatDoorUrR
import Derived.Test.YtpadpdmidiaeoaaGreatDoorUrD
import Derived.Test.YtpadpdmidiaeoaaGreatDoorLay
import Derived.Shelf.SlicesE.Index
import Derived.BigRegion
namespace Go.Proofs.YtpadpdmidiaeoaaGreatDoor
open Go Go.RowKit Go.Lib

/-- Letters and digits. -/
def alnB (c : Nat) : Bool := (48 ≤ c && c ≤ 57) || (65 ≤ c && c ≤ 90) || (97 ≤ c && c ≤ 122)
/-- A byte escaped, where the signs of K stay beside letters, digits and - _ . ~ -/
def escK1 (K : List UInt8) (b : UInt8) : List UInt8 := if alnB b.toNat || ([45, 95, 46, 126] ++ K).any (fun y => b == y) then [b] else [37, hexB (b.toNat / 16), hexB (b.toNat % 16)]
def escK (K : List UInt8) : List UInt8 → List UInt8
  | [] => []
  | b :: r => escK1 K b ++ escK K r
theorem escK_append (K A B : List UInt8) : escK K (A ++ B) = escK K A ++ escK K B := by
  induction A with
  | nil => rfl
  | cons a A ih => simp only [List.cons_append, escK, ih, List.append_assoc]
theorem escK_take (K L : List UInt8) (k : Nat) (h : k < L.length) : escK K (L.take (k + 1)) = escK K (L.take k) ++ escK1 K L[k] := by
  rw [List.take_succ_eq_append_getElem h, escK_append]
  simp [escK]
theorem escK_len (K L : List UInt8) : (escK K L).length ≤ 3 * L.length := by
  induction L with
  | nil => simp [escK]
  | cons a L ih =>
    simp only [escK, List.length_append, List.length_cons]
    have : (escK1 K a).length ≤ 3 := by unfold escK1; split <;> simp
    omega
theorem utf8_one (b : UInt8) (h : b.toNat < 128) : Utf8.encode (b.toNat : Int) = bs [b] := by
  have hv : Utf8.valid (b.toNat : Int) = true := by simp [Utf8.valid]; omega
  unfold Utf8.encode
  simp only [hv, if_true, Int.toNat_natCast]
  rw [if_pos (by omega)]
  simp [bs]
theorem hexS (n : Nat) (h : n < 16) : (⟨#[48, 49, 50, 51, 52, 53, 54, 55, 56, 57, 65, 66, 67, 68, 69, 70]⟩ : ByteArray).extract n (n + 1) = bs [hexB n] := by
  have : ∀ m : Fin 16, (⟨#[48, 49, 50, 51, 52, 53, 54, 55, 56, 57, 65, 66, 67, 68, 69, 70]⟩ : ByteArray).extract m.val (m.val + 1) = bs [hexB m.val] := by decide +kernel
  exact this ⟨n, h⟩
theorem any_nums (x : UInt8) (S : List UInt8) : ((nums S).any fun y => ((x.toNat : Int) == y)) = S.any fun y => x == y := by
  unfold nums
  rw [List.any_map]
  have e : ((fun y => ((x.toNat : Int) == y)) ∘ fun b : UInt8 => (b.toNat : Int)) = fun y => x == y := by
    funext y
    show ((x.toNat : Int) == (y.toNat : Int)) = (x == y)
    by_cases h : x = y
    · rw [h, beq_self_eq_true, beq_self_eq_true]
    · rw [beq_eq_false_iff_ne.2 h]
      exact beq_eq_false_iff_ne.2 fun e => h (UInt8.toNat_inj.1 (by omega))
  rw [e]
/-- slices.Contains at bytes. -/
theorem containsB (b c : Nat) (S : List UInt8) (x : UInt8) (w : World) (h : RwAt w b (nums S)) (hl : S.length ≤ 1000000) :
    Calls Tryz.prog 48 #[.slice (some ⟨b, 0, none⟩) S.length c, .int .u8 (x.toNat : Int)] w fun e w' => e = .returned (.bool (S.any fun y => x == y)) ∧ w' = w := by
  have hh := AnyE.slices_Contains Tryz.lContB (Value.int .u8) _ (EqlAt.int _ _ .u8) b 0 S.length c (nums S) (x.toNat : Int) w (by rw [nums_length]; exact Nat.le_refl _) (by omega) (fun j hj => by
    rw [Nat.zero_add, h.cell j hj, getElem!_pos (nums S) j hj, List.getD_eq_getElem?_getD, List.getElem?_eq_getElem hj]
    rfl)
  rw [show (nums S).take S.length = nums S by rw [← nums_length S, List.take_length], any_nums] at hh
  exact hh

set_option maxRecDepth 100000 in
theorem and15 : ∀ X : Fin 256, bits .and .u8 ((X.val : Nat) : Int) 15 = ((X.val % 16 : Nat) : Int) := by decide

set_option maxRecDepth 100000 in
set_option maxHeartbeats 4000000 in
theorem configEscaped (L K : List UInt8) (hl : L.length ≤ 100000) (hk : K.length ≤ 100) (hK : ∀ b ∈ K, b.toNat < 128) (w : World) :
    Calls Tryz.prog 28 #[.string (bs L), .string (bs K)] w fun e w' => e = .returned (.string (bs (escK K L))) ∧ Gr w w' := by
  obtain ⟨c, W2, hcv, hrw, hg, hc1, hc2⟩ := bytes_of_str_rw L w (by simp only [maxLen]; omega)
  obtain ⟨n, hn⟩ : ∃ n, L.length = n := ⟨_, rfl⟩
  have hsz : (bs L).size = n := by rw [bs_size, hn]
  have hcm : c ≤ 9223372036854775807 := by simp only [maxLen] at hc2; omega
  have HL := Lib.hid (show ∀ k, (escK K (L.take k)).length ≤ 300000 from fun k => by have := escK_len K (L.take k); rw [List.length_take] at this; omega)
  have HRW := Lib.hid hrw
  have HG := Lib.hid hg
  have HN := Lib.hid hn
  have hadd : (⟨#[45, 95, 46, 126]⟩ : ByteArray) ++ bs K = bs ([45, 95, 46, 126] ++ K) := bs_append [45, 95, 46, 126] K
  have hks : (bs K).size = K.length := bs_size K
  have HCV := fun W => Lib.hid (bytes_of_str_rw ([45, 95, 46, 126] ++ K) W (by simp [maxLen]; omega))
  have HKK := Lib.hid hK
  have HKL := Lib.hid hk
  have HADD := Lib.hid hadd
  rw [hn] at hcv hc1 hl
  clear hrw hg hc2 hn hK hadd hks hk
  obtain ⟨X, hX⟩ : ∃ X, bs L = X := ⟨_, rfl⟩
  rw [hX] at hcv hsz ⊢
  clear hX
  go_enter Tryz.func28, Tryz.ntmps28
  go_wp2
  go_loopw [12, 5] (fun i s wr => ∃ k : Nat, i = .int .i64 k ∧ k ≤ n ∧ s = .string (bs (escK K (L.take k))) ∧ Hid (Gr W2 wr)) (fun i _ _ => ((n : Int) - intOf i).toNat)
  case atStart => exact ⟨0, rfl, Nat.zero_le _, by simp [escK, bs], Gr.refl _⟩
  case round =>
    obtain ⟨k, rfl, hkn, rfl, HGR⟩ := hrel
    by_cases e : k < n
    · have hkl : k < L.length := by rw [HN.out]; exact e
      have cx : W2.cell? ⟨w.heap.size, k, none⟩ = some (.int .u8 (L[k].toNat : Int)) := by
        have := HRW.out.cell k (by rw [nums_length]; exact hkl)
        rw [this]; simp [nums, List.getD_eq_getElem?_getD, hkl]
      have cx := HGR.out.cell cx
      have htk := escK_take K L k hkl
      have hb := L[k].toNat_lt
      have hlen := HL.out k
      have hsz2 : (bs (escK K (L.take k))).size ≤ 300000 := by rw [bs_size]; exact hlen
      have HTK := Lib.hid htk
      generalize L[k] = b at *
      clear htk hkl hlen
      have fin : ∀ pl : Bool, (alnB b.toNat || ([45, 95, 46, 126] ++ K).any (fun y => b == y)) = pl → escK1 K b = if pl then [b] else [37, hexB (b.toNat / 16), hexB (b.toNat % 16)] := fun pl h => by unfold escK1; rw [h]
      have FIN := Lib.hid fin
      clear fin
      have plain : alnB b.toNat = true → b.toNat < 128 ∧ bs (escK K (L.take k)) ++ bs [b] = bs (escK K (L.take (k + 1))) := fun h => by
        refine ⟨?_, ?_⟩
        · simp [alnB] at h; omega
        · rw [bs_append, HTK.out, FIN.out true (by rw [h]; rfl)]; rfl
      have PLAIN := Lib.hid plain
      clear plain
      obtain ⟨O, hO⟩ : ∃ O, bs (escK K (L.take k)) = O := ⟨_, rfl⟩
      rw [hO] at hsz2
      have HO := Lib.hid hO
      rw [hO]
      clear hO
      by_cases hd : 48 ≤ b.toNat ∧ b.toNat ≤ 57
      · obtain ⟨h1, h2⟩ := PLAIN.out (by simp [alnB]; omega)
        have HE := utf8_one b h1
        have H2 := Lib.hid h2
        have q1 : (48 : Int) ≤ (b.toNat : Int) := by omega
        have q2 : (b.toNat : Int) ≤ 57 := by omega
        have z1 : (bs [b]).size = 1 := rfl
        clear hd h2
        go_wp2
        go_roundw
        case rel => exact ⟨k + 1, by go_num, by omega, by rw [← H2.out, HO.out], HGR⟩
        case measure => simp [intOf]; omega
      · by_cases hu : 65 ≤ b.toNat ∧ b.toNat ≤ 90
        · obtain ⟨h1, h2⟩ := PLAIN.out (by simp [alnB]; omega)
          have HE := utf8_one b h1
          have H2 := Lib.hid h2
          have q1 : (48 : Int) ≤ (b.toNat : Int) := by omega
          have q2 : ¬ (b.toNat : Int) ≤ 57 := by omega
          have q3 : (65 : Int) ≤ (b.toNat : Int) := by omega
          have q4 : (b.toNat : Int) ≤ 90 := by omega
          have z1 : (bs [b]).size = 1 := rfl
          clear hd hu h2
          go_wp2
          go_roundw
          case rel => exact ⟨k + 1, by go_num, by omega, by rw [← H2.out, HO.out], HGR⟩
          case measure => simp [intOf]; omega
        · by_cases hv : 97 ≤ b.toNat ∧ b.toNat ≤ 122
          · obtain ⟨h1, h2⟩ := PLAIN.out (by simp [alnB]; omega)
            have HE := utf8_one b h1
            have H2 := Lib.hid h2
            have q1 : (48 : Int) ≤ (b.toNat : Int) := by omega
            have q2 : ¬ (b.toNat : Int) ≤ 57 := by omega
            have q3 : (65 : Int) ≤ (b.toNat : Int) := by omega
            have q4 : ¬ (b.toNat : Int) ≤ 90 := by omega
            have q5 : (97 : Int) ≤ (b.toNat : Int) := by omega
            have q6 : (b.toNat : Int) ≤ 122 := by omega
            have z1 : (bs [b]).size = 1 := rfl
            clear hd hu hv h2
            go_wp2
            go_roundw
            case rel => exact ⟨k + 1, by go_num, by omega, by rw [← H2.out, HO.out], HGR⟩
            case measure => simp [intOf]; omega
          · have hna : alnB b.toNat = false := by simp [alnB]; omega
            obtain ⟨c2, W3, hcv2, hrw2, hg2, hd1, hd2⟩ := (HCV wr).out
            have hS : ([45, 95, 46, 126] ++ K).length ≤ 1000000 := by have := HKL.out; simp; omega
            have HCT := fun W h => Lib.hid (containsB wr.heap.size c2 ([45, 95, 46, 126] ++ K) b W h hS)
            have HRW3 := Lib.hid hrw2
            have HG3 := Lib.hid hg2
            have hadd := HADD.out
            have hks : (bs K).size ≤ 100 := by rw [bs_size]; exact HKL.out
            have hcm2 : c2 ≤ 9223372036854775807 := by simp only [maxLen] at hd2; omega
            obtain ⟨pl, hpl⟩ : ∃ pl, ([45, 95, 46, 126] ++ K).any (fun y => b == y) = pl := ⟨_, rfl⟩
            rw [hpl] at HCT
            have hpl2 : escK1 K b = if pl then [b] else [37, hexB (b.toNat / 16), hexB (b.toNat % 16)] := FIN.out pl (by rw [hna, hpl]; rfl)
            have HPL2 := Lib.hid hpl2
            have h128 : pl = true → b.toNat < 128 := by
              intro h
              rw [h] at hpl
              obtain ⟨y, hy, hby⟩ := List.any_eq_true.1 hpl
              have : b = y := by simpa using hby
              subst this
              rcases List.mem_append.1 hy with hy | hy
              · simp at hy; rcases hy with rfl | rfl | rfl | rfl <;> decide
              · exact HKK.out b hy
            generalize hSS : ([45, 95, 46, 126] ++ K).length = sl at *
            generalize bs ([45, 95, 46, 126] ++ K) = SK at *
            generalize bs K = BK at *
            clear hS hpl hpl2 hrw2 hg2 hd2 hna hSS
            have dig : True := trivial
            have hreg : (b.toNat < 48) ∨ (57 < b.toNat ∧ b.toNat < 65) ∨ (90 < b.toNat ∧ b.toNat < 97) ∨ (122 < b.toNat) := by omega
            clear dig hd hu hv
            rcases hreg with hr | hr | hr | hr
            · have q1 : ¬ (48 : Int) ≤ (b.toNat : Int) := by omega
              have q2 : ¬ (65 : Int) ≤ (b.toNat : Int) := by omega
              have q3 : ¬ (97 : Int) ≤ (b.toNat : Int) := by omega
              clear hr
              cases pl
              · have hx1 := hexS (b.toNat / 16) (by omega)
                have hx2 := hexS (b.toNat % 16) (by omega)
                have hpl3 := HPL2.out
                obtain ⟨p, hp⟩ : ∃ p, b.toNat / 16 = p := ⟨_, rfl⟩
                obtain ⟨q, hq⟩ : ∃ q, b.toNat % 16 = q := ⟨_, rfl⟩
                have hpz : (b.toNat : Int) / 16 = (p : Int) := by omega
                have hqz : bits .and .u8 (b.toNat : Int) 15 = (q : Int) := by rw [← hq]; exact and15 ⟨b.toNat, hb⟩
                have hp16 : p < 16 := by omega
                have hq16 : q < 16 := by omega
                rw [hp] at hx1 hpl3
                rw [hq] at hx2 hpl3
                have HPL3 := Lib.hid hpl3
                have z1 : (bs [hexB p]).size = 1 := rfl
                have z2 : (bs [hexB q]).size = 1 := rfl
                have tp : ((p : Int) + 1).toNat = p + 1 := by omega
                have tq : ((q : Int) + 1).toNat = q + 1 := by omega
                have wp1 : IntKind.u8.wrap ((p : Int) + 1) = (p : Int) + 1 := by simp only [IntKind.wrap, IntKind.bits, IntKind.signed]; simp; omega
                have wq1 : IntKind.u8.wrap ((q : Int) + 1) = (q : Int) + 1 := by simp only [IntKind.wrap, IntKind.bits, IntKind.signed]; simp; omega
                have lp : (p : Int) + 1 ≤ 16 := by omega
                have lq : (q : Int) + 1 ≤ 16 := by omega
                clear h128 hp hq hpl3
                go_wp2_with (first
                  | (go_at_call 48; go_must (refine (HCT W3 HRW3.out).out.mono ?_); rintro e w4 ⟨rfl, hw4⟩; obtain rfl := hw4.symm))
                go_quiet (fail)
                go_wp2
                go_roundw
                case rel => exact ⟨k + 1, by go_num, by omega, by rw [HTK.out, HPL3.out, ← bs_append, HO.out]; first | rfl | simp [bs], HGR.out.trans (HG3.out.drewN _)⟩
                case measure => simp [intOf]; omega
              · have HE := utf8_one b (h128 rfl)
                have z1 : (bs [b]).size = 1 := rfl
                clear h128
                go_wp2_with (first
                  | (go_at_call 48; go_must (refine (HCT W3 HRW3.out).out.mono ?_); rintro e w4 ⟨rfl, hw4⟩; obtain rfl := hw4.symm))
                go_roundw
                case rel => exact ⟨k + 1, by go_num, by omega, by rw [HTK.out, HPL2.out, ← bs_append, HO.out]; rfl, HGR.out.trans HG3.out⟩
                case measure => simp [intOf]; omega
            · have q1 : (48 : Int) ≤ (b.toNat : Int) := by omega
              have q2 : ¬ (b.toNat : Int) ≤ 57 := by omega
              have q3 : ¬ (65 : Int) ≤ (b.toNat : Int) := by omega
              have q4 : ¬ (97 : Int) ≤ (b.toNat : Int) := by omega
              clear hr
              cases pl
              · have hx1 := hexS (b.toNat / 16) (by omega)
                have hx2 := hexS (b.toNat % 16) (by omega)
                have hpl3 := HPL2.out
                obtain ⟨p, hp⟩ : ∃ p, b.toNat / 16 = p := ⟨_, rfl⟩
                obtain ⟨q, hq⟩ : ∃ q, b.toNat % 16 = q := ⟨_, rfl⟩
                have hpz : (b.toNat : Int) / 16 = (p : Int) := by omega
                have hqz : bits .and .u8 (b.toNat : Int) 15 = (q : Int) := by rw [← hq]; exact and15 ⟨b.toNat, hb⟩
                have hp16 : p < 16 := by omega
                have hq16 : q < 16 := by omega
                rw [hp] at hx1 hpl3
                rw [hq] at hx2 hpl3
                have HPL3 := Lib.hid hpl3
                have z1 : (bs [hexB p]).size = 1 := rfl
                have z2 : (bs [hexB q]).size = 1 := rfl
                have tp : ((p : Int) + 1).toNat = p + 1 := by omega
                have tq : ((q : Int) + 1).toNat = q + 1 := by omega
                have wp1 : IntKind.u8.wrap ((p : Int) + 1) = (p : Int) + 1 := by simp only [IntKind.wrap, IntKind.bits, IntKind.signed]; simp; omega
                have wq1 : IntKind.u8.wrap ((q : Int) + 1) = (q : Int) + 1 := by simp only [IntKind.wrap, IntKind.bits, IntKind.signed]; simp; omega
                have lp : (p : Int) + 1 ≤ 16 := by omega
                have lq : (q : Int) + 1 ≤ 16 := by omega
                clear h128 hp hq hpl3
                go_wp2_with (first
                  | (go_at_call 48; go_must (refine (HCT W3 HRW3.out).out.mono ?_); rintro e w4 ⟨rfl, hw4⟩; obtain rfl := hw4.symm))
                go_quiet (fail)
                go_wp2
                go_roundw
                case rel => exact ⟨k + 1, by go_num, by omega, by rw [HTK.out, HPL3.out, ← bs_append, HO.out]; first | rfl | simp [bs], HGR.out.trans (HG3.out.drewN _)⟩
                case measure => simp [intOf]; omega
              · have HE := utf8_one b (h128 rfl)
                have z1 : (bs [b]).size = 1 := rfl
                clear h128
                go_wp2_with (first
                  | (go_at_call 48; go_must (refine (HCT W3 HRW3.out).out.mono ?_); rintro e w4 ⟨rfl, hw4⟩; obtain rfl := hw4.symm))
                go_roundw
                case rel => exact ⟨k + 1, by go_num, by omega, by rw [HTK.out, HPL2.out, ← bs_append, HO.out]; rfl, HGR.out.trans HG3.out⟩
                case measure => simp [intOf]; omega
            · have q1 : (48 : Int) ≤ (b.toNat : Int) := by omega
              have q2 : ¬ (b.toNat : Int) ≤ 57 := by omega
              have q3 : (65 : Int) ≤ (b.toNat : Int) := by omega
              have q4 : ¬ (b.toNat : Int) ≤ 90 := by omega
              have q5 : ¬ (97 : Int) ≤ (b.toNat : Int) := by omega
              clear hr
              cases pl
              · have hx1 := hexS (b.toNat / 16) (by omega)
                have hx2 := hexS (b.toNat % 16) (by omega)
                have hpl3 := HPL2.out
                obtain ⟨p, hp⟩ : ∃ p, b.toNat / 16 = p := ⟨_, rfl⟩
                obtain ⟨q, hq⟩ : ∃ q, b.toNat % 16 = q := ⟨_, rfl⟩
                have hpz : (b.toNat : Int) / 16 = (p : Int) := by omega
                have hqz : bits .and .u8 (b.toNat : Int) 15 = (q : Int) := by rw [← hq]; exact and15 ⟨b.toNat, hb⟩
                have hp16 : p < 16 := by omega
                have hq16 : q < 16 := by omega
                rw [hp] at hx1 hpl3
                rw [hq] at hx2 hpl3
                have HPL3 := Lib.hid hpl3
                have z1 : (bs [hexB p]).size = 1 := rfl
                have z2 : (bs [hexB q]).size = 1 := rfl
                have tp : ((p : Int) + 1).toNat = p + 1 := by omega
                have tq : ((q : Int) + 1).toNat = q + 1 := by omega
                have wp1 : IntKind.u8.wrap ((p : Int) + 1) = (p : Int) + 1 := by simp only [IntKind.wrap, IntKind.bits, IntKind.signed]; simp; omega
                have wq1 : IntKind.u8.wrap ((q : Int) + 1) = (q : Int) + 1 := by simp only [IntKind.wrap, IntKind.bits, IntKind.signed]; simp; omega
                have lp : (p : Int) + 1 ≤ 16 := by omega
                have lq : (q : Int) + 1 ≤ 16 := by omega
                clear h128 hp hq hpl3
                go_wp2_with (first
                  | (go_at_call 48; go_must (refine (HCT W3 HRW3.out).out.mono ?_); rintro e w4 ⟨rfl, hw4⟩; obtain rfl := hw4.symm))
                go_quiet (fail)
                go_wp2
                go_roundw
                case rel => exact ⟨k + 1, by go_num, by omega, by rw [HTK.out, HPL3.out, ← bs_append, HO.out]; first | rfl | simp [bs], HGR.out.trans (HG3.out.drewN _)⟩
                case measure => simp [intOf]; omega
              · have HE := utf8_one b (h128 rfl)
                have z1 : (bs [b]).size = 1 := rfl
                clear h128
                go_wp2_with (first
                  | (go_at_call 48; go_must (refine (HCT W3 HRW3.out).out.mono ?_); rintro e w4 ⟨rfl, hw4⟩; obtain rfl := hw4.symm))
                go_roundw
                case rel => exact ⟨k + 1, by go_num, by omega, by rw [HTK.out, HPL2.out, ← bs_append, HO.out]; rfl, HGR.out.trans HG3.out⟩
                case measure => simp [intOf]; omega
            · have q1 : (48 : Int) ≤ (b.toNat : Int) := by omega
              have q2 : ¬ (b.toNat : Int) ≤ 57 := by omega
              have q3 : (65 : Int) ≤ (b.toNat : Int) := by omega
              have q4 : ¬ (b.toNat : Int) ≤ 90 := by omega
              have q5 : (97 : Int) ≤ (b.toNat : Int) := by omega
              have q6 : ¬ (b.toNat : Int) ≤ 122 := by omega
              clear hr
              cases pl
              · have hx1 := hexS (b.toNat / 16) (by omega)
                have hx2 := hexS (b.toNat % 16) (by omega)
                have hpl3 := HPL2.out
                obtain ⟨p, hp⟩ : ∃ p, b.toNat / 16 = p := ⟨_, rfl⟩
                obtain ⟨q, hq⟩ : ∃ q, b.toNat % 16 = q := ⟨_, rfl⟩
                have hpz : (b.toNat : Int) / 16 = (p : Int) := by omega
                have hqz : bits .and .u8 (b.toNat : Int) 15 = (q : Int) := by rw [← hq]; exact and15 ⟨b.toNat, hb⟩
                have hp16 : p < 16 := by omega
                have hq16 : q < 16 := by omega
                rw [hp] at hx1 hpl3
                rw [hq] at hx2 hpl3
                have HPL3 := Lib.hid hpl3
                have z1 : (bs [hexB p]).size = 1 := rfl
                have z2 : (bs [hexB q]).size = 1 := rfl
                have tp : ((p : Int) + 1).toNat = p + 1 := by omega
                have tq : ((q : Int) + 1).toNat = q + 1 := by omega
                have wp1 : IntKind.u8.wrap ((p : Int) + 1) = (p : Int) + 1 := by simp only [IntKind.wrap, IntKind.bits, IntKind.signed]; simp; omega
                have wq1 : IntKind.u8.wrap ((q : Int) + 1) = (q : Int) + 1 := by simp only [IntKind.wrap, IntKind.bits, IntKind.signed]; simp; omega
                have lp : (p : Int) + 1 ≤ 16 := by omega
                have lq : (q : Int) + 1 ≤ 16 := by omega
                clear h128 hp hq hpl3
                go_wp2_with (first
                  | (go_at_call 48; go_must (refine (HCT W3 HRW3.out).out.mono ?_); rintro e w4 ⟨rfl, hw4⟩; obtain rfl := hw4.symm))
                go_quiet (fail)
                go_wp2
                go_roundw
                case rel => exact ⟨k + 1, by go_num, by omega, by rw [HTK.out, HPL3.out, ← bs_append, HO.out]; first | rfl | simp [bs], HGR.out.trans (HG3.out.drewN _)⟩
                case measure => simp [intOf]; omega
              · have HE := utf8_one b (h128 rfl)
                have z1 : (bs [b]).size = 1 := rfl
                clear h128
                go_wp2_with (first
                  | (go_at_call 48; go_must (refine (HCT W3 HRW3.out).out.mono ?_); rintro e w4 ⟨rfl, hw4⟩; obtain rfl := hw4.symm))
                go_roundw
                case rel => exact ⟨k + 1, by go_num, by omega, by rw [HTK.out, HPL2.out, ← bs_append, HO.out]; rfl, HGR.out.trans HG3.out⟩
                case measure => simp [intOf]; omega
    · obtain rfl : n = k := by omega
      have et : L.take n = L := by rw [← HN.out, List.take_length]
      rw [et]
      go_wp2
      go_ret
      exact ⟨rfl, HG.out.trans HGR.out⟩
end Go.Proofs.YtpadpdmidiaeoaaGreatDoor
