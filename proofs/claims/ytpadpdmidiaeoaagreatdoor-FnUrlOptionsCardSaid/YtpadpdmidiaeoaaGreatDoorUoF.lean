/- spec.ConfigOption: the walk. -/
import Derived.Test.YtpadpdmidiaeoaaGreatDoorUoE
namespace Go.Proofs.YtpadpdmidiaeoaaGreatDoor
open Go Go.RowKit Go.Lib

def srvL : List UInt8 := [115, 101, 114, 118, 101, 114]
/-- The parts of an option's value. -/
def partsL (V : List UInt8) : List (List UInt8) := (splitL 44 V).map trimB
/-- A part as it stands in the address. -/
def optP (nm p : List UInt8) : List UInt8 := nm ++ 61 :: (if nm.map lowB = srvL then p else escQ p)
def optL (nm V : List UInt8) : List (List UInt8) := (partsL V).map (optP nm)
theorem trimB_len (p : List UInt8) : (trimB p).length ≤ p.length := by
  unfold trimB trimR
  rw [List.length_reverse]
  have h1 := (List.dropWhile_suffix (l := (p.dropWhile (· == 32)).reverse) (· == 32)).length_le
  have h2 := (List.dropWhile_suffix (l := p) (· == 32)).length_le
  rw [List.length_reverse] at h1
  omega
theorem partsL_len (V : List UInt8) : ∀ p ∈ partsL V, p.length ≤ V.length := by
  intro p hp
  obtain ⟨q, hq, rfl⟩ := List.mem_map.1 hp
  exact Nat.le_trans (trimB_len q) (splitL_part 44 V q hq)

set_option maxRecDepth 100000 in
set_option maxHeartbeats 4000000 in
theorem configOption (nm V : List UInt8) (hn : nm.length ≤ 1000) (hV : V.length ≤ 1000) (w : World) :
    Calls Tryz.prog 10 #[.agg #[.string (bs nm), .string (bs V)]] w fun e w' => ∃ v, e = .returned v ∧ OwnT w.heap.size w' v (optL nm V) ∧ Gr w w' := by
  have HCP := fun W => Lib.hid (configParts V (by omega) W)
  have HLW := fun W => Lib.hid (lower nm (by omega) W)
  have HPL := Lib.hid (show ∀ p ∈ partsL V, p.length ≤ 1000 from fun p hp => Nat.le_trans (partsL_len V p hp) hV)
  have hsl := splitL_len 44 V
  have hpl : (partsL V).length ≤ 1001 := by unfold partsL; rw [List.length_map]; omega
  have HQY := fun p (hp : p.length ≤ 1000) W => Lib.hid (configQuery p (by omega) W)
  have hcmp : ((bs (nm.map lowB)).toList == (⟨#[115, 101, 114, 118, 101, 114]⟩ : ByteArray).toList) = decide (nm.map lowB = srvL) := arr_eq (nm.map lowB) srvL
  have hOP : ∀ p, optP nm p = nm ++ 61 :: (if decide (nm.map lowB = srvL) = true then p else escQ p) := fun p => by unfold optP; simp
  have hns : (bs nm).size ≤ 1000 := by rw [bs_size]; exact hn
  have HOP := Lib.hid hOP
  obtain ⟨qs, hqs⟩ : ∃ qs, decide (nm.map lowB = srvL) = qs := ⟨_, rfl⟩
  rw [hqs] at hcmp HOP
  have hres : optL nm V = (partsL V).map (optP nm) := rfl
  rw [hres]
  change ∀ W, Hid (Calls Tryz.prog 18 #[.string (bs V)] W fun e w' => ∃ v, e = .returned v ∧ OwnT W.heap.size w' v (partsL V) ∧ Gr W w') at HCP
  generalize partsL V = P at *
  obtain ⟨LW, hLW⟩ : ∃ LW, bs (nm.map lowB) = LW := ⟨_, rfl⟩
  rw [hLW] at hcmp HLW
  rw [show (⟨#[115, 101, 114, 118, 101, 114]⟩ : ByteArray).toList = [115, 101, 114, 118, 101, 114] by simp] at hcmp
  obtain ⟨NM, hNM⟩ : ∃ NM, bs nm = NM := ⟨_, rfl⟩
  rw [hNM] at HLW hns ⊢
  have HNM := Lib.hid hNM
  generalize bs V = VV at *
  clear hqs hOP hres hsl hLW hNM hV hn
  obtain ⟨H, hH⟩ : ∃ H, w.heap.size = H := ⟨_, rfl⟩
  have k0 : (w.alloc (.cells #[.string NM, .string VV] 30)).cell? ⟨H, 0, none⟩ = some (.string NM) := (blk_cell (heap_new_at w _ hH.symm) 0).trans rfl
  have K0 := Lib.hid k0
  have HH := Lib.hid hH
  have hHB : w.heap.size ≤ (w.alloc (.cells #[.string NM, .string VV] 30)).heap.size := by simp
  have HHB := Lib.hid hHB
  clear k0 hHB
  go_enter Tryz.func10, Tryz.ntmps10
  go_wp2_with (first
    | (go_at_call 18; go_must (refine (HCP _).out.mono ?_); rintro e w2 ⟨v2, rfl, ho2, hg2⟩; obtain ⟨p2, c2, rfl, hs1, hs2, hs3⟩ := id ho2.shape; rw [strRow_len] at *; have HO2 := Lib.hid ho2; have HG2 := Lib.hid hg2; have hc2 : c2 ≤ 9223372036854775807 := (by simp only [maxLen] at hs2; omega); clear ho2 hg2 hs2 hs3 HCP))
  obtain ⟨n, hn⟩ : ∃ n, P.length = n := ⟨_, rfl⟩
  have HN := Lib.hid hn
  rw [hn] at hpl hs1 HO2 ⊢
  clear hn
  obtain ⟨H2, hH2⟩ : ∃ H2, w2.heap.size = H2 := ⟨_, rfl⟩
  have HH2 := Lib.hid hH2
  have hH12 : H < H2 := by have := HG2.out.size; simp at this; omega
  clear hH2
  go_loopw [10, 3] (fun i s wr => ∃ k : Nat, i = .int .i64 k ∧ k ≤ n ∧ Hid (OwnT H2 wr s ((P.take k).map (optP nm))) ∧ Hid (Gr w2 wr)) (fun i _ _ => ((n : Int) - intOf i).toNat)
  case atStart => exact ⟨0, rfl, Nat.zero_le _, (show OwnT H2 w2 _ _ by simp; exact OwnR.nil _ _ _ _), Gr.refl _⟩
  case round =>
    obtain ⟨k, rfl, hk, HO, HGR⟩ := hrel
    by_cases e : k < n
    · have hkl : k < P.length := by rw [HN.out]; exact e
      have hpm := HPL.out _ (List.getElem_mem hkl)
      obtain ⟨b2, cap2, hv2, _⟩ := HO2.out.row (by rw [HN.out]; omega)
      injection hv2 with hv21 hv22 hv23
      subst hv21 hv23
      clear hv22
      have cp := HGR.out.cell (HO2.out.cell k hkl)
      have htk : (P.take (k + 1)).map (optP nm) = (P.take k).map (optP nm) ++ [optP nm P[k]] := by rw [List.take_succ_eq_append_getElem hkl, List.map_append]; rfl
      have hQl : ((P.take k).map (optP nm)).length ≤ 1001 := by rw [List.length_map, List.length_take]; omega
      have hop := HOP.out P[k]
      have HTK := Lib.hid htk
      have HQL := Lib.hid hQl
      have kk := ((HG2.out.trans HGR.out)).cell K0.out
      obtain ⟨po, co, rfl, _⟩ := id HO.out.shape
      rw [strRow_len] at HO ⊢
      have HQ1 := fun (hp : P[k].length ≤ 1000) W => (HQY P[k] hp W)
      generalize P[k] = p at *
      obtain ⟨QL, hQL⟩ : ∃ QL, (P.take k).map (optP nm) = QL := ⟨_, rfl⟩
      rw [hQL] at HTK HQL HO ⊢
      generalize hql : QL.length = ql at *
      have HQLL := Lib.hid hql
      have hpp : p.length ≤ 1000 := by omega
      have HQ2 := HQ1 hpp
      have z0 : (⟨#[61]⟩ : ByteArray).size = 1 := rfl
      have hps : (bs p).size ≤ 1000 := by rw [bs_size]; exact hpp
      have heq : (bs (escQ p)).size ≤ 4000 := by rw [bs_size, escQ_len]; have := hxQ_le p; omega
      clear htk hQl hkl hQL hql HQ1 hpm hpp
      cases qs
      · have hopt : bs (optP nm p) = (NM ++ ⟨#[61]⟩) ++ bs (escQ p) := by
          rw [hop, ← HNM.out, show (⟨#[61]⟩ : ByteArray) = bs [61] from rfl, bs_append, bs_append]
          simp
        have HOPT := Lib.hid hopt
        obtain ⟨EQ, hEQ⟩ : ∃ EQ, bs (escQ p) = EQ := ⟨_, rfl⟩
        rw [hEQ] at HQ2 heq HOPT
        obtain ⟨PP, hPP⟩ : ∃ PP, bs p = PP := ⟨_, rfl⟩
        rw [hPP] at HQ2 cp hps
        have z1 : NM.size + (⟨#[61]⟩ : ByteArray).size ≤ 9223372036854775807 := by rw [z0]; omega
        have z2 : (NM ++ (⟨#[61]⟩ : ByteArray)).size + EQ.size ≤ 9223372036854775807 := by simp only [ByteArray.size_append, z0]; omega
        clear hopt hEQ hPP hop z0
        go_wp2_with (first
          | (go_at_call 19; go_must (refine (HLW _).out.mono ?_); rintro e w5 ⟨rfl, hg5⟩; have HG5 := Lib.hid hg5; have kk := hg5.cell kk; clear hg5)
          | (go_at_call 20; go_must (refine (HQ2 _).out.mono ?_); rintro e w6 ⟨rfl, hg6⟩; have HG6 := Lib.hid (HG5.out.trans hg6); have kk := hg6.cell kk; clear hg6)
          | (at_builtin; go_must (refine wpList_append_row rfl _ _ rfl Tryz.underlying28 strInfo rfl (by decide) (by decide) (B := H2) (cs := strRow QL) rfl (OwnR.gr HO.out (HG6.out.alloc _)) [[.string ((NM ++ ⟨#[61]⟩) ++ EQ)]] (by intro c hc; simp at hc; subst hc; exact ⟨rfl, fun u hu => by simp at hu; subst hu; rfl⟩) ⟨w6.heap.size, 0, none⟩ 1 1 rfl rfl (cell_new rfl) (by have := HQL.out; have := HQLL.out; simp [strRow]; omega) (by have := ((HGR.out.trans HG6.out).alloc (.cells #[.string ((NM ++ ⟨#[61]⟩) ++ EQ)] 9)).size; rw [← HH2.out]; exact this) ?_); intro v7 w7 ho7 hg7; have HB7 := Lib.hid (Below.trans (Below.mono ((HGR.out.trans HG6.out).alloc _) (by rw [HH2.out]; exact Nat.le_refl _)) ((OwnR.gr HO.out (HG6.out.alloc _)).below hg7 (by have := ((HGR.out.trans HG6.out).alloc (.cells #[.string ((NM ++ ⟨#[61]⟩) ++ EQ)] 9)).size; rw [← HH2.out]; exact this))); have HO7 := Lib.hid ho7; clear ho7 hg7))
        go_roundw
        case rel => exact ⟨k + 1, by go_num, by omega, (by show OwnT H2 w7 v7 _; rw [HTK.out]; have := HO7.out; rw [← HOPT.out] at this; unfold OwnT; simpa [strRow] using this), (by have := HB7.out; rw [← HH2.out] at this; exact this)⟩
        case measure => simp [intOf]; omega
      · have hopt : bs (optP nm p) = (NM ++ ⟨#[61]⟩) ++ bs p := by
          rw [hop, ← HNM.out, show (⟨#[61]⟩ : ByteArray) = bs [61] from rfl, bs_append, bs_append]
          simp
        have HOPT := Lib.hid hopt
        obtain ⟨PP, hPP⟩ : ∃ PP, bs p = PP := ⟨_, rfl⟩
        rw [hPP] at cp hps HOPT
        have z1 : NM.size + (⟨#[61]⟩ : ByteArray).size ≤ 9223372036854775807 := by rw [z0]; omega
        have z2 : (NM ++ (⟨#[61]⟩ : ByteArray)).size + PP.size ≤ 9223372036854775807 := by simp only [ByteArray.size_append, z0]; omega
        clear hopt hPP hop z0 HQ2 heq
        go_wp2_with (first
          | (go_at_call 19; go_must (refine (HLW _).out.mono ?_); rintro e w6 ⟨rfl, hg6⟩; have HG6 := Lib.hid hg6; have kk := hg6.cell kk; clear hg6)
          | (at_builtin; go_must (refine wpList_append_row rfl _ _ rfl Tryz.underlying28 strInfo rfl (by decide) (by decide) (B := H2) (cs := strRow QL) rfl (OwnR.gr HO.out (HG6.out.alloc _)) [[.string ((NM ++ ⟨#[61]⟩) ++ PP)]] (by intro c hc; simp at hc; subst hc; exact ⟨rfl, fun u hu => by simp at hu; subst hu; rfl⟩) ⟨w6.heap.size, 0, none⟩ 1 1 rfl rfl (cell_new rfl) (by have := HQL.out; have := HQLL.out; simp [strRow]; omega) (by have := ((HGR.out.trans HG6.out).alloc (.cells #[.string ((NM ++ ⟨#[61]⟩) ++ PP)] 9)).size; rw [← HH2.out]; exact this) ?_); intro v7 w7 ho7 hg7; have HB7 := Lib.hid (Below.trans (Below.mono ((HGR.out.trans HG6.out).alloc _) (by rw [HH2.out]; exact Nat.le_refl _)) ((OwnR.gr HO.out (HG6.out.alloc _)).below hg7 (by have := ((HGR.out.trans HG6.out).alloc (.cells #[.string ((NM ++ ⟨#[61]⟩) ++ PP)] 9)).size; rw [← HH2.out]; exact this))); have HO7 := Lib.hid ho7; clear ho7 hg7))
        go_roundw
        case rel => exact ⟨k + 1, by go_num, by omega, (by show OwnT H2 w7 v7 _; rw [HTK.out]; have := HO7.out; rw [← HOPT.out] at this; unfold OwnT; simpa [strRow] using this), (by have := HB7.out; rw [← HH2.out] at this; exact this)⟩
        case measure => simp [intOf]; omega
    · obtain rfl : n = k := by omega
      have et : P.take n = P := by rw [← HN.out, List.take_length]
      have h := HO.out
      rw [et] at h
      have HOF := Lib.hid (OwnR.mono h (show w.heap.size ≤ H2 by rw [HH.out]; omega))
      have HGF := Lib.hid ((((Gr.refl w).alloc (.cells #[.string NM, .string VV] 30)).trans HG2.out).trans HGR.out)
      clear h et
      obtain ⟨po, co, rfl, _⟩ := id HOF.out.shape
      go_wp2
      go_ret
      exact ⟨_, rfl, HOF.out, HGF.out⟩
end Go.Proofs.YtpadpdmidiaeoaaGreatDoor
