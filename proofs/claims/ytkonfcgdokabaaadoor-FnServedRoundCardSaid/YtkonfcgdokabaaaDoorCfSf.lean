/- slices.ContainsFunc with a law's closure: is a server equal to one of a row. -/
import Derived.Test.YtkonfcgdokabaaaDoorCfAw
import Derived.Test.YtkonfcgdokabaaaDoorCfT
namespace Go.Proofs.YtkonfcgdokabaaaDoor
open Go Go.RowKit

set_option maxRecDepth 100000 in
theorem clos_first (x s : Srv) (hx : x.good = true) (hs : s.good = true) (B : Nat) (w : World) (c : SvAt w B 0 s) :
    Calls Tryd.prog 17 #[.agg #[.string x.p, .string (bs x.a), .int .i64 x.n], .pointer (some ⟨B, 0, none⟩)] w fun e w' => e = .returned (.bool (srvSame x s)) ∧ Gr w w' := by
  have hxg := good_parts hx
  have hsg := good_parts hs
  have HE := fun W => Lib.hid (srvEqual x.p s.p x.a s.a x.n s.n hxg.1 hsg.1 hxg.2 hsg.2 W)
  rw [show srvEq x.a x.n s.a s.n = srvSame x s from rfl] at HE
  obtain ⟨c0, c1, c2⟩ := c
  simp only [Nat.zero_add] at c1 c2
  have hB := World.block_lt_of_cell? _ _ c0
  generalize srvSame x s = q at *
  generalize bs x.a = S1 at *
  generalize bs s.a = S2 at *
  clear hx hs hxg hsg
  go_enter Tryd.func17, Tryd.ntmps17
  go_wp2_with (first
    | (go_at_call 18; go_must (refine (HE _).out.mono ?_); rintro e w2 ⟨rfl, hg2⟩))
  go_ret
  exact ⟨rfl, ((Gr.refl w).alloc _).trans hg2⟩

set_option maxRecDepth 100000 in
theorem index_first (v : Value) (l : List Srv) (s : Srv) (B : Nat) (w : World) (h : RdSv w v l) (hl : ∀ x ∈ l, x.good = true) (hs : s.good = true) (c : SvAt w B 0 s) :
    Calls Tryd.prog 29 #[v, .func (.func 17) #[] #[.pointer (some ⟨B, 0, none⟩)]] w fun e w' => ∃ z : Int, e = .returned (.int .i64 z) ∧ (l.any fun x => srvSame x s) = decide (0 ≤ z) ∧ Gr w w' := by
  obtain ⟨p, c', rfl, hlc, hcm, hcells⟩ := h
  obtain ⟨n, hn⟩ : ∃ n, l.length = n := ⟨_, rfl⟩
  have hcm2 : c' ≤ 9223372036854775807 := by simp only [maxLen] at hcm; omega
  have HN := Lib.hid hn
  have HC := Lib.hid hcells
  rw [hn] at hlc ⊢
  generalize hr : (l.any fun x => srvSame x s) = R
  have HR := Lib.hid hr
  have HL := Lib.hid hl
  have HSV := Lib.hid c
  have HSG := Lib.hid hs
  clear hr hn hcells hcm hl c hs
  go_enter Tryd.func29, Tryd.ntmps29
  go_wp2
  go_loopw [8] (fun i wr => ∃ j : Nat, i = .int .i64 j ∧ j ≤ n ∧ ((l.take j).any fun x => srvSame x s) = false ∧ Gr w wr) (fun i _ => ((n : Int) - intOf i).toNat)
  case atStart => exact ⟨0, rfl, Nat.zero_le _, by simp, Gr.refl _⟩
  case round =>
    obtain ⟨j, rfl, hj, hall, hgr⟩ := hrel
    by_cases e : j < n
    · obtain ⟨b, o, rfl, hc⟩ := HC.out (by rw [HN.out]; omega)
      have hjl : j < l.length := by rw [HN.out]; exact e
      obtain ⟨k0, k1, k2⟩ := (hc j hjl).gr hgr
      have hsn : ((l.take (j + 1)).any fun x => srvSame x s) = (((l.take j).any fun x => srvSame x s) || srvSame l[j] s) := by rw [List.take_succ_eq_append_getElem hjl, List.any_append]; simp
      have hmem : l[j] ∈ l := List.getElem_mem hjl
      generalize l[j] = x at *
      have HF := fun W c => Lib.hid (clos_first x s (HL.out x hmem) HSG.out B W c)
      have HSC := Lib.hid (HSV.out.gr hgr)
      have HSN := Lib.hid hsn
      have HM := Lib.hid hmem
      have HAL := Lib.hid hall
      have HGR := Lib.hid hgr
      clear hc hjl hsn hmem hall hgr
      generalize hf : srvSame x s = q at *
      have HFX := Lib.hid hf
      clear hf
      generalize bs x.a = S1 at *
      cases q
      · go_wp2_with (first
          | (go_at_call 17; go_must (refine (HF _ HSC.out).out.mono ?_); rintro e w2 ⟨rfl, hg2⟩))
        go_roundw
        case rel => exact ⟨j + 1, by go_num, by omega, by rw [HSN.out, HAL.out]; rfl, HGR.out.trans hg2⟩
        case measure => simp [intOf]; omega
      · have hR : R = true := by
          rw [← HR.out, List.any_eq_true]
          exact ⟨x, HM.out, HFX.out⟩
        subst hR
        go_wp2_with (first
          | (go_at_call 17; go_must (refine (HF _ HSC.out).out.mono ?_); rintro e w2 ⟨rfl, hg2⟩))
        go_ret
        exact ⟨_, rfl, (decide_eq_true (by omega)).symm, HGR.out.trans hg2⟩
    · obtain rfl : n = j := by omega
      rw [List.take_of_length_le (by rw [HN.out]; exact Nat.le_refl _), HR.out] at hall
      subst hall
      have HGR := Lib.hid hgr
      clear hgr
      go_wp2
      go_ret
      exact ⟨_, rfl, (decide_eq_false (by omega)).symm, HGR.out⟩

set_option maxRecDepth 100000 in
theorem contains_first (v : Value) (l : List Srv) (s : Srv) (B : Nat) (w : World) (h : RdSv w v l) (hl : ∀ x ∈ l, x.good = true) (hs : s.good = true) (c : SvAt w B 0 s) :
    Calls Tryd.prog 11 #[v, .func (.func 17) #[] #[.pointer (some ⟨B, 0, none⟩)]] w fun e w' => e = .returned (.bool (l.any fun x => srvSame x s)) ∧ Gr w w' := by
  have HI := Lib.hid (index_first v l s B w h hl hs c)
  obtain ⟨p, c', rfl, _⟩ := h
  generalize (l.any fun x => srvSame x s) = R at *
  clear c
  go_enter Tryd.func11, Tryd.ntmps11
  go_wp2_with (first
    | (go_at_call 29; go_must (refine HI.out.mono ?_); rintro e w2 ⟨z, rfl, hz, hg2⟩; have HZ := Lib.hid hz; clear hz))
  go_ret
  exact ⟨by rw [HZ.out]; first | rfl | (congr 2; rw [Bool.eq_iff_iff]; simp), hg2⟩
end Go.Proofs.YtkonfcgdokabaaaDoor
